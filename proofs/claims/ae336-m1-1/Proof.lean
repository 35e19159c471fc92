import JvmDerived
import JvmDerived.Pilot.@@N@@Statement
import JvmDerived.Pilot.@@N@@Code
set_option linter.unusedVariables false
set_option linter.unusedSimpArgs false
/- laws to paste: Road.backV, Road.eqW, Road.codOf (cut by pick.py; bodies as the Statement names them) -/
namespace Jvm.Pilot.@@N@@
namespace StrChars
open Jvm Sem ClassFile Op Lib Jvm.Stand Jvm.Free.XT Jvm.Free.ALB Jvm.Free.JM Jvm.Free
open Jvm.Lib.Cold (StaticIs)
/-- a char array whose places are chars -/
def Ch (a : Addr) (A : Cell) (U : State) : Prop := Arr .char a A U ∧ Typed .char A
theorem Ch.mv {a : Addr} {A : Cell} {U U' : State} (h : Ch a A U) (hal : U.vm.Alike U'.vm) (hh : U'.heap = U.heap) : Ch a A U' := ⟨h.1.mv hal hh, h.2⟩
theorem Ch.keep {a : Addr} {A : Cell} {U U' : State} (h : Ch a A U) (hal : U.vm.Alike U'.vm) (hk : U'.heap[a]? = some A) : Ch a A U' := ⟨h.1.keep hal hk, h.2⟩
/-- what place i of a char[]'s cell holds -/
def cv (A : Cell) (i : Nat) : Int32 := match A.slots[i]? with | some (.int x) => x | _ => 0
theorem Ch.get {a : Addr} {A : Cell} {U : State} (h : Ch a A U) {i : Nat} (hi : i < A.slots.size) : A.slots[i]? = some (.int (cv A i)) := by
  have e := Array.getElem?_eq_getElem hi
  have f := h.2 i _ e
  unfold cv; rw [e]
  generalize A.slots[i] = v at f
  cases v <;> simp [fits] at f ⊢
/-- the byte that i2b leaves of a char -/
def lo8 (x : Int32) : Int32 := x.toInt8.toInt32
theorem fits_lo8 (y : Int32) : fits .byte (.int (lo8 y)) = true := by
  have h1 := y.toInt8.le_toInt
  have h2 := y.toInt8.toInt_lt
  simp only [lo8, fits, Bool.and_eq_true, decide_eq_true_eq, Int32.le_iff_toInt_le, Int8.toInt_toInt32, show (-128 : Int32).toInt = -128 from by decide, show (127 : Int32).toInt = 127 from by decide]
  omega
/-- A' is A but that each place j of lo .. hi - 1 holds f j -/
def Laid (A A' : Cell) (lo hi : Nat) (f : Nat → Value) : Prop := A'.cls = A.cls ∧ A'.vm = A.vm ∧ A'.slots.size = A.slots.size ∧ ∀ i, A'.slots[i]? = if lo ≤ i ∧ i < hi then some (f i) else A.slots[i]?
theorem Laid.zero (A : Cell) (lo : Nat) (f : Nat → Value) : Laid A A lo (lo + 0) f := ⟨rfl, rfl, rfl, fun i => by rw [if_neg (by omega)]⟩
theorem Laid.step {A Ak : Cell} {lo k : Nat} {f : Nat → Value} {v : Value} (h : Laid A Ak lo k f) (hlo : lo ≤ k) (hk : k < Ak.slots.size) (hv : v = f k) : Laid A (Ak.setSlot k v) lo (k + 1) f := by
  refine ⟨h.1, h.2.1, by simpa [Cell.setSlot] using h.2.2.1, fun i => ?_⟩
  by_cases e : k = i
  · subst e; rw [Cell.slots_setSlot_self v hk, if_pos (by omega), hv]
  · rw [Cell.slots_setSlot_ne v e, h.2.2.2 i]
    by_cases q : lo ≤ i ∧ i < k
    · rw [if_pos q, if_pos (by omega)]
    · rw [if_neg q, if_neg (by omega)]
def U16 : String := "java/lang/StringUTF16"
namespace Cmp5
def yN : MethodName := ⟨"java/lang/StringUTF16", "compress", "([CI[BII)I"⟩
abbrev yB : ByteArray := jdk_52_method_21_code
theorem d0 : decode yB 0 = .ok (.iconst 0, 1) := by decide +kernel
theorem d1 : decode yB 1 = .ok (.istore 5, 2) := by decide +kernel
theorem d3 : decode yB 3 = .ok (.iload 5, 2) := by decide +kernel
theorem d5 : decode yB 5 = .ok (.iload 4, 2) := by decide +kernel
theorem d7 : decode yB 7 = .ok (.if_icmp (.ge) 37, 3) := by decide +kernel
theorem d10 : decode yB 10 = .ok (.aload_n 0, 1) := by decide +kernel
theorem d11 : decode yB 11 = .ok (.iload_n 1, 1) := by decide +kernel
theorem d12 : decode yB 12 = .ok (.caload, 1) := by decide +kernel
theorem d13 : decode yB 13 = .ok (.istore 6, 2) := by decide +kernel
theorem d15 : decode yB 15 = .ok (.iload 6, 2) := by decide +kernel
theorem d17 : decode yB 17 = .ok (.sipush 255, 3) := by decide +kernel
theorem d20 : decode yB 20 = .ok (.if_icmp (.le) 6, 3) := by decide +kernel
theorem d26 : decode yB 26 = .ok (.aload_n 2, 1) := by decide +kernel
theorem d27 : decode yB 27 = .ok (.iload_n 3, 1) := by decide +kernel
theorem d28 : decode yB 28 = .ok (.iload 6, 2) := by decide +kernel
theorem d30 : decode yB 30 = .ok (.i2b, 1) := by decide +kernel
theorem d31 : decode yB 31 = .ok (.bastore, 1) := by decide +kernel
theorem d32 : decode yB 32 = .ok (.iinc 1 1, 3) := by decide +kernel
theorem d35 : decode yB 35 = .ok (.iinc 3 1, 3) := by decide +kernel
theorem d38 : decode yB 38 = .ok (.iinc 5 1, 3) := by decide +kernel
theorem d41 : decode yB 41 = .ok (.goto (-38), 3) := by decide +kernel
theorem d44 : decode yB 44 = .ok (.iload 4, 2) := by decide +kernel
theorem d46 : decode yB 46 = .ok (.ireturn, 1) := by decide +kernel
def site : List Cond := []
def tab : Cond := tabOf yN yB 7 (some .int) site
def P (b : Addr) (A : Cell) (d : Addr) (B : Cell) (o q len : Nat) (args : Array Value) (s : State) : Prop := args = #[.ref b, .int (Int32.ofNat o), .ref d, .int (Int32.ofNat q), .int (Int32.ofNat len)] ∧ Ch b A s ∧ Arr .byte d B s ∧ b ≠ d ∧ o + len ≤ A.slots.size ∧ q + len ≤ B.slots.size ∧ ∀ i, i < len → ¬ 255 < cv A (o + i)
def E (b : Addr) (A : Cell) (d : Addr) (B : Cell) (o q len : Nat) (r : Option Value) (s u : State) : Prop := r = some (.int (Int32.ofNat len)) ∧ ∃ B', Put d B' s u ∧ Laid B B' q (q + len) (fun j => Value.int (lo8 (cv A (o + (j - q)))))
/-- no char of the range above 255: len; the places written hold each char's low byte -/
theorem law (l : Launch) (b : Addr) (A : Cell) (d : Addr) (B : Cell) (o q len : Nat) : Law l yN 5 5 0 0 yB 7 (some .int) site (P b A d B o q len) (E b A d B o q len) (copyLocs d q len) 0 0 := by
  refine Law.of_walk (plainFor_of_name (by decide +kernel)) (by decide +kernel) (by decide +kernel) (by decide) (fun _ _ h => by rw [h.1]; rfl) (fun _ U U' hal hh h => ⟨h.1, h.2.1.mv hal hh, h.2.2.1.mv hal hh, h.2.2.2⟩) (fun r U U' V V' h1 hal h2 h => ⟨h.1, h.2.elim fun B' q => ⟨B', q.1.mv h1 h2, q.2⟩⟩) ?_
  intro p e s m args below meth c s₁ X0 hexec hbytes hml hret hlk hnm hown hh0 W hP
  obtain ⟨rfl, hA, hB, hne, l1, l2, hp⟩ := hP
  have c1 : Steps p.tables e below (s₁.setTop (entryFrame m #[.ref b, .int (Int32.ofNat o), .ref d, .int (Int32.ofNat q), .int (Int32.ofNat len)] 7)) (s₁.setTop (mkF m 0 #[.val (.ref b), .val (.int (Int32.ofNat o)), .val (.ref d), .val (.int (Int32.ofNat q)), .val (.int (Int32.ofNat len)), .unset, .unset] [])) := entry rfl
  have hA0 := hA.1.mv X0.warmed.alike hh0
  have hB0 := hB.mv X0.warmed.alike hh0
  have a31 := hA.1.2.2.2
  have c2 : Steps p.tables e below (s₁.setTop (entryFrame m #[.ref b, .int (Int32.ofNat o), .ref d, .int (Int32.ofNat q), .int (Int32.ofNat len)] 7)) (s₁.setTop (mkF m 3 #[.val (.ref b), .val (.int (Int32.ofNat o)), .val (.ref d), .val (.int (Int32.ofNat q)), .val (.int (Int32.ofNat len)), .val (.int 0), .unset] [])) := c1.trans (by
    refine iconstV X0.here hexec rfl 0 (hb hbytes d0) (by decide) ?_
    refine XS.istore X0.here hexec rfl (hb hbytes d1) rfl rfl ?_
    exact Steps.refl _)
  have loop : ∀ (r i : Nat), i + r = len → ∀ (z : Slot), (z = .unset ∨ ∃ w, z = .val w ∧ w.category = 1) → ∀ (Tl : State) (Bk : Cell), Stand p l e { frames := 0, locals := 0, cells := 0, slots := 0 } s m #[.ref b, .int (Int32.ofNat o), .ref d, .int (Int32.ofNat q), .int (Int32.ofNat len)] below meth c Tl ([] ++ copyLocs d q i) 0 0 → Put d Bk s₁ Tl → Laid B Bk q (q + i) (fun j => Value.int (lo8 (cv A (o + (j - q))))) →
      Steps p.tables e below (s₁.setTop (entryFrame m #[.ref b, .int (Int32.ofNat o), .ref d, .int (Int32.ofNat q), .int (Int32.ofNat len)] 7)) (Tl.setTop (mkF m 3 #[.val (.ref b), .val (.int (Int32.ofNat (o + i))), .val (.ref d), .val (.int (Int32.ofNat (q + i))), .val (.int (Int32.ofNat len)), .val (.int (Int32.ofNat i)), z] [])) → ∃ (T' : State) (B' : Cell) (z' : Slot), Stand p l e { frames := 0, locals := 0, cells := 0, slots := 0 } s m #[.ref b, .int (Int32.ofNat o), .ref d, .int (Int32.ofNat q), .int (Int32.ofNat len)] below meth c T' ([] ++ copyLocs d q len) 0 0 ∧ Put d B' s₁ T' ∧ Laid B B' q (q + len) (fun j => Value.int (lo8 (cv A (o + (j - q))))) ∧
      Steps p.tables e below (s₁.setTop (entryFrame m #[.ref b, .int (Int32.ofNat o), .ref d, .int (Int32.ofNat q), .int (Int32.ofNat len)] 7)) (T'.setTop (mkF m 3 #[.val (.ref b), .val (.int (Int32.ofNat (o + len))), .val (.ref d), .val (.int (Int32.ofNat (q + len))), .val (.int (Int32.ofNat len)), .val (.int (Int32.ofNat len)), z'] [])) := by
    intro r
    induction r with
    | zero =>
      intro i hi z hz Tl Bk Xl pl fl cl
      have hil : i = len := by omega
      rw [hil] at Xl fl cl
      exact ⟨Tl, Bk, z, Xl, pl, fl, cl⟩
    | succ r ih =>
      intro i hi z hz Tl Bk Xl pl fl cl
      have all := X0.warmed.alike.symm.trans Xl.warmed.alike
      have hAl := hA0.keep all (pl.other hne hA0.1)
      have hBk := hB0.like all pl.1 fl.1 fl.2.1 fl.2.2.1
      have hlt : q + i < Bk.slots.size := by rw [fl.2.2.1]; omega
      have c3 : Steps p.tables e below (s₁.setTop (entryFrame m #[.ref b, .int (Int32.ofNat o), .ref d, .int (Int32.ofNat q), .int (Int32.ofNat len)] 7)) (Tl.setTop (mkF m 12 #[.val (.ref b), .val (.int (Int32.ofNat (o + i))), .val (.ref d), .val (.int (Int32.ofNat (q + i))), .val (.int (Int32.ofNat len)), .val (.int (Int32.ofNat i)), z] [.int (Int32.ofNat (o + i)), .ref b])) := cl.trans (by
        refine XS.iload Xl.here hexec rfl (hb hbytes d3) rfl ?_
        refine XS.iload Xl.here hexec rfl (hb hbytes d5) rfl ?_
        refine XS.icmpNo Xl.here hexec rfl (hb hbytes d7) rfl (ii_ge_f (lt32 (by omega) (by omega))) ?_
        refine XS.aloadN Xl.here hexec rfl (hb hbytes d10) rfl rfl ?_
        refine XS.iloadN Xl.here hexec rfl (hb hbytes d11) rfl ?_
        exact Steps.refl _)
      have c4 : Steps p.tables e below (s₁.setTop (entryFrame m #[.ref b, .int (Int32.ofNat o), .ref d, .int (Int32.ofNat q), .int (Int32.ofNat len)] 7)) (Tl.setTop (mkF m 13 #[.val (.ref b), .val (.int (Int32.ofNat (o + i))), .val (.ref d), .val (.int (Int32.ofNat (q + i))), .val (.int (Int32.ofNat len)), .val (.int (Int32.ofNat i)), z] [.int (cv A (o + i))])) := c3.trans (by
        refine Xl.aget hexec hAl rfl (hA.get (i := o + i) (by omega)) rfl rfl (hb hbytes d12) ?_
        exact Steps.refl _)
      have c5 : Steps p.tables e below (s₁.setTop (entryFrame m #[.ref b, .int (Int32.ofNat o), .ref d, .int (Int32.ofNat q), .int (Int32.ofNat len)] 7)) (Tl.setTop (mkF m 15 #[.val (.ref b), .val (.int (Int32.ofNat (o + i))), .val (.ref d), .val (.int (Int32.ofNat (q + i))), .val (.int (Int32.ofNat len)), .val (.int (Int32.ofNat i)), .val (.int (cv A (o + i)))] [])) := c4.trans (by
        refine XS.istoreS Xl.here hexec rfl (hb hbytes d13) rfl rfl hz ?_
        exact Steps.refl _)
      have c6 : Steps p.tables e below (s₁.setTop (entryFrame m #[.ref b, .int (Int32.ofNat o), .ref d, .int (Int32.ofNat q), .int (Int32.ofNat len)] 7)) (Tl.setTop (mkF m 31 #[.val (.ref b), .val (.int (Int32.ofNat (o + i))), .val (.ref d), .val (.int (Int32.ofNat (q + i))), .val (.int (Int32.ofNat len)), .val (.int (Int32.ofNat i)), .val (.int (cv A (o + i)))] [.int (lo8 (cv A (o + i))), .int (Int32.ofNat (q + i)), .ref d])) := c5.trans (by
        refine XS.iload Xl.here hexec rfl (hb hbytes d15) rfl ?_
        refine sipushV Xl.here hexec rfl 255 (hb hbytes d17) (by decide) ?_
        refine XS.icmpYes Xl.here hexec rfl (pc0 := 20) rfl (hb hbytes d20) rfl (ii_le_t (hp i (by omega))) (by decide) rfl ?_
        refine XS.aloadN Xl.here hexec rfl (hb hbytes d26) rfl rfl ?_
        refine XS.iloadN Xl.here hexec rfl (hb hbytes d27) rfl ?_
        refine XS.iload Xl.here hexec rfl (hb hbytes d28) rfl ?_
        refine i2b Xl.here hexec rfl (hb hbytes d30) rfl ?_
        exact Steps.refl _)
      obtain ⟨T7, X7, p7, st7⟩ := Xl.aput hexec hBk rfl hlt rfl (fits_lo8 (cv A (o + i))) (g := (mkF m 31 #[.val (.ref b), .val (.int (Int32.ofNat (o + i))), .val (.ref d), .val (.int (Int32.ofNat (q + i))), .val (.int (Int32.ofNat len)), .val (.int (Int32.ofNat i)), .val (.int (cv A (o + i)))] [.int (lo8 (cv A (o + i))), .int (Int32.ofNat (q + i)), .ref d])) rfl (rest := []) rfl (hb hbytes d31)
      have c8 : Steps p.tables e below (s₁.setTop (entryFrame m #[.ref b, .int (Int32.ofNat o), .ref d, .int (Int32.ofNat q), .int (Int32.ofNat len)] 7)) (T7.setTop (mkF m 32 #[.val (.ref b), .val (.int (Int32.ofNat (o + i))), .val (.ref d), .val (.int (Int32.ofNat (q + i))), .val (.int (Int32.ofNat len)), .val (.int (Int32.ofNat i)), .val (.int (cv A (o + i)))] [])) := c6.trans (st7 _ (Steps.refl _))
      have c9 : Steps p.tables e below (s₁.setTop (entryFrame m #[.ref b, .int (Int32.ofNat o), .ref d, .int (Int32.ofNat q), .int (Int32.ofNat len)] 7)) (T7.setTop (mkF m 3 #[.val (.ref b), .val (.int (Int32.ofNat (o + i) + 1)), .val (.ref d), .val (.int (Int32.ofNat (q + i) + 1)), .val (.int (Int32.ofNat len)), .val (.int (Int32.ofNat i + 1)), .val (.int (cv A (o + i)))] [])) := c8.trans (by
        refine iincV X7.here hexec rfl 1 (hb hbytes d32) (by decide) rfl rfl ?_
        refine iincV X7.here hexec rfl 1 (hb hbytes d35) (by decide) rfl rfl ?_
        refine iincV X7.here hexec rfl 1 (hb hbytes d38) (by decide) rfl rfl ?_
        refine XS.goto X7.here hexec rfl (pc0 := 41) rfl (hb hbytes d41) (by decide) rfl ?_
        exact Steps.refl _)
      have c10 : Steps p.tables e below (s₁.setTop (entryFrame m #[.ref b, .int (Int32.ofNat o), .ref d, .int (Int32.ofNat q), .int (Int32.ofNat len)] 7)) (T7.setTop (mkF m 3 #[.val (.ref b), .val (.int (Int32.ofNat (o + (i + 1)))), .val (.ref d), .val (.int (Int32.ofNat (q + (i + 1)))), .val (.int (Int32.ofNat len)), .val (.int (Int32.ofNat (i + 1))), .val (.int (cv A (o + i)))] [])) := by
        have := c9
        rw [succ32, succ32, succ32] at this
        exact this
      exact ih (i + 1) (by omega) _ (Or.inr ⟨_, rfl, rfl⟩) T7 _ (by rw [copyLocs_step, ← List.append_assoc]; exact X7) (pl.trans p7) (fl.step (by omega) hlt (by simp)) c10
  obtain ⟨T9, B9, z9, X9, p9, f9, g9⟩ := loop len 0 (by omega) .unset (Or.inl rfl) s₁ B (by simpa [copyLocs] using X0) ⟨hB0.1, fun _ _ => rfl, rfl⟩ (Laid.zero _ _ _) c2
  have c11 : Steps p.tables e below (s₁.setTop (entryFrame m #[.ref b, .int (Int32.ofNat o), .ref d, .int (Int32.ofNat q), .int (Int32.ofNat len)] 7)) (T9.setTop (mkF m 46 #[.val (.ref b), .val (.int (Int32.ofNat (o + len))), .val (.ref d), .val (.int (Int32.ofNat (q + len))), .val (.int (Int32.ofNat len)), .val (.int (Int32.ofNat len)), z9] [.int (Int32.ofNat len)])) := g9.trans (by
    refine XS.iload X9.here hexec rfl (hb hbytes d3) rfl ?_
    refine XS.iload X9.here hexec rfl (hb hbytes d5) rfl ?_
    refine XS.icmpYes X9.here hexec rfl (pc0 := 7) rfl (hb hbytes d7) rfl (ii_ge_t (nlt32 (by omega) (Nat.le_refl _))) (by decide) rfl ?_
    refine XS.iload X9.here hexec rfl (hb hbytes d44) rfl ?_
    exact Steps.refl _)
  exact ⟨T9, some (.int (Int32.ofNat len)), _, _, _, X9, by simp, rfl, rfl, (fun h => by cases h), ⟨rfl, B9, p9.from hh0, f9⟩, fun fs hl => c11.trans (X9.ireturnOut hexec hret rfl (Or.inl rfl) (hb hbytes d46) hl)⟩
end Cmp5
namespace Cmp3
def yN : MethodName := ⟨"java/lang/StringUTF16", "compress", "([CII)[B"⟩
abbrev yB : ByteArray := jdk_52_method_16_code
theorem d0 : decode yB 0 = .ok (.iload_n 2, 1) := by decide +kernel
theorem d1 : decode yB 1 = .ok (.newarray .byte, 2) := by decide +kernel
theorem d3 : decode yB 3 = .ok (.astore_n 3, 1) := by decide +kernel
theorem d4 : decode yB 4 = .ok (.aload_n 0, 1) := by decide +kernel
theorem d5 : decode yB 5 = .ok (.iload_n 1, 1) := by decide +kernel
theorem d6 : decode yB 6 = .ok (.aload_n 3, 1) := by decide +kernel
theorem d7 : decode yB 7 = .ok (.iconst 0, 1) := by decide +kernel
theorem d8 : decode yB 8 = .ok (.iload_n 2, 1) := by decide +kernel
theorem d9 : decode yB 9 = .ok (.invokestatic 115, 3) := by decide +kernel
theorem d12 : decode yB 12 = .ok (.istore 4, 2) := by decide +kernel
theorem d14 : decode yB 14 = .ok (.iload 4, 2) := by decide +kernel
theorem d16 : decode yB 16 = .ok (.iload_n 2, 1) := by decide +kernel
theorem d17 : decode yB 17 = .ok (.if_icmp (.eq) 40, 3) := by decide +kernel
theorem d57 : decode yB 57 = .ok (.aload_n 3, 1) := by decide +kernel
theorem d58 : decode yB 58 = .ok (.areturn, 1) := by decide +kernel
def site : List Cond := [.arrayClass .byte, Cmp5.tab] ++ staticW U16 115 Cmp5.yN
def tab : Cond := tabOf yN yB 6 (some (.array .byte)) site
def P (b : Addr) (A : Cell) (o len : Nat) (args : Array Value) (s : State) : Prop := args = #[.ref b, .int (Int32.ofNat o), .int (Int32.ofNat len)] ∧ Ch b A s ∧ o + len ≤ A.slots.size ∧ len ≤ 536870912 ∧ ∀ i, i < len → ¬ 255 < cv A (o + i)
def E (b : Addr) (A : Cell) (o len : Nat) (r : Option Value) (s u : State) : Prop := NewArr .byte "[B" len (fun j => .int (lo8 (cv A (o + j)))) r s u ∧ u.heap.size = s.heap.size + 1
/-- no char of the range above 255: a new byte[] of their low bytes -/
theorem law (l : Launch) (b : Addr) (A : Cell) (o len : Nat) : Law l yN 3 3 1 18 yB 6 (some (.array .byte)) site (P b A o len) (E b A o len) [] 1 len := by
  refine Law.of_walk (plainFor_of_name (by decide +kernel)) (by decide +kernel) (by decide +kernel) (by decide) (fun _ _ h => by rw [h.1]; rfl) (fun _ U U' hal hh h => ⟨h.1, h.2.1.mv hal hh, h.2.2⟩) (fun r U U' V V' h1 hal h2 h => ⟨NewArr.mv r U U' V V' h1 hal h2 h.1, by rw [h1, h2]; exact h.2⟩) ?_
  intro p e s m args below meth c s₁ X0 hexec hbytes hml hret hlk hnm hown hh0 W hP
  obtain ⟨rfl, hA, l1, l2, hp⟩ := hP
  have a31 := hA.1.2.2.2
  have c1 : Steps p.tables e below (s₁.setTop (entryFrame m #[.ref b, .int (Int32.ofNat o), .int (Int32.ofNat len)] 6)) (s₁.setTop (mkF m 0 #[.val (.ref b), .val (.int (Int32.ofNat o)), .val (.int (Int32.ofNat len)), .unset, .unset, .unset] [])) := entry rfl
  have c2 : Steps p.tables e below (s₁.setTop (entryFrame m #[.ref b, .int (Int32.ofNat o), .int (Int32.ofNat len)] 6)) (s₁.setTop (mkF m 1 #[.val (.ref b), .val (.int (Int32.ofNat o)), .val (.int (Int32.ofNat len)), .unset, .unset, .unset] [.int (Int32.ofNat len)])) := c1.trans (by
    refine XS.iloadN X0.here hexec rfl (hb hbytes d0) rfl ?_
    exact Steps.refl _)
  obtain ⟨T3, B3, X3, ba3, bs3, bv3, bh3, bf3, st3⟩ := X0.anew hexec (atype := .byte) (wk W (.arrayClass .byte)) rfl (by show len * 1 ≤ _; omega) (by omega) (g := (mkF m 1 #[.val (.ref b), .val (.int (Int32.ofNat o)), .val (.int (Int32.ofNat len)), .unset, .unset, .unset] [.int (Int32.ofNat len)])) rfl (hb hbytes d1) (rest := []) rfl (Nat.le_refl _) (by show 0 + len ≤ len; omega)
  rw [hh0] at ba3 st3
  have kp3 : XT.Kept s T3 := (XT.Kept.of_eq hh0).push bh3
  have hA3 := hA.keep X3.warmed.alike (kp3 _ _ hA.1.1)
  have hne : b ≠ s.heap.size := hA.1.ne
  have c4 : Steps p.tables e below (s₁.setTop (entryFrame m #[.ref b, .int (Int32.ofNat o), .int (Int32.ofNat len)] 6)) (T3.setTop (mkF m 3 #[.val (.ref b), .val (.int (Int32.ofNat o)), .val (.int (Int32.ofNat len)), .unset, .unset, .unset] [.ref s.heap.size])) := c2.trans (st3 _ (Steps.refl _))
  have c5 : Steps p.tables e below (s₁.setTop (entryFrame m #[.ref b, .int (Int32.ofNat o), .int (Int32.ofNat len)] 6)) (T3.setTop (mkF m 9 #[.val (.ref b), .val (.int (Int32.ofNat o)), .val (.int (Int32.ofNat len)), .val (.ref s.heap.size), .unset, .unset] [.int (Int32.ofNat len), .int 0, .ref s.heap.size, .int (Int32.ofNat o), .ref b])) := c4.trans (by
    refine XS.astoreN X3.here hexec rfl (hb hbytes d3) rfl rfl rfl ?_
    refine XS.aloadN X3.here hexec rfl (hb hbytes d4) rfl rfl ?_
    refine XS.iloadN X3.here hexec rfl (hb hbytes d5) rfl ?_
    refine XS.aloadN X3.here hexec rfl (hb hbytes d6) rfl rfl ?_
    refine iconstV X3.here hexec rfl 0 (hb hbytes d7) (by decide) ?_
    refine XS.iloadN X3.here hexec rfl (hb hbytes d8) rfl ?_
    exact Steps.refl _)
  obtain ⟨v6, T6, X6, E6, g6⟩ := X3.callS hexec (Cmp5.law l b A s.heap.size B3 o 0 len) hown (wks W (staticW U16 115 Cmp5.yN)) (wk W Cmp5.tab) (W := 0) (Nat.le_of_ble_eq_true rfl) (Nat.le_of_ble_eq_true rfl) (Nat.le_refl _) (by show 0 + len + 0 ≤ len; omega) (g := (mkF m 9 #[.val (.ref b), .val (.int (Int32.ofNat o)), .val (.int (Int32.ofNat len)), .val (.ref s.heap.size), .unset, .unset] [.int (Int32.ofNat len), .int (Int32.ofNat 0), .ref s.heap.size, .int (Int32.ofNat o), .ref b])) rfl (by rw [hml]; rfl) c5 (argsL := [.ref b, .int (Int32.ofNat o), .ref s.heap.size, .int (Int32.ofNat 0), .int (Int32.ofNat len)]) (rest := []) rfl rfl (by show 2 * 0 + 0 ≤ _; decide) (hb hbytes d9) (⟨rfl, hA3, ba3, hne, l1, by rw [bs3]; simp, hp⟩)
  obtain ⟨rfl, B6, p6, f6⟩ := E6
  have c7 : Steps p.tables e below (s₁.setTop (entryFrame m #[.ref b, .int (Int32.ofNat o), .int (Int32.ofNat len)] 6)) (T6.setTop (mkF m 12 #[.val (.ref b), .val (.int (Int32.ofNat o)), .val (.int (Int32.ofNat len)), .val (.ref s.heap.size), .unset, .unset] [.int (Int32.ofNat len)])) := g6
  have c8 : Steps p.tables e below (s₁.setTop (entryFrame m #[.ref b, .int (Int32.ofNat o), .int (Int32.ofNat len)] 6)) (T6.setTop (mkF m 58 #[.val (.ref b), .val (.int (Int32.ofNat o)), .val (.int (Int32.ofNat len)), .val (.ref s.heap.size), .val (.int (Int32.ofNat len)), .unset] [.ref s.heap.size])) := c7.trans (by
    refine XS.istore X6.here hexec rfl (hb hbytes d12) rfl rfl ?_
    refine XS.iload X6.here hexec rfl (hb hbytes d14) rfl ?_
    refine XS.iloadN X6.here hexec rfl (hb hbytes d16) rfl ?_
    refine XS.icmpYes X6.here hexec rfl (pc0 := 17) rfl (hb hbytes d17) rfl (ii_eq_t rfl) (by decide) rfl ?_
    refine XS.aloadN X6.here hexec rfl (hb hbytes d57) rfl rfl ?_
    exact Steps.refl _)
  have X8 := X6.wide (L' := []) (cells' := 1) (slots' := len) (fun x hx hlt => by
    simp only [List.nil_append, copyLocs, List.mem_map, List.mem_range] at hx
    obtain ⟨i, -, rfl⟩ := hx
    exact absurd hlt (Nat.lt_irrefl _)) (Nat.le_refl _) (by omega)
  exact ⟨T6, some (.ref s.heap.size), _, _, _, X8, rfl, rfl, rfl, (fun h => by cases h), ⟨⟨rfl, B6, ba3.like (X3.warmed.alike.symm.trans X6.warmed.alike) p6.1 f6.1 f6.2.1 f6.2.2.1, f6.2.1.trans bv3, by rw [X6.warmed.alike.findClass, f6.1]; exact bf3, by rw [f6.2.2.1, bs3]; simp, fun j hj => by rw [f6.2.2.2 j, if_pos (by omega)]; rfl, kp3.put p6 (Nat.le_refl _)⟩, by rw [p6.2.2, bh3, hh0]; simp⟩, fun fs hl => c8.trans (X8.areturnOut hexec rfl hret rfl (hb hbytes d58) hl)⟩
end Cmp3
namespace CodL
def yN : MethodName := ⟨"java/lang/StringUTF16", "coderFromArrayLen", "([BI)B"⟩
abbrev yB : ByteArray := jdk_52_method_15_code
theorem d0 : decode yB 0 = .ok (.iload_n 1, 1) := by decide +kernel
theorem d1 : decode yB 1 = .ok (.aload_n 0, 1) := by decide +kernel
theorem d2 : decode yB 2 = .ok (.arraylength, 1) := by decide +kernel
theorem d3 : decode yB 3 = .ok (.isub, 1) := by decide +kernel
theorem d4 : decode yB 4 = .ok (.bipush 31, 2) := by decide +kernel
theorem d6 : decode yB 6 = .ok (.iushr, 1) := by decide +kernel
theorem d7 : decode yB 7 = .ok (.i2b, 1) := by decide +kernel
theorem d8 : decode yB 8 = .ok (.ireturn, 1) := by decide +kernel
def site : List Cond := []
def tab : Cond := tabOf yN yB 2 (some .byte) site
def P (d : Addr) (B : Cell) (args : Array Value) (s : State) : Prop := args = #[.ref d, .int (Int32.ofNat B.slots.size)] ∧ Arr .byte d B s
def E (r : Option Value) (s u : State) : Prop := XT.PureE (some (.int 0)) r s u
/-- an array as long as the number of chars: LATIN1 -/
theorem law (l : Launch) (d : Addr) (B : Cell) : Law l yN 2 2 0 0 yB 2 (some .byte) site (P d B) E [] 0 0 := by
  refine Law.of_walk (plainFor_of_name (by decide +kernel)) (by decide +kernel) (by decide +kernel) (by decide) (fun _ _ h => by rw [h.1]; rfl) (fun _ U U' hal hh h => ⟨h.1, h.2.mv hal hh⟩) (fun r U U' V V' h1 hal h2 h => XT.PureE.mv r U U' V V' h1 hal h2 h) ?_
  intro p e s m args below meth c s₁ X0 hexec hbytes hml hret hlk hnm hown hh0 W hP
  obtain ⟨rfl, hB⟩ := hP
  have hB0 := hB.mv X0.warmed.alike hh0
  have c1 : Steps p.tables e below (s₁.setTop (entryFrame m #[.ref d, .int (Int32.ofNat B.slots.size)] 2)) (s₁.setTop (mkF m 0 #[.val (.ref d), .val (.int (Int32.ofNat B.slots.size))] [])) := entry rfl
  have c2 : Steps p.tables e below (s₁.setTop (entryFrame m #[.ref d, .int (Int32.ofNat B.slots.size)] 2)) (s₁.setTop (mkF m 2 #[.val (.ref d), .val (.int (Int32.ofNat B.slots.size))] [.ref d, .int (Int32.ofNat B.slots.size)])) := c1.trans (by
    refine XS.iloadN X0.here hexec rfl (hb hbytes d0) rfl ?_
    refine XS.aloadN X0.here hexec rfl (hb hbytes d1) rfl rfl ?_
    exact Steps.refl _)
  have c3 : Steps p.tables e below (s₁.setTop (entryFrame m #[.ref d, .int (Int32.ofNat B.slots.size)] 2)) (s₁.setTop (mkF m 8 #[.val (.ref d), .val (.int (Int32.ofNat B.slots.size))] [.int (lo8 (ushr (Int32.ofNat B.slots.size - Int32.ofNat B.slots.size) 31))])) := c2.trans (by
    refine X0.alen hexec hB0 rfl rfl (hb hbytes d2) ?_
    refine XS.isub X0.here hexec rfl (hb hbytes d3) rfl ?_
    refine bipushV X0.here hexec rfl 31 (hb hbytes d4) (by decide) ?_
    refine iushr X0.here hexec rfl (hb hbytes d6) rfl ?_
    refine i2b X0.here hexec rfl (hb hbytes d7) rfl ?_
    exact Steps.refl _)
  have e0 : lo8 (ushr (Int32.ofNat B.slots.size - Int32.ofNat B.slots.size) 31) = 0 := by rw [Int32.sub_self]; decide
  rw [e0] at c3
  exact ⟨s₁, some (.int 0), _, _, _, X0, rfl, rfl, rfl, (fun h => by cases h), ⟨rfl, hh0⟩, fun fs hl => c3.trans (X0.ireturnOut hexec hret rfl (Or.inr (Or.inr (Or.inl rfl))) (hb hbytes d8) hl)⟩
end CodL
/-- the String at a is Latin-1 over a new byte[] (the heap's one new cell): the low bytes of the len chars of A from o on; every cell but a is kept -/
def Got (a : Addr) (D : Cell) (fV fC : Field) (A : Cell) (o len : Nat) (r : Option Value) (s u : State) : Prop := r = none ∧ ∃ D' V : Cell, Blank "java/lang/String" a D' u ∧ Same D D' [fV.slot, fC.slot] ∧ D'.slots[fV.slot]? = some (.ref s.heap.size) ∧ D'.slots[fC.slot]? = some (.int 0) ∧ Arr .byte s.heap.size V u ∧ V.vm = .none ∧ u.vm.findClass "[B" = some V.cls ∧ V.slots.size = len ∧ (∀ j, j < len → V.slots[j]? = some (.int (lo8 (cv A (o + j))))) ∧ (∀ (y : Addr) (c : Cell), y ≠ a → s.heap[y]? = some c → u.heap[y]? = some c) ∧ u.heap.size = s.heap.size + 1
theorem Got.mv {a : Addr} {D A : Cell} {fV fC : Field} {o len : Nat} : ∀ r (U U' V V' : State), U'.heap = U.heap → V.vm.Alike V'.vm → V'.heap = V.heap → Got a D fV fC A o len r U V → Got a D fV fC A o len r U' V' :=
  fun r U U' V V' h1 hal h2 ⟨e0, D', X, a1, a2, a3, a4, a5, a6, a7, a8, a9, a10, a11⟩ => ⟨e0, D', X, a1.mv hal h2, a2, by rw [h1]; exact a3, a4, by rw [h1]; exact a5.mv hal h2, a6, by rw [hal.findClass]; exact a7, a8, a9, by rw [h1, h2]; exact a10, by rw [h1, h2]; exact a11⟩
namespace New4
def yN : MethodName := ⟨"java/lang/String", "<init>", "([CIILjava/lang/Void;)V"⟩
abbrev yB : ByteArray := jdk_42_method_149_code
theorem d0 : decode yB 0 = .ok (.aload_n 0, 1) := by decide +kernel
theorem d1 : decode yB 1 = .ok (.invokespecial 1, 3) := by decide +kernel
theorem d4 : decode yB 4 = .ok (.iload_n 3, 1) := by decide +kernel
theorem d5 : decode yB 5 = .ok (.ifCond (.ne) 22, 3) := by decide +kernel
theorem d27 : decode yB 27 = .ok (.getstatic 38, 3) := by decide +kernel
theorem d30 : decode yB 30 = .ok (.ifCond (.eq) 28, 3) := by decide +kernel
theorem d33 : decode yB 33 = .ok (.aload_n 1, 1) := by decide +kernel
theorem d34 : decode yB 34 = .ok (.iload_n 2, 1) := by decide +kernel
theorem d35 : decode yB 35 = .ok (.iload_n 3, 1) := by decide +kernel
theorem d36 : decode yB 36 = .ok (.invokestatic 177, 3) := by decide +kernel
theorem d39 : decode yB 39 = .ok (.astore 5, 2) := by decide +kernel
theorem d41 : decode yB 41 = .ok (.aload_n 0, 1) := by decide +kernel
theorem d42 : decode yB 42 = .ok (.aload 5, 2) := by decide +kernel
theorem d44 : decode yB 44 = .ok (.iload_n 3, 1) := by decide +kernel
theorem d45 : decode yB 45 = .ok (.invokestatic 47, 3) := by decide +kernel
theorem d48 : decode yB 48 = .ok (.putfield 15, 3) := by decide +kernel
theorem d51 : decode yB 51 = .ok (.aload_n 0, 1) := by decide +kernel
theorem d52 : decode yB 52 = .ok (.aload 5, 2) := by decide +kernel
theorem d54 : decode yB 54 = .ok (.putfield 9, 3) := by decide +kernel
theorem d57 : decode yB 57 = .ok (.return_, 1) := by decide +kernel
def site : List Cond := [.fieldLink "java/lang/String" 38 "java/lang/String" "COMPACT_STRINGS" "Z", Cmp3.tab, CodL.tab, .laysFinal "java/lang/String" "java/lang/String" "value" "[B", .fieldLink "java/lang/String" 9 "java/lang/String" "value" "[B", .laysFinal "java/lang/String" "java/lang/String" "coder" "B", .fieldLink "java/lang/String" 15 "java/lang/String" "coder" "B"] ++ objW "java/lang/String" 1 ++ staticW "java/lang/String" 177 Cmp3.yN ++ staticW "java/lang/String" 47 CodL.yN
def tab : Cond := tabOf yN yB 6 none site
def P (a : Addr) (D : Cell) (fV fC : Field) (b : Addr) (A : Cell) (z : Int32) (o len : Nat) (args : Array Value) (s : State) : Prop := args = #[.ref a, .ref b, .int (Int32.ofNat o), .int (Int32.ofNat len), .null] ∧ Blank "java/lang/String" a D s ∧ Found "java/lang/String" "value" "[B" fV s ∧ Found "java/lang/String" "coder" "B" fC s ∧ Ch b A s ∧ StaticIs s "java/lang/String" "COMPACT_STRINGS" "Z" (.int z) ∧ ¬ z = 0 ∧ 0 < len ∧ o + len ≤ A.slots.size ∧ len ≤ 536870912 ∧ ∀ i, i < len → ¬ 255 < cv A (o + i)
def E (a : Addr) (D : Cell) (fV fC : Field) (A : Cell) (o len : Nat) (r : Option Value) (s u : State) : Prop := Got a D fV fC A o len r s u
/-- len > 0, no char of the range above 255: a Latin-1 String of their low bytes -/
theorem law (l : Launch) (a : Addr) (D : Cell) (fV fC : Field) (b : Addr) (A : Cell) (z : Int32) (o len : Nat) : Law l yN 5 4 2 35 yB 6 none site (P a D fV fC b A z o len) (E a D fV fC A o len) [⟨a, fC.slot⟩, ⟨a, fV.slot⟩] 1 len := by
  refine Law.of_walk (plainFor_of_name (by decide +kernel)) (by decide +kernel) (by decide +kernel) (by decide) (fun _ _ h => by rw [h.1]; rfl) (fun _ U U' hal hh h => ⟨h.1, h.2.1.mv hal hh, h.2.2.1.al hal, h.2.2.2.1.al hal, h.2.2.2.2.1.mv hal hh, h.2.2.2.2.2.1.there hal hh, h.2.2.2.2.2.2⟩) (fun r U U' V V' h1 hal h2 h => Got.mv r U U' V V' h1 hal h2 h) ?_
  intro p e s m args below meth c s₁ X0 hexec hbytes hml hret hlk hnm hown hh0 W hP
  obtain ⟨rfl, hB, f1, f2, hA, s1, hz, l0, l1, l2, hp⟩ := hP
  have a31 := hA.1.2.2.2
  have c1 : Steps p.tables e below (s₁.setTop (entryFrame m #[.ref a, .ref b, .int (Int32.ofNat o), .int (Int32.ofNat len), .null] 6)) (s₁.setTop (mkF m 0 #[.val (.ref a), .val (.ref b), .val (.int (Int32.ofNat o)), .val (.int (Int32.ofNat len)), .val .null, .unset] [])) := entry rfl
  have c2 : Steps p.tables e below (s₁.setTop (entryFrame m #[.ref a, .ref b, .int (Int32.ofNat o), .int (Int32.ofNat len), .null] 6)) (s₁.setTop (mkF m 1 #[.val (.ref a), .val (.ref b), .val (.int (Int32.ofNat o)), .val (.int (Int32.ofNat len)), .val .null, .unset] [.ref a])) := c1.trans (by
    refine XS.aloadN X0.here hexec rfl (hb hbytes d0) rfl rfl ?_
    exact Steps.refl _)
  obtain ⟨T3, X3, q3, st3⟩ := X0.oinit hexec hown (wks W (objW "java/lang/String" 1)) (g := (mkF m 1 #[.val (.ref a), .val (.ref b), .val (.int (Int32.ofNat o)), .val (.int (Int32.ofNat len)), .val .null, .unset] [.ref a])) rfl (by rw [hml]; rfl) (rest := []) rfl (hb hbytes d1) (W := 0) (by show 2 * 0 + 0 ≤ _; decide) (Nat.le_of_ble_eq_true rfl) (Nat.le_of_ble_eq_true rfl)
  have hh3 := q3.trans hh0
  have c4 : Steps p.tables e below (s₁.setTop (entryFrame m #[.ref a, .ref b, .int (Int32.ofNat o), .int (Int32.ofNat len), .null] 6)) (T3.setTop (mkF m 27 #[.val (.ref a), .val (.ref b), .val (.int (Int32.ofNat o)), .val (.int (Int32.ofNat len)), .val .null, .unset] [])) := (c2.trans (st3 _ (Steps.refl _))).trans (by
    refine XS.iloadN X3.here hexec rfl (hb hbytes d4) rfl ?_
    refine XS.ifYes X3.here hexec rfl (pc0 := 5) rfl (hb hbytes d5) rfl (i0_ne_t (nz32 (by omega) l0)) (by decide) rfl ?_
    exact Steps.refl _)
  obtain ⟨T5, X5, q5, st5⟩ := X3.sget hexec hown (wk W (.fieldLink "java/lang/String" 38 "java/lang/String" "COMPACT_STRINGS" "Z")) s1 (fun _ _ h => by rw [hh3]; exact h) (g := (mkF m 27 #[.val (.ref a), .val (.ref b), .val (.int (Int32.ofNat o)), .val (.int (Int32.ofNat len)), .val .null, .unset] [])) rfl (hb hbytes d27)
  have hh5 := q5.trans hh3
  have c6 : Steps p.tables e below (s₁.setTop (entryFrame m #[.ref a, .ref b, .int (Int32.ofNat o), .int (Int32.ofNat len), .null] 6)) (T5.setTop (mkF m 30 #[.val (.ref a), .val (.ref b), .val (.int (Int32.ofNat o)), .val (.int (Int32.ofNat len)), .val .null, .unset] [.int z])) := c4.trans (st5 _ (Steps.refl _))
  have c7 : Steps p.tables e below (s₁.setTop (entryFrame m #[.ref a, .ref b, .int (Int32.ofNat o), .int (Int32.ofNat len), .null] 6)) (T5.setTop (mkF m 36 #[.val (.ref a), .val (.ref b), .val (.int (Int32.ofNat o)), .val (.int (Int32.ofNat len)), .val .null, .unset] [.int (Int32.ofNat len), .int (Int32.ofNat o), .ref b])) := c6.trans (by
    refine XS.ifNo X5.here hexec rfl (hb hbytes d30) rfl (i0_eq_f hz) ?_
    refine XS.aloadN X5.here hexec rfl (hb hbytes d33) rfl rfl ?_
    refine XS.iloadN X5.here hexec rfl (hb hbytes d34) rfl ?_
    refine XS.iloadN X5.here hexec rfl (hb hbytes d35) rfl ?_
    exact Steps.refl _)
  obtain ⟨v8, T8, X8, E8, g8⟩ := X5.callS hexec (Cmp3.law l b A o len) hown (wks W (staticW "java/lang/String" 177 Cmp3.yN)) (wk W Cmp3.tab) (W := 0) (Nat.le_of_ble_eq_true rfl) (Nat.le_of_ble_eq_true rfl) (Nat.le_refl _) (by show 0 + len ≤ len; omega) (g := (mkF m 36 #[.val (.ref a), .val (.ref b), .val (.int (Int32.ofNat o)), .val (.int (Int32.ofNat len)), .val .null, .unset] [.int (Int32.ofNat len), .int (Int32.ofNat o), .ref b])) rfl (by rw [hml]; rfl) c7 (argsL := [.ref b, .int (Int32.ofNat o), .int (Int32.ofNat len)]) (rest := []) rfl rfl (by show 2 * 0 + 0 ≤ _; decide) (hb hbytes d36) (⟨rfl, hA.mv X5.warmed.alike hh5, l1, l2, hp⟩)
  obtain ⟨e8, z8⟩ := E8
  obtain ⟨rfl, N, n1, n2, n3, n4, n5, n6⟩ := NewArr.mv _ T5 s _ _ hh5.symm (Vm.Alike.refl _) rfl e8
  rw [hh5] at z8
  have hB1 := hB.keep X8.warmed.alike (n6 _ _ hB.1)
  have hne : s.heap.size ≠ a := (Nat.ne_of_lt (Array.getElem?_eq_some_iff.mp hB.1).1).symm
  have c9 : Steps p.tables e below (s₁.setTop (entryFrame m #[.ref a, .ref b, .int (Int32.ofNat o), .int (Int32.ofNat len), .null] 6)) (T8.setTop (mkF m 39 #[.val (.ref a), .val (.ref b), .val (.int (Int32.ofNat o)), .val (.int (Int32.ofNat len)), .val .null, .unset] [.ref s.heap.size])) := g8
  have c10 : Steps p.tables e below (s₁.setTop (entryFrame m #[.ref a, .ref b, .int (Int32.ofNat o), .int (Int32.ofNat len), .null] 6)) (T8.setTop (mkF m 45 #[.val (.ref a), .val (.ref b), .val (.int (Int32.ofNat o)), .val (.int (Int32.ofNat len)), .val .null, .val (.ref s.heap.size)] [.int (Int32.ofNat N.slots.size), .ref s.heap.size, .ref a])) := by
    have hc : Steps p.tables e below (s₁.setTop (entryFrame m #[.ref a, .ref b, .int (Int32.ofNat o), .int (Int32.ofNat len), .null] 6)) (T8.setTop (mkF m 45 #[.val (.ref a), .val (.ref b), .val (.int (Int32.ofNat o)), .val (.int (Int32.ofNat len)), .val .null, .val (.ref s.heap.size)] [.int (Int32.ofNat len), .ref s.heap.size, .ref a])) := c9.trans (by
      refine XS.astore X8.here hexec rfl (hb hbytes d39) rfl rfl rfl ?_
      refine XS.aloadN X8.here hexec rfl (hb hbytes d41) rfl rfl ?_
      refine XS.aload X8.here hexec rfl (hb hbytes d42) rfl rfl ?_
      refine XS.iloadN X8.here hexec rfl (hb hbytes d44) rfl ?_
      exact Steps.refl _)
    rw [n4]; exact hc
  obtain ⟨v11, T11, X11, E11, g11⟩ := X8.callS hexec (CodL.law l s.heap.size N) hown (wks W (staticW "java/lang/String" 47 CodL.yN)) (wk W CodL.tab) (W := 1) (Nat.le_of_ble_eq_true rfl) (Nat.le_of_ble_eq_true rfl) (Nat.le_refl _) (by show 0 + len + 0 ≤ len; omega) (g := (mkF m 45 #[.val (.ref a), .val (.ref b), .val (.int (Int32.ofNat o)), .val (.int (Int32.ofNat len)), .val .null, .val (.ref s.heap.size)] [.int (Int32.ofNat N.slots.size), .ref s.heap.size, .ref a])) rfl (by rw [hml]; rfl) c10 (argsL := [.ref s.heap.size, .int (Int32.ofNat N.slots.size)]) (rest := [.ref a]) rfl rfl (by show 2 * 0 + (1 + 0) ≤ _; decide) (hb hbytes d45) (⟨rfl, n1⟩)
  obtain ⟨rfl, q11⟩ := E11
  have hB11 := hB1.mv (X8.warmed.alike.symm.trans X11.warmed.alike) q11
  have c12 : Steps p.tables e below (s₁.setTop (entryFrame m #[.ref a, .ref b, .int (Int32.ofNat o), .int (Int32.ofNat len), .null] 6)) (T11.setTop (mkF m 48 #[.val (.ref a), .val (.ref b), .val (.int (Int32.ofNat o)), .val (.int (Int32.ofNat len)), .val .null, .val (.ref s.heap.size)] [.int 0, .ref a])) := g11
  obtain ⟨T13, X13, p13, bl13, sl13, st13⟩ := X11.finit hexec hown (wk W (.fieldLink "java/lang/String" 15 "java/lang/String" "coder" "B")) (Or.inr ⟨_, (wk W (.laysFinal "java/lang/String" "java/lang/String" "coder" "B"))⟩) (Or.inl ⟨rfl, hnm⟩) f2 (Or.inl rfl) hB11 (t := .byte) (by decide +kernel) rfl (g := (mkF m 48 #[.val (.ref a), .val (.ref b), .val (.int (Int32.ofNat o)), .val (.int (Int32.ofNat len)), .val .null, .val (.ref s.heap.size)] [.int 0, .ref a])) rfl (rest := []) rfl (hb hbytes d48)
  have c14 : Steps p.tables e below (s₁.setTop (entryFrame m #[.ref a, .ref b, .int (Int32.ofNat o), .int (Int32.ofNat len), .null] 6)) (T13.setTop (mkF m 54 #[.val (.ref a), .val (.ref b), .val (.int (Int32.ofNat o)), .val (.int (Int32.ofNat len)), .val .null, .val (.ref s.heap.size)] [.ref s.heap.size, .ref a])) := (c12.trans (st13 _ (Steps.refl _))).trans (by
    refine XS.aloadN X13.here hexec rfl (hb hbytes d51) rfl rfl ?_
    refine XS.aload X13.here hexec rfl (hb hbytes d52) rfl rfl ?_
    exact Steps.refl _)
  obtain ⟨T15, X15, p15, bl15, sl15, st15⟩ := X13.finit hexec hown (wk W (.fieldLink "java/lang/String" 9 "java/lang/String" "value" "[B")) (Or.inr ⟨_, (wk W (.laysFinal "java/lang/String" "java/lang/String" "value" "[B"))⟩) (Or.inl ⟨rfl, hnm⟩) f1 (Or.inl rfl) bl13 (t := (.array .byte)) (by decide +kernel) rfl (g := (mkF m 54 #[.val (.ref a), .val (.ref b), .val (.int (Int32.ofNat o)), .val (.int (Int32.ofNat len)), .val .null, .val (.ref s.heap.size)] [.ref s.heap.size, .ref a])) rfl (rest := []) rfl (hb hbytes d54)
  have c16 : Steps p.tables e below (s₁.setTop (entryFrame m #[.ref a, .ref b, .int (Int32.ofNat o), .int (Int32.ofNat len), .null] 6)) (T15.setTop (mkF m 57 #[.val (.ref a), .val (.ref b), .val (.int (Int32.ofNat o)), .val (.int (Int32.ofNat len)), .val .null, .val (.ref s.heap.size)] [])) := c14.trans (st15 _ (Steps.refl _))
  have ap := apart (Or.inr ⟨_, (wk W (.laysFinal "java/lang/String" "java/lang/String" "value" "[B"))⟩) (Or.inr ⟨_, (wk W (.laysFinal "java/lang/String" "java/lang/String" "coder" "B"))⟩) f1 f2 (t₁ := .array .byte) (t₂ := .byte) (by decide +kernel) (by decide +kernel) (by decide)
  have al := X8.warmed.alike.symm.trans X15.warmed.alike
  have n7 : T11.heap[s.heap.size]? = some N := by rw [q11]; exact n1.1
  exact ⟨T15, none, _, _, _, X15, by simp, rfl, by omega, (fun _ => rfl), ⟨rfl, _, N, bl15, ((Same.refl D _).set _ (by simp)).set _ (by simp), sl15, (Cell.slots_setSlot_ne _ ap).trans sl13, n1.keep al (p15.other hne (p13.other hne n7)), n2, by rw [al.findClass]; exact n3, n4, n5, fun y c h1 h2 => p15.other h1 (p13.other h1 (by rw [q11]; exact n6 y c h2)), by rw [p15.2.2, p13.2.2, q11]; exact z8⟩, fun fs hl => c16.trans (X15.returnOut hexec hret (hb hbytes d57) hl)⟩
end New4
namespace New1
def yN : MethodName := ⟨"java/lang/String", "<init>", "([C)V"⟩
abbrev yB : ByteArray := jdk_42_method_3_code
theorem d0 : decode yB 0 = .ok (.aload_n 0, 1) := by decide +kernel
theorem d1 : decode yB 1 = .ok (.aload_n 1, 1) := by decide +kernel
theorem d2 : decode yB 2 = .ok (.iconst 0, 1) := by decide +kernel
theorem d3 : decode yB 3 = .ok (.aload_n 1, 1) := by decide +kernel
theorem d4 : decode yB 4 = .ok (.arraylength, 1) := by decide +kernel
theorem d5 : decode yB 5 = .ok (.aconst_null, 1) := by decide +kernel
theorem d6 : decode yB 6 = .ok (.invokespecial 27, 3) := by decide +kernel
theorem d9 : decode yB 9 = .ok (.return_, 1) := by decide +kernel
def site : List Cond := [New4.tab] ++ initW "java/lang/String" 27 New4.yN
def tab : Cond := tabOf yN yB 2 none site
def P (a : Addr) (D : Cell) (fV fC : Field) (b : Addr) (A : Cell) (z : Int32) (args : Array Value) (s : State) : Prop := args = #[.ref a, .ref b] ∧ Blank "java/lang/String" a D s ∧ Found "java/lang/String" "value" "[B" fV s ∧ Found "java/lang/String" "coder" "B" fC s ∧ Ch b A s ∧ StaticIs s "java/lang/String" "COMPACT_STRINGS" "Z" (.int z) ∧ ¬ z = 0 ∧ 0 < A.slots.size ∧ A.slots.size ≤ 536870912 ∧ ∀ i, i < A.slots.size → ¬ 255 < cv A i
def E (a : Addr) (D : Cell) (fV fC : Field) (A : Cell) (r : Option Value) (s u : State) : Prop := Got a D fV fC A 0 A.slots.size r s u
/-- new String(chars), not empty, no char above 255: a Latin-1 String of their low bytes -/
theorem law (l : Launch) (a : Addr) (D : Cell) (fV fC : Field) (b : Addr) (A : Cell) (z : Int32) : Law l yN 2 1 3 52 yB 2 none site (P a D fV fC b A z) (E a D fV fC A) [⟨a, fC.slot⟩, ⟨a, fV.slot⟩] 1 A.slots.size := by
  refine Law.of_walk (plainFor_of_name (by decide +kernel)) (by decide +kernel) (by decide +kernel) (by decide) (fun _ _ h => by rw [h.1]; rfl) (fun _ U U' hal hh h => ⟨h.1, h.2.1.mv hal hh, h.2.2.1.al hal, h.2.2.2.1.al hal, h.2.2.2.2.1.mv hal hh, h.2.2.2.2.2.1.there hal hh, h.2.2.2.2.2.2⟩) (fun r U U' V V' h1 hal h2 h => Got.mv r U U' V V' h1 hal h2 h) ?_
  intro p e s m args below meth c s₁ X0 hexec hbytes hml hret hlk hnm hown hh0 W hP
  obtain ⟨rfl, hB, f1, f2, hA, s1, hz, l0, l2, hp⟩ := hP
  have c1 : Steps p.tables e below (s₁.setTop (entryFrame m #[.ref a, .ref b] 2)) (s₁.setTop (mkF m 0 #[.val (.ref a), .val (.ref b)] [])) := entry rfl
  have c2 : Steps p.tables e below (s₁.setTop (entryFrame m #[.ref a, .ref b] 2)) (s₁.setTop (mkF m 6 #[.val (.ref a), .val (.ref b)] [.null, .int (Int32.ofNat A.slots.size), .int 0, .ref b, .ref a])) := c1.trans (by
    refine XS.aloadN X0.here hexec rfl (hb hbytes d0) rfl rfl ?_
    refine XS.aloadN X0.here hexec rfl (hb hbytes d1) rfl rfl ?_
    refine iconstV X0.here hexec rfl 0 (hb hbytes d2) (by decide) ?_
    refine XS.aloadN X0.here hexec rfl (hb hbytes d3) rfl rfl ?_
    refine X0.alen hexec (hA.1.mv X0.warmed.alike hh0) rfl rfl (hb hbytes d4) ?_
    refine XS.aconstNull X0.here hexec rfl (hb hbytes d5) ?_
    exact Steps.refl _)
  obtain ⟨v3, T3, X3, E3, g3⟩ := X0.callN hexec (New4.law l a D fV fC b A z 0 A.slots.size) rfl hown (wks W (initW "java/lang/String" 27 New4.yN)) (W New4.tab (by simp only [site, List.mem_cons, List.mem_append, true_or, or_true])) (W := 0) (Nat.le_of_ble_eq_true rfl) (Nat.le_of_ble_eq_true rfl) (Nat.le_refl _) (by show 0 + A.slots.size ≤ A.slots.size; omega) (g := (mkF m 6 #[.val (.ref a), .val (.ref b)] [.null, .int (Int32.ofNat A.slots.size), .int (Int32.ofNat 0), .ref b, .ref a])) rfl (by rw [hml]; rfl) c2 (argsL := [.ref b, .int (Int32.ofNat 0), .int (Int32.ofNat A.slots.size), .null]) (rest := []) rfl rfl (by show 2 * 0 + 0 ≤ _; decide) (hb hbytes d6) (⟨rfl, hB.mv X0.warmed.alike hh0, f1.al X0.warmed.alike, f2.al X0.warmed.alike, hA.mv X0.warmed.alike hh0, s1.there X0.warmed.alike hh0, hz, l0, by omega, l2, fun i hi => by rw [Nat.zero_add]; exact hp i hi⟩)
  have e0 := Got.mv _ s₁ s _ _ hh0.symm (Vm.Alike.refl _) rfl E3
  obtain rfl := e0.1
  have c4 : Steps p.tables e below (s₁.setTop (entryFrame m #[.ref a, .ref b] 2)) (T3.setTop (mkF m 9 #[.val (.ref a), .val (.ref b)] [])) := g3
  exact ⟨T3, none, _, _, _, X3, by simp, rfl, by omega, (fun _ => rfl), e0, fun fs hl => c4.trans (X3.returnOut hexec hret (hb hbytes d9) hl)⟩
theorem pays {l : Launch} {R : Room} {p : Program} {e : Env} {below : List Frame} {s : State} {sargs : Array Value} {len W : Nat} (a : Addr) (D : Cell) (fV fC : Field) (b : Addr) (A : Cell) (z : Int32) (htab : tab.before sargs s = true) (hfr : 4 ≤ R.frames) (hlo : W + 65 ≤ R.locals) :
    Back l R p e below s sargs yN len W (fun A₁ a₁ => A₁.cells + 1 ≤ R.cells ∧ A₁.slots + A.slots.size ≤ R.slots ∧ P a D fV fC b A z a₁ A₁.U) (fun A₁ _ v₁ B₁ => E a D fV fC A v₁ A₁.U B₁.U ∧ B₁.locs = A₁.locs ++ [⟨a, fC.slot⟩, ⟨a, fV.slot⟩] ∧ B₁.cells = A₁.cells + 1 ∧ B₁.slots = A₁.slots + A.slots.size) :=
  (law l a D fV fC b A z).pays htab hfr (by omega)
end New1
/-- the byte, read back as charAt reads it, is the char -/
theorem lo8_mask {x : Int32} (h0 : ¬ x < 0) (h1 : ¬ 255 < x) : lo8 x &&& 255 = x := by
  have t : ∀ k : Fin 256, lo8 (Int32.ofNat k.val) &&& 255 = Int32.ofNat k.val := by decide +kernel
  rw [Int32.lt_iff_toInt_lt] at h0 h1
  have e0 : (0 : Int32).toInt = 0 := rfl
  have e1 : (255 : Int32).toInt = 255 := rfl
  obtain ⟨k, hk⟩ : ∃ k : Nat, x.toInt = k := ⟨x.toInt.toNat, by omega⟩
  have hx : x = Int32.ofNat k := Int32.toInt_inj.mp (by rw [hk, Int32.toInt_ofNat_small (by omega)])
  rw [hx]
  exact t ⟨k, by omega⟩
end StrChars
namespace StrChars.Road
open Jvm Sem ClassFile Op Lib Jvm.Stand Jvm.Free Jvm.Free.XT
open Jvm.Lib.Cold (StaticIs)
abbrev ST : String := "java/lang/String"
/-- every table word that New1's law asks, flat -/
abbrev words : List Jvm.Cond := [.code New1.yN New1.yB 2 none, .initialized ST, .methodLink ST 27 New4.yN, .instanceMethod New4.yN,
  .code New4.yN New4.yB 6 none, .fieldLink ST 38 ST "COMPACT_STRINGS" "Z", .laysFinal ST ST "value" "[B", .fieldLink ST 9 ST "value" "[B", .laysFinal ST ST "coder" "B", .fieldLink ST 15 ST "coder" "B",
  .methodLink ST 1 Lib.objectInit, .instanceMethod Lib.objectInit, .code Lib.objectInit ⟨#[0xb1]⟩ 1 none, .methodLink ST 177 Cmp3.yN, .static Cmp3.yN, .methodLink ST 47 CodL.yN, .static CodL.yN,
  .code Cmp3.yN Cmp3.yB 6 (some (.array .byte)), .initialized U16, .arrayClass .byte, .methodLink U16 115 Cmp5.yN, .static Cmp5.yN, .code Cmp5.yN Cmp5.yB 7 (some .int), .code CodL.yN CodL.yB 2 (some .byte)]
theorem tab_of {a : Array Value} {s : State} (h : ∀ w ∈ words, w.before a s = true) : New1.tab.before a s = true := by
  have h5 : Cmp5.tab.before a s = true := unparts (wk h (.code Cmp5.yN Cmp5.yB 7 (some .int))) (wks h (.initialized Cmp5.yN.cls :: Cmp5.site))
  have hc : CodL.tab.before a s = true := unparts (wk h (.code CodL.yN CodL.yB 2 (some .byte))) (wks h (.initialized CodL.yN.cls :: CodL.site))
  have q5 : ∀ w ∈ Cmp5.tab :: words, w.before a s = true := fun w hw => (List.mem_cons.mp hw).elim (fun e => e ▸ h5) (h w)
  have h3 : Cmp3.tab.before a s = true := unparts (wk q5 (.code Cmp3.yN Cmp3.yB 6 (some (.array .byte)))) (wks q5 (.initialized Cmp3.yN.cls :: Cmp3.site))
  have q3 : ∀ w ∈ Cmp3.tab :: CodL.tab :: words, w.before a s = true := fun w hw => (List.mem_cons.mp hw).elim (fun e => e ▸ h3) fun hw => (List.mem_cons.mp hw).elim (fun e => e ▸ hc) (h w)
  have h4 : New4.tab.before a s = true := unparts (wk q3 (.code New4.yN New4.yB 6 none)) (wks q3 (.initialized New4.yN.cls :: New4.site))
  have q4 : ∀ w ∈ New4.tab :: words, w.before a s = true := fun w hw => (List.mem_cons.mp hw).elim (fun e => e ▸ h4) (h w)
  exact unparts (wk q4 (.code New1.yN New1.yB 2 none)) (wks q4 (.initialized New1.yN.cls :: New1.site))
/-- the words ride from the start Z to the walk's own state -/
theorem moved {Z s : State} {a0 args : Array Value} (hZ : Z.Warmed39 s.vm) (hw : ∀ d ∈ words, d.before a0 Z = true) : ∀ d ∈ words, d.before args s = true := fun d hd => by
  have q := hw d hd
  have t : ∀ d ∈ words, d = .arrayClass .byte ∨ (d.onTables && d.keepsFace) = true := by decide +kernel
  rcases t d hd with rfl | t
  · exact RoadKit.mvA hZ q
  · exact RoadKit.mv hZ q t
/-- WHAT COMES BACK, over the tables of the start Z: h the heap at the call, h' behind it -/
def Q (Z : State) (x : Addr) (A : Cell) (h : Heap) (v : Option Value) (h' : Heap) (L : List Loc) : Prop := v = none ∧ (∀ y ∈ L, y.base = x) ∧ RoadKit.Keep h h' [x] ∧ h'.size = h.size + 1 ∧ RoadKit.Exa Z h' x ST ∧ RoadKit.Fld Z h' x ST "value" "[B" (.ref h.size) ∧ RoadKit.Fld Z h' x ST "coder" "B" (.int 0) ∧
  (∃ V : Cell, RoadKit.Arr Z h' h.size V .byte ∧ V.vm = .none ∧ Z.vm.findClass "[B" = some V.cls ∧ V.slots.size = A.slots.size ∧ ∀ j, j < A.slots.size → V.slots[j]? = some (.int (lo8 (cv A j)))) ∧
  ∀ (O n d : String) (w : Value), RoadKit.Fld Z h x O n d w → RoadKit.slotOf Z O n d ≠ RoadKit.slotOf Z ST "value" "[B" → RoadKit.slotOf Z O n d ≠ RoadKit.slotOf Z ST "coder" "B" → RoadKit.Fld Z h' x O n d w
/-- **new String(chars) AT A CALL, IN THE ROAD'S FORM**: for specialBack behind newO: x the fresh String, b the char[] with the cell A -/
theorem back {p : Program} {l : Launch} {e : Env} {R : Room} {s : State} {args : Array Value} {below : List Frame} {len W : Nat} {Z : State} {a0 : Array Value} {h : Heap} (hZ : Z.Warmed39 s.vm) (hw : ∀ d ∈ words, d.before a0 Z = true) {kI : Nat} (wi : (Jvm.Cond.instantiable ST kI).before a0 Z = true)
    {x b : Addr} {A : Cell} {z : Int32} {v0 c0 : Value} (E : RoadKit.Exa Z h x ST) (V : RoadKit.Fld Z h x ST "value" "[B" v0) (C : RoadKit.Fld Z h x ST "coder" "B" c0) (K : RoadKit.Arr Z h b A .char) (hty : Typed .char A) (S : RoadKit.Sta Z h ST "COMPACT_STRINGS" "Z" (.int z)) (hz : ¬ z = 0)
    (l0 : 0 < A.slots.size) (l2 : A.slots.size ≤ 536870912) (hp : ∀ i, i < A.slots.size → ¬ 255 < cv A i) (hfr : 4 ≤ R.frames) (hlo : W + 65 ≤ R.locals) :
    Back l R p e below s args New1.yN len W (fun P a => a = #[.ref x, .ref b] ∧ P.U.heap = h ∧ P.cells + 1 ≤ R.cells ∧ P.slots + A.slots.size ≤ R.slots)
      (fun P _ v B => ∃ L, Q Z x A h v B.U.heap L ∧ B.locs = P.locs ++ L ∧ B.cells = P.cells + 1 ∧ B.slots = P.slots + A.slots.size) := by
  intro m meth c P g ig mk a X hg hsize hdg hW hn hp'
  obtain ⟨rfl, rfl, r1, r2⟩ := hp'
  have al : Z.vm.Alike P.U.vm := hZ.alike.trans X.warmed.alike
  obtain ⟨D, cfV, kV, iV, fV, hD, gV, stV, knV, obV, asV, slV⟩ := id V
  obtain ⟨D', cfC, kC, iC, fC, hD', gC, stC, -, -, asC, slC⟩ := id C
  cases hD.symm.trans hD'
  obtain ⟨D2, kD, e1, e2, e3, e4, e5⟩ := id E
  cases hD.symm.trans e1
  obtain ⟨c2, k2, i1, i2, i3, -⟩ := Cond.instantiable_spec wi
  cases e2.symm.trans i1
  cases e3.symm.trans i2
  obtain ⟨kU, u1, u2⟩ := al.2.2 _ _ e3
  have hB : Blank ST x D P.U := ⟨hD, ⟨knV, fun q hq => by rw [hq] at obV; cases obV⟩, by rw [al.findClass]; exact e2, kU, u1, by rw [u2]; exact i3, by rw [u2]; exact e5 i3⟩
  have F1 : Found ST "value" "[B" fV P.U := ⟨SBG.found_only al ⟨cfV, kV, iV, gV⟩, stV⟩
  have F2 : Found ST "coder" "B" fC P.U := ⟨SBG.found_only al ⟨cfC, kC, iC, gC⟩, stC⟩
  have hA : Ch b A P.U := ⟨⟨K.1, State.isArrayOf_alike al K.2.1, K.2.2, by omega⟩, hty⟩
  have hS : StaticIs P.U ST "COMPACT_STRINGS" "Z" (.int z) := by
    obtain ⟨cfS, iS, kS, fS, st, cS, t1, t2, t3, t4, t5, t6, t7⟩ := S
    exact StaticIs.there (s := { Z with heap := P.U.heap }) ⟨cfS, iS, kS, fS, st, cS, t1, t2, t3, t4, t5, (fun q => by rw [q] at t6; cases t6), t7⟩ al rfl
  obtain ⟨v, B, X', ⟨⟨hv, E', V', q1, q2, q3, q4, q5, q6, q7, q8, q9, q10, q11⟩, hl, hc, hs⟩, st⟩ := New1.pays x D fV fC b A z (tab_of (moved hZ hw)) hfr hlo m meth c P g ig mk _ X hg hsize hdg hW hn ⟨r1, r2, rfl, hB, F1, F2, hA, hS, hz, l0, l2, hp⟩
  have al' : Z.vm.Alike B.U.vm := hZ.alike.trans X'.warmed.alike
  have hsz : E'.slots.size = D.slots.size := by
    obtain ⟨-, -, -, kB, w1, w2, w3⟩ := q1
    obtain ⟨kB', y1, y2⟩ := al'.2.2 _ _ e3
    rw [q2.2.1] at w1
    cases w1.symm.trans y1
    rw [w3, e5 i3, y2]
  refine ⟨v, B, X', ⟨_, ⟨hv, ?_, ⟨by omega, fun y cy hy hn' => q10 y cy (by simpa using hn') hy, fun y cy hy => ?_⟩, q11, ⟨E', _, q1.1, by rw [q2.2.1]; exact e2, by rw [q2.2.1]; exact e3, by rw [q2.1]; exact obV, fun _ => by rw [hsz]; exact e5 i3⟩,
    ⟨E', cfV, kV, iV, fV, q1.1, gV, stV, by rw [q2.1]; exact knV, by rw [q2.1]; exact obV, by rw [q2.2.1]; exact asV, q3⟩, ⟨E', cfC, kC, iC, fC, q1.1, gC, stC, by rw [q2.1]; exact knV, by rw [q2.1]; exact obV, by rw [q2.2.1]; exact asC, q4⟩,
    ⟨V', ⟨q5.1, State.isArrayOf_alike al'.symm q5.2.1, q5.2.2.1⟩, q6, by rw [← al'.findClass]; exact q7, q8, fun j hj => by have := q9 j hj; rwa [Nat.zero_add] at this⟩, fun O n d w F n1 n2 => ?_⟩, hl, hc, hs⟩, st⟩
  · intro y hy
    simp only [List.mem_cons, List.not_mem_nil, or_false] at hy
    rcases hy with rfl | rfl <;> rfl
  · by_cases q : y = x
    · subst q
      cases hD.symm.trans hy
      exact ⟨E', q1.1, q2.2.1, q2.1, hsz⟩
    · exact ⟨cy, q10 y cy q hy, rfl, rfl, rfl⟩
  · obtain ⟨D3, cf, k, i, f, g1, g2, g3, g4, g5, g6, g7⟩ := F
    cases hD.symm.trans g1
    simp only [RoadKit.slotOf, g2, gV, gC, Option.map_some, Option.getD_some] at n1 n2
    exact ⟨E', cf, k, i, f, q1.1, g2, g3, by rw [q2.1]; exact g4, by rw [q2.1]; exact g5, by rw [q2.2.1]; exact g6, by rw [q2.2.2 f.slot (by simp [n1, n2])]; exact g7⟩
end StrChars.Road
namespace StrChars.Road
open Jvm Sem ClassFile Op Lib Jvm.Stand Jvm.Free Jvm.Free.XT
/-- WHAT COMES BACK, the byte[] as a list of values -/
def QA (Z : State) (x : Addr) (zn : Int32) (cs : List Int32) (h : Heap) (v : Option Value) (h' : Heap) (L : List Loc) : Prop := v = none ∧ (∀ y ∈ L, y.base = x) ∧ RoadKit.Keep h h' [x] ∧ h'.size = h.size + 1 ∧ RoadKit.Exa Z h' x ST ∧ RoadKit.Fld Z h' x ST "value" "[B" (.ref h.size) ∧ RoadKit.Fld Z h' x ST "coder" "B" (.int 0) ∧
  (∃ kb, Z.vm.findClass "[B" = some kb ∧ RoadKit.Arv Z h' h.size kb .byte zn (cs.map fun c => .int (lo8 c)) (.int 0)) ∧
  ∀ (O n d : String) (w : Value), RoadKit.Fld Z h x O n d w → RoadKit.slotOf Z O n d ≠ RoadKit.slotOf Z ST "value" "[B" → RoadKit.slotOf Z O n d ≠ RoadKit.slotOf Z ST "coder" "B" → RoadKit.Fld Z h' x O n d w
/-- **new String(chars) AT A CALL, THE ARRAYS AS LISTS**: the char[] at b holds cs, not empty, no char above 255 -/
theorem backArv {p : Program} {l : Launch} {e : Env} {R : Room} {s : State} {args : Array Value} {below : List Frame} {len W : Nat} {Z : State} {a0 : Array Value} {h : Heap} (hZ : Z.Warmed39 s.vm) (hw : ∀ d ∈ words, d.before a0 Z = true) {kI : Nat} (wi : (Jvm.Cond.instantiable ST kI).before a0 Z = true)
    {x b : Addr} {k : ClassId} {zn z : Int32} {cs : List Int32} {dv v0 c0 : Value} (E : RoadKit.Exa Z h x ST) (V : RoadKit.Fld Z h x ST "value" "[B" v0) (C : RoadKit.Fld Z h x ST "coder" "B" c0) (K : RoadKit.Arv Z h b k .char zn (cs.map Value.int) dv) (S : RoadKit.Sta Z h ST "COMPACT_STRINGS" "Z" (.int z)) (hz : ¬ z = 0)
    (hlen : zn.toNatClampNeg = cs.length) (h0 : 0 < cs.length) (hbig : cs.length ≤ 536870912) (hall : ∀ c ∈ cs, ¬ 255 < c) (hfr : 4 ≤ R.frames) (hlo : W + 65 ≤ R.locals) :
    Back l R p e below s args New1.yN len W (fun P a => a = #[.ref x, .ref b] ∧ P.U.heap = h ∧ P.cells + 1 ≤ R.cells ∧ P.slots + cs.length ≤ R.slots)
      (fun P _ v B => ∃ L, QA Z x zn cs h v B.U.heap L ∧ B.locs = P.locs ++ L ∧ B.cells = P.cells + 1 ∧ B.slots = P.slots + cs.length) := by
  obtain ⟨A, K1, K2, K3, K4, K5, K6⟩ := K
  have e : A.slots.size = cs.length := K3.trans hlen
  have hat : ∀ (i : Nat) (hi : i < cs.length), A.slots[i]? = some (.int cs[i]) := fun i hi => by rw [K5 i (by omega)]; simp [List.getD_eq_getElem?_getD, hi]
  have hcv : ∀ (i : Nat) (hi : i < cs.length), cv A i = cs[i] := fun i hi => by unfold cv; rw [hat i hi]
  have hty : Typed .char A := fun i v hv => by
    have hi : i < A.slots.size := (Array.getElem?_eq_some_iff.mp hv).1
    have q := K5 i hi
    rw [hv] at q
    rw [Option.some.inj q]
    exact K6 i hi
  refine Back.mono (back hZ hw wi E V C K1 hty S hz (by omega) (by omega) (fun i hi => by rw [hcv i (by omega)]; exact hall _ (List.getElem_mem _)) hfr hlo) (fun P a hp => ⟨hp.1, hp.2.1, hp.2.2.1, by rw [e]; exact hp.2.2.2⟩) (fun P a v B hp hq => ?_)
  obtain ⟨L, ⟨q1, q2, q3, q4, q5, q6, q7, ⟨V', v1, v2, v3, v4, v5⟩, q9⟩, hl, hc, hs⟩ := hq
  refine ⟨L, ⟨q1, q2, q3, q4, q5, q6, q7, ⟨V'.cls, v3, V', v1, rfl, by rw [v4, e, hlen], K4, fun i hi => ?_, fun i hi => ?_⟩, q9⟩, hl, hc, by rw [hs, e]⟩
  · have hi' : i < cs.length := by omega
    rw [v5 i (by omega), hcv i hi']; simp [List.getD_eq_getElem?_getD, hi']
  · have hi' : i < cs.length := by omega
    simp only [List.getD_eq_getElem?_getD, List.getElem?_map, List.getElem?_eq_getElem hi', Option.map_some, Option.getD_some]
    exact fits_lo8 _
end StrChars.Road
namespace StrChars.Road
open Jvm Sem ClassFile Op Lib Jvm.Stand Jvm.Free Jvm.Free.XT
/-- WHAT COMES BACK, in the writer's own shape -/
def QV (Z : State) (x : Addr) (N : Int32) (bs : List Int32) (h : Heap) (n0 : Nat) (v : Option Value) (h' : Heap) (L : List Loc) : Prop := v = none ∧ RoadKit.Fr n0 L ∧ RoadKit.Keep h h' [x] ∧ RoadKit.Exa Z h' x ST ∧ RoadKit.Fld Z h' x ST "coder" "B" (.int 0) ∧
  ∃ (t : Addr) (kb : ClassId), n0 ≤ t ∧ h.size ≤ t ∧ ¬ t = x ∧ RoadKit.Fld Z h' x ST "value" "[B" (.ref t) ∧ RoadKit.Arv Z h' t kb .byte N (bs.map Value.int) (.int 0)
/-- **new String(chars) AT A CALL, FOR THE WRITER**: a char[] of n known ints, each 0 to 255 -/
theorem backV {p : Program} {l : Launch} {e : Env} {R : Room} {s : State} {args : Array Value} {below : List Frame} {len W : Nat} {Z : State} {a0 : Array Value} {h : Heap} (hZ : Z.Warmed39 s.vm) (hw : ∀ d ∈ words, d.before a0 Z = true) {kI : Nat} (wi : (Jvm.Cond.instantiable ST kI).before a0 Z = true)
    {x b : Addr} {kC : ClassId} {cs bs : List Int32} {d v0 c0 : Value} {z N : Int32} {n n0 : Nat} (hx0 : n0 ≤ x) (hh0 : n0 ≤ h.size) (E : RoadKit.Exa Z h x ST) (V : RoadKit.Fld Z h x ST "value" "[B" v0) (C : RoadKit.Fld Z h x ST "coder" "B" c0) (K : RoadKit.Arv Z h b kC .char N (cs.map Value.int) d) (S : RoadKit.Sta Z h ST "COMPACT_STRINGS" "Z" (.int z)) (hz : ¬ z = 0)
    (hn : cs.length = n) (hN : N = Int32.ofNat n) (l0 : 0 < n) (l2 : n ≤ 4000) (hp : ∀ c ∈ cs, ¬ c < 0 ∧ ¬ (255 : Int32) < c) (hb : bs = cs.map (fun c => c.toInt8.toInt32)) (hfr : 4 ≤ R.frames) (hlo : W + 65 ≤ R.locals) :
    Back l R p e below s args (⟨"java/lang/String", "<init>", "([C)V"⟩ : MethodName) len W (fun P a => a = #[.ref x, .ref b] ∧ P.U.heap = h ∧ P.cells + 1 ≤ R.cells ∧ P.slots + n ≤ R.slots)
      (fun P _ v B => ∃ L, QV Z x N bs h n0 v B.U.heap L ∧ B.locs = P.locs ++ L ∧ B.cells = P.cells + 1 ∧ B.slots = P.slots + n) := by
  subst hn hN hb
  refine Back.mono (backArv hZ hw wi E V C K S hz (n32 (by omega)) l0 (by omega) (fun c hc => (hp c hc).2) hfr hlo) (fun P a hp => hp) (fun P a v B hp hq => ?_)
  obtain ⟨L, ⟨q1, q2, q3, q4, q5, q6, q7, ⟨kb, v1, v2⟩, q9⟩, hl, hc, hs⟩ := hq
  exact ⟨L, ⟨q1, fun y hy => by rw [q2 y hy]; exact hx0, q3, q5, q7, h.size, kb, hh0, Nat.le_refl _, Nat.ne_of_gt E.lt, q6, by rw [List.map_map]; exact v2⟩, hl, hc, hs⟩
end StrChars.Road
namespace StrChars
open Jvm Sem ClassFile Op Lib Jvm.Stand Jvm.Free.XT Jvm.Free.ALB Jvm.Free.JM Jvm.Free
open Jvm.Lib.Cold (StaticIs)
def hi8 (x : Int32) : Int32 := lo8 (x >>> ((8 : Int32) &&& 31))
/-- what StringUTF16.getChar makes of two bytes -/
def pairCh (u v : Int32) : Int32 := (((u &&& 255) <<< ((0 : Int32) &&& 31)) ||| ((v &&& 255) <<< ((8 : Int32) &&& 31))).toUInt32.toUInt16.toUInt32.toInt32
theorem lo8_and (x : Int32) : (lo8 x &&& 255).toBitVec.toNat = x.toBitVec.toNat % 256 := by
  have h : (lo8 x).toBitVec = (x.toBitVec.signExtend 8).signExtend 32 := by rw [lo8, Int8.toBitVec_toInt32, Int32.toBitVec_toInt8]
  rw [Int32.toBitVec_and, BitVec.toNat_and, h]
  have e : ((x.toBitVec.signExtend 8).signExtend 32).toNat % 256 = x.toBitVec.toNat % 256 := by
    rw [BitVec.toNat_signExtend]
    have hlt := x.toBitVec.isLt
    simp only [BitVec.toNat_setWidth, BitVec.toNat_signExtend]
    split <;> split <;> omega
  rw [← e]
  exact Nat.and_two_pow_sub_one_eq_mod _ 8
theorem pair_says {c : Int32} (h0 : ¬ c < 0) (h1 : ¬ 65535 < c) : pairCh (lo8 c) (hi8 c) = c := by
  rw [Int32.lt_iff_toInt_lt] at h0 h1
  have e0 : (0 : Int32).toInt = 0 := rfl
  have e1 : (65535 : Int32).toInt = 65535 := rfl
  have hc : c.toInt = c.toBitVec.toNat := by
    have := c.toBitVec.isLt
    have e : c.toInt = c.toBitVec.toInt := rfl
    rw [e] at h0 h1
    rw [e]
    rw [BitVec.toInt_eq_toNat_cond] at h0 h1 ⊢
    split at h0 <;> split <;> omega
  have hn : c.toBitVec.toNat < 65536 := by omega
  have a1 := lo8_and c
  have a2 : (hi8 c &&& 255).toBitVec.toNat = c.toBitVec.toNat / 256 := by
    rw [hi8, lo8_and]
    have e : ((8 : Int32) &&& 31) = 8 := by decide
    rw [e, Int32.toBitVec_shiftRight]
    have e2 : ((8 : Int32).toBitVec.smod 32) = 8#32 := by decide
    rw [e2, BitVec.sshiftRight_eq', BitVec.toNat_sshiftRight_of_msb_false (by rw [BitVec.msb_eq_false_iff_two_mul_lt]; omega)]
    show c.toBitVec.toNat >>> 8 % 256 = _
    rw [Nat.shiftRight_eq_div_pow]
    omega
  unfold pairCh
  apply Int32.toBitVec_inj.mp
  apply BitVec.eq_of_toNat_eq
  have f0 : ((0 : Int32) &&& 31) = 0 := by decide
  have f8 : ((8 : Int32) &&& 31) = 8 := by decide
  rw [f0, f8]
  have g : (((lo8 c &&& 255) <<< (0 : Int32)) ||| ((hi8 c &&& 255) <<< (8 : Int32))).toBitVec.toNat = c.toBitVec.toNat := by
    rw [Int32.toBitVec_or, Int32.toBitVec_shiftLeft, Int32.toBitVec_shiftLeft]
    have s0 : ((0 : Int32).toBitVec.smod 32) = 0#32 := by decide
    have s8 : ((8 : Int32).toBitVec.smod 32) = 8#32 := by decide
    rw [s0, s8, BitVec.toNat_or]
    simp only [BitVec.shiftLeft_eq', BitVec.toNat_shiftLeft, a1, a2]
    show (c.toBitVec.toNat % 256) <<< 0 % 2 ^ 32 ||| (c.toBitVec.toNat / 256) <<< 8 % 2 ^ 32 = _
    rw [Nat.shiftLeft_zero, Nat.mod_eq_of_lt (show c.toBitVec.toNat % 256 < 2 ^ 32 by omega), Nat.mod_eq_of_lt (show (c.toBitVec.toNat / 256) <<< 8 < 2 ^ 32 by rw [Nat.shiftLeft_eq]; omega), Nat.or_comm, ← Nat.shiftLeft_add_eq_or_of_lt (by omega), Nat.shiftLeft_eq]
    omega
  show BitVec.toNat (((((lo8 c &&& 255) <<< (0 : Int32)) ||| ((hi8 c &&& 255) <<< (8 : Int32))).toBitVec.setWidth 16).setWidth 32) = _
  rw [BitVec.toNat_setWidth, BitVec.toNat_setWidth, g]
  omega
end StrChars
namespace StrChars
open Jvm Sem ClassFile Op Lib Jvm.Stand Jvm.Free.XT Jvm.Free.ALB Jvm.Free.JM Jvm.Free
open Jvm.Lib.Cold (StaticIs)
/-- the array's cell V codes the n chars f 0 .. f (n - 1) by the coder cd, as the JDK does: coder 1 just where some char is above 255 -/
def Cod (cd : Int32) (n : Nat) (f : Nat → Int32) (V : Cell) : Prop := (cd = 0 ∧ V.slots.size = n ∧ ∀ j, j < n → V.slots[j]? = some (.int (lo8 (f j))) ∧ ¬ 255 < f j) ∨ (cd = 1 ∧ V.slots.size = 2 * n ∧ (∀ j, j < n → V.slots[2 * j]? = some (.int (lo8 (f j))) ∧ V.slots[2 * j + 1]? = some (.int (hi8 (f j)))) ∧ ∃ j, j < n ∧ 255 < f j)
/-- **x is a String of the n chars f 0 .. f (n - 1)**, Latin-1 or UTF-16; its array at t has the cell V -/
def Txt (x t : Addr) (V : Cell) (cd : Int32) (n : Nat) (f : Nat → Int32) (U : State) : Prop := Exact "java/lang/String" x U ∧ Has x "java/lang/String" "value" "[B" (.ref t) U ∧ Has x "java/lang/String" "coder" "B" (.int cd) U ∧ XT.Arr .byte t V U ∧ Cod cd n f V ∧ ∀ j, j < n → ¬ f j < 0 ∧ ¬ 65535 < f j
theorem Txt.mv {x t : Addr} {V : Cell} {cd : Int32} {n : Nat} {f : Nat → Int32} {U U' : State} (h : Txt x t V cd n f U) (hal : U.vm.Alike U'.vm) (hh : U'.heap = U.heap) : Txt x t V cd n f U' := ⟨h.1.mv hal hh, h.2.1.mv hal hh, h.2.2.1.mv hal hh, h.2.2.2.1.mv hal hh, h.2.2.2.2⟩
end StrChars
namespace StrChars.Road
open Jvm Sem ClassFile Op Lib Jvm.Stand Jvm.Free Jvm.Free.XT
open Jvm.Lib.Cold (StaticIs)
theorem consq {a : Array Value} {s : State} {c : Jvm.Cond} {L : List Jvm.Cond} (h0 : c.before a s = true) (h : ∀ w ∈ L, w.before a s = true) : ∀ w ∈ c :: L, w.before a s = true := fun w hw => (List.mem_cons.mp hw).elim (fun e => e ▸ h0) (h w)
/-- the bytes of the chars cs, low before high -/
def wideBytes : List Int32 → List Value
  | [] => []
  | c :: cs => .int (lo8 c) :: .int (hi8 c) :: wideBytes cs
theorem wide_lo (d : Value) : ∀ (cs : List Int32) (j : Nat), j < cs.length → (wideBytes cs).getD (2 * j) d = .int (lo8 (cs.getD j 0))
  | [], j, h => absurd h (Nat.not_lt_zero j)
  | c :: cs, 0, _ => rfl
  | c :: cs, j + 1, h => by
    have q := wide_lo d cs j (by simpa using h)
    rw [show 2 * (j + 1) = 2 * j + 1 + 1 from by omega]
    simpa [wideBytes] using q
theorem wide_hi (d : Value) : ∀ (cs : List Int32) (j : Nat), j < cs.length → (wideBytes cs).getD (2 * j + 1) d = .int (hi8 (cs.getD j 0))
  | [], j, h => absurd h (Nat.not_lt_zero j)
  | c :: cs, 0, _ => rfl
  | c :: cs, j + 1, h => by
    have q := wide_hi d cs j (by simpa using h)
    rw [show 2 * (j + 1) + 1 = 2 * j + 1 + 1 + 1 from by omega]
    simpa [wideBytes] using q
theorem low_at (d : Value) (cs : List Int32) (j : Nat) (h : j < cs.length) : (cs.map fun c => Value.int (lo8 c)).getD j d = .int (lo8 (cs.getD j 0)) := by
  simp [List.getD_eq_getElem?_getD, h]
/-- an array of N2 bytes vs codes the chars cs by the coder cd -/
def CodA (cs : List Int32) (cd N2 : Int32) (vs : List Value) : Prop := (cd = 0 ∧ N2 = Int32.ofNat cs.length ∧ vs = (cs.map fun c => Value.int (lo8 c)) ∧ ∀ c ∈ cs, ¬ 255 < c) ∨ (cd = 1 ∧ N2 = Int32.ofNat (2 * cs.length) ∧ vs = wideBytes cs ∧ ∃ c ∈ cs, 255 < c)
theorem CodA.cod {cs : List Int32} {cd N2 : Int32} {vs : List Value} {V : Cell} (h : CodA cs cd N2 vs) (hn : 2 * cs.length < 2 ^ 31) (hs : V.slots.size = N2.toNatClampNeg) (hv : RoadKit.Has V vs (.int 0)) : Cod cd cs.length (fun j => cs.getD j 0) V := by
  rcases h with ⟨rfl, rfl, rfl, h⟩ | ⟨rfl, rfl, rfl, c, hc, hw⟩
  · rw [n32 (by omega)] at hs
    exact Or.inl ⟨rfl, hs, fun j hj => ⟨by rw [hv j (by omega), low_at _ _ _ hj], by
      have e : cs.getD j 0 = cs[j] := by simp [List.getD_eq_getElem?_getD, hj]
      show ¬ 255 < cs.getD j 0
      rw [e]; exact h _ (List.getElem_mem _)⟩⟩
  · rw [n32 (by omega)] at hs
    obtain ⟨j, hj, rfl⟩ := List.getElem_of_mem hc
    exact Or.inr ⟨rfl, hs, fun j hj => ⟨by rw [hv _ (by omega), wide_lo _ _ _ hj], by rw [hv _ (by omega), wide_hi _ _ _ hj]⟩, j, hj, by
      have e : cs.getD j 0 = cs[j] := by simp [List.getD_eq_getElem?_getD, hj]
      show 255 < cs.getD j 0
      rw [e]; exact hw⟩
/-- an object of exactly java/lang/String, its two fields found: as the laws ask it -/
theorem strObj {Z U : State} {a0 : Array Value} {kI : Nat} (wi : (Jvm.Cond.instantiable ST kI).before a0 Z = true) (al : Z.vm.Alike U.vm) {x : Addr} {v0 c0 : Value} (E : RoadKit.Exa Z U.heap x ST) (V : RoadKit.Fld Z U.heap x ST "value" "[B" v0) (C : RoadKit.Fld Z U.heap x ST "coder" "B" c0) :
    ∃ (D : Cell) (fV fC : Field), Blank ST x D U ∧ Found ST "value" "[B" fV U ∧ Found ST "coder" "B" fC U ∧ D.slots[fV.slot]? = some v0 ∧ D.slots[fC.slot]? = some c0 ∧ RoadKit.slotOf Z ST "value" "[B" = fV.slot ∧ RoadKit.slotOf Z ST "coder" "B" = fC.slot := by
  obtain ⟨D, cfV, kV, iV, fV, hD, gV, stV, knV, obV, asV, slV⟩ := V
  obtain ⟨D', cfC, kC, iC, fC, hD', gC, stC, -, -, asC, slC⟩ := C
  cases hD.symm.trans hD'
  obtain ⟨D2, kD, e1, e2, e3, e4, e5⟩ := E
  cases hD.symm.trans e1
  obtain ⟨c2, k2, i1, i2, i3, -⟩ := Cond.instantiable_spec wi
  cases e2.symm.trans i1
  cases e3.symm.trans i2
  obtain ⟨kU, u1, u2⟩ := al.2.2 _ _ e3
  exact ⟨D, fV, fC, ⟨hD, ⟨knV, fun q hq => by rw [hq] at obV; cases obV⟩, by rw [al.findClass]; exact e2, kU, u1, by rw [u2]; exact i3, by rw [u2]; exact e5 i3⟩, ⟨SBG.found_only al ⟨cfV, kV, iV, gV⟩, stV⟩, ⟨SBG.found_only al ⟨cfC, kC, iC, gC⟩, stC⟩, slV, slC, by simp [RoadKit.slotOf, gV], by simp [RoadKit.slotOf, gC]⟩
theorem sta_is {Z U : State} (al : Z.vm.Alike U.vm) {C n d : String} {v : Value} (S : RoadKit.Sta Z U.heap C n d v) : StaticIs U C n d v := by
  obtain ⟨cfS, iS, kS, fS, st, cS, t1, t2, t3, t4, t5, t6, t7⟩ := S
  exact StaticIs.there (s := { Z with heap := U.heap }) ⟨cfS, iS, kS, fS, st, cS, t1, t2, t3, t4, t5, (fun q => by rw [q] at t6; cases t6), t7⟩ al rfl
end StrChars.Road
namespace StrChars
open Jvm Sem ClassFile Op Lib Jvm.Stand Jvm.Free.XT Jvm.Free.ALB Jvm.Free.JM Jvm.Free
open Jvm.Lib.Cold (StaticIs)
/-- what place i of a byte[]'s cell holds -/
def yv (A : Cell) (i : Nat) : Int32 := match A.slots[i]? with | some (.int x) => x | _ => 0
theorem yv_get {a : Addr} {A : Cell} {U : State} (h : XT.Arr .byte a A U) (ht : Typed .byte A) {i : Nat} (hi : i < A.slots.size) : A.slots[i]? = some (.int (yv A i)) := by
  have e := Array.getElem?_eq_getElem hi
  have f := ht i _ e
  unfold yv; rw [e]
  generalize A.slots[i] = v at f
  cases v <;> simp [fits] at f ⊢
/-- the two arrays are equal, place for place -/
def EqC (A B : Cell) : Prop := A.slots.size = B.slots.size ∧ ∀ i, i < A.slots.size → yv A i = yv B i
/-- a boolean that says whether p -/
def Says01 (q : Prop) (r : Option Value) (s u : State) : Prop := ∃ v : Int32, r = some (.int v) ∧ u.heap = s.heap ∧ ((v = 1 ∧ q) ∨ (v = 0 ∧ ¬ q))
theorem Says01.mv {q : Prop} : ∀ r (U U' V V' : State), U'.heap = U.heap → V.vm.Alike V'.vm → V'.heap = V.heap → Says01 q r U V → Says01 q r U' V' :=
  fun r U U' V V' h1 _ h2 ⟨v, a, b, c⟩ => ⟨v, a, by rw [h1, h2]; exact b, c⟩
namespace LEq
def yN : MethodName := ⟨"java/lang/StringLatin1", "equals", "([B[B)Z"⟩
abbrev yB : ByteArray := jdk_43_method_13_code
theorem d0 : decode yB 0 = .ok (.aload_n 0, 1) := by decide +kernel
theorem d1 : decode yB 1 = .ok (.arraylength, 1) := by decide +kernel
theorem d2 : decode yB 2 = .ok (.aload_n 1, 1) := by decide +kernel
theorem d3 : decode yB 3 = .ok (.arraylength, 1) := by decide +kernel
theorem d4 : decode yB 4 = .ok (.if_icmp (.ne) 30, 3) := by decide +kernel
theorem d7 : decode yB 7 = .ok (.iconst 0, 1) := by decide +kernel
theorem d8 : decode yB 8 = .ok (.istore_n 2, 1) := by decide +kernel
theorem d9 : decode yB 9 = .ok (.iload_n 2, 1) := by decide +kernel
theorem d10 : decode yB 10 = .ok (.aload_n 0, 1) := by decide +kernel
theorem d11 : decode yB 11 = .ok (.arraylength, 1) := by decide +kernel
theorem d12 : decode yB 12 = .ok (.if_icmp (.ge) 20, 3) := by decide +kernel
theorem d15 : decode yB 15 = .ok (.aload_n 0, 1) := by decide +kernel
theorem d16 : decode yB 16 = .ok (.iload_n 2, 1) := by decide +kernel
theorem d17 : decode yB 17 = .ok (.baload, 1) := by decide +kernel
theorem d18 : decode yB 18 = .ok (.aload_n 1, 1) := by decide +kernel
theorem d19 : decode yB 19 = .ok (.iload_n 2, 1) := by decide +kernel
theorem d20 : decode yB 20 = .ok (.baload, 1) := by decide +kernel
theorem d21 : decode yB 21 = .ok (.if_icmp (.eq) 5, 3) := by decide +kernel
theorem d24 : decode yB 24 = .ok (.iconst 0, 1) := by decide +kernel
theorem d25 : decode yB 25 = .ok (.ireturn, 1) := by decide +kernel
theorem d26 : decode yB 26 = .ok (.iinc 2 1, 3) := by decide +kernel
theorem d29 : decode yB 29 = .ok (.goto (-20), 3) := by decide +kernel
theorem d32 : decode yB 32 = .ok (.iconst 1, 1) := by decide +kernel
theorem d33 : decode yB 33 = .ok (.ireturn, 1) := by decide +kernel
theorem d34 : decode yB 34 = .ok (.iconst 0, 1) := by decide +kernel
theorem d35 : decode yB 35 = .ok (.ireturn, 1) := by decide +kernel
def site : List Cond := []
def tab : Cond := tabOf yN yB 3 (some .boolean) site
def P (a : Addr) (A : Cell) (b : Addr) (B : Cell) (args : Array Value) (s : State) : Prop := args = #[.ref a, .ref b] ∧ XT.Arr .byte a A s ∧ Typed .byte A ∧ XT.Arr .byte b B s ∧ Typed .byte B
/-- whether two byte[] are equal, place for place -/
theorem law (l : Launch) (a : Addr) (A : Cell) (b : Addr) (B : Cell) : Law l yN 2 2 0 0 yB 3 (some .boolean) site (P a A b B) (Says01 (EqC A B)) [] 0 0 := by
  refine Law.of_walk (plainFor_of_name (by decide +kernel)) (by decide +kernel) (by decide +kernel) (by decide) (fun _ _ h => by rw [h.1]; rfl) (fun _ U U' hal hh h => ⟨h.1, h.2.1.mv hal hh, h.2.2.1, h.2.2.2.1.mv hal hh, h.2.2.2.2⟩) (fun r U U' V V' h1 hal h2 h => Says01.mv r U U' V V' h1 hal h2 h) ?_
  intro p e s m args below meth c s₁ X0 hexec hbytes hml hret hlk hnm hown hh0 W hP
  obtain ⟨rfl, hA, tA, hB, tB⟩ := hP
  have a31 := hA.2.2.2
  have b31 := hB.2.2.2
  have hA0 := hA.mv X0.warmed.alike hh0
  have hB0 := hB.mv X0.warmed.alike hh0
  have c1 : Steps p.tables e below (s₁.setTop (entryFrame m #[.ref a, .ref b] 3)) (s₁.setTop (mkF m 0 #[.val (.ref a), .val (.ref b), .unset] [])) := entry rfl
  have c2 : Steps p.tables e below (s₁.setTop (entryFrame m #[.ref a, .ref b] 3)) (s₁.setTop (mkF m 4 #[.val (.ref a), .val (.ref b), .unset] [.int (Int32.ofNat B.slots.size), .int (Int32.ofNat A.slots.size)])) := c1.trans (by
    refine XS.aloadN X0.here hexec rfl (hb hbytes d0) rfl rfl ?_
    refine X0.alen hexec hA0 rfl rfl (hb hbytes d1) ?_
    refine XS.aloadN X0.here hexec rfl (hb hbytes d2) rfl rfl ?_
    refine X0.alen hexec hB0 rfl rfl (hb hbytes d3) ?_
    exact Steps.refl _)
  by_cases hs : A.slots.size = B.slots.size
  · have c3 : Steps p.tables e below (s₁.setTop (entryFrame m #[.ref a, .ref b] 3)) (s₁.setTop (mkF m 9 #[.val (.ref a), .val (.ref b), .val (.int 0)] [])) := c2.trans (by
      refine XS.icmpNo X0.here hexec rfl (hb hbytes d4) rfl (ii_ne_f (by rw [hs])) ?_
      refine iconstV X0.here hexec rfl 0 (hb hbytes d7) (by decide) ?_
      refine XS.istoreN X0.here hexec rfl (hb hbytes d8) rfl rfl ?_
      exact Steps.refl _)
    have loop : ∀ (r i : Nat), i + r = A.slots.size → (∀ j, j < i → yv A j = yv B j) → Steps p.tables e below (s₁.setTop (entryFrame m #[.ref a, .ref b] 3)) (s₁.setTop (mkF m 9 #[.val (.ref a), .val (.ref b), .val (.int (Int32.ofNat i))] [])) → ∃ (pc : Nat) (Ls : Array Slot) (v : Int32), (pc = 25 ∨ pc = 33) ∧ ((v = 1 ∧ EqC A B) ∨ (v = 0 ∧ ¬ EqC A B)) ∧ Steps p.tables e below (s₁.setTop (entryFrame m #[.ref a, .ref b] 3)) (s₁.setTop (mkF m pc Ls [.int v])) := by
      intro r
      induction r with
      | zero =>
        intro i hi he cl
        exact ⟨33, _, 1, Or.inr rfl, Or.inl ⟨rfl, hs, fun j hj => he j (by omega)⟩, cl.trans (by
          refine XS.iloadN X0.here hexec rfl (hb hbytes d9) rfl ?_
          refine XS.aloadN X0.here hexec rfl (hb hbytes d10) rfl rfl ?_
          refine X0.alen hexec hA0 rfl rfl (hb hbytes d11) ?_
          refine XS.icmpYes X0.here hexec rfl (pc0 := 12) rfl (hb hbytes d12) rfl (ii_ge_t (nlt32 (by omega) (by omega))) (by decide) rfl ?_
          refine iconstV X0.here hexec rfl 1 (hb hbytes d32) (by decide) ?_
          exact Steps.refl _)⟩
      | succ r ih =>
        intro i hi he cl
        have c4 : Steps p.tables e below (s₁.setTop (entryFrame m #[.ref a, .ref b] 3)) (s₁.setTop (mkF m 21 #[.val (.ref a), .val (.ref b), .val (.int (Int32.ofNat i))] [.int (yv B i), .int (yv A i)])) := cl.trans (by
          refine XS.iloadN X0.here hexec rfl (hb hbytes d9) rfl ?_
          refine XS.aloadN X0.here hexec rfl (hb hbytes d10) rfl rfl ?_
          refine X0.alen hexec hA0 rfl rfl (hb hbytes d11) ?_
          refine XS.icmpNo X0.here hexec rfl (hb hbytes d12) rfl (ii_ge_f (lt32 (by omega) (by omega))) ?_
          refine XS.aloadN X0.here hexec rfl (hb hbytes d15) rfl rfl ?_
          refine XS.iloadN X0.here hexec rfl (hb hbytes d16) rfl ?_
          refine X0.aget hexec hA0 rfl (yv_get hA tA (i := i) (by omega)) rfl rfl (hb hbytes d17) ?_
          refine XS.aloadN X0.here hexec rfl (hb hbytes d18) rfl rfl ?_
          refine XS.iloadN X0.here hexec rfl (hb hbytes d19) rfl ?_
          refine X0.aget hexec hB0 rfl (yv_get hB tB (i := i) (by omega)) rfl rfl (hb hbytes d20) ?_
          exact Steps.refl _)
        by_cases hv : yv A i = yv B i
        · have c5 : Steps p.tables e below (s₁.setTop (entryFrame m #[.ref a, .ref b] 3)) (s₁.setTop (mkF m 9 #[.val (.ref a), .val (.ref b), .val (.int (Int32.ofNat i + 1))] [])) := c4.trans (by
            refine XS.icmpYes X0.here hexec rfl (pc0 := 21) rfl (hb hbytes d21) rfl (ii_eq_t hv) (by decide) rfl ?_
            refine iincV X0.here hexec rfl 1 (hb hbytes d26) (by decide) rfl rfl ?_
            refine XS.goto X0.here hexec rfl (pc0 := 29) rfl (hb hbytes d29) (by decide) rfl ?_
            exact Steps.refl _)
          rw [succ32] at c5
          exact ih (i + 1) (by omega) (fun j hj => by
            by_cases e : j = i
            · rw [e]; exact hv
            · exact he j (by omega)) c5
        · exact ⟨25, _, 0, Or.inl rfl, Or.inr ⟨rfl, fun q => hv (q.2 i (by omega))⟩, c4.trans (by
            refine XS.icmpNo X0.here hexec rfl (hb hbytes d21) rfl (ii_eq_f hv) ?_
            refine iconstV X0.here hexec rfl 0 (hb hbytes d24) (by decide) ?_
            exact Steps.refl _)⟩
    obtain ⟨pc, Ls, v, hpc, hv, cz⟩ := loop A.slots.size 0 (by omega) (fun j hj => absurd hj (Nat.not_lt_zero j)) c3
    have nv : narrow .boolean (.int v) = .int v := by rcases hv with ⟨rfl, -⟩ | ⟨rfl, -⟩ <;> rfl
    rcases hpc with rfl | rfl
    · exact ⟨s₁, some (.int v), _, _, _, X0, rfl, rfl, rfl, (fun h => by cases h), ⟨v, rfl, hh0, hv⟩, fun fs hl => cz.trans (X0.ireturnOut hexec hret nv (Or.inr (Or.inl rfl)) (hb hbytes d25) hl)⟩
    · exact ⟨s₁, some (.int v), _, _, _, X0, rfl, rfl, rfl, (fun h => by cases h), ⟨v, rfl, hh0, hv⟩, fun fs hl => cz.trans (X0.ireturnOut hexec hret nv (Or.inr (Or.inl rfl)) (hb hbytes d33) hl)⟩
  · have c3 : Steps p.tables e below (s₁.setTop (entryFrame m #[.ref a, .ref b] 3)) (s₁.setTop (mkF m 35 #[.val (.ref a), .val (.ref b), .unset] [.int 0])) := c2.trans (by
      refine XS.icmpYes X0.here hexec rfl (pc0 := 4) rfl (hb hbytes d4) rfl (ii_ne_t (ne32 a31 b31 hs)) (by decide) rfl ?_
      refine iconstV X0.here hexec rfl 0 (hb hbytes d34) (by decide) ?_
      exact Steps.refl _)
    exact ⟨s₁, some (.int 0), _, _, _, X0, rfl, rfl, rfl, (fun h => by cases h), ⟨0, rfl, hh0, Or.inr ⟨rfl, fun q => hs q.1⟩⟩, fun fs hl => c3.trans (X0.ireturnOut hexec hret rfl (Or.inr (Or.inl rfl)) (hb hbytes d35) hl)⟩
end LEq
theorem Cod.ty {cd : Int32} {n : Nat} {f : Nat → Int32} {V : Cell} (h : Cod cd n f V) : Typed .byte V := fun i v hv => by
  have hi : i < V.slots.size := (Array.getElem?_eq_some_iff.mp hv).1
  rcases h with ⟨-, k1, k2⟩ | ⟨-, k1, k2, -⟩
  · rw [(k2 i (by omega)).1] at hv; cases hv; exact fits_lo8 _
  · rcases Nat.mod_two_eq_zero_or_one i with e | e
    · obtain ⟨j, rfl⟩ : ∃ j, i = 2 * j := ⟨i / 2, by omega⟩
      rw [(k2 j (by omega)).1] at hv; cases hv; exact fits_lo8 _
    · obtain ⟨j, rfl⟩ : ∃ j, i = 2 * j + 1 := ⟨i / 2, by omega⟩
      rw [(k2 j (by omega)).2] at hv; cases hv; exact fits_lo8 _
/-- the same text -/
def SameT (n : Nat) (f : Nat → Int32) (k : Nat) (g : Nat → Int32) : Prop := n = k ∧ ∀ j, j < n → f j = g j
theorem lo8_inj {x y : Int32} (h0 : ¬ x < 0) (h1 : ¬ 255 < x) (k0 : ¬ y < 0) (k1 : ¬ 255 < y) (h : lo8 x = lo8 y) : x = y := by
  rw [← lo8_mask h0 h1, ← lo8_mask k0 k1, h]
/-- arrays coded by one coder are equal just where the texts are -/
theorem Cod.eqv {cd : Int32} {n k : Nat} {f g : Nat → Int32} {V V' : Cell} (h : Cod cd n f V) (h' : Cod cd k g V') (hf : ∀ j, j < n → ¬ f j < 0 ∧ ¬ 65535 < f j) (hg : ∀ j, j < k → ¬ g j < 0 ∧ ¬ 65535 < g j) : EqC V V' ↔ SameT n f k g := by
  have yvv : ∀ {W : Cell} {i : Nat} {x : Int32}, W.slots[i]? = some (.int x) → yv W i = x := fun q => by unfold yv; rw [q]
  rcases h with ⟨rfl, k1, k2⟩ | ⟨rfl, k1, k2, -⟩
  · rcases h' with ⟨-, m1, m2⟩ | ⟨e, -⟩
    · constructor
      · rintro ⟨e1, e2⟩
        refine ⟨by omega, fun j hj => ?_⟩
        have q := e2 j (by omega)
        rw [yvv (k2 j hj).1, yvv (m2 j (by omega)).1] at q
        exact lo8_inj (hf j hj).1 (k2 j hj).2 (hg j (by omega)).1 (m2 j (by omega)).2 q
      · rintro ⟨rfl, e2⟩
        refine ⟨by omega, fun j hj => ?_⟩
        rw [yvv (k2 j (by omega)).1, yvv (m2 j (by omega)).1, e2 j (by omega)]
    · exact absurd e (by decide)
  · rcases h' with ⟨e, -⟩ | ⟨-, m1, m2, -⟩
    · exact absurd e (by decide)
    · constructor
      · rintro ⟨e1, e2⟩
        refine ⟨by omega, fun j hj => ?_⟩
        have q1 := e2 (2 * j) (by omega)
        have q2 := e2 (2 * j + 1) (by omega)
        rw [yvv (k2 j hj).1, yvv (m2 j (by omega)).1] at q1
        rw [yvv (k2 j hj).2, yvv (m2 j (by omega)).2] at q2
        rw [← pair_says (hf j hj).1 (hf j hj).2, ← pair_says (hg j (by omega)).1 (hg j (by omega)).2, q1, q2]
      · rintro ⟨rfl, e2⟩
        refine ⟨by omega, fun i hi => ?_⟩
        rcases Nat.mod_two_eq_zero_or_one i with e | e
        · obtain ⟨j, rfl⟩ : ∃ j, i = 2 * j := ⟨i / 2, by omega⟩
          rw [yvv (k2 j (by omega)).1, yvv (m2 j (by omega)).1, e2 j (by omega)]
        · obtain ⟨j, rfl⟩ : ∃ j, i = 2 * j + 1 := ⟨i / 2, by omega⟩
          rw [yvv (k2 j (by omega)).2, yvv (m2 j (by omega)).2, e2 j (by omega)]
/-- two codings differ: so do the texts -/
theorem Cod.dif {cd cd' : Int32} {n k : Nat} {f g : Nat → Int32} {V V' : Cell} (h : Cod cd n f V) (h' : Cod cd' k g V') (hne : ¬ cd = cd') : ¬ SameT n f k g := by
  rintro ⟨rfl, e⟩
  rcases h with ⟨rfl, -, k2⟩ | ⟨rfl, -, -, j, hj, hw⟩
  · rcases h' with ⟨rfl, -⟩ | ⟨-, -, -, j, hj, hw⟩
    · exact hne rfl
    · exact (k2 j hj).2 (by rw [e j hj]; exact hw)
  · rcases h' with ⟨-, -, m2⟩ | ⟨rfl, -⟩
    · exact (m2 j hj).2 (by rw [← e j hj]; exact hw)
    · exact hne rfl
/-- an object of exactly C is an instance of C -/
theorem cinst {p : Program} {l : Launch} {e : Env} {R : Room} {s : State} {m : MethodId} {args : Array Value} {below : List Frame} {meth : Method} {c : Code} {T : State} {locs : List Loc} {cells slots : Nat} (X : Stand p l e R s m args below meth c T locs cells slots) (hexec : p.tables.exec = Jvm.exec) {own C : String} {index : Nat} (hown : s.vm.findClass own = some m.cls) (hlink : (Cond.classLink own index C).before args s = true) {a : Addr} (hE : Exact C a T)
    {g : JFrame} (hg : g.method = m) {rest : List Value} (hstack : g.stack = .ref a :: rest) (hdg : decode c.code g.pc = .ok (.instanceof index, 3)) :
    ∃ T', Stand p l e R s m args below meth c T' locs cells slots ∧ T'.heap = T.heap ∧ ∀ target, Steps p.tables e below (T'.setTop { g with pc := g.pc + 3, stack := .int 1 :: rest }) target → Steps p.tables e below (T.setTop g) target := by
  obtain ⟨cB, h1, D, h2, h3, h4⟩ := hE
  have h1' : s.vm.findClass C = some cB := by rw [← X.warmed.alike.findClass]; exact h1
  obtain ⟨vm', X', st⟩ := X.instanceofYes hexec hown hlink h2 h4 h1' (by rw [h3]; exact Jvm.Free.SB.assignable_self _ _) hg hstack hdg
  exact ⟨_, X', rfl, st⟩
theorem cself {p : Program} {l : Launch} {e : Env} {R : Room} {s : State} {m : MethodId} {args : Array Value} {below : List Frame} {meth : Method} {c : Code} {T : State} {locs : List Loc} {cells slots : Nat} (X : Stand p l e R s m args below meth c T locs cells slots) (hexec : p.tables.exec = Jvm.exec) {own C : String} {index : Nat} (hown : s.vm.findClass own = some m.cls) (hlink : (Cond.classLink own index C).before args s = true) {a : Addr} (hE : Exact C a T)
    {g : JFrame} (hg : g.method = m) {rest : List Value} (hstack : g.stack = .ref a :: rest) (hdg : decode c.code g.pc = .ok (.checkcast index, 3)) :
    ∃ T', Stand p l e R s m args below meth c T' locs cells slots ∧ T'.heap = T.heap ∧ ∀ target, Steps p.tables e below (T'.setTop { g with pc := g.pc + 3, stack := .ref a :: rest }) target → Steps p.tables e below (T.setTop g) target := by
  obtain ⟨cB, h1, D, h2, h3, h4⟩ := hE
  have h1' : s.vm.findClass C = some cB := by rw [← X.warmed.alike.findClass]; exact h1
  obtain ⟨vm', X', st⟩ := X.checkcastYes hexec hown hlink h2 h4 h1' (by rw [h3]; exact Jvm.Free.SB.assignable_self _ _) hg hstack hdg
  exact ⟨_, X', rfl, fun t h => st t (by rw [← hstack] at h; exact h)⟩
namespace SEq
def yN : MethodName := ⟨"java/lang/String", "equals", "(Ljava/lang/Object;)Z"⟩
abbrev yB : ByteArray := jdk_42_method_66_code
theorem d0 : decode yB 0 = .ok (.aload_n 0, 1) := by decide +kernel
theorem d1 : decode yB 1 = .ok (.aload_n 1, 1) := by decide +kernel
theorem d2 : decode yB 2 = .ok (.if_acmp (.ne) 5, 3) := by decide +kernel
theorem d5 : decode yB 5 = .ok (.iconst 1, 1) := by decide +kernel
theorem d6 : decode yB 6 = .ok (.ireturn, 1) := by decide +kernel
theorem d7 : decode yB 7 = .ok (.aload_n 1, 1) := by decide +kernel
theorem d8 : decode yB 8 = .ok (.instanceof 10, 3) := by decide +kernel
theorem d11 : decode yB 11 = .ok (.ifCond (.eq) 43, 3) := by decide +kernel
theorem d14 : decode yB 14 = .ok (.aload_n 1, 1) := by decide +kernel
theorem d15 : decode yB 15 = .ok (.checkcast 10, 3) := by decide +kernel
theorem d18 : decode yB 18 = .ok (.astore_n 2, 1) := by decide +kernel
theorem d19 : decode yB 19 = .ok (.getstatic 38, 3) := by decide +kernel
theorem d22 : decode yB 22 = .ok (.ifCond (.eq) 14, 3) := by decide +kernel
theorem d25 : decode yB 25 = .ok (.aload_n 0, 1) := by decide +kernel
theorem d26 : decode yB 26 = .ok (.getfield 15, 3) := by decide +kernel
theorem d29 : decode yB 29 = .ok (.aload_n 2, 1) := by decide +kernel
theorem d30 : decode yB 30 = .ok (.getfield 15, 3) := by decide +kernel
theorem d33 : decode yB 33 = .ok (.if_icmp (.ne) 21, 3) := by decide +kernel
theorem d36 : decode yB 36 = .ok (.aload_n 0, 1) := by decide +kernel
theorem d37 : decode yB 37 = .ok (.getfield 9, 3) := by decide +kernel
theorem d40 : decode yB 40 = .ok (.aload_n 2, 1) := by decide +kernel
theorem d41 : decode yB 41 = .ok (.getfield 9, 3) := by decide +kernel
theorem d44 : decode yB 44 = .ok (.invokestatic 541, 3) := by decide +kernel
theorem d47 : decode yB 47 = .ok (.ifCond (.eq) 7, 3) := by decide +kernel
theorem d50 : decode yB 50 = .ok (.iconst 1, 1) := by decide +kernel
theorem d51 : decode yB 51 = .ok (.goto 4, 3) := by decide +kernel
theorem d54 : decode yB 54 = .ok (.iconst 0, 1) := by decide +kernel
theorem d55 : decode yB 55 = .ok (.ireturn, 1) := by decide +kernel
def site : List Cond := [.classLink "java/lang/String" 10 "java/lang/String", .fieldLink "java/lang/String" 38 "java/lang/String" "COMPACT_STRINGS" "Z", .fieldLink "java/lang/String" 15 "java/lang/String" "coder" "B", .fieldLink "java/lang/String" 9 "java/lang/String" "value" "[B", LEq.tab] ++ staticW "java/lang/String" 541 LEq.yN
def tab : Cond := tabOf yN yB 3 (some .boolean) site
def P (x t : Addr) (V : Cell) (cd : Int32) (n : Nat) (f : Nat → Int32) (y t' : Addr) (V' : Cell) (cd' : Int32) (k : Nat) (g : Nat → Int32) (z : Int32) (args : Array Value) (s : State) : Prop := args = #[.ref x, .ref y] ∧ Txt x t V cd n f s ∧ Txt y t' V' cd' k g s ∧ StaticIs s "java/lang/String" "COMPACT_STRINGS" "Z" (.int z) ∧ ¬ z = 0
/-- equals(Object) of two Strings: whether the texts are the same -/
theorem law (l : Launch) (x t : Addr) (V : Cell) (cd : Int32) (n : Nat) (f : Nat → Int32) (y t' : Addr) (V' : Cell) (cd' : Int32) (k : Nat) (g : Nat → Int32) (z : Int32) : Law l yN 2 1 1 14 yB 3 (some .boolean) site (P x t V cd n f y t' V' cd' k g z) (Says01 (SameT n f k g)) [] 0 0 := by
  refine Law.of_walk (plainFor_of_name (by decide +kernel)) (by decide +kernel) (by decide +kernel) (by decide) (fun _ _ h => by rw [h.1]; rfl) (fun _ U U' hal hh h => ⟨h.1, h.2.1.mv hal hh, h.2.2.1.mv hal hh, h.2.2.2.1.there hal hh, h.2.2.2.2⟩) (fun r U U' V V' h1 hal h2 h => Says01.mv r U U' V V' h1 hal h2 h) ?_
  intro p e s m args below meth c s₁ X0 hexec hbytes hml hret hlk hnm hown hh0 W hP
  obtain ⟨rfl, hx, hy, s1, hz⟩ := hP
  have c1 : Steps p.tables e below (s₁.setTop (entryFrame m #[.ref x, .ref y] 3)) (s₁.setTop (mkF m 2 #[.val (.ref x), .val (.ref y), .unset] [.ref y, .ref x])) := Steps.trans (entry rfl) (by
    show Steps p.tables e below (s₁.setTop (mkF m 0 #[.val (.ref x), .val (.ref y), .unset] [])) _
    refine XS.aloadN X0.here hexec rfl (hb hbytes d0) rfl rfl ?_
    refine XS.aloadN X0.here hexec rfl (hb hbytes d1) rfl rfl ?_
    exact Steps.refl _)
  by_cases hxy : x = y
  · have c2 : Steps p.tables e below (s₁.setTop (entryFrame m #[.ref x, .ref y] 3)) (s₁.setTop (mkF m 6 #[.val (.ref x), .val (.ref y), .unset] [.int 1])) := c1.trans (by
      refine acmpNo X0.here hexec rfl (hb hbytes d2) rfl rfl rfl (by simp [acmp, hxy]) ?_
      refine iconstV X0.here hexec rfl 1 (hb hbytes d5) (by decide) ?_
      exact Steps.refl _)
    subst hxy
    have ec : cd = cd' := by
      obtain ⟨D, fd, a1, a2, a3⟩ := hx.2.2.1
      obtain ⟨D', fd', b1, b2, b3⟩ := hy.2.2.1
      cases a1.symm.trans b1
      obtain ⟨q1, q2, q3, q4⟩ := a2.1
      obtain ⟨r1, r2, r3, r4⟩ := b2.1
      cases q4.symm.trans r4
      cases a3.symm.trans b3; rfl
    have et : t = t' := by
      obtain ⟨D, fd, a1, a2, a3⟩ := hx.2.1
      obtain ⟨D', fd', b1, b2, b3⟩ := hy.2.1
      cases a1.symm.trans b1
      obtain ⟨q1, q2, q3, q4⟩ := a2.1
      obtain ⟨r1, r2, r3, r4⟩ := b2.1
      cases q4.symm.trans r4
      cases a3.symm.trans b3; rfl
    subst ec et
    have ev : V = V' := by cases hx.2.2.2.1.1.symm.trans hy.2.2.2.1.1; rfl
    subst ev
    have hs : SameT n f k g := (Cod.eqv hx.2.2.2.2.1 hy.2.2.2.2.1 hx.2.2.2.2.2 hy.2.2.2.2.2).mp ⟨rfl, fun _ _ => rfl⟩
    exact ⟨s₁, some (.int 1), _, _, _, X0, rfl, rfl, rfl, (fun h => by cases h), ⟨1, rfl, hh0, Or.inl ⟨rfl, hs⟩⟩, fun fs hl => c2.trans (X0.ireturnOut hexec hret rfl (Or.inr (Or.inl rfl)) (hb hbytes d6) hl)⟩
  · have c2 : Steps p.tables e below (s₁.setTop (entryFrame m #[.ref x, .ref y] 3)) (s₁.setTop (mkF m 8 #[.val (.ref x), .val (.ref y), .unset] [.ref y])) := c1.trans (by
      refine acmpYes X0.here hexec rfl (pc0 := 2) rfl (hb hbytes d2) rfl rfl rfl (by simp [acmp, hxy]) (by decide) rfl ?_
      refine XS.aloadN X0.here hexec rfl (hb hbytes d7) rfl rfl ?_
      exact Steps.refl _)
    obtain ⟨T3, X3, q3, st3⟩ := cinst X0 hexec hown (wk W (.classLink "java/lang/String" 10 "java/lang/String")) (hy.mv X0.warmed.alike hh0).1 (g := (mkF m 8 #[.val (.ref x), .val (.ref y), .unset] [.ref y])) rfl (rest := []) rfl (hb hbytes d8)
    have hh3 := q3.trans hh0
    have c4 : Steps p.tables e below (s₁.setTop (entryFrame m #[.ref x, .ref y] 3)) (T3.setTop (mkF m 15 #[.val (.ref x), .val (.ref y), .unset] [.ref y])) := (c2.trans (st3 _ (Steps.refl _))).trans (by
      refine XS.ifNo X3.here hexec rfl (hb hbytes d11) rfl (i0_eq_f (by decide)) ?_
      refine XS.aloadN X3.here hexec rfl (hb hbytes d14) rfl rfl ?_
      exact Steps.refl _)
    obtain ⟨T5, X5, q5, st5⟩ := cself X3 hexec hown (wk W (.classLink "java/lang/String" 10 "java/lang/String")) (hy.mv X3.warmed.alike hh3).1 (g := (mkF m 15 #[.val (.ref x), .val (.ref y), .unset] [.ref y])) rfl (rest := []) rfl (hb hbytes d15)
    have hh5 := q5.trans hh3
    have c6 : Steps p.tables e below (s₁.setTop (entryFrame m #[.ref x, .ref y] 3)) (T5.setTop (mkF m 19 #[.val (.ref x), .val (.ref y), .val (.ref y)] [])) := (c4.trans (st5 _ (Steps.refl _))).trans (by
      refine XS.astoreN X5.here hexec rfl (hb hbytes d18) rfl rfl rfl ?_
      exact Steps.refl _)
    obtain ⟨T7, X7, q7, st7⟩ := X5.sget hexec hown (wk W (.fieldLink "java/lang/String" 38 "java/lang/String" "COMPACT_STRINGS" "Z")) s1 (fun _ _ h => by rw [hh5]; exact h) (g := (mkF m 19 #[.val (.ref x), .val (.ref y), .val (.ref y)] [])) rfl (hb hbytes d19)
    have hh7 := q7.trans hh5
    have c8 : Steps p.tables e below (s₁.setTop (entryFrame m #[.ref x, .ref y] 3)) (T7.setTop (mkF m 26 #[.val (.ref x), .val (.ref y), .val (.ref y)] [.ref x])) := (c6.trans (st7 _ (Steps.refl _))).trans (by
      refine XS.ifNo X7.here hexec rfl (hb hbytes d22) rfl (i0_eq_f hz) ?_
      refine XS.aloadN X7.here hexec rfl (hb hbytes d25) rfl rfl ?_
      exact Steps.refl _)
    obtain ⟨T9, X9, q9, st9⟩ := X7.hget hexec hown (wk W (.fieldLink "java/lang/String" 15 "java/lang/String" "coder" "B")) (hx.mv X7.warmed.alike hh7).2.2.1 (g := (mkF m 26 #[.val (.ref x), .val (.ref y), .val (.ref y)] [.ref x])) rfl (rest := []) rfl (hb hbytes d26)
    have hh9 := q9.trans hh7
    have c10 : Steps p.tables e below (s₁.setTop (entryFrame m #[.ref x, .ref y] 3)) (T9.setTop (mkF m 30 #[.val (.ref x), .val (.ref y), .val (.ref y)] [.ref y, .int cd])) := (c8.trans (st9 _ (Steps.refl _))).trans (by
      refine XS.aloadN X9.here hexec rfl (hb hbytes d29) rfl rfl ?_
      exact Steps.refl _)
    obtain ⟨T11, X11, q11, st11⟩ := X9.hget hexec hown (wk W (.fieldLink "java/lang/String" 15 "java/lang/String" "coder" "B")) (hy.mv X9.warmed.alike hh9).2.2.1 (g := (mkF m 30 #[.val (.ref x), .val (.ref y), .val (.ref y)] [.ref y, .int cd])) rfl (rest := [.int cd]) rfl (hb hbytes d30)
    have hh11 := q11.trans hh9
    have c12 : Steps p.tables e below (s₁.setTop (entryFrame m #[.ref x, .ref y] 3)) (T11.setTop (mkF m 33 #[.val (.ref x), .val (.ref y), .val (.ref y)] [.int cd', .int cd])) := c10.trans (st11 _ (Steps.refl _))
    by_cases hcd : cd = cd'
    · subst hcd
      have c13 : Steps p.tables e below (s₁.setTop (entryFrame m #[.ref x, .ref y] 3)) (T11.setTop (mkF m 37 #[.val (.ref x), .val (.ref y), .val (.ref y)] [.ref x])) := c12.trans (by
        refine XS.icmpNo X11.here hexec rfl (hb hbytes d33) rfl (ii_ne_f rfl) ?_
        refine XS.aloadN X11.here hexec rfl (hb hbytes d36) rfl rfl ?_
        exact Steps.refl _)
      obtain ⟨T14, X14, q14, st14⟩ := X11.hget hexec hown (wk W (.fieldLink "java/lang/String" 9 "java/lang/String" "value" "[B")) (hx.mv X11.warmed.alike hh11).2.1 (g := (mkF m 37 #[.val (.ref x), .val (.ref y), .val (.ref y)] [.ref x])) rfl (rest := []) rfl (hb hbytes d37)
      have hh14 := q14.trans hh11
      have c15 : Steps p.tables e below (s₁.setTop (entryFrame m #[.ref x, .ref y] 3)) (T14.setTop (mkF m 41 #[.val (.ref x), .val (.ref y), .val (.ref y)] [.ref y, .ref t])) := (c13.trans (st14 _ (Steps.refl _))).trans (by
        refine XS.aloadN X14.here hexec rfl (hb hbytes d40) rfl rfl ?_
        exact Steps.refl _)
      obtain ⟨T16, X16, q16, st16⟩ := X14.hget hexec hown (wk W (.fieldLink "java/lang/String" 9 "java/lang/String" "value" "[B")) (hy.mv X14.warmed.alike hh14).2.1 (g := (mkF m 41 #[.val (.ref x), .val (.ref y), .val (.ref y)] [.ref y, .ref t])) rfl (rest := [.ref t]) rfl (hb hbytes d41)
      have hh16 := q16.trans hh14
      have c17 : Steps p.tables e below (s₁.setTop (entryFrame m #[.ref x, .ref y] 3)) (T16.setTop (mkF m 44 #[.val (.ref x), .val (.ref y), .val (.ref y)] [.ref t', .ref t])) := c15.trans (st16 _ (Steps.refl _))
      obtain ⟨v18, T18, X18, E18, g18⟩ := X16.callS hexec (LEq.law l t V t' V') hown (wks W (staticW "java/lang/String" 541 LEq.yN)) (wk W LEq.tab) (W := 0) (Nat.le_of_ble_eq_true rfl) (Nat.le_of_ble_eq_true rfl) (Nat.le_refl _) (Nat.le_refl _) (g := (mkF m 44 #[.val (.ref x), .val (.ref y), .val (.ref y)] [.ref t', .ref t])) rfl (by rw [hml]; rfl) c17 (argsL := [.ref t, .ref t']) (rest := []) rfl rfl (by show 2 * 0 + 0 ≤ _; decide) (hb hbytes d44) (⟨rfl, hx.2.2.2.1.mv X16.warmed.alike hh16, hx.2.2.2.2.1.ty, hy.2.2.2.1.mv X16.warmed.alike hh16, hy.2.2.2.2.1.ty⟩)
      obtain ⟨v, rfl, q18, hv⟩ := E18
      have iff := Cod.eqv hx.2.2.2.2.1 hy.2.2.2.2.1 hx.2.2.2.2.2 hy.2.2.2.2.2
      rcases hv with ⟨rfl, he⟩ | ⟨rfl, he⟩
      · have c19 : Steps p.tables e below (s₁.setTop (entryFrame m #[.ref x, .ref y] 3)) (T18.setTop (mkF m 55 #[.val (.ref x), .val (.ref y), .val (.ref y)] [.int 1])) := Steps.trans g18 (by
          refine XS.ifNo X18.here hexec rfl (hb hbytes d47) rfl (i0_eq_f (by decide)) ?_
          refine iconstV X18.here hexec rfl 1 (hb hbytes d50) (by decide) ?_
          refine XS.goto X18.here hexec rfl (pc0 := 51) rfl (hb hbytes d51) (by decide) rfl ?_
          exact Steps.refl _)
        exact ⟨T18, some (.int 1), _, _, _, X18, rfl, rfl, rfl, (fun h => by cases h), ⟨1, rfl, q18.trans hh16, Or.inl ⟨rfl, iff.mp he⟩⟩, fun fs hl => c19.trans (X18.ireturnOut hexec hret rfl (Or.inr (Or.inl rfl)) (hb hbytes d55) hl)⟩
      · have c19 : Steps p.tables e below (s₁.setTop (entryFrame m #[.ref x, .ref y] 3)) (T18.setTop (mkF m 55 #[.val (.ref x), .val (.ref y), .val (.ref y)] [.int 0])) := Steps.trans g18 (by
          refine XS.ifYes X18.here hexec rfl (pc0 := 47) rfl (hb hbytes d47) rfl (i0_eq_t rfl) (by decide) rfl ?_
          refine iconstV X18.here hexec rfl 0 (hb hbytes d54) (by decide) ?_
          exact Steps.refl _)
        exact ⟨T18, some (.int 0), _, _, _, X18, rfl, rfl, rfl, (fun h => by cases h), ⟨0, rfl, q18.trans hh16, Or.inr ⟨rfl, fun q => he (iff.mpr q)⟩⟩, fun fs hl => c19.trans (X18.ireturnOut hexec hret rfl (Or.inr (Or.inl rfl)) (hb hbytes d55) hl)⟩
    · have c13 : Steps p.tables e below (s₁.setTop (entryFrame m #[.ref x, .ref y] 3)) (T11.setTop (mkF m 55 #[.val (.ref x), .val (.ref y), .val (.ref y)] [.int 0])) := c12.trans (by
        refine XS.icmpYes X11.here hexec rfl (pc0 := 33) rfl (hb hbytes d33) rfl (ii_ne_t hcd) (by decide) rfl ?_
        refine iconstV X11.here hexec rfl 0 (hb hbytes d54) (by decide) ?_
        exact Steps.refl _)
      exact ⟨T11, some (.int 0), _, _, _, X11, rfl, rfl, rfl, (fun h => by cases h), ⟨0, rfl, hh11, Or.inr ⟨rfl, Cod.dif hx.2.2.2.2.1 hy.2.2.2.2.1 hcd⟩⟩, fun fs hl => c13.trans (X11.ireturnOut hexec hret rfl (Or.inr (Or.inl rfl)) (hb hbytes d55) hl)⟩
theorem pays {l : Launch} {R : Room} {p : Program} {e : Env} {below : List Frame} {s : State} {sargs : Array Value} {len W : Nat} (x t : Addr) (V : Cell) (cd : Int32) (n : Nat) (f : Nat → Int32) (y t' : Addr) (V' : Cell) (cd' : Int32) (k : Nat) (g : Nat → Int32) (z : Int32) (htab : tab.before sargs s = true) (hfr : 2 ≤ R.frames) (hlo : W + 28 ≤ R.locals) :
    Back l R p e below s sargs yN len W (fun A₁ a₁ => A₁.cells + 0 ≤ R.cells ∧ A₁.slots + 0 ≤ R.slots ∧ P x t V cd n f y t' V' cd' k g z a₁ A₁.U) (fun A₁ _ v₁ B₁ => Says01 (SameT n f k g) v₁ A₁.U B₁.U ∧ B₁.locs = A₁.locs ++ [] ∧ B₁.cells = A₁.cells + 0 ∧ B₁.slots = A₁.slots + 0) :=
  (law l x t V cd n f y t' V' cd' k g z).pays htab hfr (by omega)
end SEq
end StrChars
namespace StrChars.Road
open Jvm Sem ClassFile Op Lib Jvm.Stand Jvm.Free Jvm.Free.XT
open Jvm.Lib.Cold (StaticIs)
/-- the words of String.equals(Object) -/
abbrev wordsEq : List Jvm.Cond := [.code SEq.yN SEq.yB 3 (some .boolean), .initialized ST, .classLink ST 10 ST, .fieldLink ST 38 ST "COMPACT_STRINGS" "Z", .fieldLink ST 15 ST "coder" "B", .fieldLink ST 9 ST "value" "[B", .methodLink ST 541 LEq.yN, .static LEq.yN, .code LEq.yN LEq.yB 3 (some .boolean), .initialized "java/lang/StringLatin1"]
theorem tabEq_of {a : Array Value} {s : State} (h : ∀ w ∈ wordsEq, w.before a s = true) : SEq.tab.before a s = true := by
  have hl : LEq.tab.before a s = true := unparts (wk h (.code LEq.yN LEq.yB 3 (some .boolean))) (wks h (.initialized LEq.yN.cls :: LEq.site))
  have q := consq hl h
  exact unparts (wk q (.code SEq.yN SEq.yB 3 (some .boolean))) (wks q (.initialized SEq.yN.cls :: SEq.site))
theorem movedEq {Z s : State} {a0 args : Array Value} (hZ : Z.Warmed39 s.vm) (hw : ∀ d ∈ wordsEq, d.before a0 Z = true) : ∀ d ∈ wordsEq, d.before args s = true := fun d hd => by
  have t : ∀ d ∈ wordsEq, (d.onTables && d.keepsFace) = true := by decide +kernel
  exact RoadKit.mv hZ (hw d hd) (t d hd)
/-- the road's facts of a String, as the laws ask it -/
theorem txt_of {Z U : State} {a0 : Array Value} {kI : Nat} (wi : (Jvm.Cond.instantiable ST kI).before a0 Z = true) (al : Z.vm.Alike U.vm) {x t : Addr} {kb : ClassId} {cs : List Int32} {cd N2 : Int32} {vs : List Value} (E : RoadKit.Exa Z U.heap x ST) (V : RoadKit.Fld Z U.heap x ST "value" "[B" (.ref t)) (C : RoadKit.Fld Z U.heap x ST "coder" "B" (.int cd)) (K : RoadKit.Arv Z U.heap t kb .byte N2 vs (.int 0)) (hc : CodA cs cd N2 vs) (hb : ∀ c ∈ cs, ¬ c < 0 ∧ ¬ (65535 : Int32) < c) (l2 : cs.length ≤ 4000) :
    ∃ A, Txt x t A cd cs.length (fun j => cs.getD j 0) U := by
  obtain ⟨A, K1, K2, K3, K4, K5, K6⟩ := K
  have hcod := hc.cod (by omega) K3 K5
  obtain ⟨D, fV, fC, hB, F1, F2, g1, g2, -, -⟩ := strObj wi al E V C
  exact ⟨A, ⟨_, hB.2.2.1, D, hB.1, rfl, by cases q : D.vm <;> first | rfl | exact absurd q (hB.2.1.2 _)⟩, Has.of hB F1 g1, Has.of hB F2 g2, ⟨K1.1, State.isArrayOf_alike al K1.2.1, K1.2.2, by rcases hcod with ⟨-, q, -⟩ | ⟨-, q, -⟩ <;> omega⟩, hcod, fun j hj => by
    have e : cs.getD j 0 = cs[j] := by simp [List.getD_eq_getElem?_getD, hj]
    show ¬ cs.getD j 0 < 0 ∧ ¬ 65535 < cs.getD j 0
    rw [e]; exact hb _ (List.getElem_mem _)⟩
theorem same_list (cs ds : List Int32) : SameT cs.length (fun j => cs.getD j 0) ds.length (fun j => ds.getD j 0) ↔ cs = ds := by
  constructor
  · rintro ⟨e, q⟩
    refine List.ext_getElem e fun j h1 h2 => ?_
    have := q j h1
    simpa [List.getD_eq_getElem?_getD, h1, h2] using this
  · rintro rfl
    exact ⟨rfl, fun _ _ => rfl⟩
/-- **equals(Object) OF TWO SUCH STRINGS**: 1 just where the chars are the same -/
theorem eqW {p : Program} {l : Launch} {e : Env} {R : Room} {s : State} {args : Array Value} {below : List Frame} {len W : Nat} {Z : State} {a0 : Array Value} {h : Heap} (hZ : Z.Warmed39 s.vm) (hw : ∀ d ∈ wordsEq, d.before a0 Z = true) {kI : Nat} (wi : (Jvm.Cond.instantiable ST kI).before a0 Z = true)
    {x t : Addr} {kb : ClassId} {cs : List Int32} {cd N2 : Int32} {vs : List Value} (E : RoadKit.Exa Z h x ST) (V : RoadKit.Fld Z h x ST "value" "[B" (.ref t)) (C : RoadKit.Fld Z h x ST "coder" "B" (.int cd)) (K : RoadKit.Arv Z h t kb .byte N2 vs (.int 0)) (hc : CodA cs cd N2 vs) (hb : ∀ c ∈ cs, ¬ c < 0 ∧ ¬ (65535 : Int32) < c) (l2 : cs.length ≤ 4000)
    {y t' : Addr} {kb' : ClassId} {ds : List Int32} {cd' N2' : Int32} {vs' : List Value} (E' : RoadKit.Exa Z h y ST) (V' : RoadKit.Fld Z h y ST "value" "[B" (.ref t')) (C' : RoadKit.Fld Z h y ST "coder" "B" (.int cd')) (K' : RoadKit.Arv Z h t' kb' .byte N2' vs' (.int 0)) (hc' : CodA ds cd' N2' vs') (hb' : ∀ c ∈ ds, ¬ c < 0 ∧ ¬ (65535 : Int32) < c) (l2' : ds.length ≤ 4000)
    {z : Int32} (S : RoadKit.Sta Z h ST "COMPACT_STRINGS" "Z" (.int z)) (hz : ¬ z = 0) (hfr : 2 ≤ R.frames) (hlo : W + 28 ≤ R.locals) :
    Back l R p e below s args (⟨"java/lang/String", "equals", "(Ljava/lang/Object;)Z"⟩ : MethodName) len W (fun P a => a = #[.ref x, .ref y] ∧ P.U.heap = h ∧ P.cells + 0 ≤ R.cells ∧ P.slots + 0 ≤ R.slots)
      (fun P _ v B => ∃ L, (((v = some (.int 1) ∧ cs = ds) ∨ (v = some (.int 0) ∧ ¬ cs = ds)) ∧ L = [] ∧ B.U.heap = h) ∧ B.locs = P.locs ++ L ∧ B.cells = P.cells + 0 ∧ B.slots = P.slots + 0) := by
  intro m meth c P g ig mk a X hg hsize hdg hW hn hp'
  obtain ⟨rfl, rfl, r1, r2⟩ := hp'
  have al : Z.vm.Alike P.U.vm := hZ.alike.trans X.warmed.alike
  obtain ⟨A, hx⟩ := txt_of wi al E V C K hc hb l2
  obtain ⟨A', hy⟩ := txt_of wi al E' V' C' K' hc' hb' l2'
  obtain ⟨v, B, X', ⟨⟨w, hv, hh, hq⟩, hl, hk, hs⟩, st⟩ := SEq.pays x t A cd cs.length (fun j => cs.getD j 0) y t' A' cd' ds.length (fun j => ds.getD j 0) z (tabEq_of (movedEq hZ hw)) hfr hlo m meth c P g ig mk _ X hg hsize hdg hW hn ⟨r1, r2, rfl, hx, hy, sta_is al S, hz⟩
  refine ⟨v, B, X', ⟨[], ⟨?_, rfl, hh⟩, hl, hk, hs⟩, st⟩
  rcases hq with ⟨rfl, q⟩ | ⟨rfl, q⟩
  · exact Or.inl ⟨hv, (same_list cs ds).mp q⟩
  · exact Or.inr ⟨hv, fun e => q ((same_list cs ds).mpr e)⟩
end StrChars.Road
namespace StrChars.Road
open Jvm Sem ClassFile Op Lib Jvm.Stand Jvm.Free Jvm.Free.XT
open Jvm.Lib.Cold (StaticIs)
/-- what backV says of its String, as the contracts of this text ask it: cs's low bytes, coder 0 -/
theorem codOf {cs : List Int32} {n : Nat} (hn : cs.length = n) (hb : ∀ c ∈ cs, ¬ 255 < c) : CodA cs 0 (Int32.ofNat n) ((cs.map lo8).map Value.int) := Or.inl ⟨rfl, by rw [hn], by simp [List.map_map, Function.comp_def], hb⟩
end StrChars.Road
end Jvm.Pilot.@@N@@
namespace Jvm.Pilot.@@N@@
open Jvm Jvm.ClassFile Sem Op Lib Jvm.Free Jvm.Stand Jvm.LawKit Jvm.RoadKit Bundle Jvm.Pilot.@@N@@.Jvm.D
/-! the walk, forward: own_G: from here the run comes to an end that meets P -/
def own_G (tb : Tables) (e : Env) (below : List Frame) (P : Outcome → State → Prop) (a : State) : Prop := ∃ s₂ o, Steps tb e below a s₂ ∧ s₂.status = .running ∧ Ended s₂ below o ∧ P o s₂
def own_c (x : Int32) : Int32 := x.toUInt32.toUInt16.toUInt32.toInt32
section OwnKit
variable {tb : Tables} {p : Program} {l : Launch} {e : Env} {R : Room} {s : State} {m : MethodId} {args : Array Value} {below : List Frame} {meth : Method} {c : Code} {T : State} {locs : List Loc} {cells slots : Nat} {P : Outcome → State → Prop} {a b : State} {h : Heap} {Z : State} {a0 : Array Value}
theorem own_w {d : Jvm.Cond} (hw : ∀ d ∈ tables_1, d.before a0 Z = true) (k : Nat) (h : tables_1[k]? = some d) : d.before a0 Z = true := hw _ (List.mem_of_getElem? h)
theorem own_G.go (h : ∀ t, Steps tb e below b t → Steps tb e below a t) (k : own_G tb e below P b) : own_G tb e below P a := by
  obtain ⟨s₂, o, h1, h2⟩ := k
  exact ⟨s₂, o, h _ h1, h2⟩
theorem own_G.via (h : Steps tb e below a b) (k : own_G tb e below P b) : own_G tb e below P a := own_G.go (fun _ q => h.trans q) k
theorem own_G.cast {g g' : JFrame} (q : g = g') (k : own_G tb e below P (T.setTop g')) : own_G tb e below P (T.setTop g) := q ▸ k
theorem own_G.end_ (X : Stand p l e R s m args below meth c T locs cells slots) (hlk : meth.locks = false) {v : Option Value} (hv : meth.sig.returnType = none → v = none)
    (st : ∀ fs, (∀ (f : JFrame) (acts : List Action), f.method = m → f.locked = none → f.entered = [] → (doReturn e (T.setTop f) acts v).1 = T.setFrames fs) → Steps p.tables e below a (T.setFrames fs))
    {Q : Option Value → Heap → List Loc → Prop} {rc rs : Nat} (eT : T.heap = h) (hQ : Q v h locs) (hc : cells ≤ rc) (hs : slots ≤ rs) :
    own_G p.tables e below (fun o t => ∃ v L, o = .returned v ∧ Q v t.heap L ∧ FrameEnd s o t L rc rs) a := by
  obtain ⟨fs, hr, hrun, hended, hW, hsame⟩ := X.leave hv
  subst eT
  exact ⟨_, _, st fs hr, hrun, hended, _, _, rfl, hQ, ⟨_, rfl⟩, hW, hsame.mono hc hs⟩
/-! calls by a payer of backOf's shape -/
theorem own_callS (X : Stand p l e R s m args below meth c T locs cells slots) (hx : p.tables.exec = Jvm.exec) {own : String} {index : Nat} {y : MethodName} {bytes : ByteArray} {maxL : Nat} {ret : Option FieldType}
    (hown : s.vm.findClass own = some m.cls) (hlink : (Jvm.Cond.methodLink own index y).before args s = true) (hstat : (Jvm.Cond.static y).before args s = true) (hinit : (Jvm.Cond.initialized y.cls).before args s = true) (hcode : (Jvm.Cond.code y bytes maxL ret).before args s = true)
    (hy : y.cls ≠ "java/lang/invoke/MethodHandle" ∧ y.cls ≠ "java/lang/invoke/VarHandle") {W rc rs : Nat} {as' : Array Value} {Q : Option Value → Heap → List Loc → Prop}
    (hK : Back l R p e below s args y 3 W (fun A a => a = as' ∧ A.U.heap = h ∧ A.cells + rc ≤ R.cells ∧ A.slots + rs ≤ R.slots) (fun A _ v B => ∃ L, Q v B.U.heap L ∧ B.locs = A.locs ++ L ∧ B.cells = A.cells + rc ∧ B.slots = A.slots + rs))
    {g : JFrame} (hg : g.method = m) (hsize : g.locals.size = c.maxLocals) {argsL rest : List Value} (hlen : ∀ sig, parseMethodDescriptor y.desc = some sig → argsL.length = sig.parameters.length)
    (hstack : g.stack = argsL.reverse ++ rest) (hW : 2 * g.monitorRoom + (rest.map fun v => v.category).sum ≤ W) (hdg : decode c.code g.pc = .ok (.invokestatic index, 3))
    (eT : T.heap = h) (has : argsL.toArray = as') (hc : cells + rc ≤ R.cells) (hs : slots + rs ≤ R.slots) :
    ∃ (v : Option Value) (T' : State) (L : List Loc), Q v T'.heap L ∧ Stand p l e R s m args below meth c T' (locs ++ L) (cells + rc) (slots + rs) ∧ Steps p.tables e below (T.setTop g) (T'.setTop { g with pc := g.pc + 3, stack := v.toList ++ rest }) := by
  obtain ⟨v, vm₁, ⟨T', L', k', n'⟩, -, X', ⟨L, hQ, l1, l2, l3⟩, st⟩ := Jvm.LawKit.callS X hx hown hlink hstat hinit hcode hy hK hg hsize hlen hstack hW hdg (fun _ _ => ⟨has, eT, hc, hs⟩)
  dsimp only [Pt.U, Pt.locs, Pt.cells, Pt.slots] at X' l1 l2 l3 st hQ
  subst l1 l2 l3
  exact ⟨v, T', L, hQ, X', st _ (Steps.refl _)⟩
theorem own_callI (X : Stand p l e R s m args below meth c T locs cells slots) (hx : p.tables.exec = Jvm.exec) {own : String} {index : Nat} {y : MethodName} (hy1 : y.name = "<init>") {bytes : ByteArray} {maxL : Nat}
    (hown : s.vm.findClass own = some m.cls) (hlink : (Jvm.Cond.methodLink own index y).before args s = true) (hinst : (Jvm.Cond.instanceMethod y).before args s = true) (hcode : (Jvm.Cond.code y bytes maxL none).before args s = true)
    (hy : y.cls ≠ "java/lang/invoke/MethodHandle" ∧ y.cls ≠ "java/lang/invoke/VarHandle") {W rc rs : Nat} {as' : Array Value} {Q : Option Value → Heap → List Loc → Prop}
    (hK : Back l R p e below s args y 3 W (fun A a => a = as' ∧ A.U.heap = h ∧ A.cells + rc ≤ R.cells ∧ A.slots + rs ≤ R.slots) (fun A _ v B => ∃ L, Q v B.U.heap L ∧ B.locs = A.locs ++ L ∧ B.cells = A.cells + rc ∧ B.slots = A.slots + rs))
    {a : Addr} {g : JFrame} (hg : g.method = m) (hsize : g.locals.size = c.maxLocals) {argsL rest : List Value} (hlen : ∀ sig, parseMethodDescriptor y.desc = some sig → argsL.length = sig.parameters.length)
    (hstack : g.stack = argsL.reverse ++ .ref a :: rest) (hW : 2 * g.monitorRoom + (rest.map fun v => v.category).sum ≤ W) (hdg : decode c.code g.pc = .ok (.invokespecial index, 3))
    (eT : T.heap = h) (has : (.ref a :: argsL).toArray = as') (hc : cells + rc ≤ R.cells) (hs : slots + rs ≤ R.slots) :
    ∃ (v : Option Value) (T' : State) (L : List Loc), Q v T'.heap L ∧ Stand p l e R s m args below meth c T' (locs ++ L) (cells + rc) (slots + rs) ∧ Steps p.tables e below (T.setTop g) (T'.setTop { g with pc := g.pc + 3, stack := v.toList ++ rest }) := by
  obtain ⟨v, vm₁, ⟨T', L', k', n'⟩, -, X', ⟨L, hQ, l1, l2, l3⟩, st⟩ := X.specialBack hx hy1 hown hlink hinst hcode hy hK hg hsize (Steps.refl _) hlen hstack hW hdg (fun _ _ => ⟨has, eT, hc, hs⟩)
  dsimp only [Pt.U, Pt.locs, Pt.cells, Pt.slots] at X' l1 l2 l3 st hQ
  subst l1 l2 l3
  exact ⟨v, T', L, hQ, X', st⟩
theorem own_callV (X : Stand p l e R s m args below meth c T locs cells slots) (hx : p.tables.exec = Jvm.exec) {own C : String} {index : Nat} {y z : MethodName}
    (hown : s.vm.findClass own = some m.cls) (hlink : (Jvm.Cond.methodLink own index y).before args s = true) (hdecl : (Jvm.Cond.declares y).before args s = true) (hnf : NotFace s y)
    (hsel : (Jvm.Cond.selects C y z).before args s = true) (hinst : (Jvm.Cond.instanceMethod z).before args s = true)
    (hy : y.cls ≠ "java/lang/invoke/MethodHandle" ∧ y.cls ≠ "java/lang/invoke/VarHandle") {W rc rs : Nat} {as' : Array Value} {Q : Option Value → Heap → List Loc → Prop}
    (hK : Back l R p e below s args z 3 W (fun A a => a = as' ∧ A.U.heap = h ∧ A.cells + rc ≤ R.cells ∧ A.slots + rs ≤ R.slots) (fun A _ v B => ∃ L, Q v B.U.heap L ∧ B.locs = A.locs ++ L ∧ B.cells = A.cells + rc ∧ B.slots = A.slots + rs))
    {b : Addr} {cB : ClassId} (hcB : s.vm.findClass C = some cB) (hrecv : IsOf cB T b)
    {g : JFrame} (hg : g.method = m) (hsize : g.locals.size = c.maxLocals) {argsL rest : List Value} (hlen : ∀ sig, parseMethodDescriptor y.desc = some sig → argsL.length = sig.parameters.length)
    (hstack : g.stack = argsL.reverse ++ .ref b :: rest) (hW : 2 * g.monitorRoom + (rest.map fun v => v.category).sum ≤ W) (hdg : decode c.code g.pc = .ok (.invokevirtual index, 3))
    (eT : T.heap = h) (has : (.ref b :: argsL).toArray = as') (hc : cells + rc ≤ R.cells) (hs : slots + rs ≤ R.slots) :
    ∃ (v : Option Value) (T' : State) (L : List Loc), Q v T'.heap L ∧ Stand p l e R s m args below meth c T' (locs ++ L) (cells + rc) (slots + rs) ∧ Steps p.tables e below (T.setTop g) (T'.setTop { g with pc := g.pc + 3, stack := v.toList ++ rest }) := by
  obtain ⟨v, vm₁, ⟨T', L', k', n'⟩, -, X', ⟨L, hQ, l1, l2, l3⟩, st⟩ := X.virtualBack hx hown hlink hdecl hnf hsel hinst hy hK hcB hrecv hg hsize (Steps.refl _) hlen hstack hW hdg (fun _ _ => ⟨has, eT, hc, hs⟩)
  dsimp only [Pt.U, Pt.locs, Pt.cells, Pt.slots] at X' l1 l2 l3 st hQ
  subst l1 l2 l3
  exact ⟨v, T', L, hQ, X', st⟩
/-! stores into an array whose values are known -/
theorem own_stC {k : ClassId} {n : Int32} {vs : List Value} {d : Value} {a : Addr} (X : Stand p l e R s m args below meth c T locs cells slots) (hx : p.tables.exec = Jvm.exec) (hZ : Z.Warmed39 s.vm) (eT : T.heap = h) (V : Arv Z h a k .char n vs d) {j x : Int32} (i : Nat) (hi : i < vs.length) (hji : j.toNatClampNeg = i) (hj : ¬ j < 0 ∧ j < n)
    {g : JFrame} (hg : g.method = m) {rest : List Value} (hs : g.stack = .int x :: .int j :: .ref a :: rest) (hd : decode c.code g.pc = .ok (.castore, 1)) :
    ∃ T' h', Stand p l e R s m args below meth c T' (locs ++ [⟨a, j.toNatClampNeg⟩]) cells slots ∧ T'.heap = h' ∧ Wr h h' a j.toNatClampNeg (.int (nar .char x)) ∧ Arv Z h' a k .char n (vs.set i (.int (nar .char x))) d ∧ ∀ target, Steps p.tables e below (T'.setTop { g with pc := g.pc + 1, stack := rest }) target → Steps p.tables e below (T.setTop g) target := by
  obtain ⟨cl, A, q, S, M, H, U⟩ := V
  obtain ⟨T', h', X', e', W', st⟩ := stC X hx hZ eT A (j := j) (inb_of S hj) hg hs hd
  exact ⟨T', h', X', e', W', Arv.set A q S M H U (fits_nar_char _) W' i hji hi, st⟩
theorem own_stB {k : ClassId} {n : Int32} {vs : List Value} {d : Value} {a : Addr} (X : Stand p l e R s m args below meth c T locs cells slots) (hx : p.tables.exec = Jvm.exec) (hZ : Z.Warmed39 s.vm) (eT : T.heap = h) (V : Arv Z h a k .byte n vs d) {j x : Int32} (i : Nat) (hi : i < vs.length) (hji : j.toNatClampNeg = i) (hj : ¬ j < 0 ∧ j < n)
    {g : JFrame} (hg : g.method = m) {rest : List Value} (hs : g.stack = .int x :: .int j :: .ref a :: rest) (hd : decode c.code g.pc = .ok (.bastore, 1)) :
    ∃ T' h', Stand p l e R s m args below meth c T' (locs ++ [⟨a, j.toNatClampNeg⟩]) cells slots ∧ T'.heap = h' ∧ Wr h h' a j.toNatClampNeg (.int (nar .byte x)) ∧ Arv Z h' a k .byte n (vs.set i (.int (nar .byte x))) d ∧ ∀ target, Steps p.tables e below (T'.setTop { g with pc := g.pc + 1, stack := rest }) target → Steps p.tables e below (T.setTop g) target := by
  obtain ⟨cl, A, q, S, M, H, U⟩ := V
  obtain ⟨T', h', X', e', W', st⟩ := stB X hx hZ eT A (j := j) (inb_of S hj) hg hs hd
  exact ⟨T', h', X', e', W', Arv.set A q S M H U (fits_nar_byte _) W' i hji hi, st⟩
theorem own_stI {k : ClassId} {n : Int32} {vs : List Value} {d : Value} {a : Addr} (X : Stand p l e R s m args below meth c T locs cells slots) (hx : p.tables.exec = Jvm.exec) (hZ : Z.Warmed39 s.vm) (eT : T.heap = h) (V : Arv Z h a k .int n vs d) {j x : Int32} (i : Nat) (hi : i < vs.length) (hji : j.toNatClampNeg = i) (hj : ¬ j < 0 ∧ j < n)
    {g : JFrame} (hg : g.method = m) {rest : List Value} (hs : g.stack = .int x :: .int j :: .ref a :: rest) (hd : decode c.code g.pc = .ok (.iastore, 1)) :
    ∃ T' h', Stand p l e R s m args below meth c T' (locs ++ [⟨a, j.toNatClampNeg⟩]) cells slots ∧ T'.heap = h' ∧ Wr h h' a j.toNatClampNeg (.int x) ∧ Arv Z h' a k .int n (vs.set i (.int x)) d ∧ ∀ target, Steps p.tables e below (T'.setTop { g with pc := g.pc + 1, stack := rest }) target → Steps p.tables e below (T.setTop g) target := by
  obtain ⟨cl, A, q, S, M, H, U⟩ := V
  obtain ⟨T', h', X', e', W', st⟩ := stI X hx hZ eT A (j := j) (inb_of S hj) hg hs hd
  exact ⟨T', h', X', e', W', Arv.set A q S M H U rfl W' i hji hi, st⟩
end OwnKit
/-! the same for walks that may load String constants (the frame is the wide one) -/
section OwnKitW
variable {p : Program} {l : Launch} {e : Env} {R : Room} {s : State} {m : MethodId} {args : Array Value} {below : List Frame} {meth : Method} {c : Code} {T : State} {locs : List Loc} {cells slots : Nat} {P : Outcome → State → Prop} {a b : State} {h : Heap} {Z : State} {a0 : Array Value} {vm0 : Vm} {k0 : Nat}
theorem own_since (s : State) (n : Nat) : s.Since s.vm n := (State.WarmedH.refl s).since n
theorem own_G.endW (X : Stand p l e R (s.setVm vm0) m args below meth c T locs cells slots) (hS : s.Since vm0 k0) (hn : k0 ≤ h.size) (hlk : meth.locks = false) {v : Option Value} (hv : meth.sig.returnType = none → v = none)
    (st : ∀ fs, (∀ (f : JFrame) (acts : List Action), f.method = m → f.locked = none → f.entered = [] → (doReturn e (T.setTop f) acts v).1 = T.setFrames fs) → Steps p.tables e below a (T.setFrames fs))
    {Q : Option Value → Heap → List Loc → Prop} {rc rs : Nat} (eT : T.heap = h) (hQ : Q v h locs) (hc : cells ≤ rc) (hs : slots ≤ rs) :
    own_G p.tables e below (fun o t => ∃ v L, o = .returned v ∧ Q v t.heap L ∧ ReturnedEndW s o t L rc rs) a := by
  subst eT
  obtain ⟨fs, hr, hrun, hended, r1, r2, r3, r4⟩ := X.leaveW hS hn hv hlk
  exact ⟨_, _, st fs hr, hrun, hended, _, _, rfl, hQ, r1, r2, r3, r4.mono hc hs⟩
theorem own_backS {y : MethodName} {len W rc rs : Nat} {as' : Array Value} {Q : Option Value → Heap → List Loc → Prop} {S : State}
    (hK : BackS l R p e below S args y len W (fun A a => a = as' ∧ A.U.heap = h ∧ A.cells + rc ≤ R.cells ∧ A.slots + rs ≤ R.slots) (fun A _ v B => ∃ L, Q v B.U.heap L ∧ B.locs = A.locs ++ L ∧ B.cells = A.cells + rc ∧ B.slots = A.slots + rs)) :
    BackS l R p e below S args y len W (fun A a => a = as' ∧ A.U.heap = h ∧ A.cells + rc ≤ R.cells ∧ A.slots + rs ≤ R.slots) (fun A _ v B => ∃ L, (fun v (U : State) L => Q v U.heap L) v B.U L ∧ B.locs = A.locs ++ L ∧ B.cells = A.cells + rc ∧ B.slots = A.slots + rs) := hK
theorem own_callIW (X : Stand p l e R (s.setVm vm0) m args below meth c T locs cells slots) (hx : p.tables.exec = Jvm.exec) (hS : s.Since vm0 k0) (hk : k0 ≤ h.size) (hZ : Z.Warmed39 vm0) {own : String} {index : Nat} {y : MethodName} (hy1 : y.name = "<init>") {bytes : ByteArray} {maxL : Nat}
    (hown : vm0.findClass own = some m.cls) (hlink : (Jvm.Cond.methodLink own index y).before args (s.setVm vm0) = true) (hinst : (Jvm.Cond.instanceMethod y).before args (s.setVm vm0) = true) (hcode : (Jvm.Cond.code y bytes maxL none).before args (s.setVm vm0) = true)
    (hy : y.cls ≠ "java/lang/invoke/MethodHandle" ∧ y.cls ≠ "java/lang/invoke/VarHandle") {W rc rs : Nat} {as' : Array Value} {Q : Option Value → State → List Loc → Prop}
    (hK : BackS l R p e below (s.setVm vm0) args y 3 W (fun A a => a = as' ∧ A.U.heap = h ∧ A.cells + rc ≤ R.cells ∧ A.slots + rs ≤ R.slots) (fun A _ v B => ∃ L, Q v B.U L ∧ B.locs = A.locs ++ L ∧ B.cells = A.cells + rc ∧ B.slots = A.slots + rs))
    {a : Addr} {g : JFrame} (hg : g.method = m) (hsize : g.locals.size = c.maxLocals) {argsL rest : List Value} (hlen : ∀ sig, parseMethodDescriptor y.desc = some sig → argsL.length = sig.parameters.length)
    (hstack : g.stack = argsL.reverse ++ .ref a :: rest) (hW : 2 * g.monitorRoom + (rest.map fun v => v.category).sum ≤ W) (hdg : decode c.code g.pc = .ok (.invokespecial index, 3))
    (eT : T.heap = h) (has : (.ref a :: argsL).toArray = as') (hc : cells + rc ≤ R.cells) (hs : slots + rs ≤ R.slots) :
    ∃ (v : Option Value) (T' : State) (L : List Loc), Q v T' L ∧ Stand p l e R (s.setVm T'.vm) m args below meth c T' (locs ++ L) (cells + rc) (slots + rs) ∧ s.Since T'.vm T'.heap.size ∧ Z.Warmed39 (s.setVm T'.vm).vm ∧ (s.setVm T'.vm).vm.findClass own = some m.cls ∧ Steps p.tables e below (T.setTop g) (T'.setTop { g with pc := g.pc + 3, stack := v.toList ++ rest }) := by
  subst eT
  obtain ⟨v, vm₁, ⟨T', L', k', n'⟩, -, X', h2, hgr, ⟨L, hQ, l1, l2, l3⟩, st⟩ := X.specialBackS hx hy1 hown hlink hinst hcode hy hK hg hsize (Steps.refl _) hlen hstack hW hdg (fun _ _ => ⟨has, rfl, hc, hs⟩)
  dsimp only [Pt.U, Pt.locs, Pt.cells, Pt.slots] at X' l1 l2 l3 st hQ h2 hgr
  subst l1 l2 l3
  obtain ⟨r1, r2, r3, r4⟩ := rebS hS hk X' h2 hgr hZ hown
  exact ⟨v, T', L, hQ, r1, r2, r3, r4, st⟩
theorem own_callSW (X : Stand p l e R (s.setVm vm0) m args below meth c T locs cells slots) (hx : p.tables.exec = Jvm.exec) (hS : s.Since vm0 k0) (hk : k0 ≤ h.size) (hZ : Z.Warmed39 vm0) {own : String} {index : Nat} {y : MethodName} {bytes : ByteArray} {maxL : Nat} {ret : Option FieldType}
    (hown : vm0.findClass own = some m.cls) (hlink : (Jvm.Cond.methodLink own index y).before args (s.setVm vm0) = true) (hstat : (Jvm.Cond.static y).before args (s.setVm vm0) = true) (hinit : (Jvm.Cond.initialized y.cls).before args (s.setVm vm0) = true) (hcode : (Jvm.Cond.code y bytes maxL ret).before args (s.setVm vm0) = true)
    (hy : y.cls ≠ "java/lang/invoke/MethodHandle" ∧ y.cls ≠ "java/lang/invoke/VarHandle") {W rc rs : Nat} {as' : Array Value} {Q : Option Value → State → List Loc → Prop}
    (hK : BackS l R p e below (s.setVm vm0) args y 3 W (fun A a => a = as' ∧ A.U.heap = h ∧ A.cells + rc ≤ R.cells ∧ A.slots + rs ≤ R.slots) (fun A _ v B => ∃ L, Q v B.U L ∧ B.locs = A.locs ++ L ∧ B.cells = A.cells + rc ∧ B.slots = A.slots + rs))
    {g : JFrame} (hg : g.method = m) (hsize : g.locals.size = c.maxLocals) {argsL rest : List Value} (hlen : ∀ sig, parseMethodDescriptor y.desc = some sig → argsL.length = sig.parameters.length)
    (hstack : g.stack = argsL.reverse ++ rest) (hW : 2 * g.monitorRoom + (rest.map fun v => v.category).sum ≤ W) (hdg : decode c.code g.pc = .ok (.invokestatic index, 3))
    (eT : T.heap = h) (has : argsL.toArray = as') (hc : cells + rc ≤ R.cells) (hs : slots + rs ≤ R.slots) :
    ∃ (v : Option Value) (T' : State) (L : List Loc), Q v T' L ∧ Stand p l e R (s.setVm T'.vm) m args below meth c T' (locs ++ L) (cells + rc) (slots + rs) ∧ s.Since T'.vm T'.heap.size ∧ Z.Warmed39 (s.setVm T'.vm).vm ∧ (s.setVm T'.vm).vm.findClass own = some m.cls ∧ Steps p.tables e below (T.setTop g) (T'.setTop { g with pc := g.pc + 3, stack := v.toList ++ rest }) := by
  subst eT
  obtain ⟨v, vm₁, ⟨T', L', k', n'⟩, -, X', h2, hgr, ⟨L, hQ, l1, l2, l3⟩, st⟩ := callSS X hx hown hlink hstat hinit hcode hy hK hg hsize hlen hstack hW hdg (fun _ _ => ⟨has, rfl, hc, hs⟩)
  dsimp only [Pt.U, Pt.locs, Pt.cells, Pt.slots] at X' l1 l2 l3 st hQ h2 hgr
  subst l1 l2 l3
  obtain ⟨r1, r2, r3, r4⟩ := rebS hS hk X' h2 hgr hZ hown
  exact ⟨v, T', L, hQ, r1, r2, r3, r4, st⟩
theorem own_callVW (X : Stand p l e R (s.setVm vm0) m args below meth c T locs cells slots) (hx : p.tables.exec = Jvm.exec) (hS : s.Since vm0 k0) (hk : k0 ≤ h.size) (hZ : Z.Warmed39 vm0) {own C : String} {index : Nat} {y z : MethodName}
    (hown : vm0.findClass own = some m.cls) (hlink : (Jvm.Cond.methodLink own index y).before args (s.setVm vm0) = true) (hdecl : (Jvm.Cond.declares y).before args (s.setVm vm0) = true) (hnf : NotFace (s.setVm vm0) y)
    (hsel : (Jvm.Cond.selects C y z).before args (s.setVm vm0) = true) (hinst : (Jvm.Cond.instanceMethod z).before args (s.setVm vm0) = true)
    (hy : y.cls ≠ "java/lang/invoke/MethodHandle" ∧ y.cls ≠ "java/lang/invoke/VarHandle") {W rc rs : Nat} {as' : Array Value} {Q : Option Value → State → List Loc → Prop}
    (hK : BackS l R p e below (s.setVm vm0) args z 3 W (fun A a => a = as' ∧ A.U.heap = h ∧ A.cells + rc ≤ R.cells ∧ A.slots + rs ≤ R.slots) (fun A _ v B => ∃ L, Q v B.U L ∧ B.locs = A.locs ++ L ∧ B.cells = A.cells + rc ∧ B.slots = A.slots + rs))
    {b : Addr} {cB : ClassId} (hcB : (s.setVm vm0).vm.findClass C = some cB) (hrecv : IsOf cB T b)
    {g : JFrame} (hg : g.method = m) (hsize : g.locals.size = c.maxLocals) {argsL rest : List Value} (hlen : ∀ sig, parseMethodDescriptor y.desc = some sig → argsL.length = sig.parameters.length)
    (hstack : g.stack = argsL.reverse ++ .ref b :: rest) (hW : 2 * g.monitorRoom + (rest.map fun v => v.category).sum ≤ W) (hdg : decode c.code g.pc = .ok (.invokevirtual index, 3))
    (eT : T.heap = h) (has : (.ref b :: argsL).toArray = as') (hc : cells + rc ≤ R.cells) (hs : slots + rs ≤ R.slots) :
    ∃ (v : Option Value) (T' : State) (L : List Loc), Q v T' L ∧ Stand p l e R (s.setVm T'.vm) m args below meth c T' (locs ++ L) (cells + rc) (slots + rs) ∧ s.Since T'.vm T'.heap.size ∧ Z.Warmed39 (s.setVm T'.vm).vm ∧ (s.setVm T'.vm).vm.findClass own = some m.cls ∧ Steps p.tables e below (T.setTop g) (T'.setTop { g with pc := g.pc + 3, stack := v.toList ++ rest }) := by
  subst eT
  obtain ⟨v, vm₁, ⟨T', L', k', n'⟩, -, X', h2, hgr, ⟨L, hQ, l1, l2, l3⟩, st⟩ := X.virtualBackS hx hown hlink hdecl hnf hsel hinst hy hK hcB hrecv hg hsize (Steps.refl _) hlen hstack hW hdg (fun _ _ => ⟨has, rfl, hc, hs⟩)
  dsimp only [Pt.U, Pt.locs, Pt.cells, Pt.slots] at X' l1 l2 l3 st hQ h2 hgr
  subst l1 l2 l3
  obtain ⟨r1, r2, r3, r4⟩ := rebS hS hk X' h2 hgr hZ hown
  exact ⟨v, T', L, hQ, r1, r2, r3, r4, st⟩
end OwnKitW
/-! walks that read String constants: the assumed words are kept as an invariant (CHv, CHr) -/
section OwnKitH
variable {p : Program} {l : Launch} {e : Env} {R : Room} {s : State} {m : MethodId} {args : Array Value} {below : List Frame} {meth : Method} {c : Code} {T : State} {locs : List Loc} {cells slots : Nat} {P : Outcome → State → Prop} {a b : State} {h : Heap} {Z : State} {a0 : Array Value} {vm0 : Vm} {k0 : Nat} {EL : List (String × Nat)}
theorem own_G.endH (X : Stand p l e R (s.setVm vm0) m args below meth c T locs cells slots) (hS : s.Since vm0 k0) (hn : k0 ≤ h.size) (hZ : Z.Warmed39 vm0) (hEW : EW Z a0 EL) (hC : CHr Z EL s.vm s.heap vm0 h) (hlk : meth.locks = false) {v : Option Value} (hv : meth.sig.returnType = none → v = none)
    (st : ∀ fs, (∀ (f : JFrame) (acts : List Action), f.method = m → f.locked = none → f.entered = [] → (doReturn e (T.setTop f) acts v).1 = T.setFrames fs) → Steps p.tables e below a (T.setFrames fs))
    {Q : Option Value → Heap → List Loc → Prop} {rc rs : Nat} (eT : T.heap = h) (hQ : Q v h locs) (hc : cells ≤ rc) (hs : slots ≤ rs) :
    own_G p.tables e below (fun o t => ∃ v L, o = .returned v ∧ Q v t.heap L ∧ CHr Z EL s.vm s.heap t.vm t.heap ∧ ReturnedEndW s o t L rc rs) a := by
  subst eT
  obtain ⟨fs, hr, hrun, hended, r1, r2, r3, r4⟩ := X.leaveW hS hn hv hlk
  exact ⟨_, _, st fs hr, hrun, hended, _, _, rfl, hQ, (show CHr Z EL s.vm s.heap T.vm T.heap from hC.trans (CHv.at X hZ hEW hC.1)), r1, r2, r3, r4.mono hc hs⟩
theorem own_backSH {y : MethodName} {len W rc rs : Nat} {as' : Array Value} {Q : Option Value → Heap → List Loc → Prop} {S : State}
    (hK : BackS l R p e below S args y len W (fun A a => a = as' ∧ A.U.heap = h ∧ A.cells + rc ≤ R.cells ∧ A.slots + rs ≤ R.slots) (fun A _ v B => ∃ L, Q v B.U.heap L ∧ B.locs = A.locs ++ L ∧ B.cells = A.cells + rc ∧ B.slots = A.slots + rs ∧ CHr Z EL vm0 h B.U.vm B.U.heap)) :
    BackS l R p e below S args y len W (fun A a => a = as' ∧ A.U.heap = h ∧ A.cells + rc ≤ R.cells ∧ A.slots + rs ≤ R.slots) (fun A _ v B => ∃ L, (fun v (U : State) L => Q v U.heap L ∧ CHr Z EL vm0 h U.vm U.heap) v B.U L ∧ B.locs = A.locs ++ L ∧ B.cells = A.cells + rc ∧ B.slots = A.slots + rs) := fun m meth c A g ig mk a X hg hsize hdg hW hn hp => by
  obtain ⟨v, B, X', q1, q2, ⟨L, h1, h2, h3, h4, h5⟩, hs⟩ := hK m meth c A g ig mk a X hg hsize hdg hW hn hp
  exact ⟨v, B, X', q1, q2, ⟨L, ⟨h1, h5⟩, h2, h3, h4⟩, hs⟩
end OwnKitH
def own_EL : List (String × Nat) := [("java/lang/String", 7)]
theorem own_EW {Z : State} {a0 : Array Value} (hw : ∀ d ∈ tables_1, d.before a0 Z = true) : EW Z a0 own_EL := (EW.cons (own_w hw 18 rfl) (by decide +kernel) EW.nil)
theorem own_lit0 : (∀ c ∈ ("" : String).toList, c.toNat < 256) ∧ ("" : String).toList.map (fun c => Value.int (Jvm.Lit.byteI c.toNat.toUInt16)) = ([] : List Value) := by decide +kernel
theorem own_lt {x y : Int32} : x < y ↔ x.toInt < y.toInt := Int32.lt_iff_toInt_lt
theorem own_eq {x y : Int32} : x = y ↔ x.toInt = y.toInt := ⟨fun h => h ▸ rfl, fun h => Int32.toInt_inj.mp h⟩
def own_b (c : Int32) : Prop := ¬ c < 0 ∧ ¬ (255 : Int32) < c
theorem own_b_int {c : Int32} (h : own_b c) : 0 ≤ c.toInt ∧ c.toInt ≤ 255 := by
  obtain ⟨h1, h2⟩ := h
  rw [own_lt] at h1 h2
  have e1 : (0 : Int32).toInt = 0 := rfl
  have e2 : (255 : Int32).toInt = 255 := rfl
  omega
theorem own_b_of {c : Int32} (h : 0 ≤ c.toInt ∧ c.toInt ≤ 255) : own_b c := by
  unfold own_b
  rw [own_lt, own_lt]
  have e1 : (0 : Int32).toInt = 0 := rfl
  have e2 : (255 : Int32).toInt = 255 := rfl
  omega
theorem own_c_small {x : Int32} (h : 0 ≤ x.toInt ∧ x.toInt < 65536) : own_c x = x := by
  rw [own_eq]
  have := c_i2c x
  unfold own_c
  omega
theorem own_narc {x : Int32} (h : own_b x) : nar .char x = x := own_c_small (by have := own_b_int h; omega)
theorem own_mask (x : Int32) : own_b (own_c (x &&& (255 : Int32))) := by
  have h := c_mask x 255 8 (by decide) (by decide)
  rw [own_c_small (by omega)]
  exact own_b_of (by omega)
theorem own_up (cs : List Int32) (h : ∀ c ∈ cs, own_b c) : ∀ c ∈ cs, ¬ c < 0 ∧ ¬ (65535 : Int32) < c := fun c hc => ⟨(h c hc).1, fun q => (h c hc).2 (by rw [Int32.lt_iff_toInt_lt] at q ⊢; have e1 : (65535 : Int32).toInt = 65535 := rfl; have e2 : (255 : Int32).toInt = 255 := rfl; omega)⟩
theorem own_all1 {a : Int32} (h : own_b a) : ∀ c ∈ ([a] : List Int32), own_b c := fun c hc => by rw [List.mem_singleton] at hc; subst hc; exact h

theorem own_noInst {Z : State} {a0 : Array Value} {C O K : String} {n : Nat} (w : (Jvm.Cond.superclass C O).before a0 Z = true) (wo : (Jvm.Cond.noSuperclass O).before a0 Z = true) (wi : (Jvm.Cond.instantiable K n).before a0 Z = true) (h1 : C ≠ K) (h2 : O ≠ K) :
    ∃ c t, Z.vm.findClass C = some c ∧ Z.vm.findClass K = some t ∧ Z.vm.assignable c t = false := by
  obtain ⟨t, k', g1, g2, g3, g4, -⟩ := Cond.instantiable_spec wi
  obtain ⟨c, h0⟩ := found_sup w
  obtain ⟨p, k, kp, a1, a2, a3, a4, a5, -, a7⟩ := Cond.superclass_spec h0 w
  obtain ⟨co, ko, b1, b2, b3, -, -⟩ := Cond.noSuperclass_spec wo
  cases a1.symm.trans b1
  have ne := ids_ne h0 g1 h1
  have neo := ids_ne b1 g1 h2
  have s0 : ∀ f, Z.vm.isSubclassAux f p t = false := fun f => by
    cases f with
    | zero => rfl
    | succ f => simp [Vm.isSubclassAux, neo, b2, b3]
  have s1 : ∀ f, Z.vm.isSubclassAux f c t = false := fun f => by
    cases f with
    | zero => rfl
    | succ f => simp [Vm.isSubclassAux, ne, a2, a4, s0]
  have g7 : k'.isInterface = false := by
    cases hi : k'.isInterface with
    | false => rfl
    | true => rw [hi] at g4; simp at g4
  refine ⟨c, t, h0, g1, ?_⟩
  show Z.vm.assignableAux (255 + 1) c t = false
  simp [Vm.assignableAux, ne, a2, g2, a5, g3, g7, Vm.isSubclass, s1]

theorem own_safeNull {Z : State} {EL : List (String × Nat)} {vm : Vm} {h : Heap} {x : Addr} (hal : Z.vm.Alike vm) (E : Exa Z h x "java/lang/String") (F : Fld Z h x "java/lang/String" "value" "[B" .null) : Safe Z EL vm h x := fun B => by
  obtain ⟨p, -, u, a, -, q, -, G, rfl | rfl⟩ := B
  · obtain ⟨cell, cf, k, i, f, h1, h2, h3, -, -, -, h7⟩ := F
    cases (show h[q.sa]? = some q.sC from G.ha).symm.trans h1
    obtain ⟨cS, ⟨⟨-, -, -, ⟨cv, kv, iv, s4, -⟩, -, -, -, s8, -⟩, -⟩, -⟩ := G
    obtain ⟨kv', z4⟩ := ff_back (U := Wst Z vm h) hal s4
    cases h2.symm.trans z4
    cases h7.symm.trans s8
  · obtain ⟨cell, k, e1, e2, e3, -, -⟩ := E
    cases (show h[q.sd]? = some q.SA from G.hd).symm.trans e1
    obtain ⟨cS, -, -, f, -⟩ := G
    have f' : Z.vm.findClass "[B" = some q.SA.cls := by rw [← hal.findClass]; exact f
    exact absurd rfl (ids_ne f' e2 (by decide))
/-- the chars of a string of at most two -/
def own_cs (n a b : Int32) : List Int32 := [a, b].take n.toNatClampNeg
def own_l (n : Int32) : Prop := n = 0 ∨ n = 1 ∨ n = 2
theorem own_l3 (x : Int32) : own_l ((x &&& (3 : Int32)) % (3 : Int32)) := by
  have h := c_mask x 3 2 (by decide) (by decide)
  have h2 := (c_irem (x &&& (3 : Int32)) (3 : Int32) 3 rfl).1 (by omega)
  unfold own_l
  rw [own_eq, own_eq, own_eq]
  have e0 : (0 : Int32).toInt = 0 := rfl
  have e1 : (1 : Int32).toInt = 1 := rfl
  have e2 : (2 : Int32).toInt = 2 := rfl
  omega
theorem own_cs_b {n a b : Int32} (ha : own_b a) (hb : own_b b) : ∀ c ∈ own_cs n a b, own_b c := fun c hc => by
  have q := List.mem_of_mem_take hc
  simp only [List.mem_cons, List.not_mem_nil, or_false] at q
  rcases q with rfl | rfl
  · exact ha
  · exact hb
theorem own_cs_len (n a b : Int32) : (own_cs n a b).length ≤ 4000 := by
  have : (own_cs n a b).length ≤ 2 := by unfold own_cs; rw [List.length_take]; exact Nat.min_le_right _ _
  omega
theorem own_same {l m a b c d : Int32} (hl : own_l l) (hm : own_l m) : own_cs l a b = own_cs m c d ↔ l = m ∧ (¬ l < 1 → a = c) ∧ (¬ l < 2 → b = d) := by
  have t01 : ¬ (0 : Int32) = 1 := by decide
  have t02 : ¬ (0 : Int32) = 2 := by decide
  have t10 : ¬ (1 : Int32) = 0 := by decide
  have t12 : ¬ (1 : Int32) = 2 := by decide
  have t20 : ¬ (2 : Int32) = 0 := by decide
  have t21 : ¬ (2 : Int32) = 1 := by decide
  have z0 : (0 : Int32).toNatClampNeg = 0 := rfl
  have z1 : (1 : Int32).toNatClampNeg = 1 := rfl
  have z2 : (2 : Int32).toNatClampNeg = 2 := rfl
  have u1 : ((0 : Int32) < 1) = True := by decide
  have u2 : ((0 : Int32) < 2) = True := by decide
  have u3 : ((1 : Int32) < 1) = False := by decide
  have u4 : ((1 : Int32) < 2) = True := by decide
  have u5 : ((2 : Int32) < 1) = False := by decide
  have u6 : ((2 : Int32) < 2) = False := by decide
  rcases hl with rfl | rfl | rfl <;> rcases hm with rfl | rfl | rfl <;> simp [own_cs, z0, z1, z2, t01, t02, t10, t12, t20, t21, u1, u2, u3, u4, u5, u6]
theorem own_z1 {z : Int32} {P : Prop} (h : (z = 1 ∧ P) ∨ (z = 0 ∧ ¬ P)) (hP : P) : z = (1 : Int32) := h.elim (fun q => q.1) (fun q => absurd hP q.2)
theorem own_z0 {z : Int32} {P : Prop} (h : (z = 1 ∧ P) ∨ (z = 0 ∧ ¬ P)) (hP : ¬ P) : z = (0 : Int32) := h.elim (fun q => absurd q.2 hP) (fun q => q.1)
def Qe (Z : State) (a : Addr) (h0 : Heap) (n0 : Nat) (v : Option Value) (h : Heap) (L : List Loc) : Prop := ∃ (t : Addr) (kb : ClassId), v = none ∧ Fr n0 L ∧ Keep h0 h [a] ∧ Exa Z h a "java/lang/String" ∧ Fld Z h a "java/lang/String" "coder" "B" (.int (0 : Int32)) ∧ Fld Z h a "java/lang/String" "value" "[B" (.ref t) ∧ Arv Z h t kb .byte (0 : Int32) ([] : List Value) (.int 0)
theorem pn_1 : plainName "java/lang/String" = true := by first | (simp [plainName, overriddenIn]; done) | decide +kernel
theorem d_rm_e4_0 : decode jdk_42_method_149_code 0 = .ok (.aload_n 0, 1) := by decide +kernel
theorem d_rm_e4_1 : decode jdk_42_method_149_code 1 = .ok (.invokespecial 1, 3) := by decide +kernel
theorem d_rm_e4_4 : decode jdk_42_method_149_code 4 = .ok (.iload_n 3, 1) := by decide +kernel
theorem d_rm_e4_5 : decode jdk_42_method_149_code 5 = .ok (.ifCond .ne 22, 3) := by decide +kernel
theorem d_rm_e4_8 : decode jdk_42_method_149_code 8 = .ok (.aload_n 0, 1) := by decide +kernel
theorem d_rm_e4_9 : decode jdk_42_method_149_code 9 = .ok (.ldc 7, 2) := by decide +kernel
theorem d_rm_e4_11 : decode jdk_42_method_149_code 11 = .ok (.getfield 9, 3) := by decide +kernel
theorem d_rm_e4_14 : decode jdk_42_method_149_code 14 = .ok (.putfield 9, 3) := by decide +kernel
theorem d_rm_e4_17 : decode jdk_42_method_149_code 17 = .ok (.aload_n 0, 1) := by decide +kernel
theorem d_rm_e4_18 : decode jdk_42_method_149_code 18 = .ok (.ldc 7, 2) := by decide +kernel
theorem d_rm_e4_20 : decode jdk_42_method_149_code 20 = .ok (.getfield 15, 3) := by decide +kernel
theorem d_rm_e4_23 : decode jdk_42_method_149_code 23 = .ok (.putfield 15, 3) := by decide +kernel
theorem d_rm_e4_26 : decode jdk_42_method_149_code 26 = .ok (.return_, 1) := by decide +kernel
set_option maxRecDepth 65536 in
set_option maxHeartbeats 40000000 in
theorem rm_e4 (l : Launch) (Z : State) (a0 : Array Value) (hw : ∀ d ∈ tables_1, d.before a0 Z = true) (ws : List Jvm.Cond) (a b : Addr) (h0 : Heap) (n0 : Nat) (Z0 : n0 ≤ h0.size) (g0 : n0 ≤ a) (E0 : Exa Z h0 a "java/lang/String") (F1 : Fld Z h0 a "java/lang/String" "value" "[B" .null) (F2 : Fld Z h0 a "java/lang/String" "coder" "B" (.int (0 : Int32))) :
    MetFree l (⟨"java/lang/String", "<init>", "([CIILjava/lang/Void;)V"⟩ : MethodName) (head1 (Jvm.Cond.code (⟨"java/lang/String", "<init>", "([CIILjava/lang/Void;)V"⟩ : MethodName) jdk_42_method_149_code 6 none :: ws) ({ frames := 1, cells := 4, slots := 8, locals := 14 } : Room)) (fun a_ U => a_ = #[(.ref a), (.ref b), (.int (0 : Int32)), (.int (0 : Int32)), .null] ∧ Z.Warmed39 U.vm ∧ U.heap = h0 ∧ CHv Z own_EL U.vm h0) (fun _ _ _ _ _ => True) (fun _ U o U' => ∃ v L, o = .returned v ∧ Qe Z a h0 n0 v U'.heap L ∧ CHr Z own_EL U.vm U.heap U'.vm U'.heap ∧ ReturnedEndW U o U' L ({ frames := 1, cells := 4, slots := 8, locals := 14 } : Room).cells ({ frames := 1, cells := 4, slots := 8, locals := 14 } : Room).slots) := by
  refine MetFree.of_bodySF (plainFor_of_name pn_1) hisR ?_
  intro p e s m args below meth c s₁ Bd hml0 hP hK
  obtain ⟨rfl, hZ, hh, hCH⟩ := hP
  have hx := Bd.exec
  have hby := Bd.bytes
  have hrt := Bd.returns
  have hlk : meth.locks = false := Bd.notSynchronized
  have hml : c.maxLocals = 6 := hml0
  have hown : s.vm.findClass "java/lang/String" = some m.cls := findClass_of_methodNamed Bd.named
  have hnm := (name_of_methodNamed Bd.named Bd.method).1
  have X0 : Stand p l e ({ frames := 1, cells := 4, slots := 8, locals := 14 } : Room) (s.setVm s.vm) m #[(.ref a), (.ref b), (.int (0 : Int32)), (.int (0 : Int32)), .null] below meth c s₁ [] 0 0 := Stand.of_body Bd
  have e0 : s₁.heap = h0 := by rw [← hh, Bd.state]; rfl
  have N0 := Fr.nil n0
  have hS0 : s.Since s.vm 0 := own_since s 0
  have hstr : ∀ d ∈ Bundle.stringAtoms, d.before a0 Z = true := fun d hd => hw d ((by decide +kernel : ∀ d ∈ Bundle.stringAtoms, d ∈ tables_1) d hd)
  have hEW : EW Z a0 own_EL := own_EW hw
  have CH0 : CHr Z own_EL s.vm h0 s.vm h0 := CHr.refl hCH
  show own_G p.tables e below (fun o t => ∃ v L, o = .returned v ∧ Qe Z a h0 n0 v t.heap L ∧ CHr Z own_EL s.vm s.heap t.vm t.heap ∧ ReturnedEndW s o t L ({ frames := 1, cells := 4, slots := 8, locals := 14 } : Room).cells ({ frames := 1, cells := 4, slots := 8, locals := 14 } : Room).slots) (s₁.setTop (entryFrame m #[(.ref a), (.ref b), (.int (0 : Int32)), (.int (0 : Int32)), .null] 6))
  refine own_G.cast (show entryFrame m #[(.ref a), (.ref b), (.int (0 : Int32)), (.int (0 : Int32)), .null] 6 = mkF m 0 #[.val (.ref a), .val (.ref b), .val (.int (0 : Int32)), .val (.int (0 : Int32)), .val .null, .unset] [] from by first | (simp [entryFrame, mkF, argsToLocals, Value.category]; done) | rfl) ?_
  have Sa : Safe Z own_EL s.vm h0 a := own_safeNull hZ.alike E0 F1
  refine own_G.go (fun t_ k_ => XS.aloadN X0.here hx rfl (hb hby d_rm_e4_0) rfl rfl k_) ?_
  show own_G _ _ _ _ (s₁.setTop (mkF m 1 #[.val (.ref a), .val (.ref b), .val (.int (0 : Int32)), .val (.int (0 : Int32)), .val .null, .unset] [(.ref a)]))
  obtain ⟨T_1, X_1, e_1, st_1⟩ := initO X0 hx hZ hown (own_w hw 15 rfl) (own_w hw 16 rfl) (own_w hw 17 rfl) e0 (g := (mkF m 1 #[.val (.ref a), .val (.ref b), .val (.int (0 : Int32)), .val (.int (0 : Int32)), .val .null, .unset] [(.ref a)])) rfl (by rw [hml]; rfl) rfl (hb hby d_rm_e4_1) (by decide) (W := 0) (by show 2 * 0 + _ ≤ _; exact Nat.le_of_eq rfl) (by decide)
  refine own_G.go st_1 ?_
  show own_G _ _ _ _ (T_1.setTop (mkF m 4 #[.val (.ref a), .val (.ref b), .val (.int (0 : Int32)), .val (.int (0 : Int32)), .val .null, .unset] []))
  refine own_G.go (fun t_ k_ => XS.iloadN X_1.here hx rfl (hb hby d_rm_e4_4) rfl k_) ?_
  show own_G _ _ _ _ (T_1.setTop (mkF m 5 #[.val (.ref a), .val (.ref b), .val (.int (0 : Int32)), .val (.int (0 : Int32)), .val .null, .unset] [(.int (0 : Int32))]))
  refine own_G.go (fun t_ k_ => XS.ifNo X_1.here hx rfl (hb hby d_rm_e4_5) rfl ((if0 _ _).trans (teq (by decide : (0 : Int32) = (0 : Int32))).2) k_) ?_
  show own_G _ _ _ _ (T_1.setTop (mkF m 8 #[.val (.ref a), .val (.ref b), .val (.int (0 : Int32)), .val (.int (0 : Int32)), .val .null, .unset] []))
  refine own_G.go (fun t_ k_ => XS.aloadN X_1.here hx rfl (hb hby d_rm_e4_8) rfl rfl k_) ?_
  show own_G _ _ _ _ (T_1.setTop (mkF m 9 #[.val (.ref a), .val (.ref b), .val (.int (0 : Int32)), .val (.int (0 : Int32)), .val .null, .unset] [(.ref a)]))
  obtain ⟨al_2, T_2, h_2, k_2, bl_2, kl_2, X_2, e_2, E_2, hS_2, hk_2, hZ_2, hown_2, Ex_2, Fc_2, Fv_2, Va_2, lta_2, ltb_2, Cr_2, -, hne_2, st_2⟩ := ldcCH X_1 hx hZ hown (own_w hw 18 rfl) hstr e_1 hS0 (Nat.zero_le _) hEW (by simp [own_EL]) CH0.1 (vs := ([] : List Value)) (z := (0 : Int32)) (own_lit0) (by decide) (by decide) (g := (mkF m 9 #[.val (.ref a), .val (.ref b), .val (.int (0 : Int32)), .val (.int (0 : Int32)), .val .null, .unset] [(.ref a)])) rfl (hb hby d_rm_e4_9) (n := 0) (by decide +kernel) (by decide) (by decide) (by decide)
  refine own_G.go st_2 ?_
  have Sf_3_a : Safe Z own_EL T_2.vm h_2 a := Cr_2.safe E0.lt Sa
  have CH_3 : CHr Z own_EL s.vm h0 T_2.vm h_2 := CH0.trans Cr_2
  show own_G _ _ _ _ (T_2.setTop (mkF m 11 #[.val (.ref a), .val (.ref b), .val (.int (0 : Int32)), .val (.int (0 : Int32)), .val .null, .unset] [(.ref al_2), (.ref a)]))
  obtain ⟨T_4, X_4, e_4, st_4⟩ := getF X_2 hx hZ_2 hown_2 (host := "") (Or.inl (own_w hw 24 rfl)) Via.refl e_2 Fv_2 (g := (mkF m 11 #[.val (.ref a), .val (.ref b), .val (.int (0 : Int32)), .val (.int (0 : Int32)), .val .null, .unset] [(.ref al_2), (.ref a)])) rfl rfl (hb hby d_rm_e4_11)
  refine own_G.go st_4 ?_
  show own_G _ _ _ _ (T_4.setTop (mkF m 14 #[.val (.ref a), .val (.ref b), .val (.int (0 : Int32)), .val (.int (0 : Int32)), .val .null, .unset] [(.ref bl_2), (.ref a)]))
  have F1'_5 : Fld Z h_2 a "java/lang/String" "value" "[B" .null := (F1.ext E_2)
  have E0'_6 : Exa Z h_2 a "java/lang/String" := (E0.ext E_2)
  obtain ⟨T_7, h_7, X_7, e_7, W_7, st_7⟩ := putF X_4 hx hZ_2 hown_2 (host := "") (Or.inl (own_w hw 24 rfl)) Via.refl e_4 F1'_5 E0'_6 (Or.inr ⟨(own_w hw 20 rfl), rfl, hnm⟩) (own_w hw 6 rfl) (ty := (.array .byte)) (by decide) rfl rfl (g := (mkF m 14 #[.val (.ref a), .val (.ref b), .val (.int (0 : Int32)), .val (.int (0 : Int32)), .val .null, .unset] [(.ref bl_2), (.ref a)])) rfl rfl (hb hby d_rm_e4_14)
  refine own_G.go st_7 ?_
  have Sf_8_a : Safe Z own_EL T_2.vm h_7 a := (Safe.wr W_7 Sf_3_a CH_3.1 Sf_3_a)
  have CH_8 : CHr Z own_EL s.vm h0 T_2.vm h_7 := CH_3.trans (CHr.wr W_7 Sf_3_a CH_3.1)
  have F_7 : Fld Z h_7 a "java/lang/String" "value" "[B" (.ref bl_2) := F1'_5.same W_7
  have N_7 := Fr.snoc X_7 N0 g0
  show own_G _ _ _ _ (T_7.setTop (mkF m 17 #[.val (.ref a), .val (.ref b), .val (.int (0 : Int32)), .val (.int (0 : Int32)), .val .null, .unset] []))
  refine own_G.go (fun t_ k_ => XS.aloadN X_7.here hx rfl (hb hby d_rm_e4_17) rfl rfl k_) ?_
  show own_G _ _ _ _ (T_7.setTop (mkF m 18 #[.val (.ref a), .val (.ref b), .val (.int (0 : Int32)), .val (.int (0 : Int32)), .val .null, .unset] [(.ref a)]))
  obtain ⟨al_9, T_9, h_9, k_9, bl_9, kl_9, X_9, e_9, E_9, hS_9, hk_9, hZ_9, hown_9, Ex_9, Fc_9, Fv_9, Va_9, lta_9, ltb_9, Cr_9, -, hne_9, st_9⟩ := ldcCH X_7 hx hZ_2 hown_2 (own_w hw 18 rfl) hstr e_7 hS_2 (Nat.le_trans hk_2 (Keep.of_wr W_7).1) hEW (by simp [own_EL]) CH_8.1 (vs := ([] : List Value)) (z := (0 : Int32)) (own_lit0) (by decide) (by decide) (g := (mkF m 18 #[.val (.ref a), .val (.ref b), .val (.int (0 : Int32)), .val (.int (0 : Int32)), .val .null, .unset] [(.ref a)])) rfl (hb hby d_rm_e4_18) (n := 0) (by decide +kernel) (by decide) (by decide) (by decide)
  refine own_G.go st_9 ?_
  have Sf_10_a : Safe Z own_EL T_9.vm h_9 a := Cr_9.safe (Nat.lt_of_lt_of_le E0.lt (Nat.le_trans E_2.1 (Keep.of_wr W_7).1)) Sf_8_a
  have CH_10 : CHr Z own_EL s.vm h0 T_9.vm h_9 := CH_8.trans Cr_9
  show own_G _ _ _ _ (T_9.setTop (mkF m 20 #[.val (.ref a), .val (.ref b), .val (.int (0 : Int32)), .val (.int (0 : Int32)), .val .null, .unset] [(.ref al_9), (.ref a)]))
  obtain ⟨T_11, X_11, e_11, st_11⟩ := getF X_9 hx hZ_9 hown_9 (host := "") (Or.inl (own_w hw 25 rfl)) Via.refl e_9 Fc_9 (g := (mkF m 20 #[.val (.ref a), .val (.ref b), .val (.int (0 : Int32)), .val (.int (0 : Int32)), .val .null, .unset] [(.ref al_9), (.ref a)])) rfl rfl (hb hby d_rm_e4_20)
  refine own_G.go st_11 ?_
  show own_G _ _ _ _ (T_11.setTop (mkF m 23 #[.val (.ref a), .val (.ref b), .val (.int (0 : Int32)), .val (.int (0 : Int32)), .val .null, .unset] [(.int (0 : Int32)), (.ref a)]))
  have F2'_12 : Fld Z h_9 a "java/lang/String" "coder" "B" (.int (0 : Int32)) := (((F2.ext E_2).other W_7 (Or.inr (slot_ne (C := "java/lang/String") (Or.inr (own_w hw 21 rfl)) (Or.inr (own_w hw 20 rfl)) (by decide) (by decide : parseFieldDescriptor "B" = some .byte) (by decide : parseFieldDescriptor "[B" = some (.array .byte))))).ext E_9)
  have E0'_13 : Exa Z h_9 a "java/lang/String" := ((E0'_6.wr W_7).ext E_9)
  obtain ⟨T_14, h_14, X_14, e_14, W_14, st_14⟩ := putFN X_11 hx hZ_9 hown_9 (own_w hw 25 rfl) Via.refl e_11 F2'_12 E0'_13 (Or.inr ⟨(own_w hw 21 rfl), rfl, hnm⟩) (own_w hw 6 rfl) (ty := .byte) (v' := (.int (0 : Int32))) (by decide) rfl rfl (g := (mkF m 23 #[.val (.ref a), .val (.ref b), .val (.int (0 : Int32)), .val (.int (0 : Int32)), .val .null, .unset] [(.int (0 : Int32)), (.ref a)])) rfl rfl (hb hby d_rm_e4_23)
  refine own_G.go st_14 ?_
  have Sf_15_a : Safe Z own_EL T_9.vm h_14 a := (Safe.wr W_14 Sf_10_a CH_10.1 Sf_10_a)
  have CH_15 : CHr Z own_EL s.vm h0 T_9.vm h_14 := CH_10.trans (CHr.wr W_14 Sf_10_a CH_10.1)
  have F_14 : Fld Z h_14 a "java/lang/String" "coder" "B" (.int (0 : Int32)) := F2'_12.same W_14
  have N_14 := Fr.snoc X_14 N_7 g0
  show own_G _ _ _ _ (T_14.setTop (mkF m 26 #[.val (.ref a), .val (.ref b), .val (.int (0 : Int32)), .val (.int (0 : Int32)), .val .null, .unset] []))
  have E0'_16 : Exa Z h_14 a "java/lang/String" := (E0'_13.wr W_14)
  have F_7'_17 : Fld Z h_14 a "java/lang/String" "value" "[B" (.ref bl_2) := ((F_7.ext E_9).other W_14 (Or.inr (slot_ne (C := "java/lang/String") (Or.inr (own_w hw 20 rfl)) (Or.inr (own_w hw 21 rfl)) (by decide) (by decide : parseFieldDescriptor "[B" = some (.array .byte)) (by decide : parseFieldDescriptor "B" = some .byte))))
  have Va_2'_18 : Arv Z h_14 bl_2 kl_2 .byte (0 : Int32) ([] : List Value) (.int 0) := (((Va_2.other W_7 (Ne.symm (hne_2 a Sf_3_a).2)).ext E_9).other W_14 (Ne.symm (hne_2 a Sf_3_a).2))
  exact own_G.endH X_14 hS_9 (Nat.le_trans hk_9 (Keep.of_wr W_14).1) hZ_9 hEW (hh ▸ CH_15) hlk (v := none) (fun _ => rfl) (fun fs hr => X_14.returnOut hx hrt (hb hby d_rm_e4_26) hr) e_14 ⟨bl_2, kl_2, rfl, N_14, (((((Keep.refl h0 [a]).ext E_2).wr W_7 (Or.inl (List.mem_of_getElem? (i := 0) rfl))).ext E_9).wr W_14 (Or.inl (List.mem_of_getElem? (i := 0) rfl))), E0'_16, F_14, F_7'_17, Va_2'_18⟩ (by decide) (by decide)
theorem pd_1 : parseMethodDescriptor "([CIILjava/lang/Void;)V" = some ⟨[(.array .char), .int, .int, (.object "java/lang/Void")], none⟩ := by decide +kernel
theorem d_rm_e2_0 : decode jdk_42_method_3_code 0 = .ok (.aload_n 0, 1) := by decide +kernel
theorem d_rm_e2_1 : decode jdk_42_method_3_code 1 = .ok (.aload_n 1, 1) := by decide +kernel
theorem d_rm_e2_2 : decode jdk_42_method_3_code 2 = .ok (.iconst 0, 1) := by decide +kernel
theorem d_rm_e2_3 : decode jdk_42_method_3_code 3 = .ok (.aload_n 1, 1) := by decide +kernel
theorem d_rm_e2_4 : decode jdk_42_method_3_code 4 = .ok (.arraylength, 1) := by decide +kernel
theorem d_rm_e2_5 : decode jdk_42_method_3_code 5 = .ok (.aconst_null, 1) := by decide +kernel
theorem d_rm_e2_6 : decode jdk_42_method_3_code 6 = .ok (.invokespecial 27, 3) := by decide +kernel
theorem d_rm_e2_9 : decode jdk_42_method_3_code 9 = .ok (.return_, 1) := by decide +kernel
set_option maxRecDepth 65536 in
set_option maxHeartbeats 40000000 in
theorem rm_e2 (l : Launch) (Z : State) (a0 : Array Value) (hw : ∀ d ∈ tables_1, d.before a0 Z = true) (ws : List Jvm.Cond) (a b : Addr) (kb : ClassId) (h0 : Heap) (n0 : Nat) (Z0 : n0 ≤ h0.size) (g0 : n0 ≤ a) (E0 : Exa Z h0 a "java/lang/String") (F1 : Fld Z h0 a "java/lang/String" "value" "[B" .null) (F2 : Fld Z h0 a "java/lang/String" "coder" "B" (.int (0 : Int32))) (VB : Arv Z h0 b kb .char (0 : Int32) ([] : List Value) (.int (0 : Int32))) :
    MetFree l (⟨"java/lang/String", "<init>", "([C)V"⟩ : MethodName) (head1 (Jvm.Cond.code (⟨"java/lang/String", "<init>", "([C)V"⟩ : MethodName) jdk_42_method_3_code 2 none :: ws) ({ frames := 2, cells := 4, slots := 8, locals := 34 } : Room)) (fun a_ U => a_ = #[(.ref a), (.ref b)] ∧ Z.Warmed39 U.vm ∧ U.heap = h0 ∧ CHv Z own_EL U.vm h0) (fun _ _ _ _ _ => True) (fun _ U o U' => ∃ v L, o = .returned v ∧ Qe Z a h0 n0 v U'.heap L ∧ CHr Z own_EL U.vm U.heap U'.vm U'.heap ∧ ReturnedEndW U o U' L ({ frames := 2, cells := 4, slots := 8, locals := 34 } : Room).cells ({ frames := 2, cells := 4, slots := 8, locals := 34 } : Room).slots) := by
  refine MetFree.of_bodySF (plainFor_of_name pn_1) hisR ?_
  intro p e s m args below meth c s₁ Bd hml0 hP hK
  obtain ⟨rfl, hZ, hh, hCH⟩ := hP
  have hx := Bd.exec
  have hby := Bd.bytes
  have hrt := Bd.returns
  have hlk : meth.locks = false := Bd.notSynchronized
  have hml : c.maxLocals = 2 := hml0
  have hown : s.vm.findClass "java/lang/String" = some m.cls := findClass_of_methodNamed Bd.named
  have hnm := (name_of_methodNamed Bd.named Bd.method).1
  have X0 : Stand p l e ({ frames := 2, cells := 4, slots := 8, locals := 34 } : Room) (s.setVm s.vm) m #[(.ref a), (.ref b)] below meth c s₁ [] 0 0 := Stand.of_body Bd
  have e0 : s₁.heap = h0 := by rw [← hh, Bd.state]; rfl
  have N0 := Fr.nil n0
  have hS0 : s.Since s.vm 0 := own_since s 0
  have hstr : ∀ d ∈ Bundle.stringAtoms, d.before a0 Z = true := fun d hd => hw d ((by decide +kernel : ∀ d ∈ Bundle.stringAtoms, d ∈ tables_1) d hd)
  have hEW : EW Z a0 own_EL := own_EW hw
  have CH0 : CHr Z own_EL s.vm h0 s.vm h0 := CHr.refl hCH
  show own_G p.tables e below (fun o t => ∃ v L, o = .returned v ∧ Qe Z a h0 n0 v t.heap L ∧ CHr Z own_EL s.vm s.heap t.vm t.heap ∧ ReturnedEndW s o t L ({ frames := 2, cells := 4, slots := 8, locals := 34 } : Room).cells ({ frames := 2, cells := 4, slots := 8, locals := 34 } : Room).slots) (s₁.setTop (entryFrame m #[(.ref a), (.ref b)] 2))
  refine own_G.cast (show entryFrame m #[(.ref a), (.ref b)] 2 = mkF m 0 #[.val (.ref a), .val (.ref b)] [] from by first | (simp [entryFrame, mkF, argsToLocals, Value.category]; done) | rfl) ?_
  have Sa : Safe Z own_EL s.vm h0 a := own_safeNull hZ.alike E0 F1
  refine own_G.go (fun t_ k_ => XS.aloadN X0.here hx rfl (hb hby d_rm_e2_0) rfl rfl k_) ?_
  show own_G _ _ _ _ (s₁.setTop (mkF m 1 #[.val (.ref a), .val (.ref b)] [(.ref a)]))
  refine own_G.go (fun t_ k_ => XS.aloadN X0.here hx rfl (hb hby d_rm_e2_1) rfl rfl k_) ?_
  show own_G _ _ _ _ (s₁.setTop (mkF m 2 #[.val (.ref a), .val (.ref b)] [(.ref b), (.ref a)]))
  refine own_G.go (fun t_ k_ => XS.iconst X0.here hx rfl (hb hby d_rm_e2_2) k_) ?_
  show own_G _ _ _ _ (s₁.setTop (mkF m 3 #[.val (.ref a), .val (.ref b)] [(.int (0 : Int32)), (.ref b), (.ref a)]))
  refine own_G.go (fun t_ k_ => XS.aloadN X0.here hx rfl (hb hby d_rm_e2_3) rfl rfl k_) ?_
  show own_G _ _ _ _ (s₁.setTop (mkF m 4 #[.val (.ref a), .val (.ref b)] [(.ref b), (.int (0 : Int32)), (.ref b), (.ref a)]))
  obtain ⟨cel_1, A_1, -, S_1, M_1, -, -⟩ := id VB
  refine own_G.go (X0.arraylength hx (by rw [e0]; exact A_1.1) (State.isArrayOf_alike hZ.alike A_1.2.1) (g := (mkF m 4 #[.val (.ref a), .val (.ref b)] [(.ref b), (.int (0 : Int32)), (.ref b), (.ref a)])) rfl rfl (hb hby d_rm_e2_4)) ?_
  rw [len_of S_1 M_1]
  show own_G _ _ _ _ (s₁.setTop (mkF m 5 #[.val (.ref a), .val (.ref b)] [(.int (0 : Int32)), (.int (0 : Int32)), (.ref b), (.ref a)]))
  refine own_G.go (fun t_ k_ => XS.aconstNull X0.here hx rfl (hb hby d_rm_e2_5) k_) ?_
  show own_G _ _ _ _ (s₁.setTop (mkF m 6 #[.val (.ref a), .val (.ref b)] [.null, (.int (0 : Int32)), (.int (0 : Int32)), (.ref b), (.ref a)]))
  obtain ⟨_, T_2, L_2, Q_2, X_2, hS_2, hZ_2, hown_2, st_2⟩ := own_callIW X0 hx hS0 (Nat.zero_le _) hZ rfl hown (mvT hZ (own_w hw 11 rfl)) (mvT hZ (own_w hw 12 rfl)) (mvT hZ (own_w hw 14 rfl)) (by decide) (Q := (fun v (U : State) L => Qe Z a h0 n0 v U.heap L ∧ CHr Z own_EL s.vm h0 U.vm U.heap)) (own_backSH (backOfSH (W := 0) (rm_e4 l Z a0 hw [] a b h0 n0 Z0 g0 E0 F1 F2) hZ (own_w hw 14 rfl) (own_w hw 7 rfl) (by decide) (by decide) hEW CH0.1)) (a := a) (g := (mkF m 6 #[.val (.ref a), .val (.ref b)] [.null, (.int (0 : Int32)), (.int (0 : Int32)), (.ref b), (.ref a)])) rfl (by rw [hml]; rfl) (argsL := [(.ref b), (.int (0 : Int32)), (.int (0 : Int32)), .null]) (rest := []) (lenOf pd_1 rfl) rfl (by show 2 * 0 + _ ≤ _; exact Nat.le_of_eq rfl) (hb hby d_rm_e2_6) e0 rfl (by decide) (by decide)
  obtain ⟨⟨t_2, kb_2, rfl, Nq_2, K_2, Ex_2, Fc_2, Fv_2, Kb_2⟩, Ch_2⟩ := Q_2
  refine own_G.via st_2 ?_
  have Sf_3_a : Safe Z own_EL T_2.vm T_2.heap a := Ch_2.safe E0.lt Sa
  have CH_3 : CHr Z own_EL s.vm h0 T_2.vm T_2.heap := CH0.trans Ch_2
  have N_2 := Fr.app N0 Nq_2
  show own_G _ _ _ _ (T_2.setTop (mkF m 9 #[.val (.ref a), .val (.ref b)] []))
  exact own_G.endH X_2 hS_2 (Nat.le_refl _) hZ_2 hEW (hh ▸ CH_3) hlk (v := none) (fun _ => rfl) (fun fs hr => X_2.returnOut hx hrt (hb hby d_rm_e2_9) hr) rfl ⟨t_2, kb_2, rfl, N_2, ((Keep.refl h0 [a]).trans K_2 (allS (Or.inl (List.mem_of_getElem? (i := 0) rfl)) all0)), Ex_2, Fc_2, Fv_2, Kb_2⟩ (by decide) (by decide)
def Qs (Z : State) (n c0 c1 : Int32) (h0 : Heap) (n0 : Nat) (v : Option Value) (h : Heap) (L : List Loc) : Prop := ∃ (r t : Addr) (kb : ClassId), v = some (.ref r) ∧ Fr n0 L ∧ Keep h0 h [] ∧ h0.size ≤ r ∧ Exa Z h r "java/lang/String" ∧ Fld Z h r "java/lang/String" "coder" "B" (.int 0) ∧ Fld Z h r "java/lang/String" "value" "[B" (.ref t) ∧ Arv Z h t kb .byte (Int32.ofNat (own_cs n c0 c1).length) (((own_cs n c0 c1).map (fun c => c.toInt8.toInt32)).map Value.int) (.int 0)
theorem pn_2 : plainName "com/example/kommit/kommit/EntryEqualsPinLaw" = true := by first | (simp [plainName, overriddenIn]; done) | decide +kernel
theorem pd_2 : parseMethodDescriptor "([C)V" = some ⟨[(.array .char)], none⟩ := by decide +kernel
theorem d_rm_str0_0 : decode method_2_code 0 = .ok (.iload_n 0, 1) := by decide +kernel
theorem d_rm_str0_1 : decode method_2_code 1 = .ok (.newarray .char, 2) := by decide +kernel
theorem d_rm_str0_3 : decode method_2_code 3 = .ok (.astore_n 3, 1) := by decide +kernel
theorem d_rm_str0_4 : decode method_2_code 4 = .ok (.iload_n 0, 1) := by decide +kernel
theorem d_rm_str0_5 : decode method_2_code 5 = .ok (.ifCond .le 7, 3) := by decide +kernel
theorem d_rm_str0_12 : decode method_2_code 12 = .ok (.iload_n 0, 1) := by decide +kernel
theorem d_rm_str0_13 : decode method_2_code 13 = .ok (.iconst 1, 1) := by decide +kernel
theorem d_rm_str0_14 : decode method_2_code 14 = .ok (.if_icmp .le 7, 3) := by decide +kernel
theorem d_rm_str0_21 : decode method_2_code 21 = .ok (.new 7, 3) := by decide +kernel
theorem d_rm_str0_24 : decode method_2_code 24 = .ok (.dup, 1) := by decide +kernel
theorem d_rm_str0_25 : decode method_2_code 25 = .ok (.aload_n 3, 1) := by decide +kernel
theorem d_rm_str0_26 : decode method_2_code 26 = .ok (.invokespecial 9, 3) := by decide +kernel
theorem d_rm_str0_29 : decode method_2_code 29 = .ok (.areturn, 1) := by decide +kernel
set_option maxRecDepth 65536 in
set_option maxHeartbeats 40000000 in
theorem rm_str0 (l : Launch) (Z : State) (a0 : Array Value) (hw : ∀ d ∈ tables_1, d.before a0 Z = true) (ws : List Jvm.Cond) (c0 c1 : Int32) (zc : Int32) (h0 : Heap) (n0 : Nat) (Z0 : n0 ≤ h0.size) (b0 : own_b c0) (b1 : own_b c1) (O2 : Sta Z Z.heap "java/lang/String" "COMPACT_STRINGS" "Z" (.int zc)) (P5 : ¬ (zc = (0 : Int32))) (X00 : Old Z n0 h0) :
    MetFree l (⟨"com/example/kommit/kommit/EntryEqualsPinLaw", "str", "(ICC)Ljava/lang/String;"⟩ : MethodName) (head1 (Jvm.Cond.code (⟨"com/example/kommit/kommit/EntryEqualsPinLaw", "str", "(ICC)Ljava/lang/String;"⟩ : MethodName) method_2_code 4 (some (.object "java/lang/String")) :: ws) ({ frames := 6, cells := 6, slots := 12, locals := 70 } : Room)) (fun a_ U => a_ = #[(.int (0 : Int32)), (.int c0), (.int c1)] ∧ Z.Warmed39 U.vm ∧ U.heap = h0 ∧ CHv Z own_EL U.vm h0) (fun _ _ _ _ _ => True) (fun _ U o U' => ∃ v L, o = .returned v ∧ Qs Z (0 : Int32) c0 c1 h0 n0 v U'.heap L ∧ CHr Z own_EL U.vm U.heap U'.vm U'.heap ∧ ReturnedEndW U o U' L ({ frames := 6, cells := 6, slots := 12, locals := 70 } : Room).cells ({ frames := 6, cells := 6, slots := 12, locals := 70 } : Room).slots) := by
  refine MetFree.of_bodySF (plainFor_of_name pn_2) hisR ?_
  intro p e s m args below meth c s₁ Bd hml0 hP hK
  obtain ⟨rfl, hZ, hh, hCH⟩ := hP
  have hx := Bd.exec
  have hby := Bd.bytes
  have hrt := Bd.returns
  have hlk : meth.locks = false := Bd.notSynchronized
  have hml : c.maxLocals = 4 := hml0
  have hown : s.vm.findClass "com/example/kommit/kommit/EntryEqualsPinLaw" = some m.cls := findClass_of_methodNamed Bd.named
  have hnm := (name_of_methodNamed Bd.named Bd.method).1
  have X0 : Stand p l e ({ frames := 6, cells := 6, slots := 12, locals := 70 } : Room) (s.setVm s.vm) m #[(.int (0 : Int32)), (.int c0), (.int c1)] below meth c s₁ [] 0 0 := Stand.of_body Bd
  have e0 : s₁.heap = h0 := by rw [← hh, Bd.state]; rfl
  have N0 := Fr.nil n0
  have hS0 : s.Since s.vm 0 := own_since s 0
  have hstr : ∀ d ∈ Bundle.stringAtoms, d.before a0 Z = true := fun d hd => hw d ((by decide +kernel : ∀ d ∈ Bundle.stringAtoms, d ∈ tables_1) d hd)
  have hEW : EW Z a0 own_EL := own_EW hw
  have CH0 : CHr Z own_EL s.vm h0 s.vm h0 := CHr.refl hCH
  show own_G p.tables e below (fun o t => ∃ v L, o = .returned v ∧ Qs Z (0 : Int32) c0 c1 h0 n0 v t.heap L ∧ CHr Z own_EL s.vm s.heap t.vm t.heap ∧ ReturnedEndW s o t L ({ frames := 6, cells := 6, slots := 12, locals := 70 } : Room).cells ({ frames := 6, cells := 6, slots := 12, locals := 70 } : Room).slots) (s₁.setTop (entryFrame m #[(.int (0 : Int32)), (.int c0), (.int c1)] 4))
  refine own_G.cast (show entryFrame m #[(.int (0 : Int32)), (.int c0), (.int c1)] 4 = mkF m 0 #[.val (.int (0 : Int32)), .val (.int c0), .val (.int c1), .unset] [] from by first | (simp [entryFrame, mkF, argsToLocals, Value.category]; done) | rfl) ?_
  have hws : ∀ d ∈ StrChars.Road.words, d.before a0 Z = true := fun d hd => hw d ((by decide +kernel : ∀ d ∈ StrChars.Road.words, d ∈ tables_1) d hd)
  refine own_G.go (fun t_ k_ => XS.iloadN X0.here hx rfl (hb hby d_rm_str0_0) rfl k_) ?_
  show own_G _ _ _ _ (s₁.setTop (mkF m 1 #[.val (.int (0 : Int32)), .val (.int c0), .val (.int c1), .unset] [(.int (0 : Int32))]))
  obtain ⟨T_1, h_1, k_1, X_1, e_1, E_1, A_1, st_1⟩ := newP X0 hx hZ (own_w hw 4 rfl) e0 (g := (mkF m 1 #[.val (.int (0 : Int32)), .val (.int c0), .val (.int c1), .unset] [(.int (0 : Int32))])) rfl (hb hby d_rm_str0_1) rfl (by decide : ¬ ((0 : Int32) < (0 : Int32))) (cap := 0) (by decide : ((0 : Int32)).toNatClampNeg ≤ 0) (by decide) (by decide) (by decide)
  obtain ⟨a_1, g_1⟩ : ∃ z, z = h0.size := ⟨_, rfl⟩
  rw [← g_1] at A_1 st_1
  refine own_G.go st_1 ?_
  have CH_2 : CHr Z own_EL s.vm h0 s.vm h_1 := CH0.trans (CHr.ext E_1 CH0.1)
  have V_1 : Arv Z h_1 a_1 k_1 .char (0 : Int32) ([] : List Value) (.int (0 : Int32)) := (Arv.new A_1 (by decide : ¬ ((0 : Int32) < (0 : Int32)))).pad (pad_rep [] (.int (0 : Int32)) 0)
  show own_G _ _ _ _ (T_1.setTop (mkF m 3 #[.val (.int (0 : Int32)), .val (.int c0), .val (.int c1), .unset] [(.ref a_1)]))
  refine own_G.go (fun t_ k_ => XS.astoreN X_1.here hx rfl (hb hby d_rm_str0_3) rfl rfl (l' := #[.val (.int (0 : Int32)), .val (.int c0), .val (.int c1), .val (.ref a_1)]) rfl k_) ?_
  show own_G _ _ _ _ (T_1.setTop (mkF m 4 #[.val (.int (0 : Int32)), .val (.int c0), .val (.int c1), .val (.ref a_1)] []))
  refine own_G.go (fun t_ k_ => XS.iloadN X_1.here hx rfl (hb hby d_rm_str0_4) rfl k_) ?_
  show own_G _ _ _ _ (T_1.setTop (mkF m 5 #[.val (.int (0 : Int32)), .val (.int c0), .val (.int c1), .val (.ref a_1)] [(.int (0 : Int32))]))
  refine own_G.go (fun t_ k_ => XS.ifYes X_1.here hx rfl (pc0 := 5) (pc' := 12) rfl (hb hby d_rm_str0_5) rfl ((if0 _ _).trans (flt (by decide : ¬ ((0 : Int32) < (0 : Int32)))).2.2.2) (by decide) (by decide) k_) ?_
  show own_G _ _ _ _ (T_1.setTop (mkF m 12 #[.val (.int (0 : Int32)), .val (.int c0), .val (.int c1), .val (.ref a_1)] []))
  refine own_G.go (fun t_ k_ => XS.iloadN X_1.here hx rfl (hb hby d_rm_str0_12) rfl k_) ?_
  show own_G _ _ _ _ (T_1.setTop (mkF m 13 #[.val (.int (0 : Int32)), .val (.int c0), .val (.int c1), .val (.ref a_1)] [(.int (0 : Int32))]))
  refine own_G.go (fun t_ k_ => XS.iconst X_1.here hx rfl (hb hby d_rm_str0_13) k_) ?_
  show own_G _ _ _ _ (T_1.setTop (mkF m 14 #[.val (.int (0 : Int32)), .val (.int c0), .val (.int c1), .val (.ref a_1)] [(.int (1 : Int32)), (.int (0 : Int32))]))
  refine own_G.go (fun t_ k_ => XS.icmpYes X_1.here hx rfl (pc0 := 14) (pc' := 21) rfl (hb hby d_rm_str0_14) rfl (flt (by decide : ¬ ((1 : Int32) < (0 : Int32)))).2.2.2 (by decide) (by decide) k_) ?_
  show own_G _ _ _ _ (T_1.setTop (mkF m 21 #[.val (.int (0 : Int32)), .val (.int c0), .val (.int c1), .val (.ref a_1)] []))
  obtain ⟨T_3, h_3, X_3, e_3, E_3, A_3, D_3, -, st_3⟩ := newO X_1 hx hZ hown (own_w hw 5 rfl) (own_w hw 6 rfl) (own_w hw 7 rfl) e_1 (g := (mkF m 21 #[.val (.int (0 : Int32)), .val (.int c0), .val (.int c1), .val (.ref a_1)] [])) rfl (hb hby d_rm_str0_21) (by decide) (by decide)
  obtain ⟨a_3, g_3⟩ : ∃ z, z = h_1.size := ⟨_, rfl⟩
  rw [← g_3] at A_3 D_3 st_3
  refine own_G.go st_3 ?_
  have CH_4 : CHr Z own_EL s.vm h0 s.vm h_3 := CH_2.trans (CHr.ext E_3 CH_2.1)
  have Sn_3 : Safe Z own_EL s.vm h_3 a_3 := Safe.ext E_3 CH_2.1 (Safe.new (Nat.le_of_eq g_3.symm))
  have F_3_value : Fld Z h_3 a_3 "java/lang/String" "value" "[B" .null := D_3 (Or.inr (own_w hw 20 rfl)) (ty := (.array .byte)) (by decide)
  have F_3_coder : Fld Z h_3 a_3 "java/lang/String" "coder" "B" (.int (0 : Int32)) := D_3 (Or.inr (own_w hw 21 rfl)) (ty := .byte) (by decide)
  show own_G _ _ _ _ (T_3.setTop (mkF m 24 #[.val (.int (0 : Int32)), .val (.int c0), .val (.int c1), .val (.ref a_1)] [(.ref a_3)]))
  refine own_G.go (fun t_ k_ => XS.dup X_3.here hx rfl (hb hby d_rm_str0_24) rfl rfl k_) ?_
  show own_G _ _ _ _ (T_3.setTop (mkF m 25 #[.val (.int (0 : Int32)), .val (.int c0), .val (.int c1), .val (.ref a_1)] [(.ref a_3), (.ref a_3)]))
  refine own_G.go (fun t_ k_ => XS.aloadN X_3.here hx rfl (hb hby d_rm_str0_25) rfl rfl k_) ?_
  show own_G _ _ _ _ (T_3.setTop (mkF m 26 #[.val (.int (0 : Int32)), .val (.int c0), .val (.int c1), .val (.ref a_1)] [(.ref a_1), (.ref a_3), (.ref a_3)]))
  have V_1'_5 : Arv Z h_3 a_1 k_1 .char (0 : Int32) ([] : List Value) (.int (0 : Int32)) := (V_1.ext E_3)
  have g0_a_3 : n0 ≤ a_3 := Nat.le_trans (Nat.le_trans Z0 E_1.1) (Nat.le_of_eq g_3.symm)
  obtain ⟨_, T_6, L_6, Q_6, X_6, hS_6, hZ_6, hown_6, st_6⟩ := own_callIW X_3 hx hS0 (Nat.le_trans (Nat.zero_le _) (Nat.le_trans E_1.1 E_3.1)) hZ rfl hown (mvT hZ (own_w hw 8 rfl)) (mvT hZ (own_w hw 9 rfl)) (mvT hZ (own_w hw 10 rfl)) (by decide) (Q := (fun v (U : State) L => Qe Z a_3 h_3 n0 v U.heap L ∧ CHr Z own_EL s.vm h_3 U.vm U.heap)) (own_backSH (backOfSH (W := 1) (rm_e2 l Z a0 hw [] a_3 a_1 k_1 h_3 n0 (Nat.le_trans Z0 (Nat.le_trans E_1.1 E_3.1)) g0_a_3 A_3 F_3_value F_3_coder V_1'_5) hZ (own_w hw 10 rfl) (own_w hw 7 rfl) (by decide) (by decide) hEW CH_4.1)) (a := a_3) (g := (mkF m 26 #[.val (.int (0 : Int32)), .val (.int c0), .val (.int c1), .val (.ref a_1)] [(.ref a_1), (.ref a_3), (.ref a_3)])) rfl (by rw [hml]; rfl) (argsL := [(.ref a_1)]) (rest := [(.ref a_3)]) (lenOf pd_2 rfl) rfl (by show 2 * 0 + _ ≤ _; exact Nat.le_of_eq rfl) (hb hby d_rm_str0_26) e_3 rfl (by decide) (by decide)
  obtain ⟨⟨t_6, kb_6, rfl, Nq_6, K_6, Ex_6, Fc_6, Fv_6, Kb_6⟩, Ch_6⟩ := Q_6
  refine own_G.via st_6 ?_
  have Sf_7_a_3 : Safe Z own_EL T_6.vm T_6.heap a_3 := Ch_6.safe A_3.lt Sn_3
  have CH_7 : CHr Z own_EL s.vm h0 T_6.vm T_6.heap := CH_4.trans Ch_6
  have N_6 := Fr.app N0 Nq_6
  show own_G _ _ _ _ (T_6.setTop (mkF m 29 #[.val (.int (0 : Int32)), .val (.int c0), .val (.int c1), .val (.ref a_1)] [(.ref a_3)]))
  exact own_G.endH X_6 hS_6 (Nat.le_refl _) hZ_6 hEW (hh ▸ CH_7) hlk (v := (some (.ref a_3))) (fun h => by rw [hrt] at h; cases h) (fun fs hr => retOut X_6 hx hrt rfl (Or.inr (Or.inr (Or.inr (Or.inr ⟨rfl, rfl, rfl⟩)))) (hb hby d_rm_str0_29) hr) rfl ⟨a_3, t_6, kb_6, rfl, N_6, ((((Keep.refl h0 []).ext E_1).ext E_3).trans K_6 (allS (Or.inr (Nat.le_trans E_1.1 (Nat.le_of_eq g_3.symm))) all0)), (Nat.le_trans E_1.1 (Nat.le_of_eq g_3.symm)), Ex_6, Fc_6, Fv_6, Kb_6⟩ (by decide) (by decide)
theorem d_rm_str1_0 : decode method_2_code 0 = .ok (.iload_n 0, 1) := by decide +kernel
theorem d_rm_str1_1 : decode method_2_code 1 = .ok (.newarray .char, 2) := by decide +kernel
theorem d_rm_str1_3 : decode method_2_code 3 = .ok (.astore_n 3, 1) := by decide +kernel
theorem d_rm_str1_4 : decode method_2_code 4 = .ok (.iload_n 0, 1) := by decide +kernel
theorem d_rm_str1_5 : decode method_2_code 5 = .ok (.ifCond .le 7, 3) := by decide +kernel
theorem d_rm_str1_8 : decode method_2_code 8 = .ok (.aload_n 3, 1) := by decide +kernel
theorem d_rm_str1_9 : decode method_2_code 9 = .ok (.iconst 0, 1) := by decide +kernel
theorem d_rm_str1_10 : decode method_2_code 10 = .ok (.iload_n 1, 1) := by decide +kernel
theorem d_rm_str1_11 : decode method_2_code 11 = .ok (.castore, 1) := by decide +kernel
theorem d_rm_str1_12 : decode method_2_code 12 = .ok (.iload_n 0, 1) := by decide +kernel
theorem d_rm_str1_13 : decode method_2_code 13 = .ok (.iconst 1, 1) := by decide +kernel
theorem d_rm_str1_14 : decode method_2_code 14 = .ok (.if_icmp .le 7, 3) := by decide +kernel
theorem d_rm_str1_21 : decode method_2_code 21 = .ok (.new 7, 3) := by decide +kernel
theorem d_rm_str1_24 : decode method_2_code 24 = .ok (.dup, 1) := by decide +kernel
theorem d_rm_str1_25 : decode method_2_code 25 = .ok (.aload_n 3, 1) := by decide +kernel
theorem d_rm_str1_26 : decode method_2_code 26 = .ok (.invokespecial 9, 3) := by decide +kernel
theorem d_rm_str1_29 : decode method_2_code 29 = .ok (.areturn, 1) := by decide +kernel
set_option maxRecDepth 65536 in
set_option maxHeartbeats 40000000 in
theorem rm_str1 (l : Launch) (Z : State) (a0 : Array Value) (hw : ∀ d ∈ tables_1, d.before a0 Z = true) (ws : List Jvm.Cond) (c0 c1 : Int32) (zc : Int32) (h0 : Heap) (n0 : Nat) (Z0 : n0 ≤ h0.size) (b0 : own_b c0) (b1 : own_b c1) (O2 : Sta Z Z.heap "java/lang/String" "COMPACT_STRINGS" "Z" (.int zc)) (P5 : ¬ (zc = (0 : Int32))) (X00 : Old Z n0 h0) :
    MetFree l (⟨"com/example/kommit/kommit/EntryEqualsPinLaw", "str", "(ICC)Ljava/lang/String;"⟩ : MethodName) (head1 (Jvm.Cond.code (⟨"com/example/kommit/kommit/EntryEqualsPinLaw", "str", "(ICC)Ljava/lang/String;"⟩ : MethodName) method_2_code 4 (some (.object "java/lang/String")) :: ws) ({ frames := 6, cells := 6, slots := 12, locals := 70 } : Room)) (fun a_ U => a_ = #[(.int (1 : Int32)), (.int c0), (.int c1)] ∧ Z.Warmed39 U.vm ∧ U.heap = h0 ∧ CHv Z own_EL U.vm h0) (fun _ _ _ _ _ => True) (fun _ U o U' => ∃ v L, o = .returned v ∧ Qs Z (1 : Int32) c0 c1 h0 n0 v U'.heap L ∧ CHr Z own_EL U.vm U.heap U'.vm U'.heap ∧ ReturnedEndW U o U' L ({ frames := 6, cells := 6, slots := 12, locals := 70 } : Room).cells ({ frames := 6, cells := 6, slots := 12, locals := 70 } : Room).slots) := by
  refine MetFree.of_bodySF (plainFor_of_name pn_2) hisR ?_
  intro p e s m args below meth c s₁ Bd hml0 hP hK
  obtain ⟨rfl, hZ, hh, hCH⟩ := hP
  have hx := Bd.exec
  have hby := Bd.bytes
  have hrt := Bd.returns
  have hlk : meth.locks = false := Bd.notSynchronized
  have hml : c.maxLocals = 4 := hml0
  have hown : s.vm.findClass "com/example/kommit/kommit/EntryEqualsPinLaw" = some m.cls := findClass_of_methodNamed Bd.named
  have hnm := (name_of_methodNamed Bd.named Bd.method).1
  have X0 : Stand p l e ({ frames := 6, cells := 6, slots := 12, locals := 70 } : Room) (s.setVm s.vm) m #[(.int (1 : Int32)), (.int c0), (.int c1)] below meth c s₁ [] 0 0 := Stand.of_body Bd
  have e0 : s₁.heap = h0 := by rw [← hh, Bd.state]; rfl
  have N0 := Fr.nil n0
  have hS0 : s.Since s.vm 0 := own_since s 0
  have hstr : ∀ d ∈ Bundle.stringAtoms, d.before a0 Z = true := fun d hd => hw d ((by decide +kernel : ∀ d ∈ Bundle.stringAtoms, d ∈ tables_1) d hd)
  have hEW : EW Z a0 own_EL := own_EW hw
  have CH0 : CHr Z own_EL s.vm h0 s.vm h0 := CHr.refl hCH
  show own_G p.tables e below (fun o t => ∃ v L, o = .returned v ∧ Qs Z (1 : Int32) c0 c1 h0 n0 v t.heap L ∧ CHr Z own_EL s.vm s.heap t.vm t.heap ∧ ReturnedEndW s o t L ({ frames := 6, cells := 6, slots := 12, locals := 70 } : Room).cells ({ frames := 6, cells := 6, slots := 12, locals := 70 } : Room).slots) (s₁.setTop (entryFrame m #[(.int (1 : Int32)), (.int c0), (.int c1)] 4))
  refine own_G.cast (show entryFrame m #[(.int (1 : Int32)), (.int c0), (.int c1)] 4 = mkF m 0 #[.val (.int (1 : Int32)), .val (.int c0), .val (.int c1), .unset] [] from by first | (simp [entryFrame, mkF, argsToLocals, Value.category]; done) | rfl) ?_
  have hws : ∀ d ∈ StrChars.Road.words, d.before a0 Z = true := fun d hd => hw d ((by decide +kernel : ∀ d ∈ StrChars.Road.words, d ∈ tables_1) d hd)
  refine own_G.go (fun t_ k_ => XS.iloadN X0.here hx rfl (hb hby d_rm_str1_0) rfl k_) ?_
  show own_G _ _ _ _ (s₁.setTop (mkF m 1 #[.val (.int (1 : Int32)), .val (.int c0), .val (.int c1), .unset] [(.int (1 : Int32))]))
  obtain ⟨T_1, h_1, k_1, X_1, e_1, E_1, A_1, st_1⟩ := newP X0 hx hZ (own_w hw 4 rfl) e0 (g := (mkF m 1 #[.val (.int (1 : Int32)), .val (.int c0), .val (.int c1), .unset] [(.int (1 : Int32))])) rfl (hb hby d_rm_str1_1) rfl (by decide : ¬ ((1 : Int32) < (0 : Int32))) (cap := 1) (by decide : ((1 : Int32)).toNatClampNeg ≤ 1) (by decide) (by decide) (by decide)
  obtain ⟨a_1, g_1⟩ : ∃ z, z = h0.size := ⟨_, rfl⟩
  rw [← g_1] at A_1 st_1
  refine own_G.go st_1 ?_
  have CH_2 : CHr Z own_EL s.vm h0 s.vm h_1 := CH0.trans (CHr.ext E_1 CH0.1)
  have V_1 : Arv Z h_1 a_1 k_1 .char (1 : Int32) ([(.int (0 : Int32))] : List Value) (.int (0 : Int32)) := (Arv.new A_1 (by decide : ¬ ((1 : Int32) < (0 : Int32)))).pad (pad_rep [] (.int (0 : Int32)) 1)
  show own_G _ _ _ _ (T_1.setTop (mkF m 3 #[.val (.int (1 : Int32)), .val (.int c0), .val (.int c1), .unset] [(.ref a_1)]))
  refine own_G.go (fun t_ k_ => XS.astoreN X_1.here hx rfl (hb hby d_rm_str1_3) rfl rfl (l' := #[.val (.int (1 : Int32)), .val (.int c0), .val (.int c1), .val (.ref a_1)]) rfl k_) ?_
  show own_G _ _ _ _ (T_1.setTop (mkF m 4 #[.val (.int (1 : Int32)), .val (.int c0), .val (.int c1), .val (.ref a_1)] []))
  refine own_G.go (fun t_ k_ => XS.iloadN X_1.here hx rfl (hb hby d_rm_str1_4) rfl k_) ?_
  show own_G _ _ _ _ (T_1.setTop (mkF m 5 #[.val (.int (1 : Int32)), .val (.int c0), .val (.int c1), .val (.ref a_1)] [(.int (1 : Int32))]))
  refine own_G.go (fun t_ k_ => XS.ifNo X_1.here hx rfl (hb hby d_rm_str1_5) rfl ((if0 _ _).trans (tlt (by decide : (0 : Int32) < (1 : Int32))).2.2.2) k_) ?_
  show own_G _ _ _ _ (T_1.setTop (mkF m 8 #[.val (.int (1 : Int32)), .val (.int c0), .val (.int c1), .val (.ref a_1)] []))
  refine own_G.go (fun t_ k_ => XS.aloadN X_1.here hx rfl (hb hby d_rm_str1_8) rfl rfl k_) ?_
  show own_G _ _ _ _ (T_1.setTop (mkF m 9 #[.val (.int (1 : Int32)), .val (.int c0), .val (.int c1), .val (.ref a_1)] [(.ref a_1)]))
  refine own_G.go (fun t_ k_ => XS.iconst X_1.here hx rfl (hb hby d_rm_str1_9) k_) ?_
  show own_G _ _ _ _ (T_1.setTop (mkF m 10 #[.val (.int (1 : Int32)), .val (.int c0), .val (.int c1), .val (.ref a_1)] [(.int (0 : Int32)), (.ref a_1)]))
  refine own_G.go (fun t_ k_ => XS.iloadN X_1.here hx rfl (hb hby d_rm_str1_10) rfl k_) ?_
  show own_G _ _ _ _ (T_1.setTop (mkF m 11 #[.val (.int (1 : Int32)), .val (.int c0), .val (.int c1), .val (.ref a_1)] [(.int c0), (.int (0 : Int32)), (.ref a_1)]))
  obtain ⟨T_3, h_3, X_3, e_3, W_3, V_3, st_3⟩ := own_stC X_1 hx hZ e_1 V_1 (j := (0 : Int32)) 0 (Nat.le_of_ble_eq_true rfl) (by decide) (by decide : ¬ ((0 : Int32) < (0 : Int32)) ∧ (0 : Int32) < (1 : Int32)) (g := (mkF m 11 #[.val (.int (1 : Int32)), .val (.int c0), .val (.int c1), .val (.ref a_1)] [(.int c0), (.int (0 : Int32)), (.ref a_1)])) rfl rfl (hb hby d_rm_str1_11)
  refine own_G.go st_3 ?_
  have CH_4 : CHr Z own_EL s.vm h0 s.vm h_3 := CH_2.trans (CHr.wr W_3 (Safe.arv hZ.alike V_1 (by decide)) CH_2.1)
  have V_3q : Arv Z h_3 a_1 k_1 .char (1 : Int32) ([(.int (nar .char c0))] : List Value) (.int (0 : Int32)) := V_3
  have g0_a_1 : n0 ≤ a_1 := Nat.le_trans Z0 (Nat.le_of_eq g_1.symm)
  have N_3 := Fr.snoc X_3 N0 g0_a_1
  show own_G _ _ _ _ (T_3.setTop (mkF m 12 #[.val (.int (1 : Int32)), .val (.int c0), .val (.int c1), .val (.ref a_1)] []))
  refine own_G.go (fun t_ k_ => XS.iloadN X_3.here hx rfl (hb hby d_rm_str1_12) rfl k_) ?_
  show own_G _ _ _ _ (T_3.setTop (mkF m 13 #[.val (.int (1 : Int32)), .val (.int c0), .val (.int c1), .val (.ref a_1)] [(.int (1 : Int32))]))
  refine own_G.go (fun t_ k_ => XS.iconst X_3.here hx rfl (hb hby d_rm_str1_13) k_) ?_
  show own_G _ _ _ _ (T_3.setTop (mkF m 14 #[.val (.int (1 : Int32)), .val (.int c0), .val (.int c1), .val (.ref a_1)] [(.int (1 : Int32)), (.int (1 : Int32))]))
  refine own_G.go (fun t_ k_ => XS.icmpYes X_3.here hx rfl (pc0 := 14) (pc' := 21) rfl (hb hby d_rm_str1_14) rfl (flt (by decide : ¬ ((1 : Int32) < (1 : Int32)))).2.2.2 (by decide) (by decide) k_) ?_
  show own_G _ _ _ _ (T_3.setTop (mkF m 21 #[.val (.int (1 : Int32)), .val (.int c0), .val (.int c1), .val (.ref a_1)] []))
  obtain ⟨T_5, h_5, X_5, e_5, E_5, A_5, D_5, -, st_5⟩ := newO X_3 hx hZ hown (own_w hw 5 rfl) (own_w hw 6 rfl) (own_w hw 7 rfl) e_3 (g := (mkF m 21 #[.val (.int (1 : Int32)), .val (.int c0), .val (.int c1), .val (.ref a_1)] [])) rfl (hb hby d_rm_str1_21) (by decide) (by decide)
  obtain ⟨a_5, g_5⟩ : ∃ z, z = h_3.size := ⟨_, rfl⟩
  rw [← g_5] at A_5 D_5 st_5
  refine own_G.go st_5 ?_
  have CH_6 : CHr Z own_EL s.vm h0 s.vm h_5 := CH_4.trans (CHr.ext E_5 CH_4.1)
  have Sn_5 : Safe Z own_EL s.vm h_5 a_5 := Safe.ext E_5 CH_4.1 (Safe.new (Nat.le_of_eq g_5.symm))
  have F_5_value : Fld Z h_5 a_5 "java/lang/String" "value" "[B" .null := D_5 (Or.inr (own_w hw 20 rfl)) (ty := (.array .byte)) (by decide)
  have F_5_coder : Fld Z h_5 a_5 "java/lang/String" "coder" "B" (.int (0 : Int32)) := D_5 (Or.inr (own_w hw 21 rfl)) (ty := .byte) (by decide)
  show own_G _ _ _ _ (T_5.setTop (mkF m 24 #[.val (.int (1 : Int32)), .val (.int c0), .val (.int c1), .val (.ref a_1)] [(.ref a_5)]))
  refine own_G.go (fun t_ k_ => XS.dup X_5.here hx rfl (hb hby d_rm_str1_24) rfl rfl k_) ?_
  show own_G _ _ _ _ (T_5.setTop (mkF m 25 #[.val (.int (1 : Int32)), .val (.int c0), .val (.int c1), .val (.ref a_1)] [(.ref a_5), (.ref a_5)]))
  refine own_G.go (fun t_ k_ => XS.aloadN X_5.here hx rfl (hb hby d_rm_str1_25) rfl rfl k_) ?_
  show own_G _ _ _ _ (T_5.setTop (mkF m 26 #[.val (.int (1 : Int32)), .val (.int c0), .val (.int c1), .val (.ref a_1)] [(.ref a_1), (.ref a_5), (.ref a_5)]))
  have V_3q'_7 : Arv Z h_5 a_1 k_1 .char (1 : Int32) ([(.int (nar .char c0))] : List Value) (.int (0 : Int32)) := (V_3q.ext E_5)
  have VC : Arv Z h_5 a_1 k_1 .char (1 : Int32) ([(.int c0)] : List Value) (.int (0 : Int32)) := by have q := V_3q'_7; rw [own_narc b0] at q; exact q
  have hp : ∀ c ∈ ([c0] : List Int32), own_b c := own_cs_b (n := 1) b0 b1
  have g0_a_5 : n0 ≤ a_5 := Nat.le_trans (Nat.le_trans Z0 (Nat.le_trans E_1.1 (Keep.of_wr W_3).1)) (Nat.le_of_eq g_5.symm)
  have Z_8s : n0 ≤ h_5.size := (Nat.le_trans Z0 (Nat.le_trans (Nat.le_trans E_1.1 (Keep.of_wr W_3).1) E_5.1))
  have O_9d : Old Z n0 h_5 := (((X00.ext E_1).wr W_3 g0_a_1).ext E_5)
  obtain ⟨_, T_10, L_10, Q_10, X_10, st_10⟩ := own_callI X_5 hx rfl hown (mvT hZ (own_w hw 8 rfl)) (mvT hZ (own_w hw 9 rfl)) (mvT hZ (own_w hw 10 rfl)) (by decide) (Q := (StrChars.Road.QV Z a_5 (1 : Int32) (([c0] : List Int32).map (fun c => c.toInt8.toInt32)) h_5 n0)) (StrChars.Road.backV (W := 1) hZ hws (kI := 4) (own_w hw 6 rfl) (cs := ([c0] : List Int32)) (bs := ([c0] : List Int32).map (fun c => c.toInt8.toInt32)) (n := 1) g0_a_5 Z_8s A_5 F_5_value F_5_coder VC (O2.ext O_9d.2) P5 rfl rfl (by decide) (by decide) hp rfl (by decide) (by decide)) (a := a_5) (g := (mkF m 26 #[.val (.int (1 : Int32)), .val (.int c0), .val (.int c1), .val (.ref a_1)] [(.ref a_1), (.ref a_5), (.ref a_5)])) rfl (by rw [hml]; rfl) (argsL := [(.ref a_1)]) (rest := [(.ref a_5)]) (lenOf pd_2 rfl) rfl (by show 2 * 0 + _ ≤ _; exact Nat.le_of_eq rfl) (hb hby d_rm_str1_26) e_5 rfl (by decide) (by decide)
  obtain ⟨rfl, Nq_10, K_10, Ex_10, Fc_10, t_10, kb_10, tn_10, th_10, tx_10, Fv_10, Kb_10⟩ := Q_10
  refine own_G.via st_10 ?_
  have Sf_11_a_5 : Safe Z own_EL s.vm T_10.heap a_5 := (Safe.keep K_10 (sfS Sn_5 sf0) CH_6.1 Sn_5)
  have CH_11 : CHr Z own_EL s.vm h0 s.vm T_10.heap := CH_6.trans (CHr.keep K_10 (sfS Sn_5 sf0) CH_6.1)
  have N_10 := Fr.app N_3 Nq_10
  show own_G _ _ _ _ (T_10.setTop (mkF m 29 #[.val (.int (1 : Int32)), .val (.int c0), .val (.int c1), .val (.ref a_1)] [(.ref a_5)]))
  exact own_G.endH X_10 hS0 (Nat.le_trans (Nat.zero_le _) (Nat.le_trans (Nat.le_trans (Nat.le_trans E_1.1 (Keep.of_wr W_3).1) E_5.1) K_10.1)) hZ hEW (hh ▸ CH_11) hlk (v := (some (.ref a_5))) (fun h => by rw [hrt] at h; cases h) (fun fs hr => retOut X_10 hx hrt rfl (Or.inr (Or.inr (Or.inr (Or.inr ⟨rfl, rfl, rfl⟩)))) (hb hby d_rm_str1_29) hr) rfl ⟨a_5, t_10, kb_10, rfl, N_10, (((((Keep.refl h0 []).ext E_1).wr W_3 (Or.inr (Nat.le_of_eq g_1.symm))).ext E_5).trans K_10 (allS (Or.inr (Nat.le_trans (Nat.le_trans E_1.1 (Keep.of_wr W_3).1) (Nat.le_of_eq g_5.symm))) all0)), (Nat.le_trans (Nat.le_trans E_1.1 (Keep.of_wr W_3).1) (Nat.le_of_eq g_5.symm)), Ex_10, Fc_10, Fv_10, Kb_10⟩ (by decide) (by decide)
theorem d_rm_str2_0 : decode method_2_code 0 = .ok (.iload_n 0, 1) := by decide +kernel
theorem d_rm_str2_1 : decode method_2_code 1 = .ok (.newarray .char, 2) := by decide +kernel
theorem d_rm_str2_3 : decode method_2_code 3 = .ok (.astore_n 3, 1) := by decide +kernel
theorem d_rm_str2_4 : decode method_2_code 4 = .ok (.iload_n 0, 1) := by decide +kernel
theorem d_rm_str2_5 : decode method_2_code 5 = .ok (.ifCond .le 7, 3) := by decide +kernel
theorem d_rm_str2_8 : decode method_2_code 8 = .ok (.aload_n 3, 1) := by decide +kernel
theorem d_rm_str2_9 : decode method_2_code 9 = .ok (.iconst 0, 1) := by decide +kernel
theorem d_rm_str2_10 : decode method_2_code 10 = .ok (.iload_n 1, 1) := by decide +kernel
theorem d_rm_str2_11 : decode method_2_code 11 = .ok (.castore, 1) := by decide +kernel
theorem d_rm_str2_12 : decode method_2_code 12 = .ok (.iload_n 0, 1) := by decide +kernel
theorem d_rm_str2_13 : decode method_2_code 13 = .ok (.iconst 1, 1) := by decide +kernel
theorem d_rm_str2_14 : decode method_2_code 14 = .ok (.if_icmp .le 7, 3) := by decide +kernel
theorem d_rm_str2_17 : decode method_2_code 17 = .ok (.aload_n 3, 1) := by decide +kernel
theorem d_rm_str2_18 : decode method_2_code 18 = .ok (.iconst 1, 1) := by decide +kernel
theorem d_rm_str2_19 : decode method_2_code 19 = .ok (.iload_n 2, 1) := by decide +kernel
theorem d_rm_str2_20 : decode method_2_code 20 = .ok (.castore, 1) := by decide +kernel
theorem d_rm_str2_21 : decode method_2_code 21 = .ok (.new 7, 3) := by decide +kernel
theorem d_rm_str2_24 : decode method_2_code 24 = .ok (.dup, 1) := by decide +kernel
theorem d_rm_str2_25 : decode method_2_code 25 = .ok (.aload_n 3, 1) := by decide +kernel
theorem d_rm_str2_26 : decode method_2_code 26 = .ok (.invokespecial 9, 3) := by decide +kernel
theorem d_rm_str2_29 : decode method_2_code 29 = .ok (.areturn, 1) := by decide +kernel
set_option maxRecDepth 65536 in
set_option maxHeartbeats 40000000 in
theorem rm_str2 (l : Launch) (Z : State) (a0 : Array Value) (hw : ∀ d ∈ tables_1, d.before a0 Z = true) (ws : List Jvm.Cond) (c0 c1 : Int32) (zc : Int32) (h0 : Heap) (n0 : Nat) (Z0 : n0 ≤ h0.size) (b0 : own_b c0) (b1 : own_b c1) (O2 : Sta Z Z.heap "java/lang/String" "COMPACT_STRINGS" "Z" (.int zc)) (P5 : ¬ (zc = (0 : Int32))) (X00 : Old Z n0 h0) :
    MetFree l (⟨"com/example/kommit/kommit/EntryEqualsPinLaw", "str", "(ICC)Ljava/lang/String;"⟩ : MethodName) (head1 (Jvm.Cond.code (⟨"com/example/kommit/kommit/EntryEqualsPinLaw", "str", "(ICC)Ljava/lang/String;"⟩ : MethodName) method_2_code 4 (some (.object "java/lang/String")) :: ws) ({ frames := 6, cells := 6, slots := 12, locals := 70 } : Room)) (fun a_ U => a_ = #[(.int (2 : Int32)), (.int c0), (.int c1)] ∧ Z.Warmed39 U.vm ∧ U.heap = h0 ∧ CHv Z own_EL U.vm h0) (fun _ _ _ _ _ => True) (fun _ U o U' => ∃ v L, o = .returned v ∧ Qs Z (2 : Int32) c0 c1 h0 n0 v U'.heap L ∧ CHr Z own_EL U.vm U.heap U'.vm U'.heap ∧ ReturnedEndW U o U' L ({ frames := 6, cells := 6, slots := 12, locals := 70 } : Room).cells ({ frames := 6, cells := 6, slots := 12, locals := 70 } : Room).slots) := by
  refine MetFree.of_bodySF (plainFor_of_name pn_2) hisR ?_
  intro p e s m args below meth c s₁ Bd hml0 hP hK
  obtain ⟨rfl, hZ, hh, hCH⟩ := hP
  have hx := Bd.exec
  have hby := Bd.bytes
  have hrt := Bd.returns
  have hlk : meth.locks = false := Bd.notSynchronized
  have hml : c.maxLocals = 4 := hml0
  have hown : s.vm.findClass "com/example/kommit/kommit/EntryEqualsPinLaw" = some m.cls := findClass_of_methodNamed Bd.named
  have hnm := (name_of_methodNamed Bd.named Bd.method).1
  have X0 : Stand p l e ({ frames := 6, cells := 6, slots := 12, locals := 70 } : Room) (s.setVm s.vm) m #[(.int (2 : Int32)), (.int c0), (.int c1)] below meth c s₁ [] 0 0 := Stand.of_body Bd
  have e0 : s₁.heap = h0 := by rw [← hh, Bd.state]; rfl
  have N0 := Fr.nil n0
  have hS0 : s.Since s.vm 0 := own_since s 0
  have hstr : ∀ d ∈ Bundle.stringAtoms, d.before a0 Z = true := fun d hd => hw d ((by decide +kernel : ∀ d ∈ Bundle.stringAtoms, d ∈ tables_1) d hd)
  have hEW : EW Z a0 own_EL := own_EW hw
  have CH0 : CHr Z own_EL s.vm h0 s.vm h0 := CHr.refl hCH
  show own_G p.tables e below (fun o t => ∃ v L, o = .returned v ∧ Qs Z (2 : Int32) c0 c1 h0 n0 v t.heap L ∧ CHr Z own_EL s.vm s.heap t.vm t.heap ∧ ReturnedEndW s o t L ({ frames := 6, cells := 6, slots := 12, locals := 70 } : Room).cells ({ frames := 6, cells := 6, slots := 12, locals := 70 } : Room).slots) (s₁.setTop (entryFrame m #[(.int (2 : Int32)), (.int c0), (.int c1)] 4))
  refine own_G.cast (show entryFrame m #[(.int (2 : Int32)), (.int c0), (.int c1)] 4 = mkF m 0 #[.val (.int (2 : Int32)), .val (.int c0), .val (.int c1), .unset] [] from by first | (simp [entryFrame, mkF, argsToLocals, Value.category]; done) | rfl) ?_
  have hws : ∀ d ∈ StrChars.Road.words, d.before a0 Z = true := fun d hd => hw d ((by decide +kernel : ∀ d ∈ StrChars.Road.words, d ∈ tables_1) d hd)
  refine own_G.go (fun t_ k_ => XS.iloadN X0.here hx rfl (hb hby d_rm_str2_0) rfl k_) ?_
  show own_G _ _ _ _ (s₁.setTop (mkF m 1 #[.val (.int (2 : Int32)), .val (.int c0), .val (.int c1), .unset] [(.int (2 : Int32))]))
  obtain ⟨T_1, h_1, k_1, X_1, e_1, E_1, A_1, st_1⟩ := newP X0 hx hZ (own_w hw 4 rfl) e0 (g := (mkF m 1 #[.val (.int (2 : Int32)), .val (.int c0), .val (.int c1), .unset] [(.int (2 : Int32))])) rfl (hb hby d_rm_str2_1) rfl (by decide : ¬ ((2 : Int32) < (0 : Int32))) (cap := 2) (by decide : ((2 : Int32)).toNatClampNeg ≤ 2) (by decide) (by decide) (by decide)
  obtain ⟨a_1, g_1⟩ : ∃ z, z = h0.size := ⟨_, rfl⟩
  rw [← g_1] at A_1 st_1
  refine own_G.go st_1 ?_
  have CH_2 : CHr Z own_EL s.vm h0 s.vm h_1 := CH0.trans (CHr.ext E_1 CH0.1)
  have V_1 : Arv Z h_1 a_1 k_1 .char (2 : Int32) ([(.int (0 : Int32)), (.int (0 : Int32))] : List Value) (.int (0 : Int32)) := (Arv.new A_1 (by decide : ¬ ((2 : Int32) < (0 : Int32)))).pad (pad_rep [] (.int (0 : Int32)) 2)
  show own_G _ _ _ _ (T_1.setTop (mkF m 3 #[.val (.int (2 : Int32)), .val (.int c0), .val (.int c1), .unset] [(.ref a_1)]))
  refine own_G.go (fun t_ k_ => XS.astoreN X_1.here hx rfl (hb hby d_rm_str2_3) rfl rfl (l' := #[.val (.int (2 : Int32)), .val (.int c0), .val (.int c1), .val (.ref a_1)]) rfl k_) ?_
  show own_G _ _ _ _ (T_1.setTop (mkF m 4 #[.val (.int (2 : Int32)), .val (.int c0), .val (.int c1), .val (.ref a_1)] []))
  refine own_G.go (fun t_ k_ => XS.iloadN X_1.here hx rfl (hb hby d_rm_str2_4) rfl k_) ?_
  show own_G _ _ _ _ (T_1.setTop (mkF m 5 #[.val (.int (2 : Int32)), .val (.int c0), .val (.int c1), .val (.ref a_1)] [(.int (2 : Int32))]))
  refine own_G.go (fun t_ k_ => XS.ifNo X_1.here hx rfl (hb hby d_rm_str2_5) rfl ((if0 _ _).trans (tlt (by decide : (0 : Int32) < (2 : Int32))).2.2.2) k_) ?_
  show own_G _ _ _ _ (T_1.setTop (mkF m 8 #[.val (.int (2 : Int32)), .val (.int c0), .val (.int c1), .val (.ref a_1)] []))
  refine own_G.go (fun t_ k_ => XS.aloadN X_1.here hx rfl (hb hby d_rm_str2_8) rfl rfl k_) ?_
  show own_G _ _ _ _ (T_1.setTop (mkF m 9 #[.val (.int (2 : Int32)), .val (.int c0), .val (.int c1), .val (.ref a_1)] [(.ref a_1)]))
  refine own_G.go (fun t_ k_ => XS.iconst X_1.here hx rfl (hb hby d_rm_str2_9) k_) ?_
  show own_G _ _ _ _ (T_1.setTop (mkF m 10 #[.val (.int (2 : Int32)), .val (.int c0), .val (.int c1), .val (.ref a_1)] [(.int (0 : Int32)), (.ref a_1)]))
  refine own_G.go (fun t_ k_ => XS.iloadN X_1.here hx rfl (hb hby d_rm_str2_10) rfl k_) ?_
  show own_G _ _ _ _ (T_1.setTop (mkF m 11 #[.val (.int (2 : Int32)), .val (.int c0), .val (.int c1), .val (.ref a_1)] [(.int c0), (.int (0 : Int32)), (.ref a_1)]))
  obtain ⟨T_3, h_3, X_3, e_3, W_3, V_3, st_3⟩ := own_stC X_1 hx hZ e_1 V_1 (j := (0 : Int32)) 0 (Nat.le_of_ble_eq_true rfl) (by decide) (by decide : ¬ ((0 : Int32) < (0 : Int32)) ∧ (0 : Int32) < (2 : Int32)) (g := (mkF m 11 #[.val (.int (2 : Int32)), .val (.int c0), .val (.int c1), .val (.ref a_1)] [(.int c0), (.int (0 : Int32)), (.ref a_1)])) rfl rfl (hb hby d_rm_str2_11)
  refine own_G.go st_3 ?_
  have CH_4 : CHr Z own_EL s.vm h0 s.vm h_3 := CH_2.trans (CHr.wr W_3 (Safe.arv hZ.alike V_1 (by decide)) CH_2.1)
  have V_3q : Arv Z h_3 a_1 k_1 .char (2 : Int32) ([(.int (nar .char c0)), (.int (0 : Int32))] : List Value) (.int (0 : Int32)) := V_3
  have g0_a_1 : n0 ≤ a_1 := Nat.le_trans Z0 (Nat.le_of_eq g_1.symm)
  have N_3 := Fr.snoc X_3 N0 g0_a_1
  show own_G _ _ _ _ (T_3.setTop (mkF m 12 #[.val (.int (2 : Int32)), .val (.int c0), .val (.int c1), .val (.ref a_1)] []))
  refine own_G.go (fun t_ k_ => XS.iloadN X_3.here hx rfl (hb hby d_rm_str2_12) rfl k_) ?_
  show own_G _ _ _ _ (T_3.setTop (mkF m 13 #[.val (.int (2 : Int32)), .val (.int c0), .val (.int c1), .val (.ref a_1)] [(.int (2 : Int32))]))
  refine own_G.go (fun t_ k_ => XS.iconst X_3.here hx rfl (hb hby d_rm_str2_13) k_) ?_
  show own_G _ _ _ _ (T_3.setTop (mkF m 14 #[.val (.int (2 : Int32)), .val (.int c0), .val (.int c1), .val (.ref a_1)] [(.int (1 : Int32)), (.int (2 : Int32))]))
  refine own_G.go (fun t_ k_ => XS.icmpNo X_3.here hx rfl (hb hby d_rm_str2_14) rfl (tlt (by decide : (1 : Int32) < (2 : Int32))).2.2.2 k_) ?_
  show own_G _ _ _ _ (T_3.setTop (mkF m 17 #[.val (.int (2 : Int32)), .val (.int c0), .val (.int c1), .val (.ref a_1)] []))
  refine own_G.go (fun t_ k_ => XS.aloadN X_3.here hx rfl (hb hby d_rm_str2_17) rfl rfl k_) ?_
  show own_G _ _ _ _ (T_3.setTop (mkF m 18 #[.val (.int (2 : Int32)), .val (.int c0), .val (.int c1), .val (.ref a_1)] [(.ref a_1)]))
  refine own_G.go (fun t_ k_ => XS.iconst X_3.here hx rfl (hb hby d_rm_str2_18) k_) ?_
  show own_G _ _ _ _ (T_3.setTop (mkF m 19 #[.val (.int (2 : Int32)), .val (.int c0), .val (.int c1), .val (.ref a_1)] [(.int (1 : Int32)), (.ref a_1)]))
  refine own_G.go (fun t_ k_ => XS.iloadN X_3.here hx rfl (hb hby d_rm_str2_19) rfl k_) ?_
  show own_G _ _ _ _ (T_3.setTop (mkF m 20 #[.val (.int (2 : Int32)), .val (.int c0), .val (.int c1), .val (.ref a_1)] [(.int c1), (.int (1 : Int32)), (.ref a_1)]))
  obtain ⟨T_5, h_5, X_5, e_5, W_5, V_5, st_5⟩ := own_stC X_3 hx hZ e_3 V_3q (j := (1 : Int32)) 1 (Nat.le_of_ble_eq_true rfl) (by decide) (by decide : ¬ ((1 : Int32) < (0 : Int32)) ∧ (1 : Int32) < (2 : Int32)) (g := (mkF m 20 #[.val (.int (2 : Int32)), .val (.int c0), .val (.int c1), .val (.ref a_1)] [(.int c1), (.int (1 : Int32)), (.ref a_1)])) rfl rfl (hb hby d_rm_str2_20)
  refine own_G.go st_5 ?_
  have CH_6 : CHr Z own_EL s.vm h0 s.vm h_5 := CH_4.trans (CHr.wr W_5 (Safe.arv hZ.alike V_3q (by decide)) CH_4.1)
  have V_5q : Arv Z h_5 a_1 k_1 .char (2 : Int32) ([(.int (nar .char c0)), (.int (nar .char c1))] : List Value) (.int (0 : Int32)) := V_5
  have N_5 := Fr.snoc X_5 N_3 g0_a_1
  show own_G _ _ _ _ (T_5.setTop (mkF m 21 #[.val (.int (2 : Int32)), .val (.int c0), .val (.int c1), .val (.ref a_1)] []))
  obtain ⟨T_7, h_7, X_7, e_7, E_7, A_7, D_7, -, st_7⟩ := newO X_5 hx hZ hown (own_w hw 5 rfl) (own_w hw 6 rfl) (own_w hw 7 rfl) e_5 (g := (mkF m 21 #[.val (.int (2 : Int32)), .val (.int c0), .val (.int c1), .val (.ref a_1)] [])) rfl (hb hby d_rm_str2_21) (by decide) (by decide)
  obtain ⟨a_7, g_7⟩ : ∃ z, z = h_5.size := ⟨_, rfl⟩
  rw [← g_7] at A_7 D_7 st_7
  refine own_G.go st_7 ?_
  have CH_8 : CHr Z own_EL s.vm h0 s.vm h_7 := CH_6.trans (CHr.ext E_7 CH_6.1)
  have Sn_7 : Safe Z own_EL s.vm h_7 a_7 := Safe.ext E_7 CH_6.1 (Safe.new (Nat.le_of_eq g_7.symm))
  have F_7_value : Fld Z h_7 a_7 "java/lang/String" "value" "[B" .null := D_7 (Or.inr (own_w hw 20 rfl)) (ty := (.array .byte)) (by decide)
  have F_7_coder : Fld Z h_7 a_7 "java/lang/String" "coder" "B" (.int (0 : Int32)) := D_7 (Or.inr (own_w hw 21 rfl)) (ty := .byte) (by decide)
  show own_G _ _ _ _ (T_7.setTop (mkF m 24 #[.val (.int (2 : Int32)), .val (.int c0), .val (.int c1), .val (.ref a_1)] [(.ref a_7)]))
  refine own_G.go (fun t_ k_ => XS.dup X_7.here hx rfl (hb hby d_rm_str2_24) rfl rfl k_) ?_
  show own_G _ _ _ _ (T_7.setTop (mkF m 25 #[.val (.int (2 : Int32)), .val (.int c0), .val (.int c1), .val (.ref a_1)] [(.ref a_7), (.ref a_7)]))
  refine own_G.go (fun t_ k_ => XS.aloadN X_7.here hx rfl (hb hby d_rm_str2_25) rfl rfl k_) ?_
  show own_G _ _ _ _ (T_7.setTop (mkF m 26 #[.val (.int (2 : Int32)), .val (.int c0), .val (.int c1), .val (.ref a_1)] [(.ref a_1), (.ref a_7), (.ref a_7)]))
  have V_5q'_9 : Arv Z h_7 a_1 k_1 .char (2 : Int32) ([(.int (nar .char c0)), (.int (nar .char c1))] : List Value) (.int (0 : Int32)) := (V_5q.ext E_7)
  have VC : Arv Z h_7 a_1 k_1 .char (2 : Int32) ([(.int c0), (.int c1)] : List Value) (.int (0 : Int32)) := by have q := V_5q'_9; rw [own_narc b0, own_narc b1] at q; exact q
  have hp : ∀ c ∈ ([c0, c1] : List Int32), own_b c := own_cs_b (n := 2) b0 b1
  have g0_a_7 : n0 ≤ a_7 := Nat.le_trans (Nat.le_trans Z0 (Nat.le_trans (Nat.le_trans E_1.1 (Keep.of_wr W_3).1) (Keep.of_wr W_5).1)) (Nat.le_of_eq g_7.symm)
  have Z_10s : n0 ≤ h_7.size := (Nat.le_trans Z0 (Nat.le_trans (Nat.le_trans (Nat.le_trans E_1.1 (Keep.of_wr W_3).1) (Keep.of_wr W_5).1) E_7.1))
  have O_11d : Old Z n0 h_7 := ((((X00.ext E_1).wr W_3 g0_a_1).wr W_5 g0_a_1).ext E_7)
  obtain ⟨_, T_12, L_12, Q_12, X_12, st_12⟩ := own_callI X_7 hx rfl hown (mvT hZ (own_w hw 8 rfl)) (mvT hZ (own_w hw 9 rfl)) (mvT hZ (own_w hw 10 rfl)) (by decide) (Q := (StrChars.Road.QV Z a_7 (2 : Int32) (([c0, c1] : List Int32).map (fun c => c.toInt8.toInt32)) h_7 n0)) (StrChars.Road.backV (W := 1) hZ hws (kI := 4) (own_w hw 6 rfl) (cs := ([c0, c1] : List Int32)) (bs := ([c0, c1] : List Int32).map (fun c => c.toInt8.toInt32)) (n := 2) g0_a_7 Z_10s A_7 F_7_value F_7_coder VC (O2.ext O_11d.2) P5 rfl rfl (by decide) (by decide) hp rfl (by decide) (by decide)) (a := a_7) (g := (mkF m 26 #[.val (.int (2 : Int32)), .val (.int c0), .val (.int c1), .val (.ref a_1)] [(.ref a_1), (.ref a_7), (.ref a_7)])) rfl (by rw [hml]; rfl) (argsL := [(.ref a_1)]) (rest := [(.ref a_7)]) (lenOf pd_2 rfl) rfl (by show 2 * 0 + _ ≤ _; exact Nat.le_of_eq rfl) (hb hby d_rm_str2_26) e_7 rfl (by decide) (by decide)
  obtain ⟨rfl, Nq_12, K_12, Ex_12, Fc_12, t_12, kb_12, tn_12, th_12, tx_12, Fv_12, Kb_12⟩ := Q_12
  refine own_G.via st_12 ?_
  have Sf_13_a_7 : Safe Z own_EL s.vm T_12.heap a_7 := (Safe.keep K_12 (sfS Sn_7 sf0) CH_8.1 Sn_7)
  have CH_13 : CHr Z own_EL s.vm h0 s.vm T_12.heap := CH_8.trans (CHr.keep K_12 (sfS Sn_7 sf0) CH_8.1)
  have N_12 := Fr.app N_5 Nq_12
  show own_G _ _ _ _ (T_12.setTop (mkF m 29 #[.val (.int (2 : Int32)), .val (.int c0), .val (.int c1), .val (.ref a_1)] [(.ref a_7)]))
  exact own_G.endH X_12 hS0 (Nat.le_trans (Nat.zero_le _) (Nat.le_trans (Nat.le_trans (Nat.le_trans (Nat.le_trans E_1.1 (Keep.of_wr W_3).1) (Keep.of_wr W_5).1) E_7.1) K_12.1)) hZ hEW (hh ▸ CH_13) hlk (v := (some (.ref a_7))) (fun h => by rw [hrt] at h; cases h) (fun fs hr => retOut X_12 hx hrt rfl (Or.inr (Or.inr (Or.inr (Or.inr ⟨rfl, rfl, rfl⟩)))) (hb hby d_rm_str2_29) hr) rfl ⟨a_7, t_12, kb_12, rfl, N_12, ((((((Keep.refl h0 []).ext E_1).wr W_3 (Or.inr (Nat.le_of_eq g_1.symm))).wr W_5 (Or.inr (Nat.le_of_eq g_1.symm))).ext E_7).trans K_12 (allS (Or.inr (Nat.le_trans (Nat.le_trans (Nat.le_trans E_1.1 (Keep.of_wr W_3).1) (Keep.of_wr W_5).1) (Nat.le_of_eq g_7.symm))) all0)), (Nat.le_trans (Nat.le_trans (Nat.le_trans E_1.1 (Keep.of_wr W_3).1) (Keep.of_wr W_5).1) (Nat.le_of_eq g_7.symm)), Ex_12, Fc_12, Fv_12, Kb_12⟩ (by decide) (by decide)
theorem rm_str (l : Launch) (Z : State) (a0 : Array Value) (hw : ∀ d ∈ tables_1, d.before a0 Z = true) (ws : List Jvm.Cond) (ln c0 c1 : Int32) (zc : Int32) (h0 : Heap) (n0 : Nat) (Z0 : n0 ≤ h0.size) (hl : own_l ln) (b0 : own_b c0) (b1 : own_b c1) (O2 : Sta Z Z.heap "java/lang/String" "COMPACT_STRINGS" "Z" (.int zc)) (P5 : ¬ (zc = (0 : Int32))) (X00 : Old Z n0 h0) :
    MetFree l (⟨"com/example/kommit/kommit/EntryEqualsPinLaw", "str", "(ICC)Ljava/lang/String;"⟩ : MethodName) (head1 (Jvm.Cond.code (⟨"com/example/kommit/kommit/EntryEqualsPinLaw", "str", "(ICC)Ljava/lang/String;"⟩ : MethodName) method_2_code 4 (some (.object "java/lang/String")) :: ws) ({ frames := 6, cells := 6, slots := 12, locals := 70 } : Room)) (fun a_ U => a_ = #[(.int ln), (.int c0), (.int c1)] ∧ Z.Warmed39 U.vm ∧ U.heap = h0 ∧ CHv Z own_EL U.vm h0) (fun _ _ _ _ _ => True) (fun _ U o U' => ∃ v L, o = .returned v ∧ Qs Z ln c0 c1 h0 n0 v U'.heap L ∧ CHr Z own_EL U.vm U.heap U'.vm U'.heap ∧ ReturnedEndW U o U' L ({ frames := 6, cells := 6, slots := 12, locals := 70 } : Room).cells ({ frames := 6, cells := 6, slots := 12, locals := 70 } : Room).slots) := by
  rcases hl with rfl | rfl | rfl
  · exact rm_str0 l Z a0 hw ws c0 c1 zc h0 n0 Z0 b0 b1 O2 P5 X00
  · exact rm_str1 l Z a0 hw ws c0 c1 zc h0 n0 Z0 b0 b1 O2 P5 X00
  · exact rm_str2 l Z a0 hw ws c0 c1 zc h0 n0 Z0 b0 b1 O2 P5 X00
def Qeq (P : Prop) (h0 : Heap) (v : Option Value) (h : Heap) (L : List Loc) : Prop := (∃ z : Int32, v = some (.int z) ∧ ((z = 1 ∧ P) ∨ (z = 0 ∧ ¬ P))) ∧ L = [] ∧ h = h0
theorem d_rm_same_0 : decode method_3_code 0 = .ok (.iload_n 0, 1) := by decide +kernel
theorem d_rm_same_1 : decode method_3_code 1 = .ok (.iload_n 3, 1) := by decide +kernel
theorem d_rm_same_2 : decode method_3_code 2 = .ok (.if_icmp .eq 5, 3) := by decide +kernel
theorem d_rm_same_5 : decode method_3_code 5 = .ok (.iconst 0, 1) := by decide +kernel
theorem d_rm_same_6 : decode method_3_code 6 = .ok (.ireturn, 1) := by decide +kernel
theorem d_rm_same_7 : decode method_3_code 7 = .ok (.iload_n 0, 1) := by decide +kernel
theorem d_rm_same_8 : decode method_3_code 8 = .ok (.iconst 1, 1) := by decide +kernel
theorem d_rm_same_9 : decode method_3_code 9 = .ok (.if_icmp .lt 11, 3) := by decide +kernel
theorem d_rm_same_12 : decode method_3_code 12 = .ok (.iload_n 1, 1) := by decide +kernel
theorem d_rm_same_13 : decode method_3_code 13 = .ok (.iload 4, 2) := by decide +kernel
theorem d_rm_same_15 : decode method_3_code 15 = .ok (.if_icmp .eq 5, 3) := by decide +kernel
theorem d_rm_same_18 : decode method_3_code 18 = .ok (.iconst 0, 1) := by decide +kernel
theorem d_rm_same_19 : decode method_3_code 19 = .ok (.ireturn, 1) := by decide +kernel
theorem d_rm_same_20 : decode method_3_code 20 = .ok (.iload_n 0, 1) := by decide +kernel
theorem d_rm_same_21 : decode method_3_code 21 = .ok (.iconst 2, 1) := by decide +kernel
theorem d_rm_same_22 : decode method_3_code 22 = .ok (.if_icmp .lt 11, 3) := by decide +kernel
theorem d_rm_same_25 : decode method_3_code 25 = .ok (.iload_n 2, 1) := by decide +kernel
theorem d_rm_same_26 : decode method_3_code 26 = .ok (.iload 5, 2) := by decide +kernel
theorem d_rm_same_28 : decode method_3_code 28 = .ok (.if_icmp .eq 5, 3) := by decide +kernel
theorem d_rm_same_31 : decode method_3_code 31 = .ok (.iconst 0, 1) := by decide +kernel
theorem d_rm_same_32 : decode method_3_code 32 = .ok (.ireturn, 1) := by decide +kernel
theorem d_rm_same_33 : decode method_3_code 33 = .ok (.iconst 1, 1) := by decide +kernel
theorem d_rm_same_34 : decode method_3_code 34 = .ok (.ireturn, 1) := by decide +kernel
set_option maxRecDepth 65536 in
set_option maxHeartbeats 40000000 in
theorem rm_same (l : Launch) (Z : State) (a0 : Array Value) (hw : ∀ d ∈ tables_1, d.before a0 Z = true) (ws : List Jvm.Cond) (la x0 x1 lb y0 y1 : Int32) (h0 : Heap) (n0 : Nat) (Z0 : n0 ≤ h0.size) (hla : own_l la) (hlb : own_l lb) :
    MetFree l (⟨"com/example/kommit/kommit/EntryEqualsPinLaw", "same", "(ICCICC)Z"⟩ : MethodName) (head1 (Jvm.Cond.code (⟨"com/example/kommit/kommit/EntryEqualsPinLaw", "same", "(ICCICC)Z"⟩ : MethodName) method_3_code 6 (some .boolean) :: ws) ({ frames := 0, cells := 0, slots := 0, locals := 0 } : Room)) (fun a_ U => a_ = #[(.int la), (.int x0), (.int x1), (.int lb), (.int y0), (.int y1)] ∧ Z.Warmed39 U.vm ∧ U.heap = h0) (fun _ _ _ _ _ => True) (fun _ U o U' => ∃ v L, o = .returned v ∧ Qeq (own_cs la x0 x1 = own_cs lb y0 y1) h0 v U'.heap L ∧ FrameEnd U o U' L ({ frames := 0, cells := 0, slots := 0, locals := 0 } : Room).cells ({ frames := 0, cells := 0, slots := 0, locals := 0 } : Room).slots) := by
  refine MetFree.of_bodySF (plainFor_of_name pn_2) hisR ?_
  intro p e s m args below meth c s₁ Bd hml0 hP hK
  obtain ⟨rfl, hZ, hh⟩ := hP
  have hx := Bd.exec
  have hby := Bd.bytes
  have hrt := Bd.returns
  have hlk : meth.locks = false := Bd.notSynchronized
  have hml : c.maxLocals = 6 := hml0
  have hown : s.vm.findClass "com/example/kommit/kommit/EntryEqualsPinLaw" = some m.cls := findClass_of_methodNamed Bd.named
  have hnm := (name_of_methodNamed Bd.named Bd.method).1
  have X0 : Stand p l e ({ frames := 0, cells := 0, slots := 0, locals := 0 } : Room) s m #[(.int la), (.int x0), (.int x1), (.int lb), (.int y0), (.int y1)] below meth c s₁ [] 0 0 := Stand.of_body Bd
  have e0 : s₁.heap = h0 := by rw [← hh, Bd.state]; rfl
  have N0 := Fr.nil n0
  show own_G p.tables e below (fun o t => ∃ v L, o = .returned v ∧ Qeq (own_cs la x0 x1 = own_cs lb y0 y1) h0 v t.heap L ∧ FrameEnd s o t L ({ frames := 0, cells := 0, slots := 0, locals := 0 } : Room).cells ({ frames := 0, cells := 0, slots := 0, locals := 0 } : Room).slots) (s₁.setTop (entryFrame m #[(.int la), (.int x0), (.int x1), (.int lb), (.int y0), (.int y1)] 6))
  refine own_G.cast (show entryFrame m #[(.int la), (.int x0), (.int x1), (.int lb), (.int y0), (.int y1)] 6 = mkF m 0 #[.val (.int la), .val (.int x0), .val (.int x1), .val (.int lb), .val (.int y0), .val (.int y1)] [] from by first | (simp [entryFrame, mkF, argsToLocals, Value.category]; done) | rfl) ?_
  refine own_G.go (fun t_ k_ => XS.iloadN X0.here hx rfl (hb hby d_rm_same_0) rfl k_) ?_
  show own_G _ _ _ _ (s₁.setTop (mkF m 1 #[.val (.int la), .val (.int x0), .val (.int x1), .val (.int lb), .val (.int y0), .val (.int y1)] [(.int la)]))
  refine own_G.go (fun t_ k_ => XS.iloadN X0.here hx rfl (hb hby d_rm_same_1) rfl k_) ?_
  show own_G _ _ _ _ (s₁.setTop (mkF m 2 #[.val (.int la), .val (.int x0), .val (.int x1), .val (.int lb), .val (.int y0), .val (.int y1)] [(.int lb), (.int la)]))
  by_cases g1 : la = lb
  · refine own_G.go (fun t_ k_ => XS.icmpYes X0.here hx rfl (pc0 := 2) (pc' := 7) rfl (hb hby d_rm_same_2) rfl (teq g1).1 (by decide) (by decide) k_) ?_
    show own_G _ _ _ _ (s₁.setTop (mkF m 7 #[.val (.int la), .val (.int x0), .val (.int x1), .val (.int lb), .val (.int y0), .val (.int y1)] []))
    refine own_G.go (fun t_ k_ => XS.iloadN X0.here hx rfl (hb hby d_rm_same_7) rfl k_) ?_
    show own_G _ _ _ _ (s₁.setTop (mkF m 8 #[.val (.int la), .val (.int x0), .val (.int x1), .val (.int lb), .val (.int y0), .val (.int y1)] [(.int la)]))
    refine own_G.go (fun t_ k_ => XS.iconst X0.here hx rfl (hb hby d_rm_same_8) k_) ?_
    show own_G _ _ _ _ (s₁.setTop (mkF m 9 #[.val (.int la), .val (.int x0), .val (.int x1), .val (.int lb), .val (.int y0), .val (.int y1)] [(.int (1 : Int32)), (.int la)]))
    by_cases g2 : la < (1 : Int32)
    · refine own_G.go (fun t_ k_ => XS.icmpYes X0.here hx rfl (pc0 := 9) (pc' := 20) rfl (hb hby d_rm_same_9) rfl (tlt g2).1 (by decide) (by decide) k_) ?_
      show own_G _ _ _ _ (s₁.setTop (mkF m 20 #[.val (.int la), .val (.int x0), .val (.int x1), .val (.int lb), .val (.int y0), .val (.int y1)] []))
      refine own_G.go (fun t_ k_ => XS.iloadN X0.here hx rfl (hb hby d_rm_same_20) rfl k_) ?_
      show own_G _ _ _ _ (s₁.setTop (mkF m 21 #[.val (.int la), .val (.int x0), .val (.int x1), .val (.int lb), .val (.int y0), .val (.int y1)] [(.int la)]))
      refine own_G.go (fun t_ k_ => XS.iconst X0.here hx rfl (hb hby d_rm_same_21) k_) ?_
      show own_G _ _ _ _ (s₁.setTop (mkF m 22 #[.val (.int la), .val (.int x0), .val (.int x1), .val (.int lb), .val (.int y0), .val (.int y1)] [(.int (2 : Int32)), (.int la)]))
      by_cases g4 : la < (2 : Int32)
      · refine own_G.go (fun t_ k_ => XS.icmpYes X0.here hx rfl (pc0 := 22) (pc' := 33) rfl (hb hby d_rm_same_22) rfl (tlt g4).1 (by decide) (by decide) k_) ?_
        show own_G _ _ _ _ (s₁.setTop (mkF m 33 #[.val (.int la), .val (.int x0), .val (.int x1), .val (.int lb), .val (.int y0), .val (.int y1)] []))
        refine own_G.go (fun t_ k_ => XS.iconst X0.here hx rfl (hb hby d_rm_same_33) k_) ?_
        show own_G _ _ _ _ (s₁.setTop (mkF m 34 #[.val (.int la), .val (.int x0), .val (.int x1), .val (.int lb), .val (.int y0), .val (.int y1)] [(.int (1 : Int32))]))
        exact own_G.end_ X0 hlk (v := (some (.int (1 : Int32)))) (fun h => by rw [hrt] at h; cases h) (fun fs hr => retN X0 hx (z := (1 : Int32)) (t := .boolean) hrt (by simp) (hb hby d_rm_same_34) hr) e0 ⟨⟨1, rfl, Or.inl ⟨rfl, (own_same hla hlb).mpr ⟨g1, fun q => by first | exact absurd g2 q | exact g3, fun q => by first | exact absurd g4 q | exact g5⟩⟩⟩, rfl, rfl⟩ (by decide) (by decide)
      · refine own_G.go (fun t_ k_ => XS.icmpNo X0.here hx rfl (hb hby d_rm_same_22) rfl (flt g4).1 k_) ?_
        show own_G _ _ _ _ (s₁.setTop (mkF m 25 #[.val (.int la), .val (.int x0), .val (.int x1), .val (.int lb), .val (.int y0), .val (.int y1)] []))
        refine own_G.go (fun t_ k_ => XS.iloadN X0.here hx rfl (hb hby d_rm_same_25) rfl k_) ?_
        show own_G _ _ _ _ (s₁.setTop (mkF m 26 #[.val (.int la), .val (.int x0), .val (.int x1), .val (.int lb), .val (.int y0), .val (.int y1)] [(.int x1)]))
        refine own_G.go (fun t_ k_ => XS.iload X0.here hx rfl (hb hby d_rm_same_26) rfl k_) ?_
        show own_G _ _ _ _ (s₁.setTop (mkF m 28 #[.val (.int la), .val (.int x0), .val (.int x1), .val (.int lb), .val (.int y0), .val (.int y1)] [(.int y1), (.int x1)]))
        by_cases g5 : x1 = y1
        · refine own_G.go (fun t_ k_ => XS.icmpYes X0.here hx rfl (pc0 := 28) (pc' := 33) rfl (hb hby d_rm_same_28) rfl (teq g5).1 (by decide) (by decide) k_) ?_
          show own_G _ _ _ _ (s₁.setTop (mkF m 33 #[.val (.int la), .val (.int x0), .val (.int x1), .val (.int lb), .val (.int y0), .val (.int y1)] []))
          refine own_G.go (fun t_ k_ => XS.iconst X0.here hx rfl (hb hby d_rm_same_33) k_) ?_
          show own_G _ _ _ _ (s₁.setTop (mkF m 34 #[.val (.int la), .val (.int x0), .val (.int x1), .val (.int lb), .val (.int y0), .val (.int y1)] [(.int (1 : Int32))]))
          exact own_G.end_ X0 hlk (v := (some (.int (1 : Int32)))) (fun h => by rw [hrt] at h; cases h) (fun fs hr => retN X0 hx (z := (1 : Int32)) (t := .boolean) hrt (by simp) (hb hby d_rm_same_34) hr) e0 ⟨⟨1, rfl, Or.inl ⟨rfl, (own_same hla hlb).mpr ⟨g1, fun q => by first | exact absurd g2 q | exact g3, fun q => by first | exact absurd g4 q | exact g5⟩⟩⟩, rfl, rfl⟩ (by decide) (by decide)
        · refine own_G.go (fun t_ k_ => XS.icmpNo X0.here hx rfl (hb hby d_rm_same_28) rfl (feq g5).1 k_) ?_
          show own_G _ _ _ _ (s₁.setTop (mkF m 31 #[.val (.int la), .val (.int x0), .val (.int x1), .val (.int lb), .val (.int y0), .val (.int y1)] []))
          refine own_G.go (fun t_ k_ => XS.iconst X0.here hx rfl (hb hby d_rm_same_31) k_) ?_
          show own_G _ _ _ _ (s₁.setTop (mkF m 32 #[.val (.int la), .val (.int x0), .val (.int x1), .val (.int lb), .val (.int y0), .val (.int y1)] [(.int (0 : Int32))]))
          exact own_G.end_ X0 hlk (v := (some (.int (0 : Int32)))) (fun h => by rw [hrt] at h; cases h) (fun fs hr => retN X0 hx (z := (0 : Int32)) (t := .boolean) hrt (by simp) (hb hby d_rm_same_32) hr) e0 ⟨⟨0, rfl, Or.inr ⟨rfl, fun q => by obtain ⟨q1, q2, q3⟩ := (own_same hla hlb).mp q; first | exact g1 q1 | exact g3 (q2 g2) | exact g5 (q3 g4)⟩⟩, rfl, rfl⟩ (by decide) (by decide)
    · refine own_G.go (fun t_ k_ => XS.icmpNo X0.here hx rfl (hb hby d_rm_same_9) rfl (flt g2).1 k_) ?_
      show own_G _ _ _ _ (s₁.setTop (mkF m 12 #[.val (.int la), .val (.int x0), .val (.int x1), .val (.int lb), .val (.int y0), .val (.int y1)] []))
      refine own_G.go (fun t_ k_ => XS.iloadN X0.here hx rfl (hb hby d_rm_same_12) rfl k_) ?_
      show own_G _ _ _ _ (s₁.setTop (mkF m 13 #[.val (.int la), .val (.int x0), .val (.int x1), .val (.int lb), .val (.int y0), .val (.int y1)] [(.int x0)]))
      refine own_G.go (fun t_ k_ => XS.iload X0.here hx rfl (hb hby d_rm_same_13) rfl k_) ?_
      show own_G _ _ _ _ (s₁.setTop (mkF m 15 #[.val (.int la), .val (.int x0), .val (.int x1), .val (.int lb), .val (.int y0), .val (.int y1)] [(.int y0), (.int x0)]))
      by_cases g3 : x0 = y0
      · refine own_G.go (fun t_ k_ => XS.icmpYes X0.here hx rfl (pc0 := 15) (pc' := 20) rfl (hb hby d_rm_same_15) rfl (teq g3).1 (by decide) (by decide) k_) ?_
        show own_G _ _ _ _ (s₁.setTop (mkF m 20 #[.val (.int la), .val (.int x0), .val (.int x1), .val (.int lb), .val (.int y0), .val (.int y1)] []))
        refine own_G.go (fun t_ k_ => XS.iloadN X0.here hx rfl (hb hby d_rm_same_20) rfl k_) ?_
        show own_G _ _ _ _ (s₁.setTop (mkF m 21 #[.val (.int la), .val (.int x0), .val (.int x1), .val (.int lb), .val (.int y0), .val (.int y1)] [(.int la)]))
        refine own_G.go (fun t_ k_ => XS.iconst X0.here hx rfl (hb hby d_rm_same_21) k_) ?_
        show own_G _ _ _ _ (s₁.setTop (mkF m 22 #[.val (.int la), .val (.int x0), .val (.int x1), .val (.int lb), .val (.int y0), .val (.int y1)] [(.int (2 : Int32)), (.int la)]))
        by_cases g4 : la < (2 : Int32)
        · refine own_G.go (fun t_ k_ => XS.icmpYes X0.here hx rfl (pc0 := 22) (pc' := 33) rfl (hb hby d_rm_same_22) rfl (tlt g4).1 (by decide) (by decide) k_) ?_
          show own_G _ _ _ _ (s₁.setTop (mkF m 33 #[.val (.int la), .val (.int x0), .val (.int x1), .val (.int lb), .val (.int y0), .val (.int y1)] []))
          refine own_G.go (fun t_ k_ => XS.iconst X0.here hx rfl (hb hby d_rm_same_33) k_) ?_
          show own_G _ _ _ _ (s₁.setTop (mkF m 34 #[.val (.int la), .val (.int x0), .val (.int x1), .val (.int lb), .val (.int y0), .val (.int y1)] [(.int (1 : Int32))]))
          exact own_G.end_ X0 hlk (v := (some (.int (1 : Int32)))) (fun h => by rw [hrt] at h; cases h) (fun fs hr => retN X0 hx (z := (1 : Int32)) (t := .boolean) hrt (by simp) (hb hby d_rm_same_34) hr) e0 ⟨⟨1, rfl, Or.inl ⟨rfl, (own_same hla hlb).mpr ⟨g1, fun q => by first | exact absurd g2 q | exact g3, fun q => by first | exact absurd g4 q | exact g5⟩⟩⟩, rfl, rfl⟩ (by decide) (by decide)
        · refine own_G.go (fun t_ k_ => XS.icmpNo X0.here hx rfl (hb hby d_rm_same_22) rfl (flt g4).1 k_) ?_
          show own_G _ _ _ _ (s₁.setTop (mkF m 25 #[.val (.int la), .val (.int x0), .val (.int x1), .val (.int lb), .val (.int y0), .val (.int y1)] []))
          refine own_G.go (fun t_ k_ => XS.iloadN X0.here hx rfl (hb hby d_rm_same_25) rfl k_) ?_
          show own_G _ _ _ _ (s₁.setTop (mkF m 26 #[.val (.int la), .val (.int x0), .val (.int x1), .val (.int lb), .val (.int y0), .val (.int y1)] [(.int x1)]))
          refine own_G.go (fun t_ k_ => XS.iload X0.here hx rfl (hb hby d_rm_same_26) rfl k_) ?_
          show own_G _ _ _ _ (s₁.setTop (mkF m 28 #[.val (.int la), .val (.int x0), .val (.int x1), .val (.int lb), .val (.int y0), .val (.int y1)] [(.int y1), (.int x1)]))
          by_cases g5 : x1 = y1
          · refine own_G.go (fun t_ k_ => XS.icmpYes X0.here hx rfl (pc0 := 28) (pc' := 33) rfl (hb hby d_rm_same_28) rfl (teq g5).1 (by decide) (by decide) k_) ?_
            show own_G _ _ _ _ (s₁.setTop (mkF m 33 #[.val (.int la), .val (.int x0), .val (.int x1), .val (.int lb), .val (.int y0), .val (.int y1)] []))
            refine own_G.go (fun t_ k_ => XS.iconst X0.here hx rfl (hb hby d_rm_same_33) k_) ?_
            show own_G _ _ _ _ (s₁.setTop (mkF m 34 #[.val (.int la), .val (.int x0), .val (.int x1), .val (.int lb), .val (.int y0), .val (.int y1)] [(.int (1 : Int32))]))
            exact own_G.end_ X0 hlk (v := (some (.int (1 : Int32)))) (fun h => by rw [hrt] at h; cases h) (fun fs hr => retN X0 hx (z := (1 : Int32)) (t := .boolean) hrt (by simp) (hb hby d_rm_same_34) hr) e0 ⟨⟨1, rfl, Or.inl ⟨rfl, (own_same hla hlb).mpr ⟨g1, fun q => by first | exact absurd g2 q | exact g3, fun q => by first | exact absurd g4 q | exact g5⟩⟩⟩, rfl, rfl⟩ (by decide) (by decide)
          · refine own_G.go (fun t_ k_ => XS.icmpNo X0.here hx rfl (hb hby d_rm_same_28) rfl (feq g5).1 k_) ?_
            show own_G _ _ _ _ (s₁.setTop (mkF m 31 #[.val (.int la), .val (.int x0), .val (.int x1), .val (.int lb), .val (.int y0), .val (.int y1)] []))
            refine own_G.go (fun t_ k_ => XS.iconst X0.here hx rfl (hb hby d_rm_same_31) k_) ?_
            show own_G _ _ _ _ (s₁.setTop (mkF m 32 #[.val (.int la), .val (.int x0), .val (.int x1), .val (.int lb), .val (.int y0), .val (.int y1)] [(.int (0 : Int32))]))
            exact own_G.end_ X0 hlk (v := (some (.int (0 : Int32)))) (fun h => by rw [hrt] at h; cases h) (fun fs hr => retN X0 hx (z := (0 : Int32)) (t := .boolean) hrt (by simp) (hb hby d_rm_same_32) hr) e0 ⟨⟨0, rfl, Or.inr ⟨rfl, fun q => by obtain ⟨q1, q2, q3⟩ := (own_same hla hlb).mp q; first | exact g1 q1 | exact g3 (q2 g2) | exact g5 (q3 g4)⟩⟩, rfl, rfl⟩ (by decide) (by decide)
      · refine own_G.go (fun t_ k_ => XS.icmpNo X0.here hx rfl (hb hby d_rm_same_15) rfl (feq g3).1 k_) ?_
        show own_G _ _ _ _ (s₁.setTop (mkF m 18 #[.val (.int la), .val (.int x0), .val (.int x1), .val (.int lb), .val (.int y0), .val (.int y1)] []))
        refine own_G.go (fun t_ k_ => XS.iconst X0.here hx rfl (hb hby d_rm_same_18) k_) ?_
        show own_G _ _ _ _ (s₁.setTop (mkF m 19 #[.val (.int la), .val (.int x0), .val (.int x1), .val (.int lb), .val (.int y0), .val (.int y1)] [(.int (0 : Int32))]))
        exact own_G.end_ X0 hlk (v := (some (.int (0 : Int32)))) (fun h => by rw [hrt] at h; cases h) (fun fs hr => retN X0 hx (z := (0 : Int32)) (t := .boolean) hrt (by simp) (hb hby d_rm_same_19) hr) e0 ⟨⟨0, rfl, Or.inr ⟨rfl, fun q => by obtain ⟨q1, q2, q3⟩ := (own_same hla hlb).mp q; first | exact g1 q1 | exact g3 (q2 g2) | exact g5 (q3 g4)⟩⟩, rfl, rfl⟩ (by decide) (by decide)
  · refine own_G.go (fun t_ k_ => XS.icmpNo X0.here hx rfl (hb hby d_rm_same_2) rfl (feq g1).1 k_) ?_
    show own_G _ _ _ _ (s₁.setTop (mkF m 5 #[.val (.int la), .val (.int x0), .val (.int x1), .val (.int lb), .val (.int y0), .val (.int y1)] []))
    refine own_G.go (fun t_ k_ => XS.iconst X0.here hx rfl (hb hby d_rm_same_5) k_) ?_
    show own_G _ _ _ _ (s₁.setTop (mkF m 6 #[.val (.int la), .val (.int x0), .val (.int x1), .val (.int lb), .val (.int y0), .val (.int y1)] [(.int (0 : Int32))]))
    exact own_G.end_ X0 hlk (v := (some (.int (0 : Int32)))) (fun h => by rw [hrt] at h; cases h) (fun fs hr => retN X0 hx (z := (0 : Int32)) (t := .boolean) hrt (by simp) (hb hby d_rm_same_6) hr) e0 ⟨⟨0, rfl, Or.inr ⟨rfl, fun q => by obtain ⟨q1, q2, q3⟩ := (own_same hla hlb).mp q; first | exact g1 q1 | exact g3 (q2 g2) | exact g5 (q3 g4)⟩⟩, rfl, rfl⟩ (by decide) (by decide)
def Qen (Z : State) (a k n : Addr) (f s : Int64) (h0 : Heap) (n0 : Nat) (v : Option Value) (h : Heap) (L : List Loc) : Prop := v = none ∧ Fr n0 L ∧ Keep h0 h [a] ∧ Exa Z h a "com/example/kommit/kommit/KeyCounters$Entry" ∧ Fld Z h a "com/example/kommit/kommit/KeyCounters$Entry" "kind" "Ljava/lang/String;" (.ref k) ∧ Fld Z h a "com/example/kommit/kommit/KeyCounters$Entry" "name" "Ljava/lang/String;" (.ref n) ∧ Fld Z h a "com/example/kommit/kommit/KeyCounters$Entry" "first" "J" (.long f) ∧ Fld Z h a "com/example/kommit/kommit/KeyCounters$Entry" "second" "J" (.long s)
theorem pn_3 : plainName "com/example/kommit/kommit/KeyCounters$Entry" = true := by first | (simp [plainName, overriddenIn]; done) | decide +kernel
theorem d_rm_en_0 : decode prog_11_method_1_code 0 = .ok (.aload_n 0, 1) := by decide +kernel
theorem d_rm_en_1 : decode prog_11_method_1_code 1 = .ok (.invokespecial 1, 3) := by decide +kernel
theorem d_rm_en_4 : decode prog_11_method_1_code 4 = .ok (.aload_n 0, 1) := by decide +kernel
theorem d_rm_en_5 : decode prog_11_method_1_code 5 = .ok (.aload_n 1, 1) := by decide +kernel
theorem d_rm_en_6 : decode prog_11_method_1_code 6 = .ok (.putfield 7, 3) := by decide +kernel
theorem d_rm_en_9 : decode prog_11_method_1_code 9 = .ok (.aload_n 0, 1) := by decide +kernel
theorem d_rm_en_10 : decode prog_11_method_1_code 10 = .ok (.aload_n 2, 1) := by decide +kernel
theorem d_rm_en_11 : decode prog_11_method_1_code 11 = .ok (.putfield 13, 3) := by decide +kernel
theorem d_rm_en_14 : decode prog_11_method_1_code 14 = .ok (.aload_n 0, 1) := by decide +kernel
theorem d_rm_en_15 : decode prog_11_method_1_code 15 = .ok (.lload_n 3, 1) := by decide +kernel
theorem d_rm_en_16 : decode prog_11_method_1_code 16 = .ok (.putfield 16, 3) := by decide +kernel
theorem d_rm_en_19 : decode prog_11_method_1_code 19 = .ok (.aload_n 0, 1) := by decide +kernel
theorem d_rm_en_20 : decode prog_11_method_1_code 20 = .ok (.lload 5, 2) := by decide +kernel
theorem d_rm_en_22 : decode prog_11_method_1_code 22 = .ok (.putfield 20, 3) := by decide +kernel
theorem d_rm_en_25 : decode prog_11_method_1_code 25 = .ok (.return_, 1) := by decide +kernel
set_option maxRecDepth 65536 in
set_option maxHeartbeats 40000000 in
theorem rm_en (l : Launch) (Z : State) (a0 : Array Value) (hw : ∀ d ∈ tables_1, d.before a0 Z = true) (ws : List Jvm.Cond) (a kk nn : Addr) (ff ss : Int64) (h0 : Heap) (n0 : Nat) (Z0 : n0 ≤ h0.size) (g0 : n0 ≤ a) (E0 : Exa Z h0 a "com/example/kommit/kommit/KeyCounters$Entry") (F_kind : Fld Z h0 a "com/example/kommit/kommit/KeyCounters$Entry" "kind" "Ljava/lang/String;" .null) (F_name : Fld Z h0 a "com/example/kommit/kommit/KeyCounters$Entry" "name" "Ljava/lang/String;" .null) (F_first : Fld Z h0 a "com/example/kommit/kommit/KeyCounters$Entry" "first" "J" (.long (0 : Int64))) (F_second : Fld Z h0 a "com/example/kommit/kommit/KeyCounters$Entry" "second" "J" (.long (0 : Int64))) :
    MetFree l (⟨"com/example/kommit/kommit/KeyCounters$Entry", "<init>", "(Ljava/lang/String;Ljava/lang/String;JJ)V"⟩ : MethodName) (head1 (Jvm.Cond.code (⟨"com/example/kommit/kommit/KeyCounters$Entry", "<init>", "(Ljava/lang/String;Ljava/lang/String;JJ)V"⟩ : MethodName) prog_11_method_1_code 7 none :: ws) ({ frames := 1, cells := 0, slots := 0, locals := 12 } : Room)) (fun a_ U => a_ = #[(.ref a), (.ref kk), (.ref nn), (.long ff), (.long ss)] ∧ Z.Warmed39 U.vm ∧ U.heap = h0) (fun _ _ _ _ _ => True) (fun _ U o U' => ∃ v L, o = .returned v ∧ Qen Z a kk nn ff ss h0 n0 v U'.heap L ∧ FrameEnd U o U' L ({ frames := 1, cells := 0, slots := 0, locals := 12 } : Room).cells ({ frames := 1, cells := 0, slots := 0, locals := 12 } : Room).slots) := by
  refine MetFree.of_bodySF (plainFor_of_name pn_3) hisR ?_
  intro p e s m args below meth c s₁ Bd hml0 hP hK
  obtain ⟨rfl, hZ, hh⟩ := hP
  have hx := Bd.exec
  have hby := Bd.bytes
  have hrt := Bd.returns
  have hlk : meth.locks = false := Bd.notSynchronized
  have hml : c.maxLocals = 7 := hml0
  have hown : s.vm.findClass "com/example/kommit/kommit/KeyCounters$Entry" = some m.cls := findClass_of_methodNamed Bd.named
  have hnm := (name_of_methodNamed Bd.named Bd.method).1
  have X0 : Stand p l e ({ frames := 1, cells := 0, slots := 0, locals := 12 } : Room) s m #[(.ref a), (.ref kk), (.ref nn), (.long ff), (.long ss)] below meth c s₁ [] 0 0 := Stand.of_body Bd
  have e0 : s₁.heap = h0 := by rw [← hh, Bd.state]; rfl
  have N0 := Fr.nil n0
  show own_G p.tables e below (fun o t => ∃ v L, o = .returned v ∧ Qen Z a kk nn ff ss h0 n0 v t.heap L ∧ FrameEnd s o t L ({ frames := 1, cells := 0, slots := 0, locals := 12 } : Room).cells ({ frames := 1, cells := 0, slots := 0, locals := 12 } : Room).slots) (s₁.setTop (entryFrame m #[(.ref a), (.ref kk), (.ref nn), (.long ff), (.long ss)] 7))
  refine own_G.cast (show entryFrame m #[(.ref a), (.ref kk), (.ref nn), (.long ff), (.long ss)] 7 = mkF m 0 #[.val (.ref a), .val (.ref kk), .val (.ref nn), .val (.long ff), .second, .val (.long ss), .second] [] from by first | (simp [entryFrame, mkF, argsToLocals, Value.category]; done) | rfl) ?_
  refine own_G.go (fun t_ k_ => XS.aloadN X0.here hx rfl (hb hby d_rm_en_0) rfl rfl k_) ?_
  show own_G _ _ _ _ (s₁.setTop (mkF m 1 #[.val (.ref a), .val (.ref kk), .val (.ref nn), .val (.long ff), .second, .val (.long ss), .second] [(.ref a)]))
  obtain ⟨T_1, X_1, e_1, st_1⟩ := initO X0 hx hZ hown (own_w hw 32 rfl) (own_w hw 16 rfl) (own_w hw 17 rfl) e0 (g := (mkF m 1 #[.val (.ref a), .val (.ref kk), .val (.ref nn), .val (.long ff), .second, .val (.long ss), .second] [(.ref a)])) rfl (by rw [hml]; rfl) rfl (hb hby d_rm_en_1) (by decide) (W := 0) (by show 2 * 0 + _ ≤ _; exact Nat.le_of_eq rfl) (by decide)
  refine own_G.go st_1 ?_
  show own_G _ _ _ _ (T_1.setTop (mkF m 4 #[.val (.ref a), .val (.ref kk), .val (.ref nn), .val (.long ff), .second, .val (.long ss), .second] []))
  refine own_G.go (fun t_ k_ => XS.aloadN X_1.here hx rfl (hb hby d_rm_en_4) rfl rfl k_) ?_
  show own_G _ _ _ _ (T_1.setTop (mkF m 5 #[.val (.ref a), .val (.ref kk), .val (.ref nn), .val (.long ff), .second, .val (.long ss), .second] [(.ref a)]))
  refine own_G.go (fun t_ k_ => XS.aloadN X_1.here hx rfl (hb hby d_rm_en_5) rfl rfl k_) ?_
  show own_G _ _ _ _ (T_1.setTop (mkF m 6 #[.val (.ref a), .val (.ref kk), .val (.ref nn), .val (.long ff), .second, .val (.long ss), .second] [(.ref kk), (.ref a)]))
  obtain ⟨T_2, h_2, X_2, e_2, W_2, st_2⟩ := putF X_1 hx hZ hown (host := "") (Or.inl (own_w hw 33 rfl)) Via.refl e_1 F_kind E0 (Or.inr ⟨(own_w hw 34 rfl), rfl, hnm⟩) (own_w hw 27 rfl) (ty := (.object "java/lang/String")) (by decide) rfl rfl (g := (mkF m 6 #[.val (.ref a), .val (.ref kk), .val (.ref nn), .val (.long ff), .second, .val (.long ss), .second] [(.ref kk), (.ref a)])) rfl rfl (hb hby d_rm_en_6)
  refine own_G.go st_2 ?_
  have F_2 : Fld Z h_2 a "com/example/kommit/kommit/KeyCounters$Entry" "kind" "Ljava/lang/String;" (.ref kk) := F_kind.same W_2
  have N_2 := Fr.snoc X_2 N0 g0
  show own_G _ _ _ _ (T_2.setTop (mkF m 9 #[.val (.ref a), .val (.ref kk), .val (.ref nn), .val (.long ff), .second, .val (.long ss), .second] []))
  refine own_G.go (fun t_ k_ => XS.aloadN X_2.here hx rfl (hb hby d_rm_en_9) rfl rfl k_) ?_
  show own_G _ _ _ _ (T_2.setTop (mkF m 10 #[.val (.ref a), .val (.ref kk), .val (.ref nn), .val (.long ff), .second, .val (.long ss), .second] [(.ref a)]))
  refine own_G.go (fun t_ k_ => XS.aloadN X_2.here hx rfl (hb hby d_rm_en_10) rfl rfl k_) ?_
  show own_G _ _ _ _ (T_2.setTop (mkF m 11 #[.val (.ref a), .val (.ref kk), .val (.ref nn), .val (.long ff), .second, .val (.long ss), .second] [(.ref nn), (.ref a)]))
  have F_name'_3 : Fld Z h_2 a "com/example/kommit/kommit/KeyCounters$Entry" "name" "Ljava/lang/String;" .null := (F_name.other W_2 (Or.inr (slot_ne (C := "com/example/kommit/kommit/KeyCounters$Entry") (Or.inr (own_w hw 36 rfl)) (Or.inr (own_w hw 34 rfl)) (by decide) (by decide : parseFieldDescriptor "Ljava/lang/String;" = some (.object "java/lang/String")) (by decide : parseFieldDescriptor "Ljava/lang/String;" = some (.object "java/lang/String")))))
  have E0'_4 : Exa Z h_2 a "com/example/kommit/kommit/KeyCounters$Entry" := (E0.wr W_2)
  obtain ⟨T_5, h_5, X_5, e_5, W_5, st_5⟩ := putF X_2 hx hZ hown (host := "") (Or.inl (own_w hw 35 rfl)) Via.refl e_2 F_name'_3 E0'_4 (Or.inr ⟨(own_w hw 36 rfl), rfl, hnm⟩) (own_w hw 27 rfl) (ty := (.object "java/lang/String")) (by decide) rfl rfl (g := (mkF m 11 #[.val (.ref a), .val (.ref kk), .val (.ref nn), .val (.long ff), .second, .val (.long ss), .second] [(.ref nn), (.ref a)])) rfl rfl (hb hby d_rm_en_11)
  refine own_G.go st_5 ?_
  have F_5 : Fld Z h_5 a "com/example/kommit/kommit/KeyCounters$Entry" "name" "Ljava/lang/String;" (.ref nn) := F_name'_3.same W_5
  have N_5 := Fr.snoc X_5 N_2 g0
  show own_G _ _ _ _ (T_5.setTop (mkF m 14 #[.val (.ref a), .val (.ref kk), .val (.ref nn), .val (.long ff), .second, .val (.long ss), .second] []))
  refine own_G.go (fun t_ k_ => XS.aloadN X_5.here hx rfl (hb hby d_rm_en_14) rfl rfl k_) ?_
  show own_G _ _ _ _ (T_5.setTop (mkF m 15 #[.val (.ref a), .val (.ref kk), .val (.ref nn), .val (.long ff), .second, .val (.long ss), .second] [(.ref a)]))
  refine own_G.go (fun t_ k_ => XS.lloadN X_5.here hx rfl (hb hby d_rm_en_15) rfl k_) ?_
  show own_G _ _ _ _ (T_5.setTop (mkF m 16 #[.val (.ref a), .val (.ref kk), .val (.ref nn), .val (.long ff), .second, .val (.long ss), .second] [(.long ff), (.ref a)]))
  have F_first'_6 : Fld Z h_5 a "com/example/kommit/kommit/KeyCounters$Entry" "first" "J" (.long (0 : Int64)) := ((F_first.other W_2 (Or.inr (slot_ne (C := "com/example/kommit/kommit/KeyCounters$Entry") (Or.inr (own_w hw 38 rfl)) (Or.inr (own_w hw 34 rfl)) (by decide) (by decide : parseFieldDescriptor "J" = some .long) (by decide : parseFieldDescriptor "Ljava/lang/String;" = some (.object "java/lang/String"))))).other W_5 (Or.inr (slot_ne (C := "com/example/kommit/kommit/KeyCounters$Entry") (Or.inr (own_w hw 38 rfl)) (Or.inr (own_w hw 36 rfl)) (by decide) (by decide : parseFieldDescriptor "J" = some .long) (by decide : parseFieldDescriptor "Ljava/lang/String;" = some (.object "java/lang/String")))))
  have E0'_7 : Exa Z h_5 a "com/example/kommit/kommit/KeyCounters$Entry" := (E0'_4.wr W_5)
  obtain ⟨T_8, h_8, X_8, e_8, W_8, st_8⟩ := putF X_5 hx hZ hown (host := "") (Or.inl (own_w hw 37 rfl)) Via.refl e_5 F_first'_6 E0'_7 (Or.inr ⟨(own_w hw 38 rfl), rfl, hnm⟩) (own_w hw 27 rfl) (ty := .long) (by decide) rfl rfl (g := (mkF m 16 #[.val (.ref a), .val (.ref kk), .val (.ref nn), .val (.long ff), .second, .val (.long ss), .second] [(.long ff), (.ref a)])) rfl rfl (hb hby d_rm_en_16)
  refine own_G.go st_8 ?_
  have F_8 : Fld Z h_8 a "com/example/kommit/kommit/KeyCounters$Entry" "first" "J" (.long ff) := F_first'_6.same W_8
  have N_8 := Fr.snoc X_8 N_5 g0
  show own_G _ _ _ _ (T_8.setTop (mkF m 19 #[.val (.ref a), .val (.ref kk), .val (.ref nn), .val (.long ff), .second, .val (.long ss), .second] []))
  refine own_G.go (fun t_ k_ => XS.aloadN X_8.here hx rfl (hb hby d_rm_en_19) rfl rfl k_) ?_
  show own_G _ _ _ _ (T_8.setTop (mkF m 20 #[.val (.ref a), .val (.ref kk), .val (.ref nn), .val (.long ff), .second, .val (.long ss), .second] [(.ref a)]))
  refine own_G.go (fun t_ k_ => XS.lload X_8.here hx rfl (hb hby d_rm_en_20) rfl k_) ?_
  show own_G _ _ _ _ (T_8.setTop (mkF m 22 #[.val (.ref a), .val (.ref kk), .val (.ref nn), .val (.long ff), .second, .val (.long ss), .second] [(.long ss), (.ref a)]))
  have F_second'_9 : Fld Z h_8 a "com/example/kommit/kommit/KeyCounters$Entry" "second" "J" (.long (0 : Int64)) := (((F_second.other W_2 (Or.inr (slot_ne (C := "com/example/kommit/kommit/KeyCounters$Entry") (Or.inr (own_w hw 40 rfl)) (Or.inr (own_w hw 34 rfl)) (by decide) (by decide : parseFieldDescriptor "J" = some .long) (by decide : parseFieldDescriptor "Ljava/lang/String;" = some (.object "java/lang/String"))))).other W_5 (Or.inr (slot_ne (C := "com/example/kommit/kommit/KeyCounters$Entry") (Or.inr (own_w hw 40 rfl)) (Or.inr (own_w hw 36 rfl)) (by decide) (by decide : parseFieldDescriptor "J" = some .long) (by decide : parseFieldDescriptor "Ljava/lang/String;" = some (.object "java/lang/String"))))).other W_8 (Or.inr (slot_ne (C := "com/example/kommit/kommit/KeyCounters$Entry") (Or.inr (own_w hw 40 rfl)) (Or.inr (own_w hw 38 rfl)) (by decide) (by decide : parseFieldDescriptor "J" = some .long) (by decide : parseFieldDescriptor "J" = some .long))))
  have E0'_10 : Exa Z h_8 a "com/example/kommit/kommit/KeyCounters$Entry" := (E0'_7.wr W_8)
  obtain ⟨T_11, h_11, X_11, e_11, W_11, st_11⟩ := putF X_8 hx hZ hown (host := "") (Or.inl (own_w hw 39 rfl)) Via.refl e_8 F_second'_9 E0'_10 (Or.inr ⟨(own_w hw 40 rfl), rfl, hnm⟩) (own_w hw 27 rfl) (ty := .long) (by decide) rfl rfl (g := (mkF m 22 #[.val (.ref a), .val (.ref kk), .val (.ref nn), .val (.long ff), .second, .val (.long ss), .second] [(.long ss), (.ref a)])) rfl rfl (hb hby d_rm_en_22)
  refine own_G.go st_11 ?_
  have F_11 : Fld Z h_11 a "com/example/kommit/kommit/KeyCounters$Entry" "second" "J" (.long ss) := F_second'_9.same W_11
  have N_11 := Fr.snoc X_11 N_8 g0
  show own_G _ _ _ _ (T_11.setTop (mkF m 25 #[.val (.ref a), .val (.ref kk), .val (.ref nn), .val (.long ff), .second, .val (.long ss), .second] []))
  have E0'_12 : Exa Z h_11 a "com/example/kommit/kommit/KeyCounters$Entry" := (E0'_10.wr W_11)
  have F_2'_13 : Fld Z h_11 a "com/example/kommit/kommit/KeyCounters$Entry" "kind" "Ljava/lang/String;" (.ref kk) := (((F_2.other W_5 (Or.inr (slot_ne (C := "com/example/kommit/kommit/KeyCounters$Entry") (Or.inr (own_w hw 34 rfl)) (Or.inr (own_w hw 36 rfl)) (by decide) (by decide : parseFieldDescriptor "Ljava/lang/String;" = some (.object "java/lang/String")) (by decide : parseFieldDescriptor "Ljava/lang/String;" = some (.object "java/lang/String"))))).other W_8 (Or.inr (slot_ne (C := "com/example/kommit/kommit/KeyCounters$Entry") (Or.inr (own_w hw 34 rfl)) (Or.inr (own_w hw 38 rfl)) (by decide) (by decide : parseFieldDescriptor "Ljava/lang/String;" = some (.object "java/lang/String")) (by decide : parseFieldDescriptor "J" = some .long)))).other W_11 (Or.inr (slot_ne (C := "com/example/kommit/kommit/KeyCounters$Entry") (Or.inr (own_w hw 34 rfl)) (Or.inr (own_w hw 40 rfl)) (by decide) (by decide : parseFieldDescriptor "Ljava/lang/String;" = some (.object "java/lang/String")) (by decide : parseFieldDescriptor "J" = some .long))))
  have F_5'_14 : Fld Z h_11 a "com/example/kommit/kommit/KeyCounters$Entry" "name" "Ljava/lang/String;" (.ref nn) := ((F_5.other W_8 (Or.inr (slot_ne (C := "com/example/kommit/kommit/KeyCounters$Entry") (Or.inr (own_w hw 36 rfl)) (Or.inr (own_w hw 38 rfl)) (by decide) (by decide : parseFieldDescriptor "Ljava/lang/String;" = some (.object "java/lang/String")) (by decide : parseFieldDescriptor "J" = some .long)))).other W_11 (Or.inr (slot_ne (C := "com/example/kommit/kommit/KeyCounters$Entry") (Or.inr (own_w hw 36 rfl)) (Or.inr (own_w hw 40 rfl)) (by decide) (by decide : parseFieldDescriptor "Ljava/lang/String;" = some (.object "java/lang/String")) (by decide : parseFieldDescriptor "J" = some .long))))
  have F_8'_15 : Fld Z h_11 a "com/example/kommit/kommit/KeyCounters$Entry" "first" "J" (.long ff) := (F_8.other W_11 (Or.inr (slot_ne (C := "com/example/kommit/kommit/KeyCounters$Entry") (Or.inr (own_w hw 38 rfl)) (Or.inr (own_w hw 40 rfl)) (by decide) (by decide : parseFieldDescriptor "J" = some .long) (by decide : parseFieldDescriptor "J" = some .long))))
  exact own_G.end_ X_11 hlk (v := none) (fun _ => rfl) (fun fs hr => X_11.returnOut hx hrt (hb hby d_rm_en_25) hr) e_11 ⟨rfl, N_11, (((((Keep.refl h0 [a]).wr W_2 (Or.inl (List.mem_of_getElem? (i := 0) rfl))).wr W_5 (Or.inl (List.mem_of_getElem? (i := 0) rfl))).wr W_8 (Or.inl (List.mem_of_getElem? (i := 0) rfl))).wr W_11 (Or.inl (List.mem_of_getElem? (i := 0) rfl))), E0'_12, F_2'_13, F_5'_14, F_8'_15, F_11⟩ (by decide) (by decide)
theorem pd_3 : parseMethodDescriptor "(Ljava/lang/Object;)Z" = some ⟨[(.object "java/lang/Object")], some .boolean⟩ := by decide +kernel
theorem d_rm_eqO_0 : decode prog_11_method_6_code 0 = .ok (.aload_n 1, 1) := by decide +kernel
theorem d_rm_eqO_1 : decode prog_11_method_6_code 1 = .ok (.instanceof 8, 3) := by decide +kernel
theorem d_rm_eqO_4 : decode prog_11_method_6_code 4 = .ok (.ifCond .eq 71, 3) := by decide +kernel
theorem d_rm_eqO_7 : decode prog_11_method_6_code 7 = .ok (.aload_n 1, 1) := by decide +kernel
theorem d_rm_eqO_8 : decode prog_11_method_6_code 8 = .ok (.checkcast 8, 3) := by decide +kernel
theorem d_rm_eqO_11 : decode prog_11_method_6_code 11 = .ok (.getfield 7, 3) := by decide +kernel
theorem d_rm_eqO_14 : decode prog_11_method_6_code 14 = .ok (.aload_n 0, 1) := by decide +kernel
theorem d_rm_eqO_15 : decode prog_11_method_6_code 15 = .ok (.getfield 7, 3) := by decide +kernel
theorem d_rm_eqO_18 : decode prog_11_method_6_code 18 = .ok (.invokevirtual 23, 3) := by decide +kernel
theorem d_rm_eqO_21 : decode prog_11_method_6_code 21 = .ok (.ifCond .eq 54, 3) := by decide +kernel
theorem d_rm_eqO_24 : decode prog_11_method_6_code 24 = .ok (.aload_n 1, 1) := by decide +kernel
theorem d_rm_eqO_25 : decode prog_11_method_6_code 25 = .ok (.checkcast 8, 3) := by decide +kernel
theorem d_rm_eqO_28 : decode prog_11_method_6_code 28 = .ok (.getfield 13, 3) := by decide +kernel
theorem d_rm_eqO_31 : decode prog_11_method_6_code 31 = .ok (.aload_n 0, 1) := by decide +kernel
theorem d_rm_eqO_32 : decode prog_11_method_6_code 32 = .ok (.getfield 13, 3) := by decide +kernel
theorem d_rm_eqO_35 : decode prog_11_method_6_code 35 = .ok (.invokevirtual 23, 3) := by decide +kernel
theorem d_rm_eqO_38 : decode prog_11_method_6_code 38 = .ok (.ifCond .eq 37, 3) := by decide +kernel
theorem d_rm_eqO_41 : decode prog_11_method_6_code 41 = .ok (.aload_n 1, 1) := by decide +kernel
theorem d_rm_eqO_42 : decode prog_11_method_6_code 42 = .ok (.checkcast 8, 3) := by decide +kernel
theorem d_rm_eqO_45 : decode prog_11_method_6_code 45 = .ok (.getfield 16, 3) := by decide +kernel
theorem d_rm_eqO_48 : decode prog_11_method_6_code 48 = .ok (.aload_n 0, 1) := by decide +kernel
theorem d_rm_eqO_49 : decode prog_11_method_6_code 49 = .ok (.getfield 16, 3) := by decide +kernel
theorem d_rm_eqO_52 : decode prog_11_method_6_code 52 = .ok (.lcmp, 1) := by decide +kernel
theorem d_rm_eqO_53 : decode prog_11_method_6_code 53 = .ok (.ifCond .ne 22, 3) := by decide +kernel
theorem d_rm_eqO_56 : decode prog_11_method_6_code 56 = .ok (.aload_n 1, 1) := by decide +kernel
theorem d_rm_eqO_57 : decode prog_11_method_6_code 57 = .ok (.checkcast 8, 3) := by decide +kernel
theorem d_rm_eqO_60 : decode prog_11_method_6_code 60 = .ok (.getfield 20, 3) := by decide +kernel
theorem d_rm_eqO_63 : decode prog_11_method_6_code 63 = .ok (.aload_n 0, 1) := by decide +kernel
theorem d_rm_eqO_64 : decode prog_11_method_6_code 64 = .ok (.getfield 20, 3) := by decide +kernel
theorem d_rm_eqO_67 : decode prog_11_method_6_code 67 = .ok (.lcmp, 1) := by decide +kernel
theorem d_rm_eqO_68 : decode prog_11_method_6_code 68 = .ok (.ifCond .ne 7, 3) := by decide +kernel
theorem d_rm_eqO_71 : decode prog_11_method_6_code 71 = .ok (.iconst 1, 1) := by decide +kernel
theorem d_rm_eqO_72 : decode prog_11_method_6_code 72 = .ok (.goto 4, 3) := by decide +kernel
theorem d_rm_eqO_75 : decode prog_11_method_6_code 75 = .ok (.iconst 0, 1) := by decide +kernel
theorem d_rm_eqO_76 : decode prog_11_method_6_code 76 = .ok (.ireturn, 1) := by decide +kernel
set_option maxRecDepth 65536 in
set_option maxHeartbeats 40000000 in
theorem rm_eqO (l : Launch) (Z : State) (a0 : Array Value) (hw : ∀ d ∈ tables_1, d.before a0 Z = true) (ws : List Jvm.Cond) (a b ak an bk bn t_ak t_an t_bk t_bn : Addr) (k_ak k_an k_bk k_bn : ClassId) (cs_ak cs_an cs_bk cs_bn : List Int32) (fa sa fb sb : Int64) (zc : Int32) (h0 : Heap) (n0 : Nat) (Z0 : n0 ≤ h0.size) (EA : Exa Z h0 a "com/example/kommit/kommit/KeyCounters$Entry") (EB : Exa Z h0 b "com/example/kommit/kommit/KeyCounters$Entry") (FA_k : Fld Z h0 a "com/example/kommit/kommit/KeyCounters$Entry" "kind" "Ljava/lang/String;" (.ref ak)) (FA_n : Fld Z h0 a "com/example/kommit/kommit/KeyCounters$Entry" "name" "Ljava/lang/String;" (.ref an)) (FA_1 : Fld Z h0 a "com/example/kommit/kommit/KeyCounters$Entry" "first" "J" (.long fa)) (FA_2 : Fld Z h0 a "com/example/kommit/kommit/KeyCounters$Entry" "second" "J" (.long sa)) (FB_k : Fld Z h0 b "com/example/kommit/kommit/KeyCounters$Entry" "kind" "Ljava/lang/String;" (.ref bk)) (FB_n : Fld Z h0 b "com/example/kommit/kommit/KeyCounters$Entry" "name" "Ljava/lang/String;" (.ref bn)) (FB_1 : Fld Z h0 b "com/example/kommit/kommit/KeyCounters$Entry" "first" "J" (.long fb)) (FB_2 : Fld Z h0 b "com/example/kommit/kommit/KeyCounters$Entry" "second" "J" (.long sb)) (E_ak : Exa Z h0 ak "java/lang/String") (C_ak : Fld Z h0 ak "java/lang/String" "coder" "B" (.int 0)) (V_ak : Fld Z h0 ak "java/lang/String" "value" "[B" (.ref t_ak)) (K_ak : Arv Z h0 t_ak k_ak .byte (Int32.ofNat cs_ak.length) ((cs_ak.map (fun c => c.toInt8.toInt32)).map Value.int) (.int 0)) (b_ak : ∀ c ∈ cs_ak, own_b c) (l_ak : cs_ak.length ≤ 4000) (E_an : Exa Z h0 an "java/lang/String") (C_an : Fld Z h0 an "java/lang/String" "coder" "B" (.int 0)) (V_an : Fld Z h0 an "java/lang/String" "value" "[B" (.ref t_an)) (K_an : Arv Z h0 t_an k_an .byte (Int32.ofNat cs_an.length) ((cs_an.map (fun c => c.toInt8.toInt32)).map Value.int) (.int 0)) (b_an : ∀ c ∈ cs_an, own_b c) (l_an : cs_an.length ≤ 4000) (E_bk : Exa Z h0 bk "java/lang/String") (C_bk : Fld Z h0 bk "java/lang/String" "coder" "B" (.int 0)) (V_bk : Fld Z h0 bk "java/lang/String" "value" "[B" (.ref t_bk)) (K_bk : Arv Z h0 t_bk k_bk .byte (Int32.ofNat cs_bk.length) ((cs_bk.map (fun c => c.toInt8.toInt32)).map Value.int) (.int 0)) (b_bk : ∀ c ∈ cs_bk, own_b c) (l_bk : cs_bk.length ≤ 4000) (E_bn : Exa Z h0 bn "java/lang/String") (C_bn : Fld Z h0 bn "java/lang/String" "coder" "B" (.int 0)) (V_bn : Fld Z h0 bn "java/lang/String" "value" "[B" (.ref t_bn)) (K_bn : Arv Z h0 t_bn k_bn .byte (Int32.ofNat cs_bn.length) ((cs_bn.map (fun c => c.toInt8.toInt32)).map Value.int) (.int 0)) (b_bn : ∀ c ∈ cs_bn, own_b c) (l_bn : cs_bn.length ≤ 4000) (O2 : Sta Z Z.heap "java/lang/String" "COMPACT_STRINGS" "Z" (.int zc)) (P5 : ¬ (zc = (0 : Int32))) (X00 : Old Z n0 h0) :
    MetFree l (⟨"com/example/kommit/kommit/KeyCounters$Entry", "equals", "(Ljava/lang/Object;)Z"⟩ : MethodName) (head1 (Jvm.Cond.code (⟨"com/example/kommit/kommit/KeyCounters$Entry", "equals", "(Ljava/lang/Object;)Z"⟩ : MethodName) prog_11_method_6_code 2 (some .boolean) :: ws) ({ frames := 2, cells := 0, slots := 0, locals := 28 } : Room)) (fun a_ U => a_ = #[(.ref a), (.ref b)] ∧ Z.Warmed39 U.vm ∧ U.heap = h0) (fun _ _ _ _ _ => True) (fun _ U o U' => ∃ v L, o = .returned v ∧ Qeq (cs_ak = cs_bk ∧ cs_an = cs_bn ∧ fb = fa ∧ sb = sa) h0 v U'.heap L ∧ FrameEnd U o U' L ({ frames := 2, cells := 0, slots := 0, locals := 28 } : Room).cells ({ frames := 2, cells := 0, slots := 0, locals := 28 } : Room).slots) := by
  refine MetFree.of_bodySF (plainFor_of_name pn_3) hisR ?_
  intro p e s m args below meth c s₁ Bd hml0 hP hK
  obtain ⟨rfl, hZ, hh⟩ := hP
  have hx := Bd.exec
  have hby := Bd.bytes
  have hrt := Bd.returns
  have hlk : meth.locks = false := Bd.notSynchronized
  have hml : c.maxLocals = 2 := hml0
  have hown : s.vm.findClass "com/example/kommit/kommit/KeyCounters$Entry" = some m.cls := findClass_of_methodNamed Bd.named
  have hnm := (name_of_methodNamed Bd.named Bd.method).1
  have X0 : Stand p l e ({ frames := 2, cells := 0, slots := 0, locals := 28 } : Room) s m #[(.ref a), (.ref b)] below meth c s₁ [] 0 0 := Stand.of_body Bd
  have e0 : s₁.heap = h0 := by rw [← hh, Bd.state]; rfl
  have N0 := Fr.nil n0
  show own_G p.tables e below (fun o t => ∃ v L, o = .returned v ∧ Qeq (cs_ak = cs_bk ∧ cs_an = cs_bn ∧ fb = fa ∧ sb = sa) h0 v t.heap L ∧ FrameEnd s o t L ({ frames := 2, cells := 0, slots := 0, locals := 28 } : Room).cells ({ frames := 2, cells := 0, slots := 0, locals := 28 } : Room).slots) (s₁.setTop (entryFrame m #[(.ref a), (.ref b)] 2))
  refine own_G.cast (show entryFrame m #[(.ref a), (.ref b)] 2 = mkF m 0 #[.val (.ref a), .val (.ref b)] [] from by first | (simp [entryFrame, mkF, argsToLocals, Value.category]; done) | rfl) ?_
  have heq : ∀ d ∈ StrChars.Road.wordsEq, d.before a0 Z = true := fun d hd => hw d ((by decide +kernel : ∀ d ∈ StrChars.Road.wordsEq, d ∈ tables_1) d hd)
  have hcd_ak := StrChars.Road.codOf (cs := cs_ak) (n := cs_ak.length) rfl (fun c hc => (b_ak c hc).2)
  have hbd_ak := own_up _ b_ak
  have hcd_an := StrChars.Road.codOf (cs := cs_an) (n := cs_an.length) rfl (fun c hc => (b_an c hc).2)
  have hbd_an := own_up _ b_an
  have hcd_bk := StrChars.Road.codOf (cs := cs_bk) (n := cs_bk.length) rfl (fun c hc => (b_bk c hc).2)
  have hbd_bk := own_up _ b_bk
  have hcd_bn := StrChars.Road.codOf (cs := cs_bn) (n := cs_bn.length) rfl (fun c hc => (b_bn c hc).2)
  have hbd_bn := own_up _ b_bn
  refine own_G.go (fun t_ k_ => XS.aloadN X0.here hx rfl (hb hby d_rm_eqO_0) rfl rfl k_) ?_
  show own_G _ _ _ _ (s₁.setTop (mkF m 1 #[.val (.ref a), .val (.ref b)] [(.ref b)]))
  obtain ⟨T_1, X_1, e_1, st_1⟩ := instY X0 hx hZ hown (own_w hw 49 rfl) e0 (Ins.self EB) (g := (mkF m 1 #[.val (.ref a), .val (.ref b)] [(.ref b)])) rfl rfl (hb hby d_rm_eqO_1)
  refine own_G.go st_1 ?_
  show own_G _ _ _ _ (T_1.setTop (mkF m 4 #[.val (.ref a), .val (.ref b)] [(.int (1 : Int32))]))
  refine own_G.go (fun t_ k_ => XS.ifNo X_1.here hx rfl (hb hby d_rm_eqO_4) rfl ((if0 _ _).trans (feq (by decide : ¬ ((1 : Int32) = (0 : Int32)))).1) k_) ?_
  show own_G _ _ _ _ (T_1.setTop (mkF m 7 #[.val (.ref a), .val (.ref b)] []))
  refine own_G.go (fun t_ k_ => XS.aloadN X_1.here hx rfl (hb hby d_rm_eqO_7) rfl rfl k_) ?_
  show own_G _ _ _ _ (T_1.setTop (mkF m 8 #[.val (.ref a), .val (.ref b)] [(.ref b)]))
  obtain ⟨T_2, X_2, e_2, st_2⟩ := castY X_1 hx hZ hown (own_w hw 49 rfl) e_1 (Ins.self EB) (g := (mkF m 8 #[.val (.ref a), .val (.ref b)] [(.ref b)])) rfl rfl (hb hby d_rm_eqO_8)
  refine own_G.go st_2 ?_
  show own_G _ _ _ _ (T_2.setTop (mkF m 11 #[.val (.ref a), .val (.ref b)] [(.ref b)]))
  obtain ⟨T_3, X_3, e_3, st_3⟩ := getF X_2 hx hZ hown (host := "") (Or.inl (own_w hw 33 rfl)) Via.refl e_2 FB_k (g := (mkF m 11 #[.val (.ref a), .val (.ref b)] [(.ref b)])) rfl rfl (hb hby d_rm_eqO_11)
  refine own_G.go st_3 ?_
  show own_G _ _ _ _ (T_3.setTop (mkF m 14 #[.val (.ref a), .val (.ref b)] [(.ref bk)]))
  refine own_G.go (fun t_ k_ => XS.aloadN X_3.here hx rfl (hb hby d_rm_eqO_14) rfl rfl k_) ?_
  show own_G _ _ _ _ (T_3.setTop (mkF m 15 #[.val (.ref a), .val (.ref b)] [(.ref a), (.ref bk)]))
  obtain ⟨T_4, X_4, e_4, st_4⟩ := getF X_3 hx hZ hown (host := "") (Or.inl (own_w hw 33 rfl)) Via.refl e_3 FA_k (g := (mkF m 15 #[.val (.ref a), .val (.ref b)] [(.ref a), (.ref bk)])) rfl rfl (hb hby d_rm_eqO_15)
  refine own_G.go st_4 ?_
  show own_G _ _ _ _ (T_4.setTop (mkF m 18 #[.val (.ref a), .val (.ref b)] [(.ref ak), (.ref bk)]))
  obtain ⟨cq_5, kq_5, q_5a, q_5b, q_5c⟩ := isOf hZ e_4 E_bk
  obtain ⟨_, T_5, L_5, Q_5, X_5, st_5⟩ := own_callV X_4 hx (z := (⟨"java/lang/String", "equals", "(Ljava/lang/Object;)Z"⟩ : MethodName)) hown (mvT hZ (own_w hw 51 rfl)) (mvT hZ (own_w hw 52 rfl)) (notFace_of_selects (args := #[]) (mvT hZ (own_w hw 54 rfl))) (mvT hZ (own_w hw 54 rfl)) (mvT hZ (own_w hw 53 rfl)) (by decide) (Q := (fun v h' L => ((v = some (.int 1) ∧ cs_bk = cs_ak) ∨ (v = some (.int 0) ∧ ¬ cs_bk = cs_ak)) ∧ L = [] ∧ h' = h0)) (StrChars.Road.eqW (W := 0) hZ heq (kI := 4) (own_w hw 6 rfl) E_bk V_bk C_bk K_bk hcd_bk hbd_bk l_bk E_ak V_ak C_ak K_ak hcd_ak hbd_ak l_ak (O2.ext X00.2) P5 (by decide) (by decide)) q_5a q_5c (g := (mkF m 18 #[.val (.ref a), .val (.ref b)] [(.ref ak), (.ref bk)])) rfl (by rw [hml]; rfl) (argsL := [(.ref ak)]) (rest := []) (lenOf pd_3 rfl) rfl (by show 2 * 0 + _ ≤ _; exact Nat.le_of_eq rfl) (hb hby d_rm_eqO_18) e_4 rfl (by decide) (by decide)
  obtain ⟨hc_5, rfl, eh_5⟩ := Q_5
  refine own_G.via st_5 ?_
  have N_5 := Fr.app N0 (Fr.nil n0)
  rcases hc_5 with ⟨rfl, hq0⟩ | ⟨rfl, hq0⟩
  · show own_G _ _ _ _ (T_5.setTop (mkF m 21 #[.val (.ref a), .val (.ref b)] [(.int (1 : Int32))]))
    refine own_G.go (fun t_ k_ => XS.ifNo X_5.here hx rfl (hb hby d_rm_eqO_21) rfl ((if0 _ _).trans (feq (by decide : ¬ ((1 : Int32) = (0 : Int32)))).1) k_) ?_
    show own_G _ _ _ _ (T_5.setTop (mkF m 24 #[.val (.ref a), .val (.ref b)] []))
    refine own_G.go (fun t_ k_ => XS.aloadN X_5.here hx rfl (hb hby d_rm_eqO_24) rfl rfl k_) ?_
    show own_G _ _ _ _ (T_5.setTop (mkF m 25 #[.val (.ref a), .val (.ref b)] [(.ref b)]))
    obtain ⟨T_6, X_6, e_6, st_6⟩ := castY X_5 hx hZ hown (own_w hw 49 rfl) eh_5 (Ins.self EB) (g := (mkF m 25 #[.val (.ref a), .val (.ref b)] [(.ref b)])) rfl rfl (hb hby d_rm_eqO_25)
    refine own_G.go st_6 ?_
    show own_G _ _ _ _ (T_6.setTop (mkF m 28 #[.val (.ref a), .val (.ref b)] [(.ref b)]))
    obtain ⟨T_7, X_7, e_7, st_7⟩ := getF X_6 hx hZ hown (host := "") (Or.inl (own_w hw 35 rfl)) Via.refl e_6 FB_n (g := (mkF m 28 #[.val (.ref a), .val (.ref b)] [(.ref b)])) rfl rfl (hb hby d_rm_eqO_28)
    refine own_G.go st_7 ?_
    show own_G _ _ _ _ (T_7.setTop (mkF m 31 #[.val (.ref a), .val (.ref b)] [(.ref bn)]))
    refine own_G.go (fun t_ k_ => XS.aloadN X_7.here hx rfl (hb hby d_rm_eqO_31) rfl rfl k_) ?_
    show own_G _ _ _ _ (T_7.setTop (mkF m 32 #[.val (.ref a), .val (.ref b)] [(.ref a), (.ref bn)]))
    obtain ⟨T_8, X_8, e_8, st_8⟩ := getF X_7 hx hZ hown (host := "") (Or.inl (own_w hw 35 rfl)) Via.refl e_7 FA_n (g := (mkF m 32 #[.val (.ref a), .val (.ref b)] [(.ref a), (.ref bn)])) rfl rfl (hb hby d_rm_eqO_32)
    refine own_G.go st_8 ?_
    show own_G _ _ _ _ (T_8.setTop (mkF m 35 #[.val (.ref a), .val (.ref b)] [(.ref an), (.ref bn)]))
    obtain ⟨cq_9, kq_9, q_9a, q_9b, q_9c⟩ := isOf hZ e_8 E_bn
    obtain ⟨_, T_9, L_9, Q_9, X_9, st_9⟩ := own_callV X_8 hx (z := (⟨"java/lang/String", "equals", "(Ljava/lang/Object;)Z"⟩ : MethodName)) hown (mvT hZ (own_w hw 51 rfl)) (mvT hZ (own_w hw 52 rfl)) (notFace_of_selects (args := #[]) (mvT hZ (own_w hw 54 rfl))) (mvT hZ (own_w hw 54 rfl)) (mvT hZ (own_w hw 53 rfl)) (by decide) (Q := (fun v h' L => ((v = some (.int 1) ∧ cs_bn = cs_an) ∨ (v = some (.int 0) ∧ ¬ cs_bn = cs_an)) ∧ L = [] ∧ h' = h0)) (StrChars.Road.eqW (W := 0) hZ heq (kI := 4) (own_w hw 6 rfl) E_bn V_bn C_bn K_bn hcd_bn hbd_bn l_bn E_an V_an C_an K_an hcd_an hbd_an l_an (O2.ext X00.2) P5 (by decide) (by decide)) q_9a q_9c (g := (mkF m 35 #[.val (.ref a), .val (.ref b)] [(.ref an), (.ref bn)])) rfl (by rw [hml]; rfl) (argsL := [(.ref an)]) (rest := []) (lenOf pd_3 rfl) rfl (by show 2 * 0 + _ ≤ _; exact Nat.le_of_eq rfl) (hb hby d_rm_eqO_35) e_8 rfl (by decide) (by decide)
    obtain ⟨hc_9, rfl, eh_9⟩ := Q_9
    refine own_G.via st_9 ?_
    have N_9 := Fr.app N_5 (Fr.nil n0)
    rcases hc_9 with ⟨rfl, hq1⟩ | ⟨rfl, hq1⟩
    · show own_G _ _ _ _ (T_9.setTop (mkF m 38 #[.val (.ref a), .val (.ref b)] [(.int (1 : Int32))]))
      refine own_G.go (fun t_ k_ => XS.ifNo X_9.here hx rfl (hb hby d_rm_eqO_38) rfl ((if0 _ _).trans (feq (by decide : ¬ ((1 : Int32) = (0 : Int32)))).1) k_) ?_
      show own_G _ _ _ _ (T_9.setTop (mkF m 41 #[.val (.ref a), .val (.ref b)] []))
      refine own_G.go (fun t_ k_ => XS.aloadN X_9.here hx rfl (hb hby d_rm_eqO_41) rfl rfl k_) ?_
      show own_G _ _ _ _ (T_9.setTop (mkF m 42 #[.val (.ref a), .val (.ref b)] [(.ref b)]))
      obtain ⟨T_10, X_10, e_10, st_10⟩ := castY X_9 hx hZ hown (own_w hw 49 rfl) eh_9 (Ins.self EB) (g := (mkF m 42 #[.val (.ref a), .val (.ref b)] [(.ref b)])) rfl rfl (hb hby d_rm_eqO_42)
      refine own_G.go st_10 ?_
      show own_G _ _ _ _ (T_10.setTop (mkF m 45 #[.val (.ref a), .val (.ref b)] [(.ref b)]))
      obtain ⟨T_11, X_11, e_11, st_11⟩ := getF X_10 hx hZ hown (host := "") (Or.inl (own_w hw 37 rfl)) Via.refl e_10 FB_1 (g := (mkF m 45 #[.val (.ref a), .val (.ref b)] [(.ref b)])) rfl rfl (hb hby d_rm_eqO_45)
      refine own_G.go st_11 ?_
      show own_G _ _ _ _ (T_11.setTop (mkF m 48 #[.val (.ref a), .val (.ref b)] [(.long fb)]))
      refine own_G.go (fun t_ k_ => XS.aloadN X_11.here hx rfl (hb hby d_rm_eqO_48) rfl rfl k_) ?_
      show own_G _ _ _ _ (T_11.setTop (mkF m 49 #[.val (.ref a), .val (.ref b)] [(.ref a), (.long fb)]))
      obtain ⟨T_12, X_12, e_12, st_12⟩ := getF X_11 hx hZ hown (host := "") (Or.inl (own_w hw 37 rfl)) Via.refl e_11 FA_1 (g := (mkF m 49 #[.val (.ref a), .val (.ref b)] [(.ref a), (.long fb)])) rfl rfl (hb hby d_rm_eqO_49)
      refine own_G.go st_12 ?_
      show own_G _ _ _ _ (T_12.setTop (mkF m 52 #[.val (.ref a), .val (.ref b)] [(.long fa), (.long fb)]))
      refine own_G.go (fun t_ k_ => XS.lcmp X_12.here hx rfl (hb hby d_rm_eqO_52) rfl k_) ?_
      show own_G _ _ _ _ (T_12.setTop (mkF m 53 #[.val (.ref a), .val (.ref b)] [(.int (lcmpW fb fa))]))
      by_cases hq2 : (lcmpW fb fa) = (0 : Int32)
      · refine own_G.go (fun t_ k_ => XS.ifNo X_12.here hx rfl (hb hby d_rm_eqO_53) rfl ((if0 _ _).trans (teq hq2).2) k_) ?_
        show own_G _ _ _ _ (T_12.setTop (mkF m 56 #[.val (.ref a), .val (.ref b)] []))
        refine own_G.go (fun t_ k_ => XS.aloadN X_12.here hx rfl (hb hby d_rm_eqO_56) rfl rfl k_) ?_
        show own_G _ _ _ _ (T_12.setTop (mkF m 57 #[.val (.ref a), .val (.ref b)] [(.ref b)]))
        obtain ⟨T_13, X_13, e_13, st_13⟩ := castY X_12 hx hZ hown (own_w hw 49 rfl) e_12 (Ins.self EB) (g := (mkF m 57 #[.val (.ref a), .val (.ref b)] [(.ref b)])) rfl rfl (hb hby d_rm_eqO_57)
        refine own_G.go st_13 ?_
        show own_G _ _ _ _ (T_13.setTop (mkF m 60 #[.val (.ref a), .val (.ref b)] [(.ref b)]))
        obtain ⟨T_14, X_14, e_14, st_14⟩ := getF X_13 hx hZ hown (host := "") (Or.inl (own_w hw 39 rfl)) Via.refl e_13 FB_2 (g := (mkF m 60 #[.val (.ref a), .val (.ref b)] [(.ref b)])) rfl rfl (hb hby d_rm_eqO_60)
        refine own_G.go st_14 ?_
        show own_G _ _ _ _ (T_14.setTop (mkF m 63 #[.val (.ref a), .val (.ref b)] [(.long sb)]))
        refine own_G.go (fun t_ k_ => XS.aloadN X_14.here hx rfl (hb hby d_rm_eqO_63) rfl rfl k_) ?_
        show own_G _ _ _ _ (T_14.setTop (mkF m 64 #[.val (.ref a), .val (.ref b)] [(.ref a), (.long sb)]))
        obtain ⟨T_15, X_15, e_15, st_15⟩ := getF X_14 hx hZ hown (host := "") (Or.inl (own_w hw 39 rfl)) Via.refl e_14 FA_2 (g := (mkF m 64 #[.val (.ref a), .val (.ref b)] [(.ref a), (.long sb)])) rfl rfl (hb hby d_rm_eqO_64)
        refine own_G.go st_15 ?_
        show own_G _ _ _ _ (T_15.setTop (mkF m 67 #[.val (.ref a), .val (.ref b)] [(.long sa), (.long sb)]))
        refine own_G.go (fun t_ k_ => XS.lcmp X_15.here hx rfl (hb hby d_rm_eqO_67) rfl k_) ?_
        show own_G _ _ _ _ (T_15.setTop (mkF m 68 #[.val (.ref a), .val (.ref b)] [(.int (lcmpW sb sa))]))
        by_cases hq3 : (lcmpW sb sa) = (0 : Int32)
        · refine own_G.go (fun t_ k_ => XS.ifNo X_15.here hx rfl (hb hby d_rm_eqO_68) rfl ((if0 _ _).trans (teq hq3).2) k_) ?_
          show own_G _ _ _ _ (T_15.setTop (mkF m 71 #[.val (.ref a), .val (.ref b)] []))
          refine own_G.go (fun t_ k_ => XS.iconst X_15.here hx rfl (hb hby d_rm_eqO_71) k_) ?_
          show own_G _ _ _ _ (T_15.setTop (mkF m 72 #[.val (.ref a), .val (.ref b)] [(.int (1 : Int32))]))
          refine own_G.go (fun t_ k_ => XS.goto X_15.here hx rfl (pc0 := 72) (pc' := 76) rfl (hb hby d_rm_eqO_72) (by decide) (by decide) k_) ?_
          show own_G _ _ _ _ (T_15.setTop (mkF m 76 #[.val (.ref a), .val (.ref b)] [(.int (1 : Int32))]))
          exact own_G.end_ X_15 hlk (v := (some (.int (1 : Int32)))) (fun h => by rw [hrt] at h; cases h) (fun fs hr => retN X_15 hx (z := (1 : Int32)) (t := .boolean) hrt (by simp) (hb hby d_rm_eqO_76) hr) e_15 ⟨⟨1, rfl, Or.inl ⟨rfl, hq0.symm, hq1.symm, (lw_eq _ _).mp hq2, (lw_eq _ _).mp hq3⟩⟩, rfl, rfl⟩ (by decide) (by decide)
        · refine own_G.go (fun t_ k_ => XS.ifYes X_15.here hx rfl (pc0 := 68) (pc' := 75) rfl (hb hby d_rm_eqO_68) rfl ((if0 _ _).trans (feq hq3).2) (by decide) (by decide) k_) ?_
          show own_G _ _ _ _ (T_15.setTop (mkF m 75 #[.val (.ref a), .val (.ref b)] []))
          refine own_G.go (fun t_ k_ => XS.iconst X_15.here hx rfl (hb hby d_rm_eqO_75) k_) ?_
          show own_G _ _ _ _ (T_15.setTop (mkF m 76 #[.val (.ref a), .val (.ref b)] [(.int (0 : Int32))]))
          exact own_G.end_ X_15 hlk (v := (some (.int (0 : Int32)))) (fun h => by rw [hrt] at h; cases h) (fun fs hr => retN X_15 hx (z := (0 : Int32)) (t := .boolean) hrt (by simp) (hb hby d_rm_eqO_76) hr) e_15 ⟨⟨0, rfl, Or.inr ⟨rfl, fun q => by first | exact hq3 ((lw_eq _ _).mpr q.2.2.2) | exact hq2 ((lw_eq _ _).mpr q.2.2.1) | exact hq1 q.2.1.symm | exact hq0 q.1.symm⟩⟩, rfl, rfl⟩ (by decide) (by decide)
      · refine own_G.go (fun t_ k_ => XS.ifYes X_12.here hx rfl (pc0 := 53) (pc' := 75) rfl (hb hby d_rm_eqO_53) rfl ((if0 _ _).trans (feq hq2).2) (by decide) (by decide) k_) ?_
        show own_G _ _ _ _ (T_12.setTop (mkF m 75 #[.val (.ref a), .val (.ref b)] []))
        refine own_G.go (fun t_ k_ => XS.iconst X_12.here hx rfl (hb hby d_rm_eqO_75) k_) ?_
        show own_G _ _ _ _ (T_12.setTop (mkF m 76 #[.val (.ref a), .val (.ref b)] [(.int (0 : Int32))]))
        exact own_G.end_ X_12 hlk (v := (some (.int (0 : Int32)))) (fun h => by rw [hrt] at h; cases h) (fun fs hr => retN X_12 hx (z := (0 : Int32)) (t := .boolean) hrt (by simp) (hb hby d_rm_eqO_76) hr) e_12 ⟨⟨0, rfl, Or.inr ⟨rfl, fun q => by first | exact hq3 ((lw_eq _ _).mpr q.2.2.2) | exact hq2 ((lw_eq _ _).mpr q.2.2.1) | exact hq1 q.2.1.symm | exact hq0 q.1.symm⟩⟩, rfl, rfl⟩ (by decide) (by decide)
    · show own_G _ _ _ _ (T_9.setTop (mkF m 38 #[.val (.ref a), .val (.ref b)] [(.int (0 : Int32))]))
      refine own_G.go (fun t_ k_ => XS.ifYes X_9.here hx rfl (pc0 := 38) (pc' := 75) rfl (hb hby d_rm_eqO_38) rfl ((if0 _ _).trans (teq (by decide : (0 : Int32) = (0 : Int32))).1) (by decide) (by decide) k_) ?_
      show own_G _ _ _ _ (T_9.setTop (mkF m 75 #[.val (.ref a), .val (.ref b)] []))
      refine own_G.go (fun t_ k_ => XS.iconst X_9.here hx rfl (hb hby d_rm_eqO_75) k_) ?_
      show own_G _ _ _ _ (T_9.setTop (mkF m 76 #[.val (.ref a), .val (.ref b)] [(.int (0 : Int32))]))
      exact own_G.end_ X_9 hlk (v := (some (.int (0 : Int32)))) (fun h => by rw [hrt] at h; cases h) (fun fs hr => retN X_9 hx (z := (0 : Int32)) (t := .boolean) hrt (by simp) (hb hby d_rm_eqO_76) hr) eh_9 ⟨⟨0, rfl, Or.inr ⟨rfl, fun q => by first | exact hq3 ((lw_eq _ _).mpr q.2.2.2) | exact hq2 ((lw_eq _ _).mpr q.2.2.1) | exact hq1 q.2.1.symm | exact hq0 q.1.symm⟩⟩, rfl, rfl⟩ (by decide) (by decide)
  · show own_G _ _ _ _ (T_5.setTop (mkF m 21 #[.val (.ref a), .val (.ref b)] [(.int (0 : Int32))]))
    refine own_G.go (fun t_ k_ => XS.ifYes X_5.here hx rfl (pc0 := 21) (pc' := 75) rfl (hb hby d_rm_eqO_21) rfl ((if0 _ _).trans (teq (by decide : (0 : Int32) = (0 : Int32))).1) (by decide) (by decide) k_) ?_
    show own_G _ _ _ _ (T_5.setTop (mkF m 75 #[.val (.ref a), .val (.ref b)] []))
    refine own_G.go (fun t_ k_ => XS.iconst X_5.here hx rfl (hb hby d_rm_eqO_75) k_) ?_
    show own_G _ _ _ _ (T_5.setTop (mkF m 76 #[.val (.ref a), .val (.ref b)] [(.int (0 : Int32))]))
    exact own_G.end_ X_5 hlk (v := (some (.int (0 : Int32)))) (fun h => by rw [hrt] at h; cases h) (fun fs hr => retN X_5 hx (z := (0 : Int32)) (t := .boolean) hrt (by simp) (hb hby d_rm_eqO_76) hr) eh_5 ⟨⟨0, rfl, Or.inr ⟨rfl, fun q => by first | exact hq3 ((lw_eq _ _).mpr q.2.2.2) | exact hq2 ((lw_eq _ _).mpr q.2.2.1) | exact hq1 q.2.1.symm | exact hq0 q.1.symm⟩⟩, rfl, rfl⟩ (by decide) (by decide)
theorem d_rm_eqN_0 : decode prog_11_method_6_code 0 = .ok (.aload_n 1, 1) := by decide +kernel
theorem d_rm_eqN_1 : decode prog_11_method_6_code 1 = .ok (.instanceof 8, 3) := by decide +kernel
theorem d_rm_eqN_4 : decode prog_11_method_6_code 4 = .ok (.ifCond .eq 71, 3) := by decide +kernel
theorem d_rm_eqN_75 : decode prog_11_method_6_code 75 = .ok (.iconst 0, 1) := by decide +kernel
theorem d_rm_eqN_76 : decode prog_11_method_6_code 76 = .ok (.ireturn, 1) := by decide +kernel
set_option maxRecDepth 65536 in
set_option maxHeartbeats 40000000 in
theorem rm_eqN (l : Launch) (Z : State) (a0 : Array Value) (hw : ∀ d ∈ tables_1, d.before a0 Z = true) (ws : List Jvm.Cond) (a : Addr) (h0 : Heap) (n0 : Nat) (Z0 : n0 ≤ h0.size)  :
    MetFree l (⟨"com/example/kommit/kommit/KeyCounters$Entry", "equals", "(Ljava/lang/Object;)Z"⟩ : MethodName) (head1 (Jvm.Cond.code (⟨"com/example/kommit/kommit/KeyCounters$Entry", "equals", "(Ljava/lang/Object;)Z"⟩ : MethodName) prog_11_method_6_code 2 (some .boolean) :: ws) ({ frames := 0, cells := 0, slots := 0, locals := 0 } : Room)) (fun a_ U => a_ = #[(.ref a), .null] ∧ Z.Warmed39 U.vm ∧ U.heap = h0) (fun _ _ _ _ _ => True) (fun _ U o U' => ∃ v L, o = .returned v ∧ Qeq False h0 v U'.heap L ∧ FrameEnd U o U' L ({ frames := 0, cells := 0, slots := 0, locals := 0 } : Room).cells ({ frames := 0, cells := 0, slots := 0, locals := 0 } : Room).slots) := by
  refine MetFree.of_bodySF (plainFor_of_name pn_3) hisR ?_
  intro p e s m args below meth c s₁ Bd hml0 hP hK
  obtain ⟨rfl, hZ, hh⟩ := hP
  have hx := Bd.exec
  have hby := Bd.bytes
  have hrt := Bd.returns
  have hlk : meth.locks = false := Bd.notSynchronized
  have hml : c.maxLocals = 2 := hml0
  have hown : s.vm.findClass "com/example/kommit/kommit/KeyCounters$Entry" = some m.cls := findClass_of_methodNamed Bd.named
  have hnm := (name_of_methodNamed Bd.named Bd.method).1
  have X0 : Stand p l e ({ frames := 0, cells := 0, slots := 0, locals := 0 } : Room) s m #[(.ref a), .null] below meth c s₁ [] 0 0 := Stand.of_body Bd
  have e0 : s₁.heap = h0 := by rw [← hh, Bd.state]; rfl
  have N0 := Fr.nil n0
  show own_G p.tables e below (fun o t => ∃ v L, o = .returned v ∧ Qeq False h0 v t.heap L ∧ FrameEnd s o t L ({ frames := 0, cells := 0, slots := 0, locals := 0 } : Room).cells ({ frames := 0, cells := 0, slots := 0, locals := 0 } : Room).slots) (s₁.setTop (entryFrame m #[(.ref a), .null] 2))
  refine own_G.cast (show entryFrame m #[(.ref a), .null] 2 = mkF m 0 #[.val (.ref a), .val .null] [] from by first | (simp [entryFrame, mkF, argsToLocals, Value.category]; done) | rfl) ?_
  refine own_G.go (fun t_ k_ => XS.aloadN X0.here hx rfl (hb hby d_rm_eqN_0) rfl rfl k_) ?_
  show own_G _ _ _ _ (s₁.setTop (mkF m 1 #[.val (.ref a), .val .null] [.null]))
  refine own_G.go (X0.instanceofNull hx (g := (mkF m 1 #[.val (.ref a), .val .null] [.null])) rfl rfl (hb hby d_rm_eqN_1)) ?_
  show own_G _ _ _ _ (s₁.setTop (mkF m 4 #[.val (.ref a), .val .null] [(.int (0 : Int32))]))
  refine own_G.go (fun t_ k_ => XS.ifYes X0.here hx rfl (pc0 := 4) (pc' := 75) rfl (hb hby d_rm_eqN_4) rfl ((if0 _ _).trans (teq (by decide : (0 : Int32) = (0 : Int32))).1) (by decide) (by decide) k_) ?_
  show own_G _ _ _ _ (s₁.setTop (mkF m 75 #[.val (.ref a), .val .null] []))
  refine own_G.go (fun t_ k_ => XS.iconst X0.here hx rfl (hb hby d_rm_eqN_75) k_) ?_
  show own_G _ _ _ _ (s₁.setTop (mkF m 76 #[.val (.ref a), .val .null] [(.int (0 : Int32))]))
  exact own_G.end_ X0 hlk (v := (some (.int (0 : Int32)))) (fun h => by rw [hrt] at h; cases h) (fun fs hr => retN X0 hx (z := (0 : Int32)) (t := .boolean) hrt (by simp) (hb hby d_rm_eqN_76) hr) e0 ⟨⟨0, rfl, Or.inr ⟨rfl, id⟩⟩, rfl, rfl⟩ (by decide) (by decide)
theorem d_rm_eqS_0 : decode prog_11_method_6_code 0 = .ok (.aload_n 1, 1) := by decide +kernel
theorem d_rm_eqS_1 : decode prog_11_method_6_code 1 = .ok (.instanceof 8, 3) := by decide +kernel
theorem d_rm_eqS_4 : decode prog_11_method_6_code 4 = .ok (.ifCond .eq 71, 3) := by decide +kernel
theorem d_rm_eqS_75 : decode prog_11_method_6_code 75 = .ok (.iconst 0, 1) := by decide +kernel
theorem d_rm_eqS_76 : decode prog_11_method_6_code 76 = .ok (.ireturn, 1) := by decide +kernel
set_option maxRecDepth 65536 in
set_option maxHeartbeats 40000000 in
theorem rm_eqS (l : Launch) (Z : State) (a0 : Array Value) (hw : ∀ d ∈ tables_1, d.before a0 Z = true) (ws : List Jvm.Cond) (a b : Addr) (h0 : Heap) (n0 : Nat) (Z0 : n0 ≤ h0.size) (EB : Exa Z h0 b "java/lang/String") :
    MetFree l (⟨"com/example/kommit/kommit/KeyCounters$Entry", "equals", "(Ljava/lang/Object;)Z"⟩ : MethodName) (head1 (Jvm.Cond.code (⟨"com/example/kommit/kommit/KeyCounters$Entry", "equals", "(Ljava/lang/Object;)Z"⟩ : MethodName) prog_11_method_6_code 2 (some .boolean) :: ws) ({ frames := 0, cells := 0, slots := 0, locals := 0 } : Room)) (fun a_ U => a_ = #[(.ref a), (.ref b)] ∧ Z.Warmed39 U.vm ∧ U.heap = h0) (fun _ _ _ _ _ => True) (fun _ U o U' => ∃ v L, o = .returned v ∧ Qeq False h0 v U'.heap L ∧ FrameEnd U o U' L ({ frames := 0, cells := 0, slots := 0, locals := 0 } : Room).cells ({ frames := 0, cells := 0, slots := 0, locals := 0 } : Room).slots) := by
  refine MetFree.of_bodySF (plainFor_of_name pn_3) hisR ?_
  intro p e s m args below meth c s₁ Bd hml0 hP hK
  obtain ⟨rfl, hZ, hh⟩ := hP
  have hx := Bd.exec
  have hby := Bd.bytes
  have hrt := Bd.returns
  have hlk : meth.locks = false := Bd.notSynchronized
  have hml : c.maxLocals = 2 := hml0
  have hown : s.vm.findClass "com/example/kommit/kommit/KeyCounters$Entry" = some m.cls := findClass_of_methodNamed Bd.named
  have hnm := (name_of_methodNamed Bd.named Bd.method).1
  have X0 : Stand p l e ({ frames := 0, cells := 0, slots := 0, locals := 0 } : Room) s m #[(.ref a), (.ref b)] below meth c s₁ [] 0 0 := Stand.of_body Bd
  have e0 : s₁.heap = h0 := by rw [← hh, Bd.state]; rfl
  have N0 := Fr.nil n0
  show own_G p.tables e below (fun o t => ∃ v L, o = .returned v ∧ Qeq False h0 v t.heap L ∧ FrameEnd s o t L ({ frames := 0, cells := 0, slots := 0, locals := 0 } : Room).cells ({ frames := 0, cells := 0, slots := 0, locals := 0 } : Room).slots) (s₁.setTop (entryFrame m #[(.ref a), (.ref b)] 2))
  refine own_G.cast (show entryFrame m #[(.ref a), (.ref b)] 2 = mkF m 0 #[.val (.ref a), .val (.ref b)] [] from by first | (simp [entryFrame, mkF, argsToLocals, Value.category]; done) | rfl) ?_
  refine own_G.go (fun t_ k_ => XS.aloadN X0.here hx rfl (hb hby d_rm_eqS_0) rfl rfl k_) ?_
  show own_G _ _ _ _ (s₁.setTop (mkF m 1 #[.val (.ref a), .val (.ref b)] [(.ref b)]))
  obtain ⟨T_1, X_1, e_1, st_1⟩ := instNo X0 hx hZ hown (own_w hw 49 rfl) e0 EB (own_noInst (own_w hw 72 rfl) (own_w hw 73 rfl) (own_w hw 27 rfl) (by decide) (by decide)) (g := (mkF m 1 #[.val (.ref a), .val (.ref b)] [(.ref b)])) rfl rfl (hb hby d_rm_eqS_1)
  refine own_G.go st_1 ?_
  show own_G _ _ _ _ (T_1.setTop (mkF m 4 #[.val (.ref a), .val (.ref b)] [(.int (0 : Int32))]))
  refine own_G.go (fun t_ k_ => XS.ifYes X_1.here hx rfl (pc0 := 4) (pc' := 75) rfl (hb hby d_rm_eqS_4) rfl ((if0 _ _).trans (teq (by decide : (0 : Int32) = (0 : Int32))).1) (by decide) (by decide) k_) ?_
  show own_G _ _ _ _ (T_1.setTop (mkF m 75 #[.val (.ref a), .val (.ref b)] []))
  refine own_G.go (fun t_ k_ => XS.iconst X_1.here hx rfl (hb hby d_rm_eqS_75) k_) ?_
  show own_G _ _ _ _ (T_1.setTop (mkF m 76 #[.val (.ref a), .val (.ref b)] [(.int (0 : Int32))]))
  exact own_G.end_ X_1 hlk (v := (some (.int (0 : Int32)))) (fun h => by rw [hrt] at h; cases h) (fun fs hr => retN X_1 hx (z := (0 : Int32)) (t := .boolean) hrt (by simp) (hb hby d_rm_eqS_76) hr) e_1 ⟨⟨0, rfl, Or.inr ⟨rfl, id⟩⟩, rfl, rfl⟩ (by decide) (by decide)
def Qlaw (n0 : Nat) (v : Option Value) (h : Heap) (L : List Loc) : Prop := v = some (.int 1) ∧ Fr n0 L
theorem pd_4 : parseMethodDescriptor "(ICC)Ljava/lang/String;" = some ⟨[.int, .char, .char], some (.object "java/lang/String")⟩ := by decide +kernel
theorem pd_5 : parseMethodDescriptor "(Ljava/lang/String;Ljava/lang/String;JJ)V" = some ⟨[(.object "java/lang/String"), (.object "java/lang/String"), .long, .long], none⟩ := by decide +kernel
theorem pd_6 : parseMethodDescriptor "(ICCICC)Z" = some ⟨[.int, .char, .char, .int, .char, .char], some .boolean⟩ := by decide +kernel
set_option maxRecDepth 65536 in
set_option maxHeartbeats 40000000 in
theorem rm_law (l : Launch) (Z : State) (a0 : Array Value) (hw : ∀ d ∈ tables_1, d.before a0 Z = true) (ws : List Jvm.Cond) (p0 p1 : Int32) (p2 p3 : Int64) (p4 : Int32) (p5 : Int64) (zc : Int32) (h0 : Heap) (n0 : Nat) (Z0 : n0 ≤ h0.size) (O2 : Sta Z Z.heap "java/lang/String" "COMPACT_STRINGS" "Z" (.int zc)) (P5 : ¬ (zc = (0 : Int32))) (X00 : Old Z n0 h0) :
    MetFree l x (head1 (Jvm.Cond.code x code maxLocals ret :: ws) room_1) (fun a_ U => a_ = #[(.int p0), (.int p1), (.long p2), (.long p3), (.int p4), (.long p5)] ∧ Z.Warmed39 U.vm ∧ U.heap = h0 ∧ CHv Z own_EL U.vm h0) (fun _ _ _ _ _ => True) (fun _ U o U' => ∃ v L, o = .returned v ∧ Qlaw n0 v U'.heap L ∧ CHr Z own_EL U.vm U.heap U'.vm U'.heap ∧ ReturnedEndW U o U' L room_1.cells room_1.slots) := by
  refine MetFree.of_bodySF (plainFor_of_name pn_2) hisR ?_
  intro p e s m args below meth c s₁ Bd hml0 hP hK
  obtain ⟨rfl, hZ, hh, hCH⟩ := hP
  have hx := Bd.exec
  have hby := Bd.bytes
  have hrt := Bd.returns
  have hlk : meth.locks = false := Bd.notSynchronized
  have hml : c.maxLocals = 34 := hml0
  have hown : s.vm.findClass "com/example/kommit/kommit/EntryEqualsPinLaw" = some m.cls := findClass_of_methodNamed Bd.named
  have hnm := (name_of_methodNamed Bd.named Bd.method).1
  have X0 : Stand p l e room_1 (s.setVm s.vm) m #[(.int p0), (.int p1), (.long p2), (.long p3), (.int p4), (.long p5)] below meth c s₁ [] 0 0 := Stand.of_body Bd
  have e0 : s₁.heap = h0 := by rw [← hh, Bd.state]; rfl
  have N0 := Fr.nil n0
  have hS0 : s.Since s.vm 0 := own_since s 0
  have hstr : ∀ d ∈ Bundle.stringAtoms, d.before a0 Z = true := fun d hd => hw d ((by decide +kernel : ∀ d ∈ Bundle.stringAtoms, d ∈ tables_1) d hd)
  have hEW : EW Z a0 own_EL := own_EW hw
  have CH0 : CHr Z own_EL s.vm h0 s.vm h0 := CHr.refl hCH
  show own_G p.tables e below (fun o t => ∃ v L, o = .returned v ∧ Qlaw n0 v t.heap L ∧ CHr Z own_EL s.vm s.heap t.vm t.heap ∧ ReturnedEndW s o t L room_1.cells room_1.slots) (s₁.setTop (entryFrame m #[(.int p0), (.int p1), (.long p2), (.long p3), (.int p4), (.long p5)] maxLocals))
  refine own_G.cast (show entryFrame m #[(.int p0), (.int p1), (.long p2), (.long p3), (.int p4), (.long p5)] maxLocals = mkF m 0 #[.val (.int p0), .val (.int p1), .val (.long p2), .second, .val (.long p3), .second, .val (.int p4), .val (.long p5), .second, .unset, .unset, .unset, .unset, .unset, .unset, .unset, .unset, .unset, .unset, .unset, .unset, .unset, .unset, .unset, .unset, .unset, .unset, .unset, .unset, .unset, .unset, .unset, .unset, .unset] [] from by first | (simp [entryFrame, mkF, argsToLocals, Value.category, maxLocals]; done) | rfl) ?_
  have J229 : ∀ (u9 : Int32) (u10 : Int32) (u11 : Int32) (u12 : Int32) (u13 : Int32) (u14 : Int32) (u15 : Int32) (u16 : Int32) (u17 : Int32) (u18 : Int32) (u19 : Int32) (u20 : Int32) (u21 : Int64) (u23 : Int64) (h9 : own_l u9) (h10 : own_b u10) (h11 : own_b u11) (h12 : own_l u12) (h13 : own_b u13) (h14 : own_b u14) (h15 : own_l u15) (h16 : own_b u16) (h17 : own_b u17) (h18 : own_l u18) (h19 : own_b u19) (h20 : own_b u20), own_G p.tables e below (fun o t => ∃ v L, o = .returned v ∧ Qlaw n0 v t.heap L ∧ CHr Z own_EL s.vm s.heap t.vm t.heap ∧ ReturnedEndW s o t L room_1.cells room_1.slots) (s₁.setTop (mkF m 229 #[.val (.int p0), .val (.int p1), .val (.long p2), .second, .val (.long p3), .second, .val (.int p4), .val (.long p5), .second, .val (.int u9), .val (.int u10), .val (.int u11), .val (.int u12), .val (.int u13), .val (.int u14), .val (.int u15), .val (.int u16), .val (.int u17), .val (.int u18), .val (.int u19), .val (.int u20), .val (.long u21), .second, .unset, .unset, .unset, .unset, .unset, .unset, .unset, .unset, .unset, .unset, .unset] [(.long u23)])) := by
    intro u9 u10 u11 u12 u13 u14 u15 u16 u17 u18 u19 u20 u21 u23 h9 h10 h11 h12 h13 h14 h15 h16 h17 h18 h19 h20
    refine own_G.go (fun t_ k_ => XS.lstore X0.here hx rfl (hb hby at_229) rfl (l' := #[.val (.int p0), .val (.int p1), .val (.long p2), .second, .val (.long p3), .second, .val (.int p4), .val (.long p5), .second, .val (.int u9), .val (.int u10), .val (.int u11), .val (.int u12), .val (.int u13), .val (.int u14), .val (.int u15), .val (.int u16), .val (.int u17), .val (.int u18), .val (.int u19), .val (.int u20), .val (.long u21), .second, .val (.long u23), .second, .unset, .unset, .unset, .unset, .unset, .unset, .unset, .unset, .unset]) rfl k_) ?_
    show own_G _ _ _ _ (s₁.setTop (mkF m 231 #[.val (.int p0), .val (.int p1), .val (.long p2), .second, .val (.long p3), .second, .val (.int p4), .val (.long p5), .second, .val (.int u9), .val (.int u10), .val (.int u11), .val (.int u12), .val (.int u13), .val (.int u14), .val (.int u15), .val (.int u16), .val (.int u17), .val (.int u18), .val (.int u19), .val (.int u20), .val (.long u21), .second, .val (.long u23), .second, .unset, .unset, .unset, .unset, .unset, .unset, .unset, .unset, .unset] []))
    refine own_G.go (fun t_ k_ => XS.iload X0.here hx rfl (hb hby at_231) rfl k_) ?_
    show own_G _ _ _ _ (s₁.setTop (mkF m 233 #[.val (.int p0), .val (.int p1), .val (.long p2), .second, .val (.long p3), .second, .val (.int p4), .val (.long p5), .second, .val (.int u9), .val (.int u10), .val (.int u11), .val (.int u12), .val (.int u13), .val (.int u14), .val (.int u15), .val (.int u16), .val (.int u17), .val (.int u18), .val (.int u19), .val (.int u20), .val (.long u21), .second, .val (.long u23), .second, .unset, .unset, .unset, .unset, .unset, .unset, .unset, .unset, .unset] [(.int u9)]))
    refine own_G.go (fun t_ k_ => XS.iload X0.here hx rfl (hb hby at_233) rfl k_) ?_
    show own_G _ _ _ _ (s₁.setTop (mkF m 235 #[.val (.int p0), .val (.int p1), .val (.long p2), .second, .val (.long p3), .second, .val (.int p4), .val (.long p5), .second, .val (.int u9), .val (.int u10), .val (.int u11), .val (.int u12), .val (.int u13), .val (.int u14), .val (.int u15), .val (.int u16), .val (.int u17), .val (.int u18), .val (.int u19), .val (.int u20), .val (.long u21), .second, .val (.long u23), .second, .unset, .unset, .unset, .unset, .unset, .unset, .unset, .unset, .unset] [(.int u10), (.int u9)]))
    refine own_G.go (fun t_ k_ => XS.iload X0.here hx rfl (hb hby at_235) rfl k_) ?_
    show own_G _ _ _ _ (s₁.setTop (mkF m 237 #[.val (.int p0), .val (.int p1), .val (.long p2), .second, .val (.long p3), .second, .val (.int p4), .val (.long p5), .second, .val (.int u9), .val (.int u10), .val (.int u11), .val (.int u12), .val (.int u13), .val (.int u14), .val (.int u15), .val (.int u16), .val (.int u17), .val (.int u18), .val (.int u19), .val (.int u20), .val (.long u21), .second, .val (.long u23), .second, .unset, .unset, .unset, .unset, .unset, .unset, .unset, .unset, .unset] [(.int u11), (.int u10), (.int u9)]))
    obtain ⟨_, T_1, L_1, Q_1, X_1, hS_1, hZ_1, hown_1, st_1⟩ := own_callSW X0 hx hS0 (Nat.zero_le _) hZ hown (mvT hZ (own_w hw 0 rfl)) (mvT hZ (own_w hw 1 rfl)) (mvT hZ (own_w hw 2 rfl)) (mvT hZ (own_w hw 3 rfl)) (by decide) (Q := (fun v (U : State) L => Qs Z u9 u10 u11 h0 n0 v U.heap L ∧ CHr Z own_EL s.vm h0 U.vm U.heap)) (own_backSH (backOfSH (W := 0) (rm_str l Z a0 hw [] u9 u10 u11 zc h0 n0 Z0 h9 h10 h11 O2 P5 X00) hZ (own_w hw 3 rfl) (own_w hw 2 rfl) (by decide) (by decide) hEW CH0.1)) (g := (mkF m 237 #[.val (.int p0), .val (.int p1), .val (.long p2), .second, .val (.long p3), .second, .val (.int p4), .val (.long p5), .second, .val (.int u9), .val (.int u10), .val (.int u11), .val (.int u12), .val (.int u13), .val (.int u14), .val (.int u15), .val (.int u16), .val (.int u17), .val (.int u18), .val (.int u19), .val (.int u20), .val (.long u21), .second, .val (.long u23), .second, .unset, .unset, .unset, .unset, .unset, .unset, .unset, .unset, .unset] [(.int u11), (.int u10), (.int u9)])) rfl (by rw [hml]; rfl) (argsL := [(.int u9), (.int u10), (.int u11)]) (rest := []) (lenOf pd_4 rfl) rfl (by show 2 * 0 + _ ≤ _; exact Nat.le_of_eq rfl) (hb hby at_237) e0 rfl (by decide) (by decide)
    obtain ⟨⟨r_1, t_1, kb_1, rfl, Nq_1, K_1, lr_1, Ex_1, Fc_1, Fv_1, Kb_1⟩, Ch_1⟩ := Q_1
    refine own_G.via st_1 ?_
    have CH_2 : CHr Z own_EL s.vm h0 T_1.vm T_1.heap := CH0.trans Ch_1
    have N_1 := Fr.app N0 Nq_1
    show own_G _ _ _ _ (T_1.setTop (mkF m 240 #[.val (.int p0), .val (.int p1), .val (.long p2), .second, .val (.long p3), .second, .val (.int p4), .val (.long p5), .second, .val (.int u9), .val (.int u10), .val (.int u11), .val (.int u12), .val (.int u13), .val (.int u14), .val (.int u15), .val (.int u16), .val (.int u17), .val (.int u18), .val (.int u19), .val (.int u20), .val (.long u21), .second, .val (.long u23), .second, .unset, .unset, .unset, .unset, .unset, .unset, .unset, .unset, .unset] [(.ref r_1)]))
    refine own_G.go (fun t_ k_ => XS.astore X_1.here hx rfl (hb hby at_240) rfl rfl (l' := #[.val (.int p0), .val (.int p1), .val (.long p2), .second, .val (.long p3), .second, .val (.int p4), .val (.long p5), .second, .val (.int u9), .val (.int u10), .val (.int u11), .val (.int u12), .val (.int u13), .val (.int u14), .val (.int u15), .val (.int u16), .val (.int u17), .val (.int u18), .val (.int u19), .val (.int u20), .val (.long u21), .second, .val (.long u23), .second, .val (.ref r_1), .unset, .unset, .unset, .unset, .unset, .unset, .unset, .unset]) rfl k_) ?_
    show own_G _ _ _ _ (T_1.setTop (mkF m 242 #[.val (.int p0), .val (.int p1), .val (.long p2), .second, .val (.long p3), .second, .val (.int p4), .val (.long p5), .second, .val (.int u9), .val (.int u10), .val (.int u11), .val (.int u12), .val (.int u13), .val (.int u14), .val (.int u15), .val (.int u16), .val (.int u17), .val (.int u18), .val (.int u19), .val (.int u20), .val (.long u21), .second, .val (.long u23), .second, .val (.ref r_1), .unset, .unset, .unset, .unset, .unset, .unset, .unset, .unset] []))
    refine own_G.go (fun t_ k_ => XS.iload X_1.here hx rfl (hb hby at_242) rfl k_) ?_
    show own_G _ _ _ _ (T_1.setTop (mkF m 244 #[.val (.int p0), .val (.int p1), .val (.long p2), .second, .val (.long p3), .second, .val (.int p4), .val (.long p5), .second, .val (.int u9), .val (.int u10), .val (.int u11), .val (.int u12), .val (.int u13), .val (.int u14), .val (.int u15), .val (.int u16), .val (.int u17), .val (.int u18), .val (.int u19), .val (.int u20), .val (.long u21), .second, .val (.long u23), .second, .val (.ref r_1), .unset, .unset, .unset, .unset, .unset, .unset, .unset, .unset] [(.int u15)]))
    refine own_G.go (fun t_ k_ => XS.iload X_1.here hx rfl (hb hby at_244) rfl k_) ?_
    show own_G _ _ _ _ (T_1.setTop (mkF m 246 #[.val (.int p0), .val (.int p1), .val (.long p2), .second, .val (.long p3), .second, .val (.int p4), .val (.long p5), .second, .val (.int u9), .val (.int u10), .val (.int u11), .val (.int u12), .val (.int u13), .val (.int u14), .val (.int u15), .val (.int u16), .val (.int u17), .val (.int u18), .val (.int u19), .val (.int u20), .val (.long u21), .second, .val (.long u23), .second, .val (.ref r_1), .unset, .unset, .unset, .unset, .unset, .unset, .unset, .unset] [(.int u16), (.int u15)]))
    refine own_G.go (fun t_ k_ => XS.iload X_1.here hx rfl (hb hby at_246) rfl k_) ?_
    show own_G _ _ _ _ (T_1.setTop (mkF m 248 #[.val (.int p0), .val (.int p1), .val (.long p2), .second, .val (.long p3), .second, .val (.int p4), .val (.long p5), .second, .val (.int u9), .val (.int u10), .val (.int u11), .val (.int u12), .val (.int u13), .val (.int u14), .val (.int u15), .val (.int u16), .val (.int u17), .val (.int u18), .val (.int u19), .val (.int u20), .val (.long u21), .second, .val (.long u23), .second, .val (.ref r_1), .unset, .unset, .unset, .unset, .unset, .unset, .unset, .unset] [(.int u17), (.int u16), (.int u15)]))
    have O_3d : Old Z n0 T_1.heap := (X00.keep K_1 all0)
    obtain ⟨_, T_4, L_4, Q_4, X_4, hS_4, hZ_4, hown_4, st_4⟩ := own_callSW X_1 hx hS_1 (Nat.le_refl _) hZ_1 hown_1 (mvT hZ_1 (own_w hw 0 rfl)) (mvT hZ_1 (own_w hw 1 rfl)) (mvT hZ_1 (own_w hw 2 rfl)) (mvT hZ_1 (own_w hw 3 rfl)) (by decide) (Q := (fun v (U : State) L => Qs Z u15 u16 u17 T_1.heap n0 v U.heap L ∧ CHr Z own_EL T_1.vm T_1.heap U.vm U.heap)) (own_backSH (backOfSH (W := 0) (rm_str l Z a0 hw [] u15 u16 u17 zc T_1.heap n0 (Nat.le_trans Z0 K_1.1) h15 h16 h17 O2 P5 O_3d) hZ_1 (own_w hw 3 rfl) (own_w hw 2 rfl) (by decide) (by decide) hEW CH_2.1)) (g := (mkF m 248 #[.val (.int p0), .val (.int p1), .val (.long p2), .second, .val (.long p3), .second, .val (.int p4), .val (.long p5), .second, .val (.int u9), .val (.int u10), .val (.int u11), .val (.int u12), .val (.int u13), .val (.int u14), .val (.int u15), .val (.int u16), .val (.int u17), .val (.int u18), .val (.int u19), .val (.int u20), .val (.long u21), .second, .val (.long u23), .second, .val (.ref r_1), .unset, .unset, .unset, .unset, .unset, .unset, .unset, .unset] [(.int u17), (.int u16), (.int u15)])) rfl (by rw [hml]; rfl) (argsL := [(.int u15), (.int u16), (.int u17)]) (rest := []) (lenOf pd_4 rfl) rfl (by show 2 * 0 + _ ≤ _; exact Nat.le_of_eq rfl) (hb hby at_248) rfl rfl (by decide) (by decide)
    obtain ⟨⟨r_4, t_4, kb_4, rfl, Nq_4, K_4, lr_4, Ex_4, Fc_4, Fv_4, Kb_4⟩, Ch_4⟩ := Q_4
    refine own_G.via st_4 ?_
    have CH_5 : CHr Z own_EL s.vm h0 T_4.vm T_4.heap := CH_2.trans Ch_4
    have N_4 := Fr.app N_1 Nq_4
    show own_G _ _ _ _ (T_4.setTop (mkF m 251 #[.val (.int p0), .val (.int p1), .val (.long p2), .second, .val (.long p3), .second, .val (.int p4), .val (.long p5), .second, .val (.int u9), .val (.int u10), .val (.int u11), .val (.int u12), .val (.int u13), .val (.int u14), .val (.int u15), .val (.int u16), .val (.int u17), .val (.int u18), .val (.int u19), .val (.int u20), .val (.long u21), .second, .val (.long u23), .second, .val (.ref r_1), .unset, .unset, .unset, .unset, .unset, .unset, .unset, .unset] [(.ref r_4)]))
    refine own_G.go (fun t_ k_ => XS.astore X_4.here hx rfl (hb hby at_251) rfl rfl (l' := #[.val (.int p0), .val (.int p1), .val (.long p2), .second, .val (.long p3), .second, .val (.int p4), .val (.long p5), .second, .val (.int u9), .val (.int u10), .val (.int u11), .val (.int u12), .val (.int u13), .val (.int u14), .val (.int u15), .val (.int u16), .val (.int u17), .val (.int u18), .val (.int u19), .val (.int u20), .val (.long u21), .second, .val (.long u23), .second, .val (.ref r_1), .val (.ref r_4), .unset, .unset, .unset, .unset, .unset, .unset, .unset]) rfl k_) ?_
    show own_G _ _ _ _ (T_4.setTop (mkF m 253 #[.val (.int p0), .val (.int p1), .val (.long p2), .second, .val (.long p3), .second, .val (.int p4), .val (.long p5), .second, .val (.int u9), .val (.int u10), .val (.int u11), .val (.int u12), .val (.int u13), .val (.int u14), .val (.int u15), .val (.int u16), .val (.int u17), .val (.int u18), .val (.int u19), .val (.int u20), .val (.long u21), .second, .val (.long u23), .second, .val (.ref r_1), .val (.ref r_4), .unset, .unset, .unset, .unset, .unset, .unset, .unset] []))
    refine own_G.go (fun t_ k_ => XS.iload X_4.here hx rfl (hb hby at_253) rfl k_) ?_
    show own_G _ _ _ _ (T_4.setTop (mkF m 255 #[.val (.int p0), .val (.int p1), .val (.long p2), .second, .val (.long p3), .second, .val (.int p4), .val (.long p5), .second, .val (.int u9), .val (.int u10), .val (.int u11), .val (.int u12), .val (.int u13), .val (.int u14), .val (.int u15), .val (.int u16), .val (.int u17), .val (.int u18), .val (.int u19), .val (.int u20), .val (.long u21), .second, .val (.long u23), .second, .val (.ref r_1), .val (.ref r_4), .unset, .unset, .unset, .unset, .unset, .unset, .unset] [(.int u12)]))
    refine own_G.go (fun t_ k_ => XS.iload X_4.here hx rfl (hb hby at_255) rfl k_) ?_
    show own_G _ _ _ _ (T_4.setTop (mkF m 257 #[.val (.int p0), .val (.int p1), .val (.long p2), .second, .val (.long p3), .second, .val (.int p4), .val (.long p5), .second, .val (.int u9), .val (.int u10), .val (.int u11), .val (.int u12), .val (.int u13), .val (.int u14), .val (.int u15), .val (.int u16), .val (.int u17), .val (.int u18), .val (.int u19), .val (.int u20), .val (.long u21), .second, .val (.long u23), .second, .val (.ref r_1), .val (.ref r_4), .unset, .unset, .unset, .unset, .unset, .unset, .unset] [(.int u13), (.int u12)]))
    refine own_G.go (fun t_ k_ => XS.iload X_4.here hx rfl (hb hby at_257) rfl k_) ?_
    show own_G _ _ _ _ (T_4.setTop (mkF m 259 #[.val (.int p0), .val (.int p1), .val (.long p2), .second, .val (.long p3), .second, .val (.int p4), .val (.long p5), .second, .val (.int u9), .val (.int u10), .val (.int u11), .val (.int u12), .val (.int u13), .val (.int u14), .val (.int u15), .val (.int u16), .val (.int u17), .val (.int u18), .val (.int u19), .val (.int u20), .val (.long u21), .second, .val (.long u23), .second, .val (.ref r_1), .val (.ref r_4), .unset, .unset, .unset, .unset, .unset, .unset, .unset] [(.int u14), (.int u13), (.int u12)]))
    have O_6d : Old Z n0 T_4.heap := (O_3d.keep K_4 all0)
    obtain ⟨_, T_7, L_7, Q_7, X_7, hS_7, hZ_7, hown_7, st_7⟩ := own_callSW X_4 hx hS_4 (Nat.le_refl _) hZ_4 hown_4 (mvT hZ_4 (own_w hw 0 rfl)) (mvT hZ_4 (own_w hw 1 rfl)) (mvT hZ_4 (own_w hw 2 rfl)) (mvT hZ_4 (own_w hw 3 rfl)) (by decide) (Q := (fun v (U : State) L => Qs Z u12 u13 u14 T_4.heap n0 v U.heap L ∧ CHr Z own_EL T_4.vm T_4.heap U.vm U.heap)) (own_backSH (backOfSH (W := 0) (rm_str l Z a0 hw [] u12 u13 u14 zc T_4.heap n0 (Nat.le_trans Z0 (Nat.le_trans K_1.1 K_4.1)) h12 h13 h14 O2 P5 O_6d) hZ_4 (own_w hw 3 rfl) (own_w hw 2 rfl) (by decide) (by decide) hEW CH_5.1)) (g := (mkF m 259 #[.val (.int p0), .val (.int p1), .val (.long p2), .second, .val (.long p3), .second, .val (.int p4), .val (.long p5), .second, .val (.int u9), .val (.int u10), .val (.int u11), .val (.int u12), .val (.int u13), .val (.int u14), .val (.int u15), .val (.int u16), .val (.int u17), .val (.int u18), .val (.int u19), .val (.int u20), .val (.long u21), .second, .val (.long u23), .second, .val (.ref r_1), .val (.ref r_4), .unset, .unset, .unset, .unset, .unset, .unset, .unset] [(.int u14), (.int u13), (.int u12)])) rfl (by rw [hml]; rfl) (argsL := [(.int u12), (.int u13), (.int u14)]) (rest := []) (lenOf pd_4 rfl) rfl (by show 2 * 0 + _ ≤ _; exact Nat.le_of_eq rfl) (hb hby at_259) rfl rfl (by decide) (by decide)
    obtain ⟨⟨r_7, t_7, kb_7, rfl, Nq_7, K_7, lr_7, Ex_7, Fc_7, Fv_7, Kb_7⟩, Ch_7⟩ := Q_7
    refine own_G.via st_7 ?_
    have CH_8 : CHr Z own_EL s.vm h0 T_7.vm T_7.heap := CH_5.trans Ch_7
    have N_7 := Fr.app N_4 Nq_7
    show own_G _ _ _ _ (T_7.setTop (mkF m 262 #[.val (.int p0), .val (.int p1), .val (.long p2), .second, .val (.long p3), .second, .val (.int p4), .val (.long p5), .second, .val (.int u9), .val (.int u10), .val (.int u11), .val (.int u12), .val (.int u13), .val (.int u14), .val (.int u15), .val (.int u16), .val (.int u17), .val (.int u18), .val (.int u19), .val (.int u20), .val (.long u21), .second, .val (.long u23), .second, .val (.ref r_1), .val (.ref r_4), .unset, .unset, .unset, .unset, .unset, .unset, .unset] [(.ref r_7)]))
    refine own_G.go (fun t_ k_ => XS.astore X_7.here hx rfl (hb hby at_262) rfl rfl (l' := #[.val (.int p0), .val (.int p1), .val (.long p2), .second, .val (.long p3), .second, .val (.int p4), .val (.long p5), .second, .val (.int u9), .val (.int u10), .val (.int u11), .val (.int u12), .val (.int u13), .val (.int u14), .val (.int u15), .val (.int u16), .val (.int u17), .val (.int u18), .val (.int u19), .val (.int u20), .val (.long u21), .second, .val (.long u23), .second, .val (.ref r_1), .val (.ref r_4), .val (.ref r_7), .unset, .unset, .unset, .unset, .unset, .unset]) rfl k_) ?_
    show own_G _ _ _ _ (T_7.setTop (mkF m 264 #[.val (.int p0), .val (.int p1), .val (.long p2), .second, .val (.long p3), .second, .val (.int p4), .val (.long p5), .second, .val (.int u9), .val (.int u10), .val (.int u11), .val (.int u12), .val (.int u13), .val (.int u14), .val (.int u15), .val (.int u16), .val (.int u17), .val (.int u18), .val (.int u19), .val (.int u20), .val (.long u21), .second, .val (.long u23), .second, .val (.ref r_1), .val (.ref r_4), .val (.ref r_7), .unset, .unset, .unset, .unset, .unset, .unset] []))
    refine own_G.go (fun t_ k_ => XS.iload X_7.here hx rfl (hb hby at_264) rfl k_) ?_
    show own_G _ _ _ _ (T_7.setTop (mkF m 266 #[.val (.int p0), .val (.int p1), .val (.long p2), .second, .val (.long p3), .second, .val (.int p4), .val (.long p5), .second, .val (.int u9), .val (.int u10), .val (.int u11), .val (.int u12), .val (.int u13), .val (.int u14), .val (.int u15), .val (.int u16), .val (.int u17), .val (.int u18), .val (.int u19), .val (.int u20), .val (.long u21), .second, .val (.long u23), .second, .val (.ref r_1), .val (.ref r_4), .val (.ref r_7), .unset, .unset, .unset, .unset, .unset, .unset] [(.int u18)]))
    refine own_G.go (fun t_ k_ => XS.iload X_7.here hx rfl (hb hby at_266) rfl k_) ?_
    show own_G _ _ _ _ (T_7.setTop (mkF m 268 #[.val (.int p0), .val (.int p1), .val (.long p2), .second, .val (.long p3), .second, .val (.int p4), .val (.long p5), .second, .val (.int u9), .val (.int u10), .val (.int u11), .val (.int u12), .val (.int u13), .val (.int u14), .val (.int u15), .val (.int u16), .val (.int u17), .val (.int u18), .val (.int u19), .val (.int u20), .val (.long u21), .second, .val (.long u23), .second, .val (.ref r_1), .val (.ref r_4), .val (.ref r_7), .unset, .unset, .unset, .unset, .unset, .unset] [(.int u19), (.int u18)]))
    refine own_G.go (fun t_ k_ => XS.iload X_7.here hx rfl (hb hby at_268) rfl k_) ?_
    show own_G _ _ _ _ (T_7.setTop (mkF m 270 #[.val (.int p0), .val (.int p1), .val (.long p2), .second, .val (.long p3), .second, .val (.int p4), .val (.long p5), .second, .val (.int u9), .val (.int u10), .val (.int u11), .val (.int u12), .val (.int u13), .val (.int u14), .val (.int u15), .val (.int u16), .val (.int u17), .val (.int u18), .val (.int u19), .val (.int u20), .val (.long u21), .second, .val (.long u23), .second, .val (.ref r_1), .val (.ref r_4), .val (.ref r_7), .unset, .unset, .unset, .unset, .unset, .unset] [(.int u20), (.int u19), (.int u18)]))
    have O_9d : Old Z n0 T_7.heap := (O_6d.keep K_7 all0)
    obtain ⟨_, T_10, L_10, Q_10, X_10, hS_10, hZ_10, hown_10, st_10⟩ := own_callSW X_7 hx hS_7 (Nat.le_refl _) hZ_7 hown_7 (mvT hZ_7 (own_w hw 0 rfl)) (mvT hZ_7 (own_w hw 1 rfl)) (mvT hZ_7 (own_w hw 2 rfl)) (mvT hZ_7 (own_w hw 3 rfl)) (by decide) (Q := (fun v (U : State) L => Qs Z u18 u19 u20 T_7.heap n0 v U.heap L ∧ CHr Z own_EL T_7.vm T_7.heap U.vm U.heap)) (own_backSH (backOfSH (W := 0) (rm_str l Z a0 hw [] u18 u19 u20 zc T_7.heap n0 (Nat.le_trans Z0 (Nat.le_trans (Nat.le_trans K_1.1 K_4.1) K_7.1)) h18 h19 h20 O2 P5 O_9d) hZ_7 (own_w hw 3 rfl) (own_w hw 2 rfl) (by decide) (by decide) hEW CH_8.1)) (g := (mkF m 270 #[.val (.int p0), .val (.int p1), .val (.long p2), .second, .val (.long p3), .second, .val (.int p4), .val (.long p5), .second, .val (.int u9), .val (.int u10), .val (.int u11), .val (.int u12), .val (.int u13), .val (.int u14), .val (.int u15), .val (.int u16), .val (.int u17), .val (.int u18), .val (.int u19), .val (.int u20), .val (.long u21), .second, .val (.long u23), .second, .val (.ref r_1), .val (.ref r_4), .val (.ref r_7), .unset, .unset, .unset, .unset, .unset, .unset] [(.int u20), (.int u19), (.int u18)])) rfl (by rw [hml]; rfl) (argsL := [(.int u18), (.int u19), (.int u20)]) (rest := []) (lenOf pd_4 rfl) rfl (by show 2 * 0 + _ ≤ _; exact Nat.le_of_eq rfl) (hb hby at_270) rfl rfl (by decide) (by decide)
    obtain ⟨⟨r_10, t_10, kb_10, rfl, Nq_10, K_10, lr_10, Ex_10, Fc_10, Fv_10, Kb_10⟩, Ch_10⟩ := Q_10
    refine own_G.via st_10 ?_
    have CH_11 : CHr Z own_EL s.vm h0 T_10.vm T_10.heap := CH_8.trans Ch_10
    have N_10 := Fr.app N_7 Nq_10
    show own_G _ _ _ _ (T_10.setTop (mkF m 273 #[.val (.int p0), .val (.int p1), .val (.long p2), .second, .val (.long p3), .second, .val (.int p4), .val (.long p5), .second, .val (.int u9), .val (.int u10), .val (.int u11), .val (.int u12), .val (.int u13), .val (.int u14), .val (.int u15), .val (.int u16), .val (.int u17), .val (.int u18), .val (.int u19), .val (.int u20), .val (.long u21), .second, .val (.long u23), .second, .val (.ref r_1), .val (.ref r_4), .val (.ref r_7), .unset, .unset, .unset, .unset, .unset, .unset] [(.ref r_10)]))
    refine own_G.go (fun t_ k_ => XS.astore X_10.here hx rfl (hb hby at_273) rfl rfl (l' := #[.val (.int p0), .val (.int p1), .val (.long p2), .second, .val (.long p3), .second, .val (.int p4), .val (.long p5), .second, .val (.int u9), .val (.int u10), .val (.int u11), .val (.int u12), .val (.int u13), .val (.int u14), .val (.int u15), .val (.int u16), .val (.int u17), .val (.int u18), .val (.int u19), .val (.int u20), .val (.long u21), .second, .val (.long u23), .second, .val (.ref r_1), .val (.ref r_4), .val (.ref r_7), .val (.ref r_10), .unset, .unset, .unset, .unset, .unset]) rfl k_) ?_
    show own_G _ _ _ _ (T_10.setTop (mkF m 275 #[.val (.int p0), .val (.int p1), .val (.long p2), .second, .val (.long p3), .second, .val (.int p4), .val (.long p5), .second, .val (.int u9), .val (.int u10), .val (.int u11), .val (.int u12), .val (.int u13), .val (.int u14), .val (.int u15), .val (.int u16), .val (.int u17), .val (.int u18), .val (.int u19), .val (.int u20), .val (.long u21), .second, .val (.long u23), .second, .val (.ref r_1), .val (.ref r_4), .val (.ref r_7), .val (.ref r_10), .unset, .unset, .unset, .unset, .unset] []))
    obtain ⟨T_12, h_12, X_12, e_12, E_12, A_12, D_12, -, st_12⟩ := newO X_10 hx hZ_10 hown_10 (own_w hw 26 rfl) (own_w hw 27 rfl) (own_w hw 28 rfl) rfl (g := (mkF m 275 #[.val (.int p0), .val (.int p1), .val (.long p2), .second, .val (.long p3), .second, .val (.int p4), .val (.long p5), .second, .val (.int u9), .val (.int u10), .val (.int u11), .val (.int u12), .val (.int u13), .val (.int u14), .val (.int u15), .val (.int u16), .val (.int u17), .val (.int u18), .val (.int u19), .val (.int u20), .val (.long u21), .second, .val (.long u23), .second, .val (.ref r_1), .val (.ref r_4), .val (.ref r_7), .val (.ref r_10), .unset, .unset, .unset, .unset, .unset] [])) rfl (hb hby at_275) (by decide) (by decide)
    obtain ⟨a_12, g_12⟩ : ∃ z, z = T_10.heap.size := ⟨_, rfl⟩
    rw [← g_12] at A_12 D_12 st_12
    refine own_G.go st_12 ?_
    have CH_13 : CHr Z own_EL s.vm h0 T_10.vm h_12 := CH_11.trans (CHr.ext E_12 CH_11.1)
    have F_12_kind : Fld Z h_12 a_12 "com/example/kommit/kommit/KeyCounters$Entry" "kind" "Ljava/lang/String;" .null := D_12 (Or.inr (own_w hw 34 rfl)) (ty := (.object "java/lang/String")) (by decide)
    have F_12_name : Fld Z h_12 a_12 "com/example/kommit/kommit/KeyCounters$Entry" "name" "Ljava/lang/String;" .null := D_12 (Or.inr (own_w hw 36 rfl)) (ty := (.object "java/lang/String")) (by decide)
    have F_12_first : Fld Z h_12 a_12 "com/example/kommit/kommit/KeyCounters$Entry" "first" "J" (.long (0 : Int64)) := D_12 (Or.inr (own_w hw 38 rfl)) (ty := .long) (by decide)
    have F_12_second : Fld Z h_12 a_12 "com/example/kommit/kommit/KeyCounters$Entry" "second" "J" (.long (0 : Int64)) := D_12 (Or.inr (own_w hw 40 rfl)) (ty := .long) (by decide)
    show own_G _ _ _ _ (T_12.setTop (mkF m 278 #[.val (.int p0), .val (.int p1), .val (.long p2), .second, .val (.long p3), .second, .val (.int p4), .val (.long p5), .second, .val (.int u9), .val (.int u10), .val (.int u11), .val (.int u12), .val (.int u13), .val (.int u14), .val (.int u15), .val (.int u16), .val (.int u17), .val (.int u18), .val (.int u19), .val (.int u20), .val (.long u21), .second, .val (.long u23), .second, .val (.ref r_1), .val (.ref r_4), .val (.ref r_7), .val (.ref r_10), .unset, .unset, .unset, .unset, .unset] [(.ref a_12)]))
    refine own_G.go (fun t_ k_ => XS.dup X_12.here hx rfl (hb hby at_278) rfl rfl k_) ?_
    show own_G _ _ _ _ (T_12.setTop (mkF m 279 #[.val (.int p0), .val (.int p1), .val (.long p2), .second, .val (.long p3), .second, .val (.int p4), .val (.long p5), .second, .val (.int u9), .val (.int u10), .val (.int u11), .val (.int u12), .val (.int u13), .val (.int u14), .val (.int u15), .val (.int u16), .val (.int u17), .val (.int u18), .val (.int u19), .val (.int u20), .val (.long u21), .second, .val (.long u23), .second, .val (.ref r_1), .val (.ref r_4), .val (.ref r_7), .val (.ref r_10), .unset, .unset, .unset, .unset, .unset] [(.ref a_12), (.ref a_12)]))
    refine own_G.go (fun t_ k_ => XS.aload X_12.here hx rfl (hb hby at_279) rfl rfl k_) ?_
    show own_G _ _ _ _ (T_12.setTop (mkF m 281 #[.val (.int p0), .val (.int p1), .val (.long p2), .second, .val (.long p3), .second, .val (.int p4), .val (.long p5), .second, .val (.int u9), .val (.int u10), .val (.int u11), .val (.int u12), .val (.int u13), .val (.int u14), .val (.int u15), .val (.int u16), .val (.int u17), .val (.int u18), .val (.int u19), .val (.int u20), .val (.long u21), .second, .val (.long u23), .second, .val (.ref r_1), .val (.ref r_4), .val (.ref r_7), .val (.ref r_10), .unset, .unset, .unset, .unset, .unset] [(.ref r_1), (.ref a_12), (.ref a_12)]))
    refine own_G.go (fun t_ k_ => XS.aload X_12.here hx rfl (hb hby at_281) rfl rfl k_) ?_
    show own_G _ _ _ _ (T_12.setTop (mkF m 283 #[.val (.int p0), .val (.int p1), .val (.long p2), .second, .val (.long p3), .second, .val (.int p4), .val (.long p5), .second, .val (.int u9), .val (.int u10), .val (.int u11), .val (.int u12), .val (.int u13), .val (.int u14), .val (.int u15), .val (.int u16), .val (.int u17), .val (.int u18), .val (.int u19), .val (.int u20), .val (.long u21), .second, .val (.long u23), .second, .val (.ref r_1), .val (.ref r_4), .val (.ref r_7), .val (.ref r_10), .unset, .unset, .unset, .unset, .unset] [(.ref r_4), (.ref r_1), (.ref a_12), (.ref a_12)]))
    refine own_G.go (fun t_ k_ => XS.lloadN X_12.here hx rfl (hb hby at_283) rfl k_) ?_
    show own_G _ _ _ _ (T_12.setTop (mkF m 284 #[.val (.int p0), .val (.int p1), .val (.long p2), .second, .val (.long p3), .second, .val (.int p4), .val (.long p5), .second, .val (.int u9), .val (.int u10), .val (.int u11), .val (.int u12), .val (.int u13), .val (.int u14), .val (.int u15), .val (.int u16), .val (.int u17), .val (.int u18), .val (.int u19), .val (.int u20), .val (.long u21), .second, .val (.long u23), .second, .val (.ref r_1), .val (.ref r_4), .val (.ref r_7), .val (.ref r_10), .unset, .unset, .unset, .unset, .unset] [(.long p2), (.ref r_4), (.ref r_1), (.ref a_12), (.ref a_12)]))
    refine own_G.go (fun t_ k_ => XS.lload X_12.here hx rfl (hb hby at_284) rfl k_) ?_
    show own_G _ _ _ _ (T_12.setTop (mkF m 286 #[.val (.int p0), .val (.int p1), .val (.long p2), .second, .val (.long p3), .second, .val (.int p4), .val (.long p5), .second, .val (.int u9), .val (.int u10), .val (.int u11), .val (.int u12), .val (.int u13), .val (.int u14), .val (.int u15), .val (.int u16), .val (.int u17), .val (.int u18), .val (.int u19), .val (.int u20), .val (.long u21), .second, .val (.long u23), .second, .val (.ref r_1), .val (.ref r_4), .val (.ref r_7), .val (.ref r_10), .unset, .unset, .unset, .unset, .unset] [(.long p3), (.long p2), (.ref r_4), (.ref r_1), (.ref a_12), (.ref a_12)]))
    have g0_a_12 : n0 ≤ a_12 := Nat.le_trans (Nat.le_trans Z0 (Nat.le_trans (Nat.le_trans (Nat.le_trans K_1.1 K_4.1) K_7.1) K_10.1)) (Nat.le_of_eq g_12.symm)
    obtain ⟨_, T_14, L_14, Q_14, X_14, st_14⟩ := own_callI X_12 hx rfl hown_10 (mvT hZ_10 (own_w hw 29 rfl)) (mvT hZ_10 (own_w hw 30 rfl)) (mvT hZ_10 (own_w hw 31 rfl)) (by decide) (Q := (Qen Z a_12 r_1 r_4 p2 p3 h_12 n0)) (backOf (W := 1) (rm_en l Z a0 hw [] a_12 r_1 r_4 p2 p3 h_12 n0 (Nat.le_trans Z0 (Nat.le_trans (Nat.le_trans (Nat.le_trans (Nat.le_trans K_1.1 K_4.1) K_7.1) K_10.1) E_12.1)) g0_a_12 A_12 F_12_kind F_12_name F_12_first F_12_second) hZ_10 (own_w hw 31 rfl) (own_w hw 28 rfl) (by decide) (by decide)) (a := a_12) (g := (mkF m 286 #[.val (.int p0), .val (.int p1), .val (.long p2), .second, .val (.long p3), .second, .val (.int p4), .val (.long p5), .second, .val (.int u9), .val (.int u10), .val (.int u11), .val (.int u12), .val (.int u13), .val (.int u14), .val (.int u15), .val (.int u16), .val (.int u17), .val (.int u18), .val (.int u19), .val (.int u20), .val (.long u21), .second, .val (.long u23), .second, .val (.ref r_1), .val (.ref r_4), .val (.ref r_7), .val (.ref r_10), .unset, .unset, .unset, .unset, .unset] [(.long p3), (.long p2), (.ref r_4), (.ref r_1), (.ref a_12), (.ref a_12)])) rfl (by rw [hml]; rfl) (argsL := [(.ref r_1), (.ref r_4), (.long p2), (.long p3)]) (rest := [(.ref a_12)]) (lenOf pd_5 rfl) rfl (by show 2 * 0 + _ ≤ _; exact Nat.le_of_eq rfl) (hb hby at_286) e_12 rfl (by decide) (by decide)
    obtain ⟨rfl, Nq_14, K_14, Ex_14, G1_14, G2_14, G3_14, G4_14⟩ := Q_14
    refine own_G.via st_14 ?_
    have CH_15 : CHr Z own_EL s.vm h0 T_10.vm T_14.heap := CH_13.trans (CHr.keep K_14 (sfS (Safe.exa hZ_10.alike A_12 (by decide) (by decide)) sf0) CH_13.1)
    have N_14 := Fr.app N_10 Nq_14
    show own_G _ _ _ _ (T_14.setTop (mkF m 289 #[.val (.int p0), .val (.int p1), .val (.long p2), .second, .val (.long p3), .second, .val (.int p4), .val (.long p5), .second, .val (.int u9), .val (.int u10), .val (.int u11), .val (.int u12), .val (.int u13), .val (.int u14), .val (.int u15), .val (.int u16), .val (.int u17), .val (.int u18), .val (.int u19), .val (.int u20), .val (.long u21), .second, .val (.long u23), .second, .val (.ref r_1), .val (.ref r_4), .val (.ref r_7), .val (.ref r_10), .unset, .unset, .unset, .unset, .unset] [(.ref a_12)]))
    refine own_G.go (fun t_ k_ => XS.astore X_14.here hx rfl (hb hby at_289) rfl rfl (l' := #[.val (.int p0), .val (.int p1), .val (.long p2), .second, .val (.long p3), .second, .val (.int p4), .val (.long p5), .second, .val (.int u9), .val (.int u10), .val (.int u11), .val (.int u12), .val (.int u13), .val (.int u14), .val (.int u15), .val (.int u16), .val (.int u17), .val (.int u18), .val (.int u19), .val (.int u20), .val (.long u21), .second, .val (.long u23), .second, .val (.ref r_1), .val (.ref r_4), .val (.ref r_7), .val (.ref r_10), .val (.ref a_12), .unset, .unset, .unset, .unset]) rfl k_) ?_
    show own_G _ _ _ _ (T_14.setTop (mkF m 291 #[.val (.int p0), .val (.int p1), .val (.long p2), .second, .val (.long p3), .second, .val (.int p4), .val (.long p5), .second, .val (.int u9), .val (.int u10), .val (.int u11), .val (.int u12), .val (.int u13), .val (.int u14), .val (.int u15), .val (.int u16), .val (.int u17), .val (.int u18), .val (.int u19), .val (.int u20), .val (.long u21), .second, .val (.long u23), .second, .val (.ref r_1), .val (.ref r_4), .val (.ref r_7), .val (.ref r_10), .val (.ref a_12), .unset, .unset, .unset, .unset] []))
    refine own_G.go (fun t_ k_ => XS.iload X_14.here hx rfl (hb hby at_291) rfl k_) ?_
    show own_G _ _ _ _ (T_14.setTop (mkF m 293 #[.val (.int p0), .val (.int p1), .val (.long p2), .second, .val (.long p3), .second, .val (.int p4), .val (.long p5), .second, .val (.int u9), .val (.int u10), .val (.int u11), .val (.int u12), .val (.int u13), .val (.int u14), .val (.int u15), .val (.int u16), .val (.int u17), .val (.int u18), .val (.int u19), .val (.int u20), .val (.long u21), .second, .val (.long u23), .second, .val (.ref r_1), .val (.ref r_4), .val (.ref r_7), .val (.ref r_10), .val (.ref a_12), .unset, .unset, .unset, .unset] [(.int p4)]))
    refine own_G.go (fun t_ k_ => XS.bipush X_14.here hx rfl (hb hby at_293) k_) ?_
    show own_G _ _ _ _ (T_14.setTop (mkF m 295 #[.val (.int p0), .val (.int p1), .val (.long p2), .second, .val (.long p3), .second, .val (.int p4), .val (.long p5), .second, .val (.int u9), .val (.int u10), .val (.int u11), .val (.int u12), .val (.int u13), .val (.int u14), .val (.int u15), .val (.int u16), .val (.int u17), .val (.int u18), .val (.int u19), .val (.int u20), .val (.long u21), .second, .val (.long u23), .second, .val (.ref r_1), .val (.ref r_4), .val (.ref r_7), .val (.ref r_10), .val (.ref a_12), .unset, .unset, .unset, .unset] [(.int (8 : Int32)), (.int p4)]))
    refine own_G.go (fun t_ k_ => XS.iushr X_14.here hx rfl (hb hby at_295) rfl k_) ?_
    show own_G _ _ _ _ (T_14.setTop (mkF m 296 #[.val (.int p0), .val (.int p1), .val (.long p2), .second, .val (.long p3), .second, .val (.int p4), .val (.long p5), .second, .val (.int u9), .val (.int u10), .val (.int u11), .val (.int u12), .val (.int u13), .val (.int u14), .val (.int u15), .val (.int u16), .val (.int u17), .val (.int u18), .val (.int u19), .val (.int u20), .val (.long u21), .second, .val (.long u23), .second, .val (.ref r_1), .val (.ref r_4), .val (.ref r_7), .val (.ref r_10), .val (.ref a_12), .unset, .unset, .unset, .unset] [(.int (Jvm.Free.XT.ushr p4 (8 : Int32)))]))
    refine own_G.go (fun t_ k_ => XS.iconst X_14.here hx rfl (hb hby at_296) k_) ?_
    show own_G _ _ _ _ (T_14.setTop (mkF m 297 #[.val (.int p0), .val (.int p1), .val (.long p2), .second, .val (.long p3), .second, .val (.int p4), .val (.long p5), .second, .val (.int u9), .val (.int u10), .val (.int u11), .val (.int u12), .val (.int u13), .val (.int u14), .val (.int u15), .val (.int u16), .val (.int u17), .val (.int u18), .val (.int u19), .val (.int u20), .val (.long u21), .second, .val (.long u23), .second, .val (.ref r_1), .val (.ref r_4), .val (.ref r_7), .val (.ref r_10), .val (.ref a_12), .unset, .unset, .unset, .unset] [(.int (3 : Int32)), (.int (Jvm.Free.XT.ushr p4 (8 : Int32)))]))
    refine own_G.go (fun t_ k_ => XS.iand X_14.here hx rfl (hb hby at_297) rfl k_) ?_
    show own_G _ _ _ _ (T_14.setTop (mkF m 298 #[.val (.int p0), .val (.int p1), .val (.long p2), .second, .val (.long p3), .second, .val (.int p4), .val (.long p5), .second, .val (.int u9), .val (.int u10), .val (.int u11), .val (.int u12), .val (.int u13), .val (.int u14), .val (.int u15), .val (.int u16), .val (.int u17), .val (.int u18), .val (.int u19), .val (.int u20), .val (.long u21), .second, .val (.long u23), .second, .val (.ref r_1), .val (.ref r_4), .val (.ref r_7), .val (.ref r_10), .val (.ref a_12), .unset, .unset, .unset, .unset] [(.int ((Jvm.Free.XT.ushr p4 (8 : Int32)) &&& (3 : Int32)))]))
    refine own_G.go (fun t_ k_ => XS.istore X_14.here hx rfl (hb hby at_298) rfl (l' := #[.val (.int p0), .val (.int p1), .val (.long p2), .second, .val (.long p3), .second, .val (.int p4), .val (.long p5), .second, .val (.int u9), .val (.int u10), .val (.int u11), .val (.int u12), .val (.int u13), .val (.int u14), .val (.int u15), .val (.int u16), .val (.int u17), .val (.int u18), .val (.int u19), .val (.int u20), .val (.long u21), .second, .val (.long u23), .second, .val (.ref r_1), .val (.ref r_4), .val (.ref r_7), .val (.ref r_10), .val (.ref a_12), .val (.int ((Jvm.Free.XT.ushr p4 (8 : Int32)) &&& (3 : Int32))), .unset, .unset, .unset]) rfl k_) ?_
    show own_G _ _ _ _ (T_14.setTop (mkF m 300 #[.val (.int p0), .val (.int p1), .val (.long p2), .second, .val (.long p3), .second, .val (.int p4), .val (.long p5), .second, .val (.int u9), .val (.int u10), .val (.int u11), .val (.int u12), .val (.int u13), .val (.int u14), .val (.int u15), .val (.int u16), .val (.int u17), .val (.int u18), .val (.int u19), .val (.int u20), .val (.long u21), .second, .val (.long u23), .second, .val (.ref r_1), .val (.ref r_4), .val (.ref r_7), .val (.ref r_10), .val (.ref a_12), .val (.int ((Jvm.Free.XT.ushr p4 (8 : Int32)) &&& (3 : Int32))), .unset, .unset, .unset] []))
    refine own_G.go (fun t_ k_ => XS.iload X_14.here hx rfl (hb hby at_300) rfl k_) ?_
    show own_G _ _ _ _ (T_14.setTop (mkF m 302 #[.val (.int p0), .val (.int p1), .val (.long p2), .second, .val (.long p3), .second, .val (.int p4), .val (.long p5), .second, .val (.int u9), .val (.int u10), .val (.int u11), .val (.int u12), .val (.int u13), .val (.int u14), .val (.int u15), .val (.int u16), .val (.int u17), .val (.int u18), .val (.int u19), .val (.int u20), .val (.long u21), .second, .val (.long u23), .second, .val (.ref r_1), .val (.ref r_4), .val (.ref r_7), .val (.ref r_10), .val (.ref a_12), .val (.int ((Jvm.Free.XT.ushr p4 (8 : Int32)) &&& (3 : Int32))), .unset, .unset, .unset] [(.int ((Jvm.Free.XT.ushr p4 (8 : Int32)) &&& (3 : Int32)))]))
    refine own_G.go (fun t_ k_ => XS.iconst X_14.here hx rfl (hb hby at_302) k_) ?_
    show own_G _ _ _ _ (T_14.setTop (mkF m 303 #[.val (.int p0), .val (.int p1), .val (.long p2), .second, .val (.long p3), .second, .val (.int p4), .val (.long p5), .second, .val (.int u9), .val (.int u10), .val (.int u11), .val (.int u12), .val (.int u13), .val (.int u14), .val (.int u15), .val (.int u16), .val (.int u17), .val (.int u18), .val (.int u19), .val (.int u20), .val (.long u21), .second, .val (.long u23), .second, .val (.ref r_1), .val (.ref r_4), .val (.ref r_7), .val (.ref r_10), .val (.ref a_12), .val (.int ((Jvm.Free.XT.ushr p4 (8 : Int32)) &&& (3 : Int32))), .unset, .unset, .unset] [(.int (1 : Int32)), (.int ((Jvm.Free.XT.ushr p4 (8 : Int32)) &&& (3 : Int32)))]))
    by_cases hm1 : ((Jvm.Free.XT.ushr p4 (8 : Int32)) &&& (3 : Int32)) = (1 : Int32)
    · refine own_G.go (fun t_ k_ => XS.icmpNo X_14.here hx rfl (hb hby at_303) rfl (teq hm1).2 k_) ?_
      show own_G _ _ _ _ (T_14.setTop (mkF m 306 #[.val (.int p0), .val (.int p1), .val (.long p2), .second, .val (.long p3), .second, .val (.int p4), .val (.long p5), .second, .val (.int u9), .val (.int u10), .val (.int u11), .val (.int u12), .val (.int u13), .val (.int u14), .val (.int u15), .val (.int u16), .val (.int u17), .val (.int u18), .val (.int u19), .val (.int u20), .val (.long u21), .second, .val (.long u23), .second, .val (.ref r_1), .val (.ref r_4), .val (.ref r_7), .val (.ref r_10), .val (.ref a_12), .val (.int ((Jvm.Free.XT.ushr p4 (8 : Int32)) &&& (3 : Int32))), .unset, .unset, .unset] []))
      refine own_G.go (fun t_ k_ => XS.aload X_14.here hx rfl (hb hby at_306) rfl rfl k_) ?_
      show own_G _ _ _ _ (T_14.setTop (mkF m 308 #[.val (.int p0), .val (.int p1), .val (.long p2), .second, .val (.long p3), .second, .val (.int p4), .val (.long p5), .second, .val (.int u9), .val (.int u10), .val (.int u11), .val (.int u12), .val (.int u13), .val (.int u14), .val (.int u15), .val (.int u16), .val (.int u17), .val (.int u18), .val (.int u19), .val (.int u20), .val (.long u21), .second, .val (.long u23), .second, .val (.ref r_1), .val (.ref r_4), .val (.ref r_7), .val (.ref r_10), .val (.ref a_12), .val (.int ((Jvm.Free.XT.ushr p4 (8 : Int32)) &&& (3 : Int32))), .unset, .unset, .unset] [(.ref a_12)]))
      refine own_G.go (fun t_ k_ => XS.aconstNull X_14.here hx rfl (hb hby at_308) k_) ?_
      show own_G _ _ _ _ (T_14.setTop (mkF m 309 #[.val (.int p0), .val (.int p1), .val (.long p2), .second, .val (.long p3), .second, .val (.int p4), .val (.long p5), .second, .val (.int u9), .val (.int u10), .val (.int u11), .val (.int u12), .val (.int u13), .val (.int u14), .val (.int u15), .val (.int u16), .val (.int u17), .val (.int u18), .val (.int u19), .val (.int u20), .val (.long u21), .second, .val (.long u23), .second, .val (.ref r_1), .val (.ref r_4), .val (.ref r_7), .val (.ref r_10), .val (.ref a_12), .val (.int ((Jvm.Free.XT.ushr p4 (8 : Int32)) &&& (3 : Int32))), .unset, .unset, .unset] [.null, (.ref a_12)]))
      obtain ⟨cq_16, kq_16, q_16a, q_16b, q_16c⟩ := isOf hZ_10 rfl Ex_14
      obtain ⟨_, T_16, L_16, Q_16, X_16, st_16⟩ := own_callV X_14 hx (z := (⟨"com/example/kommit/kommit/KeyCounters$Entry", "equals", "(Ljava/lang/Object;)Z"⟩ : MethodName)) hown_10 (mvT hZ_10 (own_w hw 44 rfl)) (mvT hZ_10 (own_w hw 45 rfl)) (notFace_of_selects (args := #[]) (mvT hZ_10 (own_w hw 47 rfl))) (mvT hZ_10 (own_w hw 47 rfl)) (mvT hZ_10 (own_w hw 46 rfl)) (by decide) (Q := (Qeq False T_14.heap)) (backOf (W := 0) (rm_eqN l Z a0 hw [] a_12 T_14.heap n0 (Nat.le_trans Z0 (Nat.le_trans (Nat.le_trans (Nat.le_trans (Nat.le_trans (Nat.le_trans K_1.1 K_4.1) K_7.1) K_10.1) E_12.1) K_14.1)) ) hZ_10 (own_w hw 48 rfl) (own_w hw 28 rfl) (by decide) (by decide)) q_16a q_16c (g := (mkF m 309 #[.val (.int p0), .val (.int p1), .val (.long p2), .second, .val (.long p3), .second, .val (.int p4), .val (.long p5), .second, .val (.int u9), .val (.int u10), .val (.int u11), .val (.int u12), .val (.int u13), .val (.int u14), .val (.int u15), .val (.int u16), .val (.int u17), .val (.int u18), .val (.int u19), .val (.int u20), .val (.long u21), .second, .val (.long u23), .second, .val (.ref r_1), .val (.ref r_4), .val (.ref r_7), .val (.ref r_10), .val (.ref a_12), .val (.int ((Jvm.Free.XT.ushr p4 (8 : Int32)) &&& (3 : Int32))), .unset, .unset, .unset] [.null, (.ref a_12)])) rfl (by rw [hml]; rfl) (argsL := [.null]) (rest := []) (lenOf pd_3 rfl) rfl (by show 2 * 0 + _ ≤ _; exact Nat.le_of_eq rfl) (hb hby at_309) rfl rfl (by decide) (by decide)
      obtain ⟨⟨z_16, rfl, hz_16⟩, rfl, eh_16⟩ := Q_16
      refine own_G.via st_16 ?_
      have N_16 := Fr.app N_14 (Fr.nil n0)
      show own_G _ _ _ _ (T_16.setTop (mkF m 312 #[.val (.int p0), .val (.int p1), .val (.long p2), .second, .val (.long p3), .second, .val (.int p4), .val (.long p5), .second, .val (.int u9), .val (.int u10), .val (.int u11), .val (.int u12), .val (.int u13), .val (.int u14), .val (.int u15), .val (.int u16), .val (.int u17), .val (.int u18), .val (.int u19), .val (.int u20), .val (.long u21), .second, .val (.long u23), .second, .val (.ref r_1), .val (.ref r_4), .val (.ref r_7), .val (.ref r_10), .val (.ref a_12), .val (.int ((Jvm.Free.XT.ushr p4 (8 : Int32)) &&& (3 : Int32))), .unset, .unset, .unset] [(.int z_16)]))
      refine own_G.go (fun t_ k_ => XS.ifNo X_16.here hx rfl (hb hby at_312) rfl ((if0 _ _).trans (teq (own_z0 hz_16 id : z_16 = (0 : Int32))).2) k_) ?_
      show own_G _ _ _ _ (T_16.setTop (mkF m 315 #[.val (.int p0), .val (.int p1), .val (.long p2), .second, .val (.long p3), .second, .val (.int p4), .val (.long p5), .second, .val (.int u9), .val (.int u10), .val (.int u11), .val (.int u12), .val (.int u13), .val (.int u14), .val (.int u15), .val (.int u16), .val (.int u17), .val (.int u18), .val (.int u19), .val (.int u20), .val (.long u21), .second, .val (.long u23), .second, .val (.ref r_1), .val (.ref r_4), .val (.ref r_7), .val (.ref r_10), .val (.ref a_12), .val (.int ((Jvm.Free.XT.ushr p4 (8 : Int32)) &&& (3 : Int32))), .unset, .unset, .unset] []))
      refine own_G.go (fun t_ k_ => XS.iconst X_16.here hx rfl (hb hby at_315) k_) ?_
      show own_G _ _ _ _ (T_16.setTop (mkF m 316 #[.val (.int p0), .val (.int p1), .val (.long p2), .second, .val (.long p3), .second, .val (.int p4), .val (.long p5), .second, .val (.int u9), .val (.int u10), .val (.int u11), .val (.int u12), .val (.int u13), .val (.int u14), .val (.int u15), .val (.int u16), .val (.int u17), .val (.int u18), .val (.int u19), .val (.int u20), .val (.long u21), .second, .val (.long u23), .second, .val (.ref r_1), .val (.ref r_4), .val (.ref r_7), .val (.ref r_10), .val (.ref a_12), .val (.int ((Jvm.Free.XT.ushr p4 (8 : Int32)) &&& (3 : Int32))), .unset, .unset, .unset] [(.int (1 : Int32))]))
      refine own_G.go (fun t_ k_ => XS.goto X_16.here hx rfl (pc0 := 316) (pc' := 320) rfl (hb hby at_316) (by decide) (by decide) k_) ?_
      show own_G _ _ _ _ (T_16.setTop (mkF m 320 #[.val (.int p0), .val (.int p1), .val (.long p2), .second, .val (.long p3), .second, .val (.int p4), .val (.long p5), .second, .val (.int u9), .val (.int u10), .val (.int u11), .val (.int u12), .val (.int u13), .val (.int u14), .val (.int u15), .val (.int u16), .val (.int u17), .val (.int u18), .val (.int u19), .val (.int u20), .val (.long u21), .second, .val (.long u23), .second, .val (.ref r_1), .val (.ref r_4), .val (.ref r_7), .val (.ref r_10), .val (.ref a_12), .val (.int ((Jvm.Free.XT.ushr p4 (8 : Int32)) &&& (3 : Int32))), .unset, .unset, .unset] [(.int (1 : Int32))]))
      exact own_G.endH X_16 hS_10 (Nat.le_trans (Nat.le_refl _) (Nat.le_trans E_12.1 K_14.1)) hZ_10 hEW (hh ▸ CH_15) hlk (v := (some (.int (1 : Int32)))) (fun h => by rw [hrt] at h; cases h) (fun fs hr => retN X_16 hx (z := (1 : Int32)) (t := .boolean) hrt (by simp) (hb hby at_320) hr) eh_16 ⟨rfl, N_16⟩ (by decide) (by decide)
    · refine own_G.go (fun t_ k_ => XS.icmpYes X_14.here hx rfl (pc0 := 303) (pc' := 321) rfl (hb hby at_303) rfl (feq hm1).2 (by decide) (by decide) k_) ?_
      show own_G _ _ _ _ (T_14.setTop (mkF m 321 #[.val (.int p0), .val (.int p1), .val (.long p2), .second, .val (.long p3), .second, .val (.int p4), .val (.long p5), .second, .val (.int u9), .val (.int u10), .val (.int u11), .val (.int u12), .val (.int u13), .val (.int u14), .val (.int u15), .val (.int u16), .val (.int u17), .val (.int u18), .val (.int u19), .val (.int u20), .val (.long u21), .second, .val (.long u23), .second, .val (.ref r_1), .val (.ref r_4), .val (.ref r_7), .val (.ref r_10), .val (.ref a_12), .val (.int ((Jvm.Free.XT.ushr p4 (8 : Int32)) &&& (3 : Int32))), .unset, .unset, .unset] []))
      refine own_G.go (fun t_ k_ => XS.iload X_14.here hx rfl (hb hby at_321) rfl k_) ?_
      show own_G _ _ _ _ (T_14.setTop (mkF m 323 #[.val (.int p0), .val (.int p1), .val (.long p2), .second, .val (.long p3), .second, .val (.int p4), .val (.long p5), .second, .val (.int u9), .val (.int u10), .val (.int u11), .val (.int u12), .val (.int u13), .val (.int u14), .val (.int u15), .val (.int u16), .val (.int u17), .val (.int u18), .val (.int u19), .val (.int u20), .val (.long u21), .second, .val (.long u23), .second, .val (.ref r_1), .val (.ref r_4), .val (.ref r_7), .val (.ref r_10), .val (.ref a_12), .val (.int ((Jvm.Free.XT.ushr p4 (8 : Int32)) &&& (3 : Int32))), .unset, .unset, .unset] [(.int ((Jvm.Free.XT.ushr p4 (8 : Int32)) &&& (3 : Int32)))]))
      refine own_G.go (fun t_ k_ => XS.iconst X_14.here hx rfl (hb hby at_323) k_) ?_
      show own_G _ _ _ _ (T_14.setTop (mkF m 324 #[.val (.int p0), .val (.int p1), .val (.long p2), .second, .val (.long p3), .second, .val (.int p4), .val (.long p5), .second, .val (.int u9), .val (.int u10), .val (.int u11), .val (.int u12), .val (.int u13), .val (.int u14), .val (.int u15), .val (.int u16), .val (.int u17), .val (.int u18), .val (.int u19), .val (.int u20), .val (.long u21), .second, .val (.long u23), .second, .val (.ref r_1), .val (.ref r_4), .val (.ref r_7), .val (.ref r_10), .val (.ref a_12), .val (.int ((Jvm.Free.XT.ushr p4 (8 : Int32)) &&& (3 : Int32))), .unset, .unset, .unset] [(.int (2 : Int32)), (.int ((Jvm.Free.XT.ushr p4 (8 : Int32)) &&& (3 : Int32)))]))
      by_cases hm2 : ((Jvm.Free.XT.ushr p4 (8 : Int32)) &&& (3 : Int32)) = (2 : Int32)
      · refine own_G.go (fun t_ k_ => XS.icmpNo X_14.here hx rfl (hb hby at_324) rfl (teq hm2).2 k_) ?_
        show own_G _ _ _ _ (T_14.setTop (mkF m 327 #[.val (.int p0), .val (.int p1), .val (.long p2), .second, .val (.long p3), .second, .val (.int p4), .val (.long p5), .second, .val (.int u9), .val (.int u10), .val (.int u11), .val (.int u12), .val (.int u13), .val (.int u14), .val (.int u15), .val (.int u16), .val (.int u17), .val (.int u18), .val (.int u19), .val (.int u20), .val (.long u21), .second, .val (.long u23), .second, .val (.ref r_1), .val (.ref r_4), .val (.ref r_7), .val (.ref r_10), .val (.ref a_12), .val (.int ((Jvm.Free.XT.ushr p4 (8 : Int32)) &&& (3 : Int32))), .unset, .unset, .unset] []))
        refine own_G.go (fun t_ k_ => XS.aload X_14.here hx rfl (hb hby at_327) rfl rfl k_) ?_
        show own_G _ _ _ _ (T_14.setTop (mkF m 329 #[.val (.int p0), .val (.int p1), .val (.long p2), .second, .val (.long p3), .second, .val (.int p4), .val (.long p5), .second, .val (.int u9), .val (.int u10), .val (.int u11), .val (.int u12), .val (.int u13), .val (.int u14), .val (.int u15), .val (.int u16), .val (.int u17), .val (.int u18), .val (.int u19), .val (.int u20), .val (.long u21), .second, .val (.long u23), .second, .val (.ref r_1), .val (.ref r_4), .val (.ref r_7), .val (.ref r_10), .val (.ref a_12), .val (.int ((Jvm.Free.XT.ushr p4 (8 : Int32)) &&& (3 : Int32))), .unset, .unset, .unset] [(.ref a_12)]))
        refine own_G.go (fun t_ k_ => XS.aload X_14.here hx rfl (hb hby at_329) rfl rfl k_) ?_
        show own_G _ _ _ _ (T_14.setTop (mkF m 331 #[.val (.int p0), .val (.int p1), .val (.long p2), .second, .val (.long p3), .second, .val (.int p4), .val (.long p5), .second, .val (.int u9), .val (.int u10), .val (.int u11), .val (.int u12), .val (.int u13), .val (.int u14), .val (.int u15), .val (.int u16), .val (.int u17), .val (.int u18), .val (.int u19), .val (.int u20), .val (.long u21), .second, .val (.long u23), .second, .val (.ref r_1), .val (.ref r_4), .val (.ref r_7), .val (.ref r_10), .val (.ref a_12), .val (.int ((Jvm.Free.XT.ushr p4 (8 : Int32)) &&& (3 : Int32))), .unset, .unset, .unset] [(.ref r_1), (.ref a_12)]))
        have Ex_1'_17 : Exa Z T_14.heap r_1 "java/lang/String" := (((((Ex_1.keep K_4).keep K_7).keep K_10).ext E_12).keep K_14)
        obtain ⟨cq_18, kq_18, q_18a, q_18b, q_18c⟩ := isOf hZ_10 rfl Ex_14
        obtain ⟨_, T_18, L_18, Q_18, X_18, st_18⟩ := own_callV X_14 hx (z := (⟨"com/example/kommit/kommit/KeyCounters$Entry", "equals", "(Ljava/lang/Object;)Z"⟩ : MethodName)) hown_10 (mvT hZ_10 (own_w hw 44 rfl)) (mvT hZ_10 (own_w hw 45 rfl)) (notFace_of_selects (args := #[]) (mvT hZ_10 (own_w hw 47 rfl))) (mvT hZ_10 (own_w hw 47 rfl)) (mvT hZ_10 (own_w hw 46 rfl)) (by decide) (Q := (Qeq False T_14.heap)) (backOf (W := 0) (rm_eqS l Z a0 hw [] a_12 r_1 T_14.heap n0 (Nat.le_trans Z0 (Nat.le_trans (Nat.le_trans (Nat.le_trans (Nat.le_trans (Nat.le_trans K_1.1 K_4.1) K_7.1) K_10.1) E_12.1) K_14.1)) Ex_1'_17) hZ_10 (own_w hw 48 rfl) (own_w hw 28 rfl) (by decide) (by decide)) q_18a q_18c (g := (mkF m 331 #[.val (.int p0), .val (.int p1), .val (.long p2), .second, .val (.long p3), .second, .val (.int p4), .val (.long p5), .second, .val (.int u9), .val (.int u10), .val (.int u11), .val (.int u12), .val (.int u13), .val (.int u14), .val (.int u15), .val (.int u16), .val (.int u17), .val (.int u18), .val (.int u19), .val (.int u20), .val (.long u21), .second, .val (.long u23), .second, .val (.ref r_1), .val (.ref r_4), .val (.ref r_7), .val (.ref r_10), .val (.ref a_12), .val (.int ((Jvm.Free.XT.ushr p4 (8 : Int32)) &&& (3 : Int32))), .unset, .unset, .unset] [(.ref r_1), (.ref a_12)])) rfl (by rw [hml]; rfl) (argsL := [(.ref r_1)]) (rest := []) (lenOf pd_3 rfl) rfl (by show 2 * 0 + _ ≤ _; exact Nat.le_of_eq rfl) (hb hby at_331) rfl rfl (by decide) (by decide)
        obtain ⟨⟨z_18, rfl, hz_18⟩, rfl, eh_18⟩ := Q_18
        refine own_G.via st_18 ?_
        have N_18 := Fr.app N_14 (Fr.nil n0)
        show own_G _ _ _ _ (T_18.setTop (mkF m 334 #[.val (.int p0), .val (.int p1), .val (.long p2), .second, .val (.long p3), .second, .val (.int p4), .val (.long p5), .second, .val (.int u9), .val (.int u10), .val (.int u11), .val (.int u12), .val (.int u13), .val (.int u14), .val (.int u15), .val (.int u16), .val (.int u17), .val (.int u18), .val (.int u19), .val (.int u20), .val (.long u21), .second, .val (.long u23), .second, .val (.ref r_1), .val (.ref r_4), .val (.ref r_7), .val (.ref r_10), .val (.ref a_12), .val (.int ((Jvm.Free.XT.ushr p4 (8 : Int32)) &&& (3 : Int32))), .unset, .unset, .unset] [(.int z_18)]))
        refine own_G.go (fun t_ k_ => XS.ifNo X_18.here hx rfl (hb hby at_334) rfl ((if0 _ _).trans (teq (own_z0 hz_18 id : z_18 = (0 : Int32))).2) k_) ?_
        show own_G _ _ _ _ (T_18.setTop (mkF m 337 #[.val (.int p0), .val (.int p1), .val (.long p2), .second, .val (.long p3), .second, .val (.int p4), .val (.long p5), .second, .val (.int u9), .val (.int u10), .val (.int u11), .val (.int u12), .val (.int u13), .val (.int u14), .val (.int u15), .val (.int u16), .val (.int u17), .val (.int u18), .val (.int u19), .val (.int u20), .val (.long u21), .second, .val (.long u23), .second, .val (.ref r_1), .val (.ref r_4), .val (.ref r_7), .val (.ref r_10), .val (.ref a_12), .val (.int ((Jvm.Free.XT.ushr p4 (8 : Int32)) &&& (3 : Int32))), .unset, .unset, .unset] []))
        refine own_G.go (fun t_ k_ => XS.iconst X_18.here hx rfl (hb hby at_337) k_) ?_
        show own_G _ _ _ _ (T_18.setTop (mkF m 338 #[.val (.int p0), .val (.int p1), .val (.long p2), .second, .val (.long p3), .second, .val (.int p4), .val (.long p5), .second, .val (.int u9), .val (.int u10), .val (.int u11), .val (.int u12), .val (.int u13), .val (.int u14), .val (.int u15), .val (.int u16), .val (.int u17), .val (.int u18), .val (.int u19), .val (.int u20), .val (.long u21), .second, .val (.long u23), .second, .val (.ref r_1), .val (.ref r_4), .val (.ref r_7), .val (.ref r_10), .val (.ref a_12), .val (.int ((Jvm.Free.XT.ushr p4 (8 : Int32)) &&& (3 : Int32))), .unset, .unset, .unset] [(.int (1 : Int32))]))
        refine own_G.go (fun t_ k_ => XS.goto X_18.here hx rfl (pc0 := 338) (pc' := 342) rfl (hb hby at_338) (by decide) (by decide) k_) ?_
        show own_G _ _ _ _ (T_18.setTop (mkF m 342 #[.val (.int p0), .val (.int p1), .val (.long p2), .second, .val (.long p3), .second, .val (.int p4), .val (.long p5), .second, .val (.int u9), .val (.int u10), .val (.int u11), .val (.int u12), .val (.int u13), .val (.int u14), .val (.int u15), .val (.int u16), .val (.int u17), .val (.int u18), .val (.int u19), .val (.int u20), .val (.long u21), .second, .val (.long u23), .second, .val (.ref r_1), .val (.ref r_4), .val (.ref r_7), .val (.ref r_10), .val (.ref a_12), .val (.int ((Jvm.Free.XT.ushr p4 (8 : Int32)) &&& (3 : Int32))), .unset, .unset, .unset] [(.int (1 : Int32))]))
        exact own_G.endH X_18 hS_10 (Nat.le_trans (Nat.le_refl _) (Nat.le_trans E_12.1 K_14.1)) hZ_10 hEW (hh ▸ CH_15) hlk (v := (some (.int (1 : Int32)))) (fun h => by rw [hrt] at h; cases h) (fun fs hr => retN X_18 hx (z := (1 : Int32)) (t := .boolean) hrt (by simp) (hb hby at_342) hr) eh_18 ⟨rfl, N_18⟩ (by decide) (by decide)
      · refine own_G.go (fun t_ k_ => XS.icmpYes X_14.here hx rfl (pc0 := 324) (pc' := 343) rfl (hb hby at_324) rfl (feq hm2).2 (by decide) (by decide) k_) ?_
        show own_G _ _ _ _ (T_14.setTop (mkF m 343 #[.val (.int p0), .val (.int p1), .val (.long p2), .second, .val (.long p3), .second, .val (.int p4), .val (.long p5), .second, .val (.int u9), .val (.int u10), .val (.int u11), .val (.int u12), .val (.int u13), .val (.int u14), .val (.int u15), .val (.int u16), .val (.int u17), .val (.int u18), .val (.int u19), .val (.int u20), .val (.long u21), .second, .val (.long u23), .second, .val (.ref r_1), .val (.ref r_4), .val (.ref r_7), .val (.ref r_10), .val (.ref a_12), .val (.int ((Jvm.Free.XT.ushr p4 (8 : Int32)) &&& (3 : Int32))), .unset, .unset, .unset] []))
        obtain ⟨T_19, h_19, X_19, e_19, E_19, A_19, D_19, -, st_19⟩ := newO X_14 hx hZ_10 hown_10 (own_w hw 26 rfl) (own_w hw 27 rfl) (own_w hw 28 rfl) rfl (g := (mkF m 343 #[.val (.int p0), .val (.int p1), .val (.long p2), .second, .val (.long p3), .second, .val (.int p4), .val (.long p5), .second, .val (.int u9), .val (.int u10), .val (.int u11), .val (.int u12), .val (.int u13), .val (.int u14), .val (.int u15), .val (.int u16), .val (.int u17), .val (.int u18), .val (.int u19), .val (.int u20), .val (.long u21), .second, .val (.long u23), .second, .val (.ref r_1), .val (.ref r_4), .val (.ref r_7), .val (.ref r_10), .val (.ref a_12), .val (.int ((Jvm.Free.XT.ushr p4 (8 : Int32)) &&& (3 : Int32))), .unset, .unset, .unset] [])) rfl (hb hby at_343) (by decide) (by decide)
        obtain ⟨a_19, g_19⟩ : ∃ z, z = T_14.heap.size := ⟨_, rfl⟩
        rw [← g_19] at A_19 D_19 st_19
        refine own_G.go st_19 ?_
        have CH_20 : CHr Z own_EL s.vm h0 T_10.vm h_19 := CH_15.trans (CHr.ext E_19 CH_15.1)
        have F_19_kind : Fld Z h_19 a_19 "com/example/kommit/kommit/KeyCounters$Entry" "kind" "Ljava/lang/String;" .null := D_19 (Or.inr (own_w hw 34 rfl)) (ty := (.object "java/lang/String")) (by decide)
        have F_19_name : Fld Z h_19 a_19 "com/example/kommit/kommit/KeyCounters$Entry" "name" "Ljava/lang/String;" .null := D_19 (Or.inr (own_w hw 36 rfl)) (ty := (.object "java/lang/String")) (by decide)
        have F_19_first : Fld Z h_19 a_19 "com/example/kommit/kommit/KeyCounters$Entry" "first" "J" (.long (0 : Int64)) := D_19 (Or.inr (own_w hw 38 rfl)) (ty := .long) (by decide)
        have F_19_second : Fld Z h_19 a_19 "com/example/kommit/kommit/KeyCounters$Entry" "second" "J" (.long (0 : Int64)) := D_19 (Or.inr (own_w hw 40 rfl)) (ty := .long) (by decide)
        show own_G _ _ _ _ (T_19.setTop (mkF m 346 #[.val (.int p0), .val (.int p1), .val (.long p2), .second, .val (.long p3), .second, .val (.int p4), .val (.long p5), .second, .val (.int u9), .val (.int u10), .val (.int u11), .val (.int u12), .val (.int u13), .val (.int u14), .val (.int u15), .val (.int u16), .val (.int u17), .val (.int u18), .val (.int u19), .val (.int u20), .val (.long u21), .second, .val (.long u23), .second, .val (.ref r_1), .val (.ref r_4), .val (.ref r_7), .val (.ref r_10), .val (.ref a_12), .val (.int ((Jvm.Free.XT.ushr p4 (8 : Int32)) &&& (3 : Int32))), .unset, .unset, .unset] [(.ref a_19)]))
        refine own_G.go (fun t_ k_ => XS.dup X_19.here hx rfl (hb hby at_346) rfl rfl k_) ?_
        show own_G _ _ _ _ (T_19.setTop (mkF m 347 #[.val (.int p0), .val (.int p1), .val (.long p2), .second, .val (.long p3), .second, .val (.int p4), .val (.long p5), .second, .val (.int u9), .val (.int u10), .val (.int u11), .val (.int u12), .val (.int u13), .val (.int u14), .val (.int u15), .val (.int u16), .val (.int u17), .val (.int u18), .val (.int u19), .val (.int u20), .val (.long u21), .second, .val (.long u23), .second, .val (.ref r_1), .val (.ref r_4), .val (.ref r_7), .val (.ref r_10), .val (.ref a_12), .val (.int ((Jvm.Free.XT.ushr p4 (8 : Int32)) &&& (3 : Int32))), .unset, .unset, .unset] [(.ref a_19), (.ref a_19)]))
        refine own_G.go (fun t_ k_ => XS.aload X_19.here hx rfl (hb hby at_347) rfl rfl k_) ?_
        show own_G _ _ _ _ (T_19.setTop (mkF m 349 #[.val (.int p0), .val (.int p1), .val (.long p2), .second, .val (.long p3), .second, .val (.int p4), .val (.long p5), .second, .val (.int u9), .val (.int u10), .val (.int u11), .val (.int u12), .val (.int u13), .val (.int u14), .val (.int u15), .val (.int u16), .val (.int u17), .val (.int u18), .val (.int u19), .val (.int u20), .val (.long u21), .second, .val (.long u23), .second, .val (.ref r_1), .val (.ref r_4), .val (.ref r_7), .val (.ref r_10), .val (.ref a_12), .val (.int ((Jvm.Free.XT.ushr p4 (8 : Int32)) &&& (3 : Int32))), .unset, .unset, .unset] [(.ref r_7), (.ref a_19), (.ref a_19)]))
        refine own_G.go (fun t_ k_ => XS.aload X_19.here hx rfl (hb hby at_349) rfl rfl k_) ?_
        show own_G _ _ _ _ (T_19.setTop (mkF m 351 #[.val (.int p0), .val (.int p1), .val (.long p2), .second, .val (.long p3), .second, .val (.int p4), .val (.long p5), .second, .val (.int u9), .val (.int u10), .val (.int u11), .val (.int u12), .val (.int u13), .val (.int u14), .val (.int u15), .val (.int u16), .val (.int u17), .val (.int u18), .val (.int u19), .val (.int u20), .val (.long u21), .second, .val (.long u23), .second, .val (.ref r_1), .val (.ref r_4), .val (.ref r_7), .val (.ref r_10), .val (.ref a_12), .val (.int ((Jvm.Free.XT.ushr p4 (8 : Int32)) &&& (3 : Int32))), .unset, .unset, .unset] [(.ref r_10), (.ref r_7), (.ref a_19), (.ref a_19)]))
        refine own_G.go (fun t_ k_ => XS.lload X_19.here hx rfl (hb hby at_351) rfl k_) ?_
        show own_G _ _ _ _ (T_19.setTop (mkF m 353 #[.val (.int p0), .val (.int p1), .val (.long p2), .second, .val (.long p3), .second, .val (.int p4), .val (.long p5), .second, .val (.int u9), .val (.int u10), .val (.int u11), .val (.int u12), .val (.int u13), .val (.int u14), .val (.int u15), .val (.int u16), .val (.int u17), .val (.int u18), .val (.int u19), .val (.int u20), .val (.long u21), .second, .val (.long u23), .second, .val (.ref r_1), .val (.ref r_4), .val (.ref r_7), .val (.ref r_10), .val (.ref a_12), .val (.int ((Jvm.Free.XT.ushr p4 (8 : Int32)) &&& (3 : Int32))), .unset, .unset, .unset] [(.long u21), (.ref r_10), (.ref r_7), (.ref a_19), (.ref a_19)]))
        refine own_G.go (fun t_ k_ => XS.lload X_19.here hx rfl (hb hby at_353) rfl k_) ?_
        show own_G _ _ _ _ (T_19.setTop (mkF m 355 #[.val (.int p0), .val (.int p1), .val (.long p2), .second, .val (.long p3), .second, .val (.int p4), .val (.long p5), .second, .val (.int u9), .val (.int u10), .val (.int u11), .val (.int u12), .val (.int u13), .val (.int u14), .val (.int u15), .val (.int u16), .val (.int u17), .val (.int u18), .val (.int u19), .val (.int u20), .val (.long u21), .second, .val (.long u23), .second, .val (.ref r_1), .val (.ref r_4), .val (.ref r_7), .val (.ref r_10), .val (.ref a_12), .val (.int ((Jvm.Free.XT.ushr p4 (8 : Int32)) &&& (3 : Int32))), .unset, .unset, .unset] [(.long u23), (.long u21), (.ref r_10), (.ref r_7), (.ref a_19), (.ref a_19)]))
        have g0_a_19 : n0 ≤ a_19 := Nat.le_trans (Nat.le_trans Z0 (Nat.le_trans (Nat.le_trans (Nat.le_trans (Nat.le_trans (Nat.le_trans K_1.1 K_4.1) K_7.1) K_10.1) E_12.1) K_14.1)) (Nat.le_of_eq g_19.symm)
        obtain ⟨_, T_21, L_21, Q_21, X_21, st_21⟩ := own_callI X_19 hx rfl hown_10 (mvT hZ_10 (own_w hw 29 rfl)) (mvT hZ_10 (own_w hw 30 rfl)) (mvT hZ_10 (own_w hw 31 rfl)) (by decide) (Q := (Qen Z a_19 r_7 r_10 u21 u23 h_19 n0)) (backOf (W := 1) (rm_en l Z a0 hw [] a_19 r_7 r_10 u21 u23 h_19 n0 (Nat.le_trans Z0 (Nat.le_trans (Nat.le_trans (Nat.le_trans (Nat.le_trans (Nat.le_trans (Nat.le_trans K_1.1 K_4.1) K_7.1) K_10.1) E_12.1) K_14.1) E_19.1)) g0_a_19 A_19 F_19_kind F_19_name F_19_first F_19_second) hZ_10 (own_w hw 31 rfl) (own_w hw 28 rfl) (by decide) (by decide)) (a := a_19) (g := (mkF m 355 #[.val (.int p0), .val (.int p1), .val (.long p2), .second, .val (.long p3), .second, .val (.int p4), .val (.long p5), .second, .val (.int u9), .val (.int u10), .val (.int u11), .val (.int u12), .val (.int u13), .val (.int u14), .val (.int u15), .val (.int u16), .val (.int u17), .val (.int u18), .val (.int u19), .val (.int u20), .val (.long u21), .second, .val (.long u23), .second, .val (.ref r_1), .val (.ref r_4), .val (.ref r_7), .val (.ref r_10), .val (.ref a_12), .val (.int ((Jvm.Free.XT.ushr p4 (8 : Int32)) &&& (3 : Int32))), .unset, .unset, .unset] [(.long u23), (.long u21), (.ref r_10), (.ref r_7), (.ref a_19), (.ref a_19)])) rfl (by rw [hml]; rfl) (argsL := [(.ref r_7), (.ref r_10), (.long u21), (.long u23)]) (rest := [(.ref a_19)]) (lenOf pd_5 rfl) rfl (by show 2 * 0 + _ ≤ _; exact Nat.le_of_eq rfl) (hb hby at_355) e_19 rfl (by decide) (by decide)
        obtain ⟨rfl, Nq_21, K_21, Ex_21, G1_21, G2_21, G3_21, G4_21⟩ := Q_21
        refine own_G.via st_21 ?_
        have CH_22 : CHr Z own_EL s.vm h0 T_10.vm T_21.heap := CH_20.trans (CHr.keep K_21 (sfS (Safe.exa hZ_10.alike A_19 (by decide) (by decide)) sf0) CH_20.1)
        have N_21 := Fr.app N_14 Nq_21
        show own_G _ _ _ _ (T_21.setTop (mkF m 358 #[.val (.int p0), .val (.int p1), .val (.long p2), .second, .val (.long p3), .second, .val (.int p4), .val (.long p5), .second, .val (.int u9), .val (.int u10), .val (.int u11), .val (.int u12), .val (.int u13), .val (.int u14), .val (.int u15), .val (.int u16), .val (.int u17), .val (.int u18), .val (.int u19), .val (.int u20), .val (.long u21), .second, .val (.long u23), .second, .val (.ref r_1), .val (.ref r_4), .val (.ref r_7), .val (.ref r_10), .val (.ref a_12), .val (.int ((Jvm.Free.XT.ushr p4 (8 : Int32)) &&& (3 : Int32))), .unset, .unset, .unset] [(.ref a_19)]))
        refine own_G.go (fun t_ k_ => XS.astore X_21.here hx rfl (hb hby at_358) rfl rfl (l' := #[.val (.int p0), .val (.int p1), .val (.long p2), .second, .val (.long p3), .second, .val (.int p4), .val (.long p5), .second, .val (.int u9), .val (.int u10), .val (.int u11), .val (.int u12), .val (.int u13), .val (.int u14), .val (.int u15), .val (.int u16), .val (.int u17), .val (.int u18), .val (.int u19), .val (.int u20), .val (.long u21), .second, .val (.long u23), .second, .val (.ref r_1), .val (.ref r_4), .val (.ref r_7), .val (.ref r_10), .val (.ref a_12), .val (.int ((Jvm.Free.XT.ushr p4 (8 : Int32)) &&& (3 : Int32))), .val (.ref a_19), .unset, .unset]) rfl k_) ?_
        show own_G _ _ _ _ (T_21.setTop (mkF m 360 #[.val (.int p0), .val (.int p1), .val (.long p2), .second, .val (.long p3), .second, .val (.int p4), .val (.long p5), .second, .val (.int u9), .val (.int u10), .val (.int u11), .val (.int u12), .val (.int u13), .val (.int u14), .val (.int u15), .val (.int u16), .val (.int u17), .val (.int u18), .val (.int u19), .val (.int u20), .val (.long u21), .second, .val (.long u23), .second, .val (.ref r_1), .val (.ref r_4), .val (.ref r_7), .val (.ref r_10), .val (.ref a_12), .val (.int ((Jvm.Free.XT.ushr p4 (8 : Int32)) &&& (3 : Int32))), .val (.ref a_19), .unset, .unset] []))
        refine own_G.go (fun t_ k_ => XS.iload X_21.here hx rfl (hb hby at_360) rfl k_) ?_
        show own_G _ _ _ _ (T_21.setTop (mkF m 362 #[.val (.int p0), .val (.int p1), .val (.long p2), .second, .val (.long p3), .second, .val (.int p4), .val (.long p5), .second, .val (.int u9), .val (.int u10), .val (.int u11), .val (.int u12), .val (.int u13), .val (.int u14), .val (.int u15), .val (.int u16), .val (.int u17), .val (.int u18), .val (.int u19), .val (.int u20), .val (.long u21), .second, .val (.long u23), .second, .val (.ref r_1), .val (.ref r_4), .val (.ref r_7), .val (.ref r_10), .val (.ref a_12), .val (.int ((Jvm.Free.XT.ushr p4 (8 : Int32)) &&& (3 : Int32))), .val (.ref a_19), .unset, .unset] [(.int u9)]))
        refine own_G.go (fun t_ k_ => XS.iload X_21.here hx rfl (hb hby at_362) rfl k_) ?_
        show own_G _ _ _ _ (T_21.setTop (mkF m 364 #[.val (.int p0), .val (.int p1), .val (.long p2), .second, .val (.long p3), .second, .val (.int p4), .val (.long p5), .second, .val (.int u9), .val (.int u10), .val (.int u11), .val (.int u12), .val (.int u13), .val (.int u14), .val (.int u15), .val (.int u16), .val (.int u17), .val (.int u18), .val (.int u19), .val (.int u20), .val (.long u21), .second, .val (.long u23), .second, .val (.ref r_1), .val (.ref r_4), .val (.ref r_7), .val (.ref r_10), .val (.ref a_12), .val (.int ((Jvm.Free.XT.ushr p4 (8 : Int32)) &&& (3 : Int32))), .val (.ref a_19), .unset, .unset] [(.int u10), (.int u9)]))
        refine own_G.go (fun t_ k_ => XS.iload X_21.here hx rfl (hb hby at_364) rfl k_) ?_
        show own_G _ _ _ _ (T_21.setTop (mkF m 366 #[.val (.int p0), .val (.int p1), .val (.long p2), .second, .val (.long p3), .second, .val (.int p4), .val (.long p5), .second, .val (.int u9), .val (.int u10), .val (.int u11), .val (.int u12), .val (.int u13), .val (.int u14), .val (.int u15), .val (.int u16), .val (.int u17), .val (.int u18), .val (.int u19), .val (.int u20), .val (.long u21), .second, .val (.long u23), .second, .val (.ref r_1), .val (.ref r_4), .val (.ref r_7), .val (.ref r_10), .val (.ref a_12), .val (.int ((Jvm.Free.XT.ushr p4 (8 : Int32)) &&& (3 : Int32))), .val (.ref a_19), .unset, .unset] [(.int u11), (.int u10), (.int u9)]))
        refine own_G.go (fun t_ k_ => XS.iload X_21.here hx rfl (hb hby at_366) rfl k_) ?_
        show own_G _ _ _ _ (T_21.setTop (mkF m 368 #[.val (.int p0), .val (.int p1), .val (.long p2), .second, .val (.long p3), .second, .val (.int p4), .val (.long p5), .second, .val (.int u9), .val (.int u10), .val (.int u11), .val (.int u12), .val (.int u13), .val (.int u14), .val (.int u15), .val (.int u16), .val (.int u17), .val (.int u18), .val (.int u19), .val (.int u20), .val (.long u21), .second, .val (.long u23), .second, .val (.ref r_1), .val (.ref r_4), .val (.ref r_7), .val (.ref r_10), .val (.ref a_12), .val (.int ((Jvm.Free.XT.ushr p4 (8 : Int32)) &&& (3 : Int32))), .val (.ref a_19), .unset, .unset] [(.int u12), (.int u11), (.int u10), (.int u9)]))
        refine own_G.go (fun t_ k_ => XS.iload X_21.here hx rfl (hb hby at_368) rfl k_) ?_
        show own_G _ _ _ _ (T_21.setTop (mkF m 370 #[.val (.int p0), .val (.int p1), .val (.long p2), .second, .val (.long p3), .second, .val (.int p4), .val (.long p5), .second, .val (.int u9), .val (.int u10), .val (.int u11), .val (.int u12), .val (.int u13), .val (.int u14), .val (.int u15), .val (.int u16), .val (.int u17), .val (.int u18), .val (.int u19), .val (.int u20), .val (.long u21), .second, .val (.long u23), .second, .val (.ref r_1), .val (.ref r_4), .val (.ref r_7), .val (.ref r_10), .val (.ref a_12), .val (.int ((Jvm.Free.XT.ushr p4 (8 : Int32)) &&& (3 : Int32))), .val (.ref a_19), .unset, .unset] [(.int u13), (.int u12), (.int u11), (.int u10), (.int u9)]))
        refine own_G.go (fun t_ k_ => XS.iload X_21.here hx rfl (hb hby at_370) rfl k_) ?_
        show own_G _ _ _ _ (T_21.setTop (mkF m 372 #[.val (.int p0), .val (.int p1), .val (.long p2), .second, .val (.long p3), .second, .val (.int p4), .val (.long p5), .second, .val (.int u9), .val (.int u10), .val (.int u11), .val (.int u12), .val (.int u13), .val (.int u14), .val (.int u15), .val (.int u16), .val (.int u17), .val (.int u18), .val (.int u19), .val (.int u20), .val (.long u21), .second, .val (.long u23), .second, .val (.ref r_1), .val (.ref r_4), .val (.ref r_7), .val (.ref r_10), .val (.ref a_12), .val (.int ((Jvm.Free.XT.ushr p4 (8 : Int32)) &&& (3 : Int32))), .val (.ref a_19), .unset, .unset] [(.int u14), (.int u13), (.int u12), (.int u11), (.int u10), (.int u9)]))
        obtain ⟨_, T_23, L_23, Q_23, X_23, st_23⟩ := own_callS X_21 hx hown_10 (mvT hZ_10 (own_w hw 41 rfl)) (mvT hZ_10 (own_w hw 42 rfl)) (mvT hZ_10 (own_w hw 2 rfl)) (mvT hZ_10 (own_w hw 43 rfl)) (by decide) (Q := (Qeq (own_cs u9 u10 u11 = own_cs u12 u13 u14) T_21.heap)) (backOf (W := 0) (rm_same l Z a0 hw [] u9 u10 u11 u12 u13 u14 T_21.heap n0 (Nat.le_trans Z0 (Nat.le_trans (Nat.le_trans (Nat.le_trans (Nat.le_trans (Nat.le_trans (Nat.le_trans (Nat.le_trans K_1.1 K_4.1) K_7.1) K_10.1) E_12.1) K_14.1) E_19.1) K_21.1)) h9 h12) hZ_10 (own_w hw 43 rfl) (own_w hw 2 rfl) (by decide) (by decide)) (g := (mkF m 372 #[.val (.int p0), .val (.int p1), .val (.long p2), .second, .val (.long p3), .second, .val (.int p4), .val (.long p5), .second, .val (.int u9), .val (.int u10), .val (.int u11), .val (.int u12), .val (.int u13), .val (.int u14), .val (.int u15), .val (.int u16), .val (.int u17), .val (.int u18), .val (.int u19), .val (.int u20), .val (.long u21), .second, .val (.long u23), .second, .val (.ref r_1), .val (.ref r_4), .val (.ref r_7), .val (.ref r_10), .val (.ref a_12), .val (.int ((Jvm.Free.XT.ushr p4 (8 : Int32)) &&& (3 : Int32))), .val (.ref a_19), .unset, .unset] [(.int u14), (.int u13), (.int u12), (.int u11), (.int u10), (.int u9)])) rfl (by rw [hml]; rfl) (argsL := [(.int u9), (.int u10), (.int u11), (.int u12), (.int u13), (.int u14)]) (rest := []) (lenOf pd_6 rfl) rfl (by show 2 * 0 + _ ≤ _; exact Nat.le_of_eq rfl) (hb hby at_372) rfl rfl (by decide) (by decide)
        obtain ⟨⟨z_23, rfl, hz_23⟩, rfl, eh_23⟩ := Q_23
        refine own_G.via st_23 ?_
        have N_23 := Fr.app N_21 (Fr.nil n0)
        rcases hz_23 with ⟨rfl, hs1⟩ | ⟨rfl, hs1⟩
        · show own_G _ _ _ _ (T_23.setTop (mkF m 375 #[.val (.int p0), .val (.int p1), .val (.long p2), .second, .val (.long p3), .second, .val (.int p4), .val (.long p5), .second, .val (.int u9), .val (.int u10), .val (.int u11), .val (.int u12), .val (.int u13), .val (.int u14), .val (.int u15), .val (.int u16), .val (.int u17), .val (.int u18), .val (.int u19), .val (.int u20), .val (.long u21), .second, .val (.long u23), .second, .val (.ref r_1), .val (.ref r_4), .val (.ref r_7), .val (.ref r_10), .val (.ref a_12), .val (.int ((Jvm.Free.XT.ushr p4 (8 : Int32)) &&& (3 : Int32))), .val (.ref a_19), .unset, .unset] [(.int (1 : Int32))]))
          refine own_G.go (fun t_ k_ => XS.ifNo X_23.here hx rfl (hb hby at_375) rfl ((if0 _ _).trans (feq (by decide : ¬ ((1 : Int32) = (0 : Int32)))).1) k_) ?_
          show own_G _ _ _ _ (T_23.setTop (mkF m 378 #[.val (.int p0), .val (.int p1), .val (.long p2), .second, .val (.long p3), .second, .val (.int p4), .val (.long p5), .second, .val (.int u9), .val (.int u10), .val (.int u11), .val (.int u12), .val (.int u13), .val (.int u14), .val (.int u15), .val (.int u16), .val (.int u17), .val (.int u18), .val (.int u19), .val (.int u20), .val (.long u21), .second, .val (.long u23), .second, .val (.ref r_1), .val (.ref r_4), .val (.ref r_7), .val (.ref r_10), .val (.ref a_12), .val (.int ((Jvm.Free.XT.ushr p4 (8 : Int32)) &&& (3 : Int32))), .val (.ref a_19), .unset, .unset] []))
          refine own_G.go (fun t_ k_ => XS.iload X_23.here hx rfl (hb hby at_378) rfl k_) ?_
          show own_G _ _ _ _ (T_23.setTop (mkF m 380 #[.val (.int p0), .val (.int p1), .val (.long p2), .second, .val (.long p3), .second, .val (.int p4), .val (.long p5), .second, .val (.int u9), .val (.int u10), .val (.int u11), .val (.int u12), .val (.int u13), .val (.int u14), .val (.int u15), .val (.int u16), .val (.int u17), .val (.int u18), .val (.int u19), .val (.int u20), .val (.long u21), .second, .val (.long u23), .second, .val (.ref r_1), .val (.ref r_4), .val (.ref r_7), .val (.ref r_10), .val (.ref a_12), .val (.int ((Jvm.Free.XT.ushr p4 (8 : Int32)) &&& (3 : Int32))), .val (.ref a_19), .unset, .unset] [(.int u15)]))
          refine own_G.go (fun t_ k_ => XS.iload X_23.here hx rfl (hb hby at_380) rfl k_) ?_
          show own_G _ _ _ _ (T_23.setTop (mkF m 382 #[.val (.int p0), .val (.int p1), .val (.long p2), .second, .val (.long p3), .second, .val (.int p4), .val (.long p5), .second, .val (.int u9), .val (.int u10), .val (.int u11), .val (.int u12), .val (.int u13), .val (.int u14), .val (.int u15), .val (.int u16), .val (.int u17), .val (.int u18), .val (.int u19), .val (.int u20), .val (.long u21), .second, .val (.long u23), .second, .val (.ref r_1), .val (.ref r_4), .val (.ref r_7), .val (.ref r_10), .val (.ref a_12), .val (.int ((Jvm.Free.XT.ushr p4 (8 : Int32)) &&& (3 : Int32))), .val (.ref a_19), .unset, .unset] [(.int u16), (.int u15)]))
          refine own_G.go (fun t_ k_ => XS.iload X_23.here hx rfl (hb hby at_382) rfl k_) ?_
          show own_G _ _ _ _ (T_23.setTop (mkF m 384 #[.val (.int p0), .val (.int p1), .val (.long p2), .second, .val (.long p3), .second, .val (.int p4), .val (.long p5), .second, .val (.int u9), .val (.int u10), .val (.int u11), .val (.int u12), .val (.int u13), .val (.int u14), .val (.int u15), .val (.int u16), .val (.int u17), .val (.int u18), .val (.int u19), .val (.int u20), .val (.long u21), .second, .val (.long u23), .second, .val (.ref r_1), .val (.ref r_4), .val (.ref r_7), .val (.ref r_10), .val (.ref a_12), .val (.int ((Jvm.Free.XT.ushr p4 (8 : Int32)) &&& (3 : Int32))), .val (.ref a_19), .unset, .unset] [(.int u17), (.int u16), (.int u15)]))
          refine own_G.go (fun t_ k_ => XS.iload X_23.here hx rfl (hb hby at_384) rfl k_) ?_
          show own_G _ _ _ _ (T_23.setTop (mkF m 386 #[.val (.int p0), .val (.int p1), .val (.long p2), .second, .val (.long p3), .second, .val (.int p4), .val (.long p5), .second, .val (.int u9), .val (.int u10), .val (.int u11), .val (.int u12), .val (.int u13), .val (.int u14), .val (.int u15), .val (.int u16), .val (.int u17), .val (.int u18), .val (.int u19), .val (.int u20), .val (.long u21), .second, .val (.long u23), .second, .val (.ref r_1), .val (.ref r_4), .val (.ref r_7), .val (.ref r_10), .val (.ref a_12), .val (.int ((Jvm.Free.XT.ushr p4 (8 : Int32)) &&& (3 : Int32))), .val (.ref a_19), .unset, .unset] [(.int u18), (.int u17), (.int u16), (.int u15)]))
          refine own_G.go (fun t_ k_ => XS.iload X_23.here hx rfl (hb hby at_386) rfl k_) ?_
          show own_G _ _ _ _ (T_23.setTop (mkF m 388 #[.val (.int p0), .val (.int p1), .val (.long p2), .second, .val (.long p3), .second, .val (.int p4), .val (.long p5), .second, .val (.int u9), .val (.int u10), .val (.int u11), .val (.int u12), .val (.int u13), .val (.int u14), .val (.int u15), .val (.int u16), .val (.int u17), .val (.int u18), .val (.int u19), .val (.int u20), .val (.long u21), .second, .val (.long u23), .second, .val (.ref r_1), .val (.ref r_4), .val (.ref r_7), .val (.ref r_10), .val (.ref a_12), .val (.int ((Jvm.Free.XT.ushr p4 (8 : Int32)) &&& (3 : Int32))), .val (.ref a_19), .unset, .unset] [(.int u19), (.int u18), (.int u17), (.int u16), (.int u15)]))
          refine own_G.go (fun t_ k_ => XS.iload X_23.here hx rfl (hb hby at_388) rfl k_) ?_
          show own_G _ _ _ _ (T_23.setTop (mkF m 390 #[.val (.int p0), .val (.int p1), .val (.long p2), .second, .val (.long p3), .second, .val (.int p4), .val (.long p5), .second, .val (.int u9), .val (.int u10), .val (.int u11), .val (.int u12), .val (.int u13), .val (.int u14), .val (.int u15), .val (.int u16), .val (.int u17), .val (.int u18), .val (.int u19), .val (.int u20), .val (.long u21), .second, .val (.long u23), .second, .val (.ref r_1), .val (.ref r_4), .val (.ref r_7), .val (.ref r_10), .val (.ref a_12), .val (.int ((Jvm.Free.XT.ushr p4 (8 : Int32)) &&& (3 : Int32))), .val (.ref a_19), .unset, .unset] [(.int u20), (.int u19), (.int u18), (.int u17), (.int u16), (.int u15)]))
          obtain ⟨_, T_24, L_24, Q_24, X_24, st_24⟩ := own_callS X_23 hx hown_10 (mvT hZ_10 (own_w hw 41 rfl)) (mvT hZ_10 (own_w hw 42 rfl)) (mvT hZ_10 (own_w hw 2 rfl)) (mvT hZ_10 (own_w hw 43 rfl)) (by decide) (Q := (Qeq (own_cs u15 u16 u17 = own_cs u18 u19 u20) T_21.heap)) (backOf (W := 0) (rm_same l Z a0 hw [] u15 u16 u17 u18 u19 u20 T_21.heap n0 (Nat.le_trans Z0 (Nat.le_trans (Nat.le_trans (Nat.le_trans (Nat.le_trans (Nat.le_trans (Nat.le_trans (Nat.le_trans K_1.1 K_4.1) K_7.1) K_10.1) E_12.1) K_14.1) E_19.1) K_21.1)) h15 h18) hZ_10 (own_w hw 43 rfl) (own_w hw 2 rfl) (by decide) (by decide)) (g := (mkF m 390 #[.val (.int p0), .val (.int p1), .val (.long p2), .second, .val (.long p3), .second, .val (.int p4), .val (.long p5), .second, .val (.int u9), .val (.int u10), .val (.int u11), .val (.int u12), .val (.int u13), .val (.int u14), .val (.int u15), .val (.int u16), .val (.int u17), .val (.int u18), .val (.int u19), .val (.int u20), .val (.long u21), .second, .val (.long u23), .second, .val (.ref r_1), .val (.ref r_4), .val (.ref r_7), .val (.ref r_10), .val (.ref a_12), .val (.int ((Jvm.Free.XT.ushr p4 (8 : Int32)) &&& (3 : Int32))), .val (.ref a_19), .unset, .unset] [(.int u20), (.int u19), (.int u18), (.int u17), (.int u16), (.int u15)])) rfl (by rw [hml]; rfl) (argsL := [(.int u15), (.int u16), (.int u17), (.int u18), (.int u19), (.int u20)]) (rest := []) (lenOf pd_6 rfl) rfl (by show 2 * 0 + _ ≤ _; exact Nat.le_of_eq rfl) (hb hby at_390) eh_23 rfl (by decide) (by decide)
          obtain ⟨⟨z_24, rfl, hz_24⟩, rfl, eh_24⟩ := Q_24
          refine own_G.via st_24 ?_
          have N_24 := Fr.app N_23 (Fr.nil n0)
          rcases hz_24 with ⟨rfl, hs2⟩ | ⟨rfl, hs2⟩
          · show own_G _ _ _ _ (T_24.setTop (mkF m 393 #[.val (.int p0), .val (.int p1), .val (.long p2), .second, .val (.long p3), .second, .val (.int p4), .val (.long p5), .second, .val (.int u9), .val (.int u10), .val (.int u11), .val (.int u12), .val (.int u13), .val (.int u14), .val (.int u15), .val (.int u16), .val (.int u17), .val (.int u18), .val (.int u19), .val (.int u20), .val (.long u21), .second, .val (.long u23), .second, .val (.ref r_1), .val (.ref r_4), .val (.ref r_7), .val (.ref r_10), .val (.ref a_12), .val (.int ((Jvm.Free.XT.ushr p4 (8 : Int32)) &&& (3 : Int32))), .val (.ref a_19), .unset, .unset] [(.int (1 : Int32))]))
            refine own_G.go (fun t_ k_ => XS.ifNo X_24.here hx rfl (hb hby at_393) rfl ((if0 _ _).trans (feq (by decide : ¬ ((1 : Int32) = (0 : Int32)))).1) k_) ?_
            show own_G _ _ _ _ (T_24.setTop (mkF m 396 #[.val (.int p0), .val (.int p1), .val (.long p2), .second, .val (.long p3), .second, .val (.int p4), .val (.long p5), .second, .val (.int u9), .val (.int u10), .val (.int u11), .val (.int u12), .val (.int u13), .val (.int u14), .val (.int u15), .val (.int u16), .val (.int u17), .val (.int u18), .val (.int u19), .val (.int u20), .val (.long u21), .second, .val (.long u23), .second, .val (.ref r_1), .val (.ref r_4), .val (.ref r_7), .val (.ref r_10), .val (.ref a_12), .val (.int ((Jvm.Free.XT.ushr p4 (8 : Int32)) &&& (3 : Int32))), .val (.ref a_19), .unset, .unset] []))
            refine own_G.go (fun t_ k_ => XS.lload X_24.here hx rfl (hb hby at_396) rfl k_) ?_
            show own_G _ _ _ _ (T_24.setTop (mkF m 398 #[.val (.int p0), .val (.int p1), .val (.long p2), .second, .val (.long p3), .second, .val (.int p4), .val (.long p5), .second, .val (.int u9), .val (.int u10), .val (.int u11), .val (.int u12), .val (.int u13), .val (.int u14), .val (.int u15), .val (.int u16), .val (.int u17), .val (.int u18), .val (.int u19), .val (.int u20), .val (.long u21), .second, .val (.long u23), .second, .val (.ref r_1), .val (.ref r_4), .val (.ref r_7), .val (.ref r_10), .val (.ref a_12), .val (.int ((Jvm.Free.XT.ushr p4 (8 : Int32)) &&& (3 : Int32))), .val (.ref a_19), .unset, .unset] [(.long u21)]))
            refine own_G.go (fun t_ k_ => XS.lloadN X_24.here hx rfl (hb hby at_398) rfl k_) ?_
            show own_G _ _ _ _ (T_24.setTop (mkF m 399 #[.val (.int p0), .val (.int p1), .val (.long p2), .second, .val (.long p3), .second, .val (.int p4), .val (.long p5), .second, .val (.int u9), .val (.int u10), .val (.int u11), .val (.int u12), .val (.int u13), .val (.int u14), .val (.int u15), .val (.int u16), .val (.int u17), .val (.int u18), .val (.int u19), .val (.int u20), .val (.long u21), .second, .val (.long u23), .second, .val (.ref r_1), .val (.ref r_4), .val (.ref r_7), .val (.ref r_10), .val (.ref a_12), .val (.int ((Jvm.Free.XT.ushr p4 (8 : Int32)) &&& (3 : Int32))), .val (.ref a_19), .unset, .unset] [(.long p2), (.long u21)]))
            refine own_G.go (fun t_ k_ => XS.lcmp X_24.here hx rfl (hb hby at_399) rfl k_) ?_
            show own_G _ _ _ _ (T_24.setTop (mkF m 400 #[.val (.int p0), .val (.int p1), .val (.long p2), .second, .val (.long p3), .second, .val (.int p4), .val (.long p5), .second, .val (.int u9), .val (.int u10), .val (.int u11), .val (.int u12), .val (.int u13), .val (.int u14), .val (.int u15), .val (.int u16), .val (.int u17), .val (.int u18), .val (.int u19), .val (.int u20), .val (.long u21), .second, .val (.long u23), .second, .val (.ref r_1), .val (.ref r_4), .val (.ref r_7), .val (.ref r_10), .val (.ref a_12), .val (.int ((Jvm.Free.XT.ushr p4 (8 : Int32)) &&& (3 : Int32))), .val (.ref a_19), .unset, .unset] [(.int (lcmpW u21 p2))]))
            by_cases hf : (lcmpW u21 p2) = (0 : Int32)
            · refine own_G.go (fun t_ k_ => XS.ifNo X_24.here hx rfl (hb hby at_400) rfl ((if0 _ _).trans (teq hf).2) k_) ?_
              show own_G _ _ _ _ (T_24.setTop (mkF m 403 #[.val (.int p0), .val (.int p1), .val (.long p2), .second, .val (.long p3), .second, .val (.int p4), .val (.long p5), .second, .val (.int u9), .val (.int u10), .val (.int u11), .val (.int u12), .val (.int u13), .val (.int u14), .val (.int u15), .val (.int u16), .val (.int u17), .val (.int u18), .val (.int u19), .val (.int u20), .val (.long u21), .second, .val (.long u23), .second, .val (.ref r_1), .val (.ref r_4), .val (.ref r_7), .val (.ref r_10), .val (.ref a_12), .val (.int ((Jvm.Free.XT.ushr p4 (8 : Int32)) &&& (3 : Int32))), .val (.ref a_19), .unset, .unset] []))
              refine own_G.go (fun t_ k_ => XS.lload X_24.here hx rfl (hb hby at_403) rfl k_) ?_
              show own_G _ _ _ _ (T_24.setTop (mkF m 405 #[.val (.int p0), .val (.int p1), .val (.long p2), .second, .val (.long p3), .second, .val (.int p4), .val (.long p5), .second, .val (.int u9), .val (.int u10), .val (.int u11), .val (.int u12), .val (.int u13), .val (.int u14), .val (.int u15), .val (.int u16), .val (.int u17), .val (.int u18), .val (.int u19), .val (.int u20), .val (.long u21), .second, .val (.long u23), .second, .val (.ref r_1), .val (.ref r_4), .val (.ref r_7), .val (.ref r_10), .val (.ref a_12), .val (.int ((Jvm.Free.XT.ushr p4 (8 : Int32)) &&& (3 : Int32))), .val (.ref a_19), .unset, .unset] [(.long u23)]))
              refine own_G.go (fun t_ k_ => XS.lload X_24.here hx rfl (hb hby at_405) rfl k_) ?_
              show own_G _ _ _ _ (T_24.setTop (mkF m 407 #[.val (.int p0), .val (.int p1), .val (.long p2), .second, .val (.long p3), .second, .val (.int p4), .val (.long p5), .second, .val (.int u9), .val (.int u10), .val (.int u11), .val (.int u12), .val (.int u13), .val (.int u14), .val (.int u15), .val (.int u16), .val (.int u17), .val (.int u18), .val (.int u19), .val (.int u20), .val (.long u21), .second, .val (.long u23), .second, .val (.ref r_1), .val (.ref r_4), .val (.ref r_7), .val (.ref r_10), .val (.ref a_12), .val (.int ((Jvm.Free.XT.ushr p4 (8 : Int32)) &&& (3 : Int32))), .val (.ref a_19), .unset, .unset] [(.long p3), (.long u23)]))
              refine own_G.go (fun t_ k_ => XS.lcmp X_24.here hx rfl (hb hby at_407) rfl k_) ?_
              show own_G _ _ _ _ (T_24.setTop (mkF m 408 #[.val (.int p0), .val (.int p1), .val (.long p2), .second, .val (.long p3), .second, .val (.int p4), .val (.long p5), .second, .val (.int u9), .val (.int u10), .val (.int u11), .val (.int u12), .val (.int u13), .val (.int u14), .val (.int u15), .val (.int u16), .val (.int u17), .val (.int u18), .val (.int u19), .val (.int u20), .val (.long u21), .second, .val (.long u23), .second, .val (.ref r_1), .val (.ref r_4), .val (.ref r_7), .val (.ref r_10), .val (.ref a_12), .val (.int ((Jvm.Free.XT.ushr p4 (8 : Int32)) &&& (3 : Int32))), .val (.ref a_19), .unset, .unset] [(.int (lcmpW u23 p3))]))
              by_cases hg : (lcmpW u23 p3) = (0 : Int32)
              · refine own_G.go (fun t_ k_ => XS.ifNo X_24.here hx rfl (hb hby at_408) rfl ((if0 _ _).trans (teq hg).2) k_) ?_
                show own_G _ _ _ _ (T_24.setTop (mkF m 411 #[.val (.int p0), .val (.int p1), .val (.long p2), .second, .val (.long p3), .second, .val (.int p4), .val (.long p5), .second, .val (.int u9), .val (.int u10), .val (.int u11), .val (.int u12), .val (.int u13), .val (.int u14), .val (.int u15), .val (.int u16), .val (.int u17), .val (.int u18), .val (.int u19), .val (.int u20), .val (.long u21), .second, .val (.long u23), .second, .val (.ref r_1), .val (.ref r_4), .val (.ref r_7), .val (.ref r_10), .val (.ref a_12), .val (.int ((Jvm.Free.XT.ushr p4 (8 : Int32)) &&& (3 : Int32))), .val (.ref a_19), .unset, .unset] []))
                refine own_G.go (fun t_ k_ => XS.iconst X_24.here hx rfl (hb hby at_411) k_) ?_
                show own_G _ _ _ _ (T_24.setTop (mkF m 412 #[.val (.int p0), .val (.int p1), .val (.long p2), .second, .val (.long p3), .second, .val (.int p4), .val (.long p5), .second, .val (.int u9), .val (.int u10), .val (.int u11), .val (.int u12), .val (.int u13), .val (.int u14), .val (.int u15), .val (.int u16), .val (.int u17), .val (.int u18), .val (.int u19), .val (.int u20), .val (.long u21), .second, .val (.long u23), .second, .val (.ref r_1), .val (.ref r_4), .val (.ref r_7), .val (.ref r_10), .val (.ref a_12), .val (.int ((Jvm.Free.XT.ushr p4 (8 : Int32)) &&& (3 : Int32))), .val (.ref a_19), .unset, .unset] [(.int (1 : Int32))]))
                refine own_G.go (fun t_ k_ => XS.goto X_24.here hx rfl (pc0 := 412) (pc' := 416) rfl (hb hby at_412) (by decide) (by decide) k_) ?_
                show own_G _ _ _ _ (T_24.setTop (mkF m 416 #[.val (.int p0), .val (.int p1), .val (.long p2), .second, .val (.long p3), .second, .val (.int p4), .val (.long p5), .second, .val (.int u9), .val (.int u10), .val (.int u11), .val (.int u12), .val (.int u13), .val (.int u14), .val (.int u15), .val (.int u16), .val (.int u17), .val (.int u18), .val (.int u19), .val (.int u20), .val (.long u21), .second, .val (.long u23), .second, .val (.ref r_1), .val (.ref r_4), .val (.ref r_7), .val (.ref r_10), .val (.ref a_12), .val (.int ((Jvm.Free.XT.ushr p4 (8 : Int32)) &&& (3 : Int32))), .val (.ref a_19), .unset, .unset] [(.int (1 : Int32))]))
                refine own_G.go (fun t_ k_ => XS.istore X_24.here hx rfl (hb hby at_416) rfl (l' := #[.val (.int p0), .val (.int p1), .val (.long p2), .second, .val (.long p3), .second, .val (.int p4), .val (.long p5), .second, .val (.int u9), .val (.int u10), .val (.int u11), .val (.int u12), .val (.int u13), .val (.int u14), .val (.int u15), .val (.int u16), .val (.int u17), .val (.int u18), .val (.int u19), .val (.int u20), .val (.long u21), .second, .val (.long u23), .second, .val (.ref r_1), .val (.ref r_4), .val (.ref r_7), .val (.ref r_10), .val (.ref a_12), .val (.int ((Jvm.Free.XT.ushr p4 (8 : Int32)) &&& (3 : Int32))), .val (.ref a_19), .val (.int (1 : Int32)), .unset]) rfl k_) ?_
                show own_G _ _ _ _ (T_24.setTop (mkF m 418 #[.val (.int p0), .val (.int p1), .val (.long p2), .second, .val (.long p3), .second, .val (.int p4), .val (.long p5), .second, .val (.int u9), .val (.int u10), .val (.int u11), .val (.int u12), .val (.int u13), .val (.int u14), .val (.int u15), .val (.int u16), .val (.int u17), .val (.int u18), .val (.int u19), .val (.int u20), .val (.long u21), .second, .val (.long u23), .second, .val (.ref r_1), .val (.ref r_4), .val (.ref r_7), .val (.ref r_10), .val (.ref a_12), .val (.int ((Jvm.Free.XT.ushr p4 (8 : Int32)) &&& (3 : Int32))), .val (.ref a_19), .val (.int (1 : Int32)), .unset] []))
                refine own_G.go (fun t_ k_ => XS.aload X_24.here hx rfl (hb hby at_418) rfl rfl k_) ?_
                show own_G _ _ _ _ (T_24.setTop (mkF m 420 #[.val (.int p0), .val (.int p1), .val (.long p2), .second, .val (.long p3), .second, .val (.int p4), .val (.long p5), .second, .val (.int u9), .val (.int u10), .val (.int u11), .val (.int u12), .val (.int u13), .val (.int u14), .val (.int u15), .val (.int u16), .val (.int u17), .val (.int u18), .val (.int u19), .val (.int u20), .val (.long u21), .second, .val (.long u23), .second, .val (.ref r_1), .val (.ref r_4), .val (.ref r_7), .val (.ref r_10), .val (.ref a_12), .val (.int ((Jvm.Free.XT.ushr p4 (8 : Int32)) &&& (3 : Int32))), .val (.ref a_19), .val (.int (1 : Int32)), .unset] [(.ref a_12)]))
                refine own_G.go (fun t_ k_ => XS.aload X_24.here hx rfl (hb hby at_420) rfl rfl k_) ?_
                show own_G _ _ _ _ (T_24.setTop (mkF m 422 #[.val (.int p0), .val (.int p1), .val (.long p2), .second, .val (.long p3), .second, .val (.int p4), .val (.long p5), .second, .val (.int u9), .val (.int u10), .val (.int u11), .val (.int u12), .val (.int u13), .val (.int u14), .val (.int u15), .val (.int u16), .val (.int u17), .val (.int u18), .val (.int u19), .val (.int u20), .val (.long u21), .second, .val (.long u23), .second, .val (.ref r_1), .val (.ref r_4), .val (.ref r_7), .val (.ref r_10), .val (.ref a_12), .val (.int ((Jvm.Free.XT.ushr p4 (8 : Int32)) &&& (3 : Int32))), .val (.ref a_19), .val (.int (1 : Int32)), .unset] [(.ref a_19), (.ref a_12)]))
                have Ex_14'_25 : Exa Z T_21.heap a_12 "com/example/kommit/kommit/KeyCounters$Entry" := ((Ex_14.ext E_19).keep K_21)
                have G1_14'_26 : Fld Z T_21.heap a_12 "com/example/kommit/kommit/KeyCounters$Entry" "kind" "Ljava/lang/String;" (.ref r_1) := ((G1_14.ext E_19).keep K_21 (ninS (Nat.ne_of_lt (Nat.lt_of_lt_of_le (Nat.lt_of_lt_of_le A_12.lt K_14.1) (Nat.le_of_eq g_19.symm))) nin0))
                have G2_14'_27 : Fld Z T_21.heap a_12 "com/example/kommit/kommit/KeyCounters$Entry" "name" "Ljava/lang/String;" (.ref r_4) := ((G2_14.ext E_19).keep K_21 (ninS (Nat.ne_of_lt (Nat.lt_of_lt_of_le (Nat.lt_of_lt_of_le A_12.lt K_14.1) (Nat.le_of_eq g_19.symm))) nin0))
                have G3_14'_28 : Fld Z T_21.heap a_12 "com/example/kommit/kommit/KeyCounters$Entry" "first" "J" (.long p2) := ((G3_14.ext E_19).keep K_21 (ninS (Nat.ne_of_lt (Nat.lt_of_lt_of_le (Nat.lt_of_lt_of_le A_12.lt K_14.1) (Nat.le_of_eq g_19.symm))) nin0))
                have G4_14'_29 : Fld Z T_21.heap a_12 "com/example/kommit/kommit/KeyCounters$Entry" "second" "J" (.long p3) := ((G4_14.ext E_19).keep K_21 (ninS (Nat.ne_of_lt (Nat.lt_of_lt_of_le (Nat.lt_of_lt_of_le A_12.lt K_14.1) (Nat.le_of_eq g_19.symm))) nin0))
                have Ex_1'_30 : Exa Z T_21.heap r_1 "java/lang/String" := (((((((Ex_1.keep K_4).keep K_7).keep K_10).ext E_12).keep K_14).ext E_19).keep K_21)
                have Fc_1'_31 : Fld Z T_21.heap r_1 "java/lang/String" "coder" "B" (.int 0) := (((((((Fc_1.keep K_4 nin0).keep K_7 nin0).keep K_10 nin0).ext E_12).keep K_14 (ninS (Nat.ne_of_lt (Nat.lt_of_lt_of_le (Nat.lt_of_lt_of_le Ex_1.lt (Nat.le_trans (Nat.le_trans K_4.1 K_7.1) K_10.1)) (Nat.le_of_eq g_12.symm))) nin0)).ext E_19).keep K_21 (ninS (Nat.ne_of_lt (Nat.lt_of_lt_of_le (Nat.lt_of_lt_of_le Ex_1.lt (Nat.le_trans (Nat.le_trans (Nat.le_trans (Nat.le_trans K_4.1 K_7.1) K_10.1) E_12.1) K_14.1)) (Nat.le_of_eq g_19.symm))) nin0))
                have Fv_1'_32 : Fld Z T_21.heap r_1 "java/lang/String" "value" "[B" (.ref t_1) := (((((((Fv_1.keep K_4 nin0).keep K_7 nin0).keep K_10 nin0).ext E_12).keep K_14 (ninS (Nat.ne_of_lt (Nat.lt_of_lt_of_le (Nat.lt_of_lt_of_le Ex_1.lt (Nat.le_trans (Nat.le_trans K_4.1 K_7.1) K_10.1)) (Nat.le_of_eq g_12.symm))) nin0)).ext E_19).keep K_21 (ninS (Nat.ne_of_lt (Nat.lt_of_lt_of_le (Nat.lt_of_lt_of_le Ex_1.lt (Nat.le_trans (Nat.le_trans (Nat.le_trans (Nat.le_trans K_4.1 K_7.1) K_10.1) E_12.1) K_14.1)) (Nat.le_of_eq g_19.symm))) nin0))
                have Kb_1'_33 : Arv Z T_21.heap t_1 kb_1 .byte (Int32.ofNat (own_cs u9 u10 u11).length) (((own_cs u9 u10 u11).map (fun c => c.toInt8.toInt32)).map Value.int) (.int 0) := (((((((Kb_1.keep K_4 nin0).keep K_7 nin0).keep K_10 nin0).ext E_12).keep K_14 (ninS (Nat.ne_of_lt (Nat.lt_of_lt_of_le (Nat.lt_of_lt_of_le Kb_1.lt (Nat.le_trans (Nat.le_trans K_4.1 K_7.1) K_10.1)) (Nat.le_of_eq g_12.symm))) nin0)).ext E_19).keep K_21 (ninS (Nat.ne_of_lt (Nat.lt_of_lt_of_le (Nat.lt_of_lt_of_le Kb_1.lt (Nat.le_trans (Nat.le_trans (Nat.le_trans (Nat.le_trans K_4.1 K_7.1) K_10.1) E_12.1) K_14.1)) (Nat.le_of_eq g_19.symm))) nin0))
                have Ex_4'_34 : Exa Z T_21.heap r_4 "java/lang/String" := ((((((Ex_4.keep K_7).keep K_10).ext E_12).keep K_14).ext E_19).keep K_21)
                have Fc_4'_35 : Fld Z T_21.heap r_4 "java/lang/String" "coder" "B" (.int 0) := ((((((Fc_4.keep K_7 nin0).keep K_10 nin0).ext E_12).keep K_14 (ninS (Nat.ne_of_lt (Nat.lt_of_lt_of_le (Nat.lt_of_lt_of_le Ex_4.lt (Nat.le_trans K_7.1 K_10.1)) (Nat.le_of_eq g_12.symm))) nin0)).ext E_19).keep K_21 (ninS (Nat.ne_of_lt (Nat.lt_of_lt_of_le (Nat.lt_of_lt_of_le Ex_4.lt (Nat.le_trans (Nat.le_trans (Nat.le_trans K_7.1 K_10.1) E_12.1) K_14.1)) (Nat.le_of_eq g_19.symm))) nin0))
                have Fv_4'_36 : Fld Z T_21.heap r_4 "java/lang/String" "value" "[B" (.ref t_4) := ((((((Fv_4.keep K_7 nin0).keep K_10 nin0).ext E_12).keep K_14 (ninS (Nat.ne_of_lt (Nat.lt_of_lt_of_le (Nat.lt_of_lt_of_le Ex_4.lt (Nat.le_trans K_7.1 K_10.1)) (Nat.le_of_eq g_12.symm))) nin0)).ext E_19).keep K_21 (ninS (Nat.ne_of_lt (Nat.lt_of_lt_of_le (Nat.lt_of_lt_of_le Ex_4.lt (Nat.le_trans (Nat.le_trans (Nat.le_trans K_7.1 K_10.1) E_12.1) K_14.1)) (Nat.le_of_eq g_19.symm))) nin0))
                have Kb_4'_37 : Arv Z T_21.heap t_4 kb_4 .byte (Int32.ofNat (own_cs u15 u16 u17).length) (((own_cs u15 u16 u17).map (fun c => c.toInt8.toInt32)).map Value.int) (.int 0) := ((((((Kb_4.keep K_7 nin0).keep K_10 nin0).ext E_12).keep K_14 (ninS (Nat.ne_of_lt (Nat.lt_of_lt_of_le (Nat.lt_of_lt_of_le Kb_4.lt (Nat.le_trans K_7.1 K_10.1)) (Nat.le_of_eq g_12.symm))) nin0)).ext E_19).keep K_21 (ninS (Nat.ne_of_lt (Nat.lt_of_lt_of_le (Nat.lt_of_lt_of_le Kb_4.lt (Nat.le_trans (Nat.le_trans (Nat.le_trans K_7.1 K_10.1) E_12.1) K_14.1)) (Nat.le_of_eq g_19.symm))) nin0))
                have Ex_7'_38 : Exa Z T_21.heap r_7 "java/lang/String" := (((((Ex_7.keep K_10).ext E_12).keep K_14).ext E_19).keep K_21)
                have Fc_7'_39 : Fld Z T_21.heap r_7 "java/lang/String" "coder" "B" (.int 0) := (((((Fc_7.keep K_10 nin0).ext E_12).keep K_14 (ninS (Nat.ne_of_lt (Nat.lt_of_lt_of_le (Nat.lt_of_lt_of_le Ex_7.lt K_10.1) (Nat.le_of_eq g_12.symm))) nin0)).ext E_19).keep K_21 (ninS (Nat.ne_of_lt (Nat.lt_of_lt_of_le (Nat.lt_of_lt_of_le Ex_7.lt (Nat.le_trans (Nat.le_trans K_10.1 E_12.1) K_14.1)) (Nat.le_of_eq g_19.symm))) nin0))
                have Fv_7'_40 : Fld Z T_21.heap r_7 "java/lang/String" "value" "[B" (.ref t_7) := (((((Fv_7.keep K_10 nin0).ext E_12).keep K_14 (ninS (Nat.ne_of_lt (Nat.lt_of_lt_of_le (Nat.lt_of_lt_of_le Ex_7.lt K_10.1) (Nat.le_of_eq g_12.symm))) nin0)).ext E_19).keep K_21 (ninS (Nat.ne_of_lt (Nat.lt_of_lt_of_le (Nat.lt_of_lt_of_le Ex_7.lt (Nat.le_trans (Nat.le_trans K_10.1 E_12.1) K_14.1)) (Nat.le_of_eq g_19.symm))) nin0))
                have Kb_7'_41 : Arv Z T_21.heap t_7 kb_7 .byte (Int32.ofNat (own_cs u12 u13 u14).length) (((own_cs u12 u13 u14).map (fun c => c.toInt8.toInt32)).map Value.int) (.int 0) := (((((Kb_7.keep K_10 nin0).ext E_12).keep K_14 (ninS (Nat.ne_of_lt (Nat.lt_of_lt_of_le (Nat.lt_of_lt_of_le Kb_7.lt K_10.1) (Nat.le_of_eq g_12.symm))) nin0)).ext E_19).keep K_21 (ninS (Nat.ne_of_lt (Nat.lt_of_lt_of_le (Nat.lt_of_lt_of_le Kb_7.lt (Nat.le_trans (Nat.le_trans K_10.1 E_12.1) K_14.1)) (Nat.le_of_eq g_19.symm))) nin0))
                have Ex_10'_42 : Exa Z T_21.heap r_10 "java/lang/String" := ((((Ex_10.ext E_12).keep K_14).ext E_19).keep K_21)
                have Fc_10'_43 : Fld Z T_21.heap r_10 "java/lang/String" "coder" "B" (.int 0) := ((((Fc_10.ext E_12).keep K_14 (ninS (Nat.ne_of_lt (Nat.lt_of_lt_of_le Ex_10.lt (Nat.le_of_eq g_12.symm))) nin0)).ext E_19).keep K_21 (ninS (Nat.ne_of_lt (Nat.lt_of_lt_of_le (Nat.lt_of_lt_of_le Ex_10.lt (Nat.le_trans E_12.1 K_14.1)) (Nat.le_of_eq g_19.symm))) nin0))
                have Fv_10'_44 : Fld Z T_21.heap r_10 "java/lang/String" "value" "[B" (.ref t_10) := ((((Fv_10.ext E_12).keep K_14 (ninS (Nat.ne_of_lt (Nat.lt_of_lt_of_le Ex_10.lt (Nat.le_of_eq g_12.symm))) nin0)).ext E_19).keep K_21 (ninS (Nat.ne_of_lt (Nat.lt_of_lt_of_le (Nat.lt_of_lt_of_le Ex_10.lt (Nat.le_trans E_12.1 K_14.1)) (Nat.le_of_eq g_19.symm))) nin0))
                have Kb_10'_45 : Arv Z T_21.heap t_10 kb_10 .byte (Int32.ofNat (own_cs u18 u19 u20).length) (((own_cs u18 u19 u20).map (fun c => c.toInt8.toInt32)).map Value.int) (.int 0) := ((((Kb_10.ext E_12).keep K_14 (ninS (Nat.ne_of_lt (Nat.lt_of_lt_of_le Kb_10.lt (Nat.le_of_eq g_12.symm))) nin0)).ext E_19).keep K_21 (ninS (Nat.ne_of_lt (Nat.lt_of_lt_of_le (Nat.lt_of_lt_of_le Kb_10.lt (Nat.le_trans E_12.1 K_14.1)) (Nat.le_of_eq g_19.symm))) nin0))
                have O_46d : Old Z n0 T_21.heap := (((((O_9d.keep K_10 all0).ext E_12).keep K_14 (allS g0_a_12 all0)).ext E_19).keep K_21 (allS g0_a_19 all0))
                obtain ⟨cq_47, kq_47, q_47a, q_47b, q_47c⟩ := isOf hZ_10 eh_24 Ex_14'_25
                obtain ⟨_, T_47, L_47, Q_47, X_47, st_47⟩ := own_callV X_24 hx (z := (⟨"com/example/kommit/kommit/KeyCounters$Entry", "equals", "(Ljava/lang/Object;)Z"⟩ : MethodName)) hown_10 (mvT hZ_10 (own_w hw 44 rfl)) (mvT hZ_10 (own_w hw 45 rfl)) (notFace_of_selects (args := #[]) (mvT hZ_10 (own_w hw 47 rfl))) (mvT hZ_10 (own_w hw 47 rfl)) (mvT hZ_10 (own_w hw 46 rfl)) (by decide) (Q := (Qeq ((own_cs u9 u10 u11) = (own_cs u12 u13 u14) ∧ (own_cs u15 u16 u17) = (own_cs u18 u19 u20) ∧ u21 = p2 ∧ u23 = p3) T_21.heap)) (backOf (W := 0) (rm_eqO l Z a0 hw [] a_12 a_19 r_1 r_4 r_7 r_10 t_1 t_4 t_7 t_10 kb_1 kb_4 kb_7 kb_10 (own_cs u9 u10 u11) (own_cs u15 u16 u17) (own_cs u12 u13 u14) (own_cs u18 u19 u20) p2 p3 u21 u23 zc T_21.heap n0 (Nat.le_trans Z0 (Nat.le_trans (Nat.le_trans (Nat.le_trans (Nat.le_trans (Nat.le_trans (Nat.le_trans (Nat.le_trans K_1.1 K_4.1) K_7.1) K_10.1) E_12.1) K_14.1) E_19.1) K_21.1)) Ex_14'_25 Ex_21 G1_14'_26 G2_14'_27 G3_14'_28 G4_14'_29 G1_21 G2_21 G3_21 G4_21 Ex_1'_30 Fc_1'_31 Fv_1'_32 Kb_1'_33 (own_cs_b h10 h11) (own_cs_len _ _ _) Ex_4'_34 Fc_4'_35 Fv_4'_36 Kb_4'_37 (own_cs_b h16 h17) (own_cs_len _ _ _) Ex_7'_38 Fc_7'_39 Fv_7'_40 Kb_7'_41 (own_cs_b h13 h14) (own_cs_len _ _ _) Ex_10'_42 Fc_10'_43 Fv_10'_44 Kb_10'_45 (own_cs_b h19 h20) (own_cs_len _ _ _) O2 P5 O_46d) hZ_10 (own_w hw 48 rfl) (own_w hw 28 rfl) (by decide) (by decide)) q_47a q_47c (g := (mkF m 422 #[.val (.int p0), .val (.int p1), .val (.long p2), .second, .val (.long p3), .second, .val (.int p4), .val (.long p5), .second, .val (.int u9), .val (.int u10), .val (.int u11), .val (.int u12), .val (.int u13), .val (.int u14), .val (.int u15), .val (.int u16), .val (.int u17), .val (.int u18), .val (.int u19), .val (.int u20), .val (.long u21), .second, .val (.long u23), .second, .val (.ref r_1), .val (.ref r_4), .val (.ref r_7), .val (.ref r_10), .val (.ref a_12), .val (.int ((Jvm.Free.XT.ushr p4 (8 : Int32)) &&& (3 : Int32))), .val (.ref a_19), .val (.int (1 : Int32)), .unset] [(.ref a_19), (.ref a_12)])) rfl (by rw [hml]; rfl) (argsL := [(.ref a_19)]) (rest := []) (lenOf pd_3 rfl) rfl (by show 2 * 0 + _ ≤ _; exact Nat.le_of_eq rfl) (hb hby at_422) eh_24 rfl (by decide) (by decide)
                obtain ⟨⟨z_47, rfl, hz_47⟩, rfl, eh_47⟩ := Q_47
                refine own_G.via st_47 ?_
                have N_47 := Fr.app N_24 (Fr.nil n0)
                show own_G _ _ _ _ (T_47.setTop (mkF m 425 #[.val (.int p0), .val (.int p1), .val (.long p2), .second, .val (.long p3), .second, .val (.int p4), .val (.long p5), .second, .val (.int u9), .val (.int u10), .val (.int u11), .val (.int u12), .val (.int u13), .val (.int u14), .val (.int u15), .val (.int u16), .val (.int u17), .val (.int u18), .val (.int u19), .val (.int u20), .val (.long u21), .second, .val (.long u23), .second, .val (.ref r_1), .val (.ref r_4), .val (.ref r_7), .val (.ref r_10), .val (.ref a_12), .val (.int ((Jvm.Free.XT.ushr p4 (8 : Int32)) &&& (3 : Int32))), .val (.ref a_19), .val (.int (1 : Int32)), .unset] [(.int z_47)]))
                refine own_G.go (fun t_ k_ => XS.iload X_47.here hx rfl (hb hby at_425) rfl k_) ?_
                show own_G _ _ _ _ (T_47.setTop (mkF m 427 #[.val (.int p0), .val (.int p1), .val (.long p2), .second, .val (.long p3), .second, .val (.int p4), .val (.long p5), .second, .val (.int u9), .val (.int u10), .val (.int u11), .val (.int u12), .val (.int u13), .val (.int u14), .val (.int u15), .val (.int u16), .val (.int u17), .val (.int u18), .val (.int u19), .val (.int u20), .val (.long u21), .second, .val (.long u23), .second, .val (.ref r_1), .val (.ref r_4), .val (.ref r_7), .val (.ref r_10), .val (.ref a_12), .val (.int ((Jvm.Free.XT.ushr p4 (8 : Int32)) &&& (3 : Int32))), .val (.ref a_19), .val (.int (1 : Int32)), .unset] [(.int (1 : Int32)), (.int z_47)]))
                refine own_G.go (fun t_ k_ => XS.icmpNo X_47.here hx rfl (hb hby at_427) rfl (teq (own_z1 hz_47 ⟨hs1, hs2, (lw_eq _ _).mp hf, (lw_eq _ _).mp hg⟩ : z_47 = (1 : Int32))).2 k_) ?_
                show own_G _ _ _ _ (T_47.setTop (mkF m 430 #[.val (.int p0), .val (.int p1), .val (.long p2), .second, .val (.long p3), .second, .val (.int p4), .val (.long p5), .second, .val (.int u9), .val (.int u10), .val (.int u11), .val (.int u12), .val (.int u13), .val (.int u14), .val (.int u15), .val (.int u16), .val (.int u17), .val (.int u18), .val (.int u19), .val (.int u20), .val (.long u21), .second, .val (.long u23), .second, .val (.ref r_1), .val (.ref r_4), .val (.ref r_7), .val (.ref r_10), .val (.ref a_12), .val (.int ((Jvm.Free.XT.ushr p4 (8 : Int32)) &&& (3 : Int32))), .val (.ref a_19), .val (.int (1 : Int32)), .unset] []))
                refine own_G.go (fun t_ k_ => XS.aload X_47.here hx rfl (hb hby at_430) rfl rfl k_) ?_
                show own_G _ _ _ _ (T_47.setTop (mkF m 432 #[.val (.int p0), .val (.int p1), .val (.long p2), .second, .val (.long p3), .second, .val (.int p4), .val (.long p5), .second, .val (.int u9), .val (.int u10), .val (.int u11), .val (.int u12), .val (.int u13), .val (.int u14), .val (.int u15), .val (.int u16), .val (.int u17), .val (.int u18), .val (.int u19), .val (.int u20), .val (.long u21), .second, .val (.long u23), .second, .val (.ref r_1), .val (.ref r_4), .val (.ref r_7), .val (.ref r_10), .val (.ref a_12), .val (.int ((Jvm.Free.XT.ushr p4 (8 : Int32)) &&& (3 : Int32))), .val (.ref a_19), .val (.int (1 : Int32)), .unset] [(.ref a_19)]))
                refine own_G.go (fun t_ k_ => XS.aload X_47.here hx rfl (hb hby at_432) rfl rfl k_) ?_
                show own_G _ _ _ _ (T_47.setTop (mkF m 434 #[.val (.int p0), .val (.int p1), .val (.long p2), .second, .val (.long p3), .second, .val (.int p4), .val (.long p5), .second, .val (.int u9), .val (.int u10), .val (.int u11), .val (.int u12), .val (.int u13), .val (.int u14), .val (.int u15), .val (.int u16), .val (.int u17), .val (.int u18), .val (.int u19), .val (.int u20), .val (.long u21), .second, .val (.long u23), .second, .val (.ref r_1), .val (.ref r_4), .val (.ref r_7), .val (.ref r_10), .val (.ref a_12), .val (.int ((Jvm.Free.XT.ushr p4 (8 : Int32)) &&& (3 : Int32))), .val (.ref a_19), .val (.int (1 : Int32)), .unset] [(.ref a_12), (.ref a_19)]))
                obtain ⟨cq_48, kq_48, q_48a, q_48b, q_48c⟩ := isOf hZ_10 eh_47 Ex_21
                obtain ⟨_, T_48, L_48, Q_48, X_48, st_48⟩ := own_callV X_47 hx (z := (⟨"com/example/kommit/kommit/KeyCounters$Entry", "equals", "(Ljava/lang/Object;)Z"⟩ : MethodName)) hown_10 (mvT hZ_10 (own_w hw 44 rfl)) (mvT hZ_10 (own_w hw 45 rfl)) (notFace_of_selects (args := #[]) (mvT hZ_10 (own_w hw 47 rfl))) (mvT hZ_10 (own_w hw 47 rfl)) (mvT hZ_10 (own_w hw 46 rfl)) (by decide) (Q := (Qeq ((own_cs u12 u13 u14) = (own_cs u9 u10 u11) ∧ (own_cs u18 u19 u20) = (own_cs u15 u16 u17) ∧ p2 = u21 ∧ p3 = u23) T_21.heap)) (backOf (W := 0) (rm_eqO l Z a0 hw [] a_19 a_12 r_7 r_10 r_1 r_4 t_7 t_10 t_1 t_4 kb_7 kb_10 kb_1 kb_4 (own_cs u12 u13 u14) (own_cs u18 u19 u20) (own_cs u9 u10 u11) (own_cs u15 u16 u17) u21 u23 p2 p3 zc T_21.heap n0 (Nat.le_trans Z0 (Nat.le_trans (Nat.le_trans (Nat.le_trans (Nat.le_trans (Nat.le_trans (Nat.le_trans (Nat.le_trans K_1.1 K_4.1) K_7.1) K_10.1) E_12.1) K_14.1) E_19.1) K_21.1)) Ex_21 Ex_14'_25 G1_21 G2_21 G3_21 G4_21 G1_14'_26 G2_14'_27 G3_14'_28 G4_14'_29 Ex_7'_38 Fc_7'_39 Fv_7'_40 Kb_7'_41 (own_cs_b h13 h14) (own_cs_len _ _ _) Ex_10'_42 Fc_10'_43 Fv_10'_44 Kb_10'_45 (own_cs_b h19 h20) (own_cs_len _ _ _) Ex_1'_30 Fc_1'_31 Fv_1'_32 Kb_1'_33 (own_cs_b h10 h11) (own_cs_len _ _ _) Ex_4'_34 Fc_4'_35 Fv_4'_36 Kb_4'_37 (own_cs_b h16 h17) (own_cs_len _ _ _) O2 P5 O_46d) hZ_10 (own_w hw 48 rfl) (own_w hw 28 rfl) (by decide) (by decide)) q_48a q_48c (g := (mkF m 434 #[.val (.int p0), .val (.int p1), .val (.long p2), .second, .val (.long p3), .second, .val (.int p4), .val (.long p5), .second, .val (.int u9), .val (.int u10), .val (.int u11), .val (.int u12), .val (.int u13), .val (.int u14), .val (.int u15), .val (.int u16), .val (.int u17), .val (.int u18), .val (.int u19), .val (.int u20), .val (.long u21), .second, .val (.long u23), .second, .val (.ref r_1), .val (.ref r_4), .val (.ref r_7), .val (.ref r_10), .val (.ref a_12), .val (.int ((Jvm.Free.XT.ushr p4 (8 : Int32)) &&& (3 : Int32))), .val (.ref a_19), .val (.int (1 : Int32)), .unset] [(.ref a_12), (.ref a_19)])) rfl (by rw [hml]; rfl) (argsL := [(.ref a_12)]) (rest := []) (lenOf pd_3 rfl) rfl (by show 2 * 0 + _ ≤ _; exact Nat.le_of_eq rfl) (hb hby at_434) eh_47 rfl (by decide) (by decide)
                obtain ⟨⟨z_48, rfl, hz_48⟩, rfl, eh_48⟩ := Q_48
                refine own_G.via st_48 ?_
                have N_48 := Fr.app N_47 (Fr.nil n0)
                show own_G _ _ _ _ (T_48.setTop (mkF m 437 #[.val (.int p0), .val (.int p1), .val (.long p2), .second, .val (.long p3), .second, .val (.int p4), .val (.long p5), .second, .val (.int u9), .val (.int u10), .val (.int u11), .val (.int u12), .val (.int u13), .val (.int u14), .val (.int u15), .val (.int u16), .val (.int u17), .val (.int u18), .val (.int u19), .val (.int u20), .val (.long u21), .second, .val (.long u23), .second, .val (.ref r_1), .val (.ref r_4), .val (.ref r_7), .val (.ref r_10), .val (.ref a_12), .val (.int ((Jvm.Free.XT.ushr p4 (8 : Int32)) &&& (3 : Int32))), .val (.ref a_19), .val (.int (1 : Int32)), .unset] [(.int z_48)]))
                refine own_G.go (fun t_ k_ => XS.iload X_48.here hx rfl (hb hby at_437) rfl k_) ?_
                show own_G _ _ _ _ (T_48.setTop (mkF m 439 #[.val (.int p0), .val (.int p1), .val (.long p2), .second, .val (.long p3), .second, .val (.int p4), .val (.long p5), .second, .val (.int u9), .val (.int u10), .val (.int u11), .val (.int u12), .val (.int u13), .val (.int u14), .val (.int u15), .val (.int u16), .val (.int u17), .val (.int u18), .val (.int u19), .val (.int u20), .val (.long u21), .second, .val (.long u23), .second, .val (.ref r_1), .val (.ref r_4), .val (.ref r_7), .val (.ref r_10), .val (.ref a_12), .val (.int ((Jvm.Free.XT.ushr p4 (8 : Int32)) &&& (3 : Int32))), .val (.ref a_19), .val (.int (1 : Int32)), .unset] [(.int (1 : Int32)), (.int z_48)]))
                refine own_G.go (fun t_ k_ => XS.icmpNo X_48.here hx rfl (hb hby at_439) rfl (teq (own_z1 hz_48 ⟨hs1.symm, hs2.symm, ((lw_eq _ _).mp hf).symm, ((lw_eq _ _).mp hg).symm⟩ : z_48 = (1 : Int32))).2 k_) ?_
                show own_G _ _ _ _ (T_48.setTop (mkF m 442 #[.val (.int p0), .val (.int p1), .val (.long p2), .second, .val (.long p3), .second, .val (.int p4), .val (.long p5), .second, .val (.int u9), .val (.int u10), .val (.int u11), .val (.int u12), .val (.int u13), .val (.int u14), .val (.int u15), .val (.int u16), .val (.int u17), .val (.int u18), .val (.int u19), .val (.int u20), .val (.long u21), .second, .val (.long u23), .second, .val (.ref r_1), .val (.ref r_4), .val (.ref r_7), .val (.ref r_10), .val (.ref a_12), .val (.int ((Jvm.Free.XT.ushr p4 (8 : Int32)) &&& (3 : Int32))), .val (.ref a_19), .val (.int (1 : Int32)), .unset] []))
                refine own_G.go (fun t_ k_ => XS.iconst X_48.here hx rfl (hb hby at_442) k_) ?_
                show own_G _ _ _ _ (T_48.setTop (mkF m 443 #[.val (.int p0), .val (.int p1), .val (.long p2), .second, .val (.long p3), .second, .val (.int p4), .val (.long p5), .second, .val (.int u9), .val (.int u10), .val (.int u11), .val (.int u12), .val (.int u13), .val (.int u14), .val (.int u15), .val (.int u16), .val (.int u17), .val (.int u18), .val (.int u19), .val (.int u20), .val (.long u21), .second, .val (.long u23), .second, .val (.ref r_1), .val (.ref r_4), .val (.ref r_7), .val (.ref r_10), .val (.ref a_12), .val (.int ((Jvm.Free.XT.ushr p4 (8 : Int32)) &&& (3 : Int32))), .val (.ref a_19), .val (.int (1 : Int32)), .unset] [(.int (1 : Int32))]))
                refine own_G.go (fun t_ k_ => XS.goto X_48.here hx rfl (pc0 := 443) (pc' := 447) rfl (hb hby at_443) (by decide) (by decide) k_) ?_
                show own_G _ _ _ _ (T_48.setTop (mkF m 447 #[.val (.int p0), .val (.int p1), .val (.long p2), .second, .val (.long p3), .second, .val (.int p4), .val (.long p5), .second, .val (.int u9), .val (.int u10), .val (.int u11), .val (.int u12), .val (.int u13), .val (.int u14), .val (.int u15), .val (.int u16), .val (.int u17), .val (.int u18), .val (.int u19), .val (.int u20), .val (.long u21), .second, .val (.long u23), .second, .val (.ref r_1), .val (.ref r_4), .val (.ref r_7), .val (.ref r_10), .val (.ref a_12), .val (.int ((Jvm.Free.XT.ushr p4 (8 : Int32)) &&& (3 : Int32))), .val (.ref a_19), .val (.int (1 : Int32)), .unset] [(.int (1 : Int32))]))
                refine own_G.go (fun t_ k_ => XS.istore X_48.here hx rfl (hb hby at_447) rfl (l' := #[.val (.int p0), .val (.int p1), .val (.long p2), .second, .val (.long p3), .second, .val (.int p4), .val (.long p5), .second, .val (.int u9), .val (.int u10), .val (.int u11), .val (.int u12), .val (.int u13), .val (.int u14), .val (.int u15), .val (.int u16), .val (.int u17), .val (.int u18), .val (.int u19), .val (.int u20), .val (.long u21), .second, .val (.long u23), .second, .val (.ref r_1), .val (.ref r_4), .val (.ref r_7), .val (.ref r_10), .val (.ref a_12), .val (.int ((Jvm.Free.XT.ushr p4 (8 : Int32)) &&& (3 : Int32))), .val (.ref a_19), .val (.int (1 : Int32)), .val (.int (1 : Int32))]) rfl k_) ?_
                show own_G _ _ _ _ (T_48.setTop (mkF m 449 #[.val (.int p0), .val (.int p1), .val (.long p2), .second, .val (.long p3), .second, .val (.int p4), .val (.long p5), .second, .val (.int u9), .val (.int u10), .val (.int u11), .val (.int u12), .val (.int u13), .val (.int u14), .val (.int u15), .val (.int u16), .val (.int u17), .val (.int u18), .val (.int u19), .val (.int u20), .val (.long u21), .second, .val (.long u23), .second, .val (.ref r_1), .val (.ref r_4), .val (.ref r_7), .val (.ref r_10), .val (.ref a_12), .val (.int ((Jvm.Free.XT.ushr p4 (8 : Int32)) &&& (3 : Int32))), .val (.ref a_19), .val (.int (1 : Int32)), .val (.int (1 : Int32))] []))
                refine own_G.go (fun t_ k_ => XS.iload X_48.here hx rfl (hb hby at_449) rfl k_) ?_
                show own_G _ _ _ _ (T_48.setTop (mkF m 451 #[.val (.int p0), .val (.int p1), .val (.long p2), .second, .val (.long p3), .second, .val (.int p4), .val (.long p5), .second, .val (.int u9), .val (.int u10), .val (.int u11), .val (.int u12), .val (.int u13), .val (.int u14), .val (.int u15), .val (.int u16), .val (.int u17), .val (.int u18), .val (.int u19), .val (.int u20), .val (.long u21), .second, .val (.long u23), .second, .val (.ref r_1), .val (.ref r_4), .val (.ref r_7), .val (.ref r_10), .val (.ref a_12), .val (.int ((Jvm.Free.XT.ushr p4 (8 : Int32)) &&& (3 : Int32))), .val (.ref a_19), .val (.int (1 : Int32)), .val (.int (1 : Int32))] [(.int ((Jvm.Free.XT.ushr p4 (8 : Int32)) &&& (3 : Int32)))]))
                refine own_G.go (fun t_ k_ => XS.iconst X_48.here hx rfl (hb hby at_451) k_) ?_
                show own_G _ _ _ _ (T_48.setTop (mkF m 452 #[.val (.int p0), .val (.int p1), .val (.long p2), .second, .val (.long p3), .second, .val (.int p4), .val (.long p5), .second, .val (.int u9), .val (.int u10), .val (.int u11), .val (.int u12), .val (.int u13), .val (.int u14), .val (.int u15), .val (.int u16), .val (.int u17), .val (.int u18), .val (.int u19), .val (.int u20), .val (.long u21), .second, .val (.long u23), .second, .val (.ref r_1), .val (.ref r_4), .val (.ref r_7), .val (.ref r_10), .val (.ref a_12), .val (.int ((Jvm.Free.XT.ushr p4 (8 : Int32)) &&& (3 : Int32))), .val (.ref a_19), .val (.int (1 : Int32)), .val (.int (1 : Int32))] [(.int (3 : Int32)), (.int ((Jvm.Free.XT.ushr p4 (8 : Int32)) &&& (3 : Int32)))]))
                by_cases hm3 : ((Jvm.Free.XT.ushr p4 (8 : Int32)) &&& (3 : Int32)) = (3 : Int32)
                · refine own_G.go (fun t_ k_ => XS.icmpNo X_48.here hx rfl (hb hby at_452) rfl (teq hm3).2 k_) ?_
                  show own_G _ _ _ _ (T_48.setTop (mkF m 455 #[.val (.int p0), .val (.int p1), .val (.long p2), .second, .val (.long p3), .second, .val (.int p4), .val (.long p5), .second, .val (.int u9), .val (.int u10), .val (.int u11), .val (.int u12), .val (.int u13), .val (.int u14), .val (.int u15), .val (.int u16), .val (.int u17), .val (.int u18), .val (.int u19), .val (.int u20), .val (.long u21), .second, .val (.long u23), .second, .val (.ref r_1), .val (.ref r_4), .val (.ref r_7), .val (.ref r_10), .val (.ref a_12), .val (.int ((Jvm.Free.XT.ushr p4 (8 : Int32)) &&& (3 : Int32))), .val (.ref a_19), .val (.int (1 : Int32)), .val (.int (1 : Int32))] []))
                  refine own_G.go (fun t_ k_ => XS.iload X_48.here hx rfl (hb hby at_455) rfl k_) ?_
                  show own_G _ _ _ _ (T_48.setTop (mkF m 457 #[.val (.int p0), .val (.int p1), .val (.long p2), .second, .val (.long p3), .second, .val (.int p4), .val (.long p5), .second, .val (.int u9), .val (.int u10), .val (.int u11), .val (.int u12), .val (.int u13), .val (.int u14), .val (.int u15), .val (.int u16), .val (.int u17), .val (.int u18), .val (.int u19), .val (.int u20), .val (.long u21), .second, .val (.long u23), .second, .val (.ref r_1), .val (.ref r_4), .val (.ref r_7), .val (.ref r_10), .val (.ref a_12), .val (.int ((Jvm.Free.XT.ushr p4 (8 : Int32)) &&& (3 : Int32))), .val (.ref a_19), .val (.int (1 : Int32)), .val (.int (1 : Int32))] [(.int (1 : Int32))]))
                  refine own_G.go (fun t_ k_ => XS.ifNo X_48.here hx rfl (hb hby at_457) rfl ((if0 _ _).trans (feq (by decide : ¬ ((1 : Int32) = (0 : Int32)))).1) k_) ?_
                  show own_G _ _ _ _ (T_48.setTop (mkF m 460 #[.val (.int p0), .val (.int p1), .val (.long p2), .second, .val (.long p3), .second, .val (.int p4), .val (.long p5), .second, .val (.int u9), .val (.int u10), .val (.int u11), .val (.int u12), .val (.int u13), .val (.int u14), .val (.int u15), .val (.int u16), .val (.int u17), .val (.int u18), .val (.int u19), .val (.int u20), .val (.long u21), .second, .val (.long u23), .second, .val (.ref r_1), .val (.ref r_4), .val (.ref r_7), .val (.ref r_10), .val (.ref a_12), .val (.int ((Jvm.Free.XT.ushr p4 (8 : Int32)) &&& (3 : Int32))), .val (.ref a_19), .val (.int (1 : Int32)), .val (.int (1 : Int32))] []))
                  refine own_G.go (fun t_ k_ => XS.aload X_48.here hx rfl (hb hby at_460) rfl rfl k_) ?_
                  show own_G _ _ _ _ (T_48.setTop (mkF m 462 #[.val (.int p0), .val (.int p1), .val (.long p2), .second, .val (.long p3), .second, .val (.int p4), .val (.long p5), .second, .val (.int u9), .val (.int u10), .val (.int u11), .val (.int u12), .val (.int u13), .val (.int u14), .val (.int u15), .val (.int u16), .val (.int u17), .val (.int u18), .val (.int u19), .val (.int u20), .val (.long u21), .second, .val (.long u23), .second, .val (.ref r_1), .val (.ref r_4), .val (.ref r_7), .val (.ref r_10), .val (.ref a_12), .val (.int ((Jvm.Free.XT.ushr p4 (8 : Int32)) &&& (3 : Int32))), .val (.ref a_19), .val (.int (1 : Int32)), .val (.int (1 : Int32))] [(.ref a_12)]))
                  refine own_G.go (fun t_ k_ => XS.aload X_48.here hx rfl (hb hby at_462) rfl rfl k_) ?_
                  show own_G _ _ _ _ (T_48.setTop (mkF m 464 #[.val (.int p0), .val (.int p1), .val (.long p2), .second, .val (.long p3), .second, .val (.int p4), .val (.long p5), .second, .val (.int u9), .val (.int u10), .val (.int u11), .val (.int u12), .val (.int u13), .val (.int u14), .val (.int u15), .val (.int u16), .val (.int u17), .val (.int u18), .val (.int u19), .val (.int u20), .val (.long u21), .second, .val (.long u23), .second, .val (.ref r_1), .val (.ref r_4), .val (.ref r_7), .val (.ref r_10), .val (.ref a_12), .val (.int ((Jvm.Free.XT.ushr p4 (8 : Int32)) &&& (3 : Int32))), .val (.ref a_19), .val (.int (1 : Int32)), .val (.int (1 : Int32))] [(.ref a_12), (.ref a_12)]))
                  obtain ⟨cq_49, kq_49, q_49a, q_49b, q_49c⟩ := isOf hZ_10 eh_48 Ex_14'_25
                  obtain ⟨_, T_49, L_49, Q_49, X_49, st_49⟩ := own_callV X_48 hx (z := (⟨"com/example/kommit/kommit/KeyCounters$Entry", "equals", "(Ljava/lang/Object;)Z"⟩ : MethodName)) hown_10 (mvT hZ_10 (own_w hw 44 rfl)) (mvT hZ_10 (own_w hw 45 rfl)) (notFace_of_selects (args := #[]) (mvT hZ_10 (own_w hw 47 rfl))) (mvT hZ_10 (own_w hw 47 rfl)) (mvT hZ_10 (own_w hw 46 rfl)) (by decide) (Q := (Qeq ((own_cs u9 u10 u11) = (own_cs u9 u10 u11) ∧ (own_cs u15 u16 u17) = (own_cs u15 u16 u17) ∧ p2 = p2 ∧ p3 = p3) T_21.heap)) (backOf (W := 0) (rm_eqO l Z a0 hw [] a_12 a_12 r_1 r_4 r_1 r_4 t_1 t_4 t_1 t_4 kb_1 kb_4 kb_1 kb_4 (own_cs u9 u10 u11) (own_cs u15 u16 u17) (own_cs u9 u10 u11) (own_cs u15 u16 u17) p2 p3 p2 p3 zc T_21.heap n0 (Nat.le_trans Z0 (Nat.le_trans (Nat.le_trans (Nat.le_trans (Nat.le_trans (Nat.le_trans (Nat.le_trans (Nat.le_trans K_1.1 K_4.1) K_7.1) K_10.1) E_12.1) K_14.1) E_19.1) K_21.1)) Ex_14'_25 Ex_14'_25 G1_14'_26 G2_14'_27 G3_14'_28 G4_14'_29 G1_14'_26 G2_14'_27 G3_14'_28 G4_14'_29 Ex_1'_30 Fc_1'_31 Fv_1'_32 Kb_1'_33 (own_cs_b h10 h11) (own_cs_len _ _ _) Ex_4'_34 Fc_4'_35 Fv_4'_36 Kb_4'_37 (own_cs_b h16 h17) (own_cs_len _ _ _) Ex_1'_30 Fc_1'_31 Fv_1'_32 Kb_1'_33 (own_cs_b h10 h11) (own_cs_len _ _ _) Ex_4'_34 Fc_4'_35 Fv_4'_36 Kb_4'_37 (own_cs_b h16 h17) (own_cs_len _ _ _) O2 P5 O_46d) hZ_10 (own_w hw 48 rfl) (own_w hw 28 rfl) (by decide) (by decide)) q_49a q_49c (g := (mkF m 464 #[.val (.int p0), .val (.int p1), .val (.long p2), .second, .val (.long p3), .second, .val (.int p4), .val (.long p5), .second, .val (.int u9), .val (.int u10), .val (.int u11), .val (.int u12), .val (.int u13), .val (.int u14), .val (.int u15), .val (.int u16), .val (.int u17), .val (.int u18), .val (.int u19), .val (.int u20), .val (.long u21), .second, .val (.long u23), .second, .val (.ref r_1), .val (.ref r_4), .val (.ref r_7), .val (.ref r_10), .val (.ref a_12), .val (.int ((Jvm.Free.XT.ushr p4 (8 : Int32)) &&& (3 : Int32))), .val (.ref a_19), .val (.int (1 : Int32)), .val (.int (1 : Int32))] [(.ref a_12), (.ref a_12)])) rfl (by rw [hml]; rfl) (argsL := [(.ref a_12)]) (rest := []) (lenOf pd_3 rfl) rfl (by show 2 * 0 + _ ≤ _; exact Nat.le_of_eq rfl) (hb hby at_464) eh_48 rfl (by decide) (by decide)
                  obtain ⟨⟨z_49, rfl, hz_49⟩, rfl, eh_49⟩ := Q_49
                  refine own_G.via st_49 ?_
                  have N_49 := Fr.app N_48 (Fr.nil n0)
                  show own_G _ _ _ _ (T_49.setTop (mkF m 467 #[.val (.int p0), .val (.int p1), .val (.long p2), .second, .val (.long p3), .second, .val (.int p4), .val (.long p5), .second, .val (.int u9), .val (.int u10), .val (.int u11), .val (.int u12), .val (.int u13), .val (.int u14), .val (.int u15), .val (.int u16), .val (.int u17), .val (.int u18), .val (.int u19), .val (.int u20), .val (.long u21), .second, .val (.long u23), .second, .val (.ref r_1), .val (.ref r_4), .val (.ref r_7), .val (.ref r_10), .val (.ref a_12), .val (.int ((Jvm.Free.XT.ushr p4 (8 : Int32)) &&& (3 : Int32))), .val (.ref a_19), .val (.int (1 : Int32)), .val (.int (1 : Int32))] [(.int z_49)]))
                  refine own_G.go (fun t_ k_ => XS.ifNo X_49.here hx rfl (hb hby at_467) rfl ((if0 _ _).trans (feq (fun q => by have q1 := own_z1 hz_49 ⟨rfl, rfl, rfl, rfl⟩; rw [q1] at q; exact absurd q (by decide) : ¬ z_49 = (0 : Int32))).1) k_) ?_
                  show own_G _ _ _ _ (T_49.setTop (mkF m 470 #[.val (.int p0), .val (.int p1), .val (.long p2), .second, .val (.long p3), .second, .val (.int p4), .val (.long p5), .second, .val (.int u9), .val (.int u10), .val (.int u11), .val (.int u12), .val (.int u13), .val (.int u14), .val (.int u15), .val (.int u16), .val (.int u17), .val (.int u18), .val (.int u19), .val (.int u20), .val (.long u21), .second, .val (.long u23), .second, .val (.ref r_1), .val (.ref r_4), .val (.ref r_7), .val (.ref r_10), .val (.ref a_12), .val (.int ((Jvm.Free.XT.ushr p4 (8 : Int32)) &&& (3 : Int32))), .val (.ref a_19), .val (.int (1 : Int32)), .val (.int (1 : Int32))] []))
                  refine own_G.go (fun t_ k_ => XS.iconst X_49.here hx rfl (hb hby at_470) k_) ?_
                  show own_G _ _ _ _ (T_49.setTop (mkF m 471 #[.val (.int p0), .val (.int p1), .val (.long p2), .second, .val (.long p3), .second, .val (.int p4), .val (.long p5), .second, .val (.int u9), .val (.int u10), .val (.int u11), .val (.int u12), .val (.int u13), .val (.int u14), .val (.int u15), .val (.int u16), .val (.int u17), .val (.int u18), .val (.int u19), .val (.int u20), .val (.long u21), .second, .val (.long u23), .second, .val (.ref r_1), .val (.ref r_4), .val (.ref r_7), .val (.ref r_10), .val (.ref a_12), .val (.int ((Jvm.Free.XT.ushr p4 (8 : Int32)) &&& (3 : Int32))), .val (.ref a_19), .val (.int (1 : Int32)), .val (.int (1 : Int32))] [(.int (1 : Int32))]))
                  refine own_G.go (fun t_ k_ => XS.goto X_49.here hx rfl (pc0 := 471) (pc' := 475) rfl (hb hby at_471) (by decide) (by decide) k_) ?_
                  show own_G _ _ _ _ (T_49.setTop (mkF m 475 #[.val (.int p0), .val (.int p1), .val (.long p2), .second, .val (.long p3), .second, .val (.int p4), .val (.long p5), .second, .val (.int u9), .val (.int u10), .val (.int u11), .val (.int u12), .val (.int u13), .val (.int u14), .val (.int u15), .val (.int u16), .val (.int u17), .val (.int u18), .val (.int u19), .val (.int u20), .val (.long u21), .second, .val (.long u23), .second, .val (.ref r_1), .val (.ref r_4), .val (.ref r_7), .val (.ref r_10), .val (.ref a_12), .val (.int ((Jvm.Free.XT.ushr p4 (8 : Int32)) &&& (3 : Int32))), .val (.ref a_19), .val (.int (1 : Int32)), .val (.int (1 : Int32))] [(.int (1 : Int32))]))
                  exact own_G.endH X_49 hS_10 (Nat.le_trans (Nat.le_refl _) (Nat.le_trans (Nat.le_trans (Nat.le_trans E_12.1 K_14.1) E_19.1) K_21.1)) hZ_10 hEW (hh ▸ CH_22) hlk (v := (some (.int (1 : Int32)))) (fun h => by rw [hrt] at h; cases h) (fun fs hr => retN X_49 hx (z := (1 : Int32)) (t := .boolean) hrt (by simp) (hb hby at_475) hr) eh_49 ⟨rfl, N_49⟩ (by decide) (by decide)
                · refine own_G.go (fun t_ k_ => XS.icmpYes X_48.here hx rfl (pc0 := 452) (pc' := 476) rfl (hb hby at_452) rfl (feq hm3).2 (by decide) (by decide) k_) ?_
                  show own_G _ _ _ _ (T_48.setTop (mkF m 476 #[.val (.int p0), .val (.int p1), .val (.long p2), .second, .val (.long p3), .second, .val (.int p4), .val (.long p5), .second, .val (.int u9), .val (.int u10), .val (.int u11), .val (.int u12), .val (.int u13), .val (.int u14), .val (.int u15), .val (.int u16), .val (.int u17), .val (.int u18), .val (.int u19), .val (.int u20), .val (.long u21), .second, .val (.long u23), .second, .val (.ref r_1), .val (.ref r_4), .val (.ref r_7), .val (.ref r_10), .val (.ref a_12), .val (.int ((Jvm.Free.XT.ushr p4 (8 : Int32)) &&& (3 : Int32))), .val (.ref a_19), .val (.int (1 : Int32)), .val (.int (1 : Int32))] []))
                  refine own_G.go (fun t_ k_ => XS.iload X_48.here hx rfl (hb hby at_476) rfl k_) ?_
                  show own_G _ _ _ _ (T_48.setTop (mkF m 478 #[.val (.int p0), .val (.int p1), .val (.long p2), .second, .val (.long p3), .second, .val (.int p4), .val (.long p5), .second, .val (.int u9), .val (.int u10), .val (.int u11), .val (.int u12), .val (.int u13), .val (.int u14), .val (.int u15), .val (.int u16), .val (.int u17), .val (.int u18), .val (.int u19), .val (.int u20), .val (.long u21), .second, .val (.long u23), .second, .val (.ref r_1), .val (.ref r_4), .val (.ref r_7), .val (.ref r_10), .val (.ref a_12), .val (.int ((Jvm.Free.XT.ushr p4 (8 : Int32)) &&& (3 : Int32))), .val (.ref a_19), .val (.int (1 : Int32)), .val (.int (1 : Int32))] [(.int (1 : Int32))]))
                  exact own_G.endH X_48 hS_10 (Nat.le_trans (Nat.le_refl _) (Nat.le_trans (Nat.le_trans (Nat.le_trans E_12.1 K_14.1) E_19.1) K_21.1)) hZ_10 hEW (hh ▸ CH_22) hlk (v := (some (.int (1 : Int32)))) (fun h => by rw [hrt] at h; cases h) (fun fs hr => retN X_48 hx (z := (1 : Int32)) (t := .boolean) hrt (by simp) (hb hby at_478) hr) eh_48 ⟨rfl, N_48⟩ (by decide) (by decide)
              · refine own_G.go (fun t_ k_ => XS.ifYes X_24.here hx rfl (pc0 := 408) (pc' := 415) rfl (hb hby at_408) rfl ((if0 _ _).trans (feq hg).2) (by decide) (by decide) k_) ?_
                show own_G _ _ _ _ (T_24.setTop (mkF m 415 #[.val (.int p0), .val (.int p1), .val (.long p2), .second, .val (.long p3), .second, .val (.int p4), .val (.long p5), .second, .val (.int u9), .val (.int u10), .val (.int u11), .val (.int u12), .val (.int u13), .val (.int u14), .val (.int u15), .val (.int u16), .val (.int u17), .val (.int u18), .val (.int u19), .val (.int u20), .val (.long u21), .second, .val (.long u23), .second, .val (.ref r_1), .val (.ref r_4), .val (.ref r_7), .val (.ref r_10), .val (.ref a_12), .val (.int ((Jvm.Free.XT.ushr p4 (8 : Int32)) &&& (3 : Int32))), .val (.ref a_19), .unset, .unset] []))
                refine own_G.go (fun t_ k_ => XS.iconst X_24.here hx rfl (hb hby at_415) k_) ?_
                show own_G _ _ _ _ (T_24.setTop (mkF m 416 #[.val (.int p0), .val (.int p1), .val (.long p2), .second, .val (.long p3), .second, .val (.int p4), .val (.long p5), .second, .val (.int u9), .val (.int u10), .val (.int u11), .val (.int u12), .val (.int u13), .val (.int u14), .val (.int u15), .val (.int u16), .val (.int u17), .val (.int u18), .val (.int u19), .val (.int u20), .val (.long u21), .second, .val (.long u23), .second, .val (.ref r_1), .val (.ref r_4), .val (.ref r_7), .val (.ref r_10), .val (.ref a_12), .val (.int ((Jvm.Free.XT.ushr p4 (8 : Int32)) &&& (3 : Int32))), .val (.ref a_19), .unset, .unset] [(.int (0 : Int32))]))
                refine own_G.go (fun t_ k_ => XS.istore X_24.here hx rfl (hb hby at_416) rfl (l' := #[.val (.int p0), .val (.int p1), .val (.long p2), .second, .val (.long p3), .second, .val (.int p4), .val (.long p5), .second, .val (.int u9), .val (.int u10), .val (.int u11), .val (.int u12), .val (.int u13), .val (.int u14), .val (.int u15), .val (.int u16), .val (.int u17), .val (.int u18), .val (.int u19), .val (.int u20), .val (.long u21), .second, .val (.long u23), .second, .val (.ref r_1), .val (.ref r_4), .val (.ref r_7), .val (.ref r_10), .val (.ref a_12), .val (.int ((Jvm.Free.XT.ushr p4 (8 : Int32)) &&& (3 : Int32))), .val (.ref a_19), .val (.int (0 : Int32)), .unset]) rfl k_) ?_
                show own_G _ _ _ _ (T_24.setTop (mkF m 418 #[.val (.int p0), .val (.int p1), .val (.long p2), .second, .val (.long p3), .second, .val (.int p4), .val (.long p5), .second, .val (.int u9), .val (.int u10), .val (.int u11), .val (.int u12), .val (.int u13), .val (.int u14), .val (.int u15), .val (.int u16), .val (.int u17), .val (.int u18), .val (.int u19), .val (.int u20), .val (.long u21), .second, .val (.long u23), .second, .val (.ref r_1), .val (.ref r_4), .val (.ref r_7), .val (.ref r_10), .val (.ref a_12), .val (.int ((Jvm.Free.XT.ushr p4 (8 : Int32)) &&& (3 : Int32))), .val (.ref a_19), .val (.int (0 : Int32)), .unset] []))
                refine own_G.go (fun t_ k_ => XS.aload X_24.here hx rfl (hb hby at_418) rfl rfl k_) ?_
                show own_G _ _ _ _ (T_24.setTop (mkF m 420 #[.val (.int p0), .val (.int p1), .val (.long p2), .second, .val (.long p3), .second, .val (.int p4), .val (.long p5), .second, .val (.int u9), .val (.int u10), .val (.int u11), .val (.int u12), .val (.int u13), .val (.int u14), .val (.int u15), .val (.int u16), .val (.int u17), .val (.int u18), .val (.int u19), .val (.int u20), .val (.long u21), .second, .val (.long u23), .second, .val (.ref r_1), .val (.ref r_4), .val (.ref r_7), .val (.ref r_10), .val (.ref a_12), .val (.int ((Jvm.Free.XT.ushr p4 (8 : Int32)) &&& (3 : Int32))), .val (.ref a_19), .val (.int (0 : Int32)), .unset] [(.ref a_12)]))
                refine own_G.go (fun t_ k_ => XS.aload X_24.here hx rfl (hb hby at_420) rfl rfl k_) ?_
                show own_G _ _ _ _ (T_24.setTop (mkF m 422 #[.val (.int p0), .val (.int p1), .val (.long p2), .second, .val (.long p3), .second, .val (.int p4), .val (.long p5), .second, .val (.int u9), .val (.int u10), .val (.int u11), .val (.int u12), .val (.int u13), .val (.int u14), .val (.int u15), .val (.int u16), .val (.int u17), .val (.int u18), .val (.int u19), .val (.int u20), .val (.long u21), .second, .val (.long u23), .second, .val (.ref r_1), .val (.ref r_4), .val (.ref r_7), .val (.ref r_10), .val (.ref a_12), .val (.int ((Jvm.Free.XT.ushr p4 (8 : Int32)) &&& (3 : Int32))), .val (.ref a_19), .val (.int (0 : Int32)), .unset] [(.ref a_19), (.ref a_12)]))
                have Ex_14'_50 : Exa Z T_21.heap a_12 "com/example/kommit/kommit/KeyCounters$Entry" := ((Ex_14.ext E_19).keep K_21)
                have G1_14'_51 : Fld Z T_21.heap a_12 "com/example/kommit/kommit/KeyCounters$Entry" "kind" "Ljava/lang/String;" (.ref r_1) := ((G1_14.ext E_19).keep K_21 (ninS (Nat.ne_of_lt (Nat.lt_of_lt_of_le (Nat.lt_of_lt_of_le A_12.lt K_14.1) (Nat.le_of_eq g_19.symm))) nin0))
                have G2_14'_52 : Fld Z T_21.heap a_12 "com/example/kommit/kommit/KeyCounters$Entry" "name" "Ljava/lang/String;" (.ref r_4) := ((G2_14.ext E_19).keep K_21 (ninS (Nat.ne_of_lt (Nat.lt_of_lt_of_le (Nat.lt_of_lt_of_le A_12.lt K_14.1) (Nat.le_of_eq g_19.symm))) nin0))
                have G3_14'_53 : Fld Z T_21.heap a_12 "com/example/kommit/kommit/KeyCounters$Entry" "first" "J" (.long p2) := ((G3_14.ext E_19).keep K_21 (ninS (Nat.ne_of_lt (Nat.lt_of_lt_of_le (Nat.lt_of_lt_of_le A_12.lt K_14.1) (Nat.le_of_eq g_19.symm))) nin0))
                have G4_14'_54 : Fld Z T_21.heap a_12 "com/example/kommit/kommit/KeyCounters$Entry" "second" "J" (.long p3) := ((G4_14.ext E_19).keep K_21 (ninS (Nat.ne_of_lt (Nat.lt_of_lt_of_le (Nat.lt_of_lt_of_le A_12.lt K_14.1) (Nat.le_of_eq g_19.symm))) nin0))
                have Ex_1'_55 : Exa Z T_21.heap r_1 "java/lang/String" := (((((((Ex_1.keep K_4).keep K_7).keep K_10).ext E_12).keep K_14).ext E_19).keep K_21)
                have Fc_1'_56 : Fld Z T_21.heap r_1 "java/lang/String" "coder" "B" (.int 0) := (((((((Fc_1.keep K_4 nin0).keep K_7 nin0).keep K_10 nin0).ext E_12).keep K_14 (ninS (Nat.ne_of_lt (Nat.lt_of_lt_of_le (Nat.lt_of_lt_of_le Ex_1.lt (Nat.le_trans (Nat.le_trans K_4.1 K_7.1) K_10.1)) (Nat.le_of_eq g_12.symm))) nin0)).ext E_19).keep K_21 (ninS (Nat.ne_of_lt (Nat.lt_of_lt_of_le (Nat.lt_of_lt_of_le Ex_1.lt (Nat.le_trans (Nat.le_trans (Nat.le_trans (Nat.le_trans K_4.1 K_7.1) K_10.1) E_12.1) K_14.1)) (Nat.le_of_eq g_19.symm))) nin0))
                have Fv_1'_57 : Fld Z T_21.heap r_1 "java/lang/String" "value" "[B" (.ref t_1) := (((((((Fv_1.keep K_4 nin0).keep K_7 nin0).keep K_10 nin0).ext E_12).keep K_14 (ninS (Nat.ne_of_lt (Nat.lt_of_lt_of_le (Nat.lt_of_lt_of_le Ex_1.lt (Nat.le_trans (Nat.le_trans K_4.1 K_7.1) K_10.1)) (Nat.le_of_eq g_12.symm))) nin0)).ext E_19).keep K_21 (ninS (Nat.ne_of_lt (Nat.lt_of_lt_of_le (Nat.lt_of_lt_of_le Ex_1.lt (Nat.le_trans (Nat.le_trans (Nat.le_trans (Nat.le_trans K_4.1 K_7.1) K_10.1) E_12.1) K_14.1)) (Nat.le_of_eq g_19.symm))) nin0))
                have Kb_1'_58 : Arv Z T_21.heap t_1 kb_1 .byte (Int32.ofNat (own_cs u9 u10 u11).length) (((own_cs u9 u10 u11).map (fun c => c.toInt8.toInt32)).map Value.int) (.int 0) := (((((((Kb_1.keep K_4 nin0).keep K_7 nin0).keep K_10 nin0).ext E_12).keep K_14 (ninS (Nat.ne_of_lt (Nat.lt_of_lt_of_le (Nat.lt_of_lt_of_le Kb_1.lt (Nat.le_trans (Nat.le_trans K_4.1 K_7.1) K_10.1)) (Nat.le_of_eq g_12.symm))) nin0)).ext E_19).keep K_21 (ninS (Nat.ne_of_lt (Nat.lt_of_lt_of_le (Nat.lt_of_lt_of_le Kb_1.lt (Nat.le_trans (Nat.le_trans (Nat.le_trans (Nat.le_trans K_4.1 K_7.1) K_10.1) E_12.1) K_14.1)) (Nat.le_of_eq g_19.symm))) nin0))
                have Ex_4'_59 : Exa Z T_21.heap r_4 "java/lang/String" := ((((((Ex_4.keep K_7).keep K_10).ext E_12).keep K_14).ext E_19).keep K_21)
                have Fc_4'_60 : Fld Z T_21.heap r_4 "java/lang/String" "coder" "B" (.int 0) := ((((((Fc_4.keep K_7 nin0).keep K_10 nin0).ext E_12).keep K_14 (ninS (Nat.ne_of_lt (Nat.lt_of_lt_of_le (Nat.lt_of_lt_of_le Ex_4.lt (Nat.le_trans K_7.1 K_10.1)) (Nat.le_of_eq g_12.symm))) nin0)).ext E_19).keep K_21 (ninS (Nat.ne_of_lt (Nat.lt_of_lt_of_le (Nat.lt_of_lt_of_le Ex_4.lt (Nat.le_trans (Nat.le_trans (Nat.le_trans K_7.1 K_10.1) E_12.1) K_14.1)) (Nat.le_of_eq g_19.symm))) nin0))
                have Fv_4'_61 : Fld Z T_21.heap r_4 "java/lang/String" "value" "[B" (.ref t_4) := ((((((Fv_4.keep K_7 nin0).keep K_10 nin0).ext E_12).keep K_14 (ninS (Nat.ne_of_lt (Nat.lt_of_lt_of_le (Nat.lt_of_lt_of_le Ex_4.lt (Nat.le_trans K_7.1 K_10.1)) (Nat.le_of_eq g_12.symm))) nin0)).ext E_19).keep K_21 (ninS (Nat.ne_of_lt (Nat.lt_of_lt_of_le (Nat.lt_of_lt_of_le Ex_4.lt (Nat.le_trans (Nat.le_trans (Nat.le_trans K_7.1 K_10.1) E_12.1) K_14.1)) (Nat.le_of_eq g_19.symm))) nin0))
                have Kb_4'_62 : Arv Z T_21.heap t_4 kb_4 .byte (Int32.ofNat (own_cs u15 u16 u17).length) (((own_cs u15 u16 u17).map (fun c => c.toInt8.toInt32)).map Value.int) (.int 0) := ((((((Kb_4.keep K_7 nin0).keep K_10 nin0).ext E_12).keep K_14 (ninS (Nat.ne_of_lt (Nat.lt_of_lt_of_le (Nat.lt_of_lt_of_le Kb_4.lt (Nat.le_trans K_7.1 K_10.1)) (Nat.le_of_eq g_12.symm))) nin0)).ext E_19).keep K_21 (ninS (Nat.ne_of_lt (Nat.lt_of_lt_of_le (Nat.lt_of_lt_of_le Kb_4.lt (Nat.le_trans (Nat.le_trans (Nat.le_trans K_7.1 K_10.1) E_12.1) K_14.1)) (Nat.le_of_eq g_19.symm))) nin0))
                have Ex_7'_63 : Exa Z T_21.heap r_7 "java/lang/String" := (((((Ex_7.keep K_10).ext E_12).keep K_14).ext E_19).keep K_21)
                have Fc_7'_64 : Fld Z T_21.heap r_7 "java/lang/String" "coder" "B" (.int 0) := (((((Fc_7.keep K_10 nin0).ext E_12).keep K_14 (ninS (Nat.ne_of_lt (Nat.lt_of_lt_of_le (Nat.lt_of_lt_of_le Ex_7.lt K_10.1) (Nat.le_of_eq g_12.symm))) nin0)).ext E_19).keep K_21 (ninS (Nat.ne_of_lt (Nat.lt_of_lt_of_le (Nat.lt_of_lt_of_le Ex_7.lt (Nat.le_trans (Nat.le_trans K_10.1 E_12.1) K_14.1)) (Nat.le_of_eq g_19.symm))) nin0))
                have Fv_7'_65 : Fld Z T_21.heap r_7 "java/lang/String" "value" "[B" (.ref t_7) := (((((Fv_7.keep K_10 nin0).ext E_12).keep K_14 (ninS (Nat.ne_of_lt (Nat.lt_of_lt_of_le (Nat.lt_of_lt_of_le Ex_7.lt K_10.1) (Nat.le_of_eq g_12.symm))) nin0)).ext E_19).keep K_21 (ninS (Nat.ne_of_lt (Nat.lt_of_lt_of_le (Nat.lt_of_lt_of_le Ex_7.lt (Nat.le_trans (Nat.le_trans K_10.1 E_12.1) K_14.1)) (Nat.le_of_eq g_19.symm))) nin0))
                have Kb_7'_66 : Arv Z T_21.heap t_7 kb_7 .byte (Int32.ofNat (own_cs u12 u13 u14).length) (((own_cs u12 u13 u14).map (fun c => c.toInt8.toInt32)).map Value.int) (.int 0) := (((((Kb_7.keep K_10 nin0).ext E_12).keep K_14 (ninS (Nat.ne_of_lt (Nat.lt_of_lt_of_le (Nat.lt_of_lt_of_le Kb_7.lt K_10.1) (Nat.le_of_eq g_12.symm))) nin0)).ext E_19).keep K_21 (ninS (Nat.ne_of_lt (Nat.lt_of_lt_of_le (Nat.lt_of_lt_of_le Kb_7.lt (Nat.le_trans (Nat.le_trans K_10.1 E_12.1) K_14.1)) (Nat.le_of_eq g_19.symm))) nin0))
                have Ex_10'_67 : Exa Z T_21.heap r_10 "java/lang/String" := ((((Ex_10.ext E_12).keep K_14).ext E_19).keep K_21)
                have Fc_10'_68 : Fld Z T_21.heap r_10 "java/lang/String" "coder" "B" (.int 0) := ((((Fc_10.ext E_12).keep K_14 (ninS (Nat.ne_of_lt (Nat.lt_of_lt_of_le Ex_10.lt (Nat.le_of_eq g_12.symm))) nin0)).ext E_19).keep K_21 (ninS (Nat.ne_of_lt (Nat.lt_of_lt_of_le (Nat.lt_of_lt_of_le Ex_10.lt (Nat.le_trans E_12.1 K_14.1)) (Nat.le_of_eq g_19.symm))) nin0))
                have Fv_10'_69 : Fld Z T_21.heap r_10 "java/lang/String" "value" "[B" (.ref t_10) := ((((Fv_10.ext E_12).keep K_14 (ninS (Nat.ne_of_lt (Nat.lt_of_lt_of_le Ex_10.lt (Nat.le_of_eq g_12.symm))) nin0)).ext E_19).keep K_21 (ninS (Nat.ne_of_lt (Nat.lt_of_lt_of_le (Nat.lt_of_lt_of_le Ex_10.lt (Nat.le_trans E_12.1 K_14.1)) (Nat.le_of_eq g_19.symm))) nin0))
                have Kb_10'_70 : Arv Z T_21.heap t_10 kb_10 .byte (Int32.ofNat (own_cs u18 u19 u20).length) (((own_cs u18 u19 u20).map (fun c => c.toInt8.toInt32)).map Value.int) (.int 0) := ((((Kb_10.ext E_12).keep K_14 (ninS (Nat.ne_of_lt (Nat.lt_of_lt_of_le Kb_10.lt (Nat.le_of_eq g_12.symm))) nin0)).ext E_19).keep K_21 (ninS (Nat.ne_of_lt (Nat.lt_of_lt_of_le (Nat.lt_of_lt_of_le Kb_10.lt (Nat.le_trans E_12.1 K_14.1)) (Nat.le_of_eq g_19.symm))) nin0))
                have O_71d : Old Z n0 T_21.heap := (((((O_9d.keep K_10 all0).ext E_12).keep K_14 (allS g0_a_12 all0)).ext E_19).keep K_21 (allS g0_a_19 all0))
                obtain ⟨cq_72, kq_72, q_72a, q_72b, q_72c⟩ := isOf hZ_10 eh_24 Ex_14'_50
                obtain ⟨_, T_72, L_72, Q_72, X_72, st_72⟩ := own_callV X_24 hx (z := (⟨"com/example/kommit/kommit/KeyCounters$Entry", "equals", "(Ljava/lang/Object;)Z"⟩ : MethodName)) hown_10 (mvT hZ_10 (own_w hw 44 rfl)) (mvT hZ_10 (own_w hw 45 rfl)) (notFace_of_selects (args := #[]) (mvT hZ_10 (own_w hw 47 rfl))) (mvT hZ_10 (own_w hw 47 rfl)) (mvT hZ_10 (own_w hw 46 rfl)) (by decide) (Q := (Qeq ((own_cs u9 u10 u11) = (own_cs u12 u13 u14) ∧ (own_cs u15 u16 u17) = (own_cs u18 u19 u20) ∧ u21 = p2 ∧ u23 = p3) T_21.heap)) (backOf (W := 0) (rm_eqO l Z a0 hw [] a_12 a_19 r_1 r_4 r_7 r_10 t_1 t_4 t_7 t_10 kb_1 kb_4 kb_7 kb_10 (own_cs u9 u10 u11) (own_cs u15 u16 u17) (own_cs u12 u13 u14) (own_cs u18 u19 u20) p2 p3 u21 u23 zc T_21.heap n0 (Nat.le_trans Z0 (Nat.le_trans (Nat.le_trans (Nat.le_trans (Nat.le_trans (Nat.le_trans (Nat.le_trans (Nat.le_trans K_1.1 K_4.1) K_7.1) K_10.1) E_12.1) K_14.1) E_19.1) K_21.1)) Ex_14'_50 Ex_21 G1_14'_51 G2_14'_52 G3_14'_53 G4_14'_54 G1_21 G2_21 G3_21 G4_21 Ex_1'_55 Fc_1'_56 Fv_1'_57 Kb_1'_58 (own_cs_b h10 h11) (own_cs_len _ _ _) Ex_4'_59 Fc_4'_60 Fv_4'_61 Kb_4'_62 (own_cs_b h16 h17) (own_cs_len _ _ _) Ex_7'_63 Fc_7'_64 Fv_7'_65 Kb_7'_66 (own_cs_b h13 h14) (own_cs_len _ _ _) Ex_10'_67 Fc_10'_68 Fv_10'_69 Kb_10'_70 (own_cs_b h19 h20) (own_cs_len _ _ _) O2 P5 O_71d) hZ_10 (own_w hw 48 rfl) (own_w hw 28 rfl) (by decide) (by decide)) q_72a q_72c (g := (mkF m 422 #[.val (.int p0), .val (.int p1), .val (.long p2), .second, .val (.long p3), .second, .val (.int p4), .val (.long p5), .second, .val (.int u9), .val (.int u10), .val (.int u11), .val (.int u12), .val (.int u13), .val (.int u14), .val (.int u15), .val (.int u16), .val (.int u17), .val (.int u18), .val (.int u19), .val (.int u20), .val (.long u21), .second, .val (.long u23), .second, .val (.ref r_1), .val (.ref r_4), .val (.ref r_7), .val (.ref r_10), .val (.ref a_12), .val (.int ((Jvm.Free.XT.ushr p4 (8 : Int32)) &&& (3 : Int32))), .val (.ref a_19), .val (.int (0 : Int32)), .unset] [(.ref a_19), (.ref a_12)])) rfl (by rw [hml]; rfl) (argsL := [(.ref a_19)]) (rest := []) (lenOf pd_3 rfl) rfl (by show 2 * 0 + _ ≤ _; exact Nat.le_of_eq rfl) (hb hby at_422) eh_24 rfl (by decide) (by decide)
                obtain ⟨⟨z_72, rfl, hz_72⟩, rfl, eh_72⟩ := Q_72
                refine own_G.via st_72 ?_
                have N_72 := Fr.app N_24 (Fr.nil n0)
                show own_G _ _ _ _ (T_72.setTop (mkF m 425 #[.val (.int p0), .val (.int p1), .val (.long p2), .second, .val (.long p3), .second, .val (.int p4), .val (.long p5), .second, .val (.int u9), .val (.int u10), .val (.int u11), .val (.int u12), .val (.int u13), .val (.int u14), .val (.int u15), .val (.int u16), .val (.int u17), .val (.int u18), .val (.int u19), .val (.int u20), .val (.long u21), .second, .val (.long u23), .second, .val (.ref r_1), .val (.ref r_4), .val (.ref r_7), .val (.ref r_10), .val (.ref a_12), .val (.int ((Jvm.Free.XT.ushr p4 (8 : Int32)) &&& (3 : Int32))), .val (.ref a_19), .val (.int (0 : Int32)), .unset] [(.int z_72)]))
                refine own_G.go (fun t_ k_ => XS.iload X_72.here hx rfl (hb hby at_425) rfl k_) ?_
                show own_G _ _ _ _ (T_72.setTop (mkF m 427 #[.val (.int p0), .val (.int p1), .val (.long p2), .second, .val (.long p3), .second, .val (.int p4), .val (.long p5), .second, .val (.int u9), .val (.int u10), .val (.int u11), .val (.int u12), .val (.int u13), .val (.int u14), .val (.int u15), .val (.int u16), .val (.int u17), .val (.int u18), .val (.int u19), .val (.int u20), .val (.long u21), .second, .val (.long u23), .second, .val (.ref r_1), .val (.ref r_4), .val (.ref r_7), .val (.ref r_10), .val (.ref a_12), .val (.int ((Jvm.Free.XT.ushr p4 (8 : Int32)) &&& (3 : Int32))), .val (.ref a_19), .val (.int (0 : Int32)), .unset] [(.int (0 : Int32)), (.int z_72)]))
                refine own_G.go (fun t_ k_ => XS.icmpNo X_72.here hx rfl (hb hby at_427) rfl (teq (own_z0 hz_72 (fun q => by first | exact hg ((lw_eq _ _).mpr q.2.2.2) | exact hf ((lw_eq _ _).mpr q.2.2.1) | exact hs2 q.2.1 | exact hs1 q.1) : z_72 = (0 : Int32))).2 k_) ?_
                show own_G _ _ _ _ (T_72.setTop (mkF m 430 #[.val (.int p0), .val (.int p1), .val (.long p2), .second, .val (.long p3), .second, .val (.int p4), .val (.long p5), .second, .val (.int u9), .val (.int u10), .val (.int u11), .val (.int u12), .val (.int u13), .val (.int u14), .val (.int u15), .val (.int u16), .val (.int u17), .val (.int u18), .val (.int u19), .val (.int u20), .val (.long u21), .second, .val (.long u23), .second, .val (.ref r_1), .val (.ref r_4), .val (.ref r_7), .val (.ref r_10), .val (.ref a_12), .val (.int ((Jvm.Free.XT.ushr p4 (8 : Int32)) &&& (3 : Int32))), .val (.ref a_19), .val (.int (0 : Int32)), .unset] []))
                refine own_G.go (fun t_ k_ => XS.aload X_72.here hx rfl (hb hby at_430) rfl rfl k_) ?_
                show own_G _ _ _ _ (T_72.setTop (mkF m 432 #[.val (.int p0), .val (.int p1), .val (.long p2), .second, .val (.long p3), .second, .val (.int p4), .val (.long p5), .second, .val (.int u9), .val (.int u10), .val (.int u11), .val (.int u12), .val (.int u13), .val (.int u14), .val (.int u15), .val (.int u16), .val (.int u17), .val (.int u18), .val (.int u19), .val (.int u20), .val (.long u21), .second, .val (.long u23), .second, .val (.ref r_1), .val (.ref r_4), .val (.ref r_7), .val (.ref r_10), .val (.ref a_12), .val (.int ((Jvm.Free.XT.ushr p4 (8 : Int32)) &&& (3 : Int32))), .val (.ref a_19), .val (.int (0 : Int32)), .unset] [(.ref a_19)]))
                refine own_G.go (fun t_ k_ => XS.aload X_72.here hx rfl (hb hby at_432) rfl rfl k_) ?_
                show own_G _ _ _ _ (T_72.setTop (mkF m 434 #[.val (.int p0), .val (.int p1), .val (.long p2), .second, .val (.long p3), .second, .val (.int p4), .val (.long p5), .second, .val (.int u9), .val (.int u10), .val (.int u11), .val (.int u12), .val (.int u13), .val (.int u14), .val (.int u15), .val (.int u16), .val (.int u17), .val (.int u18), .val (.int u19), .val (.int u20), .val (.long u21), .second, .val (.long u23), .second, .val (.ref r_1), .val (.ref r_4), .val (.ref r_7), .val (.ref r_10), .val (.ref a_12), .val (.int ((Jvm.Free.XT.ushr p4 (8 : Int32)) &&& (3 : Int32))), .val (.ref a_19), .val (.int (0 : Int32)), .unset] [(.ref a_12), (.ref a_19)]))
                obtain ⟨cq_73, kq_73, q_73a, q_73b, q_73c⟩ := isOf hZ_10 eh_72 Ex_21
                obtain ⟨_, T_73, L_73, Q_73, X_73, st_73⟩ := own_callV X_72 hx (z := (⟨"com/example/kommit/kommit/KeyCounters$Entry", "equals", "(Ljava/lang/Object;)Z"⟩ : MethodName)) hown_10 (mvT hZ_10 (own_w hw 44 rfl)) (mvT hZ_10 (own_w hw 45 rfl)) (notFace_of_selects (args := #[]) (mvT hZ_10 (own_w hw 47 rfl))) (mvT hZ_10 (own_w hw 47 rfl)) (mvT hZ_10 (own_w hw 46 rfl)) (by decide) (Q := (Qeq ((own_cs u12 u13 u14) = (own_cs u9 u10 u11) ∧ (own_cs u18 u19 u20) = (own_cs u15 u16 u17) ∧ p2 = u21 ∧ p3 = u23) T_21.heap)) (backOf (W := 0) (rm_eqO l Z a0 hw [] a_19 a_12 r_7 r_10 r_1 r_4 t_7 t_10 t_1 t_4 kb_7 kb_10 kb_1 kb_4 (own_cs u12 u13 u14) (own_cs u18 u19 u20) (own_cs u9 u10 u11) (own_cs u15 u16 u17) u21 u23 p2 p3 zc T_21.heap n0 (Nat.le_trans Z0 (Nat.le_trans (Nat.le_trans (Nat.le_trans (Nat.le_trans (Nat.le_trans (Nat.le_trans (Nat.le_trans K_1.1 K_4.1) K_7.1) K_10.1) E_12.1) K_14.1) E_19.1) K_21.1)) Ex_21 Ex_14'_50 G1_21 G2_21 G3_21 G4_21 G1_14'_51 G2_14'_52 G3_14'_53 G4_14'_54 Ex_7'_63 Fc_7'_64 Fv_7'_65 Kb_7'_66 (own_cs_b h13 h14) (own_cs_len _ _ _) Ex_10'_67 Fc_10'_68 Fv_10'_69 Kb_10'_70 (own_cs_b h19 h20) (own_cs_len _ _ _) Ex_1'_55 Fc_1'_56 Fv_1'_57 Kb_1'_58 (own_cs_b h10 h11) (own_cs_len _ _ _) Ex_4'_59 Fc_4'_60 Fv_4'_61 Kb_4'_62 (own_cs_b h16 h17) (own_cs_len _ _ _) O2 P5 O_71d) hZ_10 (own_w hw 48 rfl) (own_w hw 28 rfl) (by decide) (by decide)) q_73a q_73c (g := (mkF m 434 #[.val (.int p0), .val (.int p1), .val (.long p2), .second, .val (.long p3), .second, .val (.int p4), .val (.long p5), .second, .val (.int u9), .val (.int u10), .val (.int u11), .val (.int u12), .val (.int u13), .val (.int u14), .val (.int u15), .val (.int u16), .val (.int u17), .val (.int u18), .val (.int u19), .val (.int u20), .val (.long u21), .second, .val (.long u23), .second, .val (.ref r_1), .val (.ref r_4), .val (.ref r_7), .val (.ref r_10), .val (.ref a_12), .val (.int ((Jvm.Free.XT.ushr p4 (8 : Int32)) &&& (3 : Int32))), .val (.ref a_19), .val (.int (0 : Int32)), .unset] [(.ref a_12), (.ref a_19)])) rfl (by rw [hml]; rfl) (argsL := [(.ref a_12)]) (rest := []) (lenOf pd_3 rfl) rfl (by show 2 * 0 + _ ≤ _; exact Nat.le_of_eq rfl) (hb hby at_434) eh_72 rfl (by decide) (by decide)
                obtain ⟨⟨z_73, rfl, hz_73⟩, rfl, eh_73⟩ := Q_73
                refine own_G.via st_73 ?_
                have N_73 := Fr.app N_72 (Fr.nil n0)
                show own_G _ _ _ _ (T_73.setTop (mkF m 437 #[.val (.int p0), .val (.int p1), .val (.long p2), .second, .val (.long p3), .second, .val (.int p4), .val (.long p5), .second, .val (.int u9), .val (.int u10), .val (.int u11), .val (.int u12), .val (.int u13), .val (.int u14), .val (.int u15), .val (.int u16), .val (.int u17), .val (.int u18), .val (.int u19), .val (.int u20), .val (.long u21), .second, .val (.long u23), .second, .val (.ref r_1), .val (.ref r_4), .val (.ref r_7), .val (.ref r_10), .val (.ref a_12), .val (.int ((Jvm.Free.XT.ushr p4 (8 : Int32)) &&& (3 : Int32))), .val (.ref a_19), .val (.int (0 : Int32)), .unset] [(.int z_73)]))
                refine own_G.go (fun t_ k_ => XS.iload X_73.here hx rfl (hb hby at_437) rfl k_) ?_
                show own_G _ _ _ _ (T_73.setTop (mkF m 439 #[.val (.int p0), .val (.int p1), .val (.long p2), .second, .val (.long p3), .second, .val (.int p4), .val (.long p5), .second, .val (.int u9), .val (.int u10), .val (.int u11), .val (.int u12), .val (.int u13), .val (.int u14), .val (.int u15), .val (.int u16), .val (.int u17), .val (.int u18), .val (.int u19), .val (.int u20), .val (.long u21), .second, .val (.long u23), .second, .val (.ref r_1), .val (.ref r_4), .val (.ref r_7), .val (.ref r_10), .val (.ref a_12), .val (.int ((Jvm.Free.XT.ushr p4 (8 : Int32)) &&& (3 : Int32))), .val (.ref a_19), .val (.int (0 : Int32)), .unset] [(.int (0 : Int32)), (.int z_73)]))
                refine own_G.go (fun t_ k_ => XS.icmpNo X_73.here hx rfl (hb hby at_439) rfl (teq (own_z0 hz_73 (fun q => by first | exact hg ((lw_eq _ _).mpr q.2.2.2.symm) | exact hf ((lw_eq _ _).mpr q.2.2.1.symm) | exact hs2 q.2.1.symm | exact hs1 q.1.symm) : z_73 = (0 : Int32))).2 k_) ?_
                show own_G _ _ _ _ (T_73.setTop (mkF m 442 #[.val (.int p0), .val (.int p1), .val (.long p2), .second, .val (.long p3), .second, .val (.int p4), .val (.long p5), .second, .val (.int u9), .val (.int u10), .val (.int u11), .val (.int u12), .val (.int u13), .val (.int u14), .val (.int u15), .val (.int u16), .val (.int u17), .val (.int u18), .val (.int u19), .val (.int u20), .val (.long u21), .second, .val (.long u23), .second, .val (.ref r_1), .val (.ref r_4), .val (.ref r_7), .val (.ref r_10), .val (.ref a_12), .val (.int ((Jvm.Free.XT.ushr p4 (8 : Int32)) &&& (3 : Int32))), .val (.ref a_19), .val (.int (0 : Int32)), .unset] []))
                refine own_G.go (fun t_ k_ => XS.iconst X_73.here hx rfl (hb hby at_442) k_) ?_
                show own_G _ _ _ _ (T_73.setTop (mkF m 443 #[.val (.int p0), .val (.int p1), .val (.long p2), .second, .val (.long p3), .second, .val (.int p4), .val (.long p5), .second, .val (.int u9), .val (.int u10), .val (.int u11), .val (.int u12), .val (.int u13), .val (.int u14), .val (.int u15), .val (.int u16), .val (.int u17), .val (.int u18), .val (.int u19), .val (.int u20), .val (.long u21), .second, .val (.long u23), .second, .val (.ref r_1), .val (.ref r_4), .val (.ref r_7), .val (.ref r_10), .val (.ref a_12), .val (.int ((Jvm.Free.XT.ushr p4 (8 : Int32)) &&& (3 : Int32))), .val (.ref a_19), .val (.int (0 : Int32)), .unset] [(.int (1 : Int32))]))
                refine own_G.go (fun t_ k_ => XS.goto X_73.here hx rfl (pc0 := 443) (pc' := 447) rfl (hb hby at_443) (by decide) (by decide) k_) ?_
                show own_G _ _ _ _ (T_73.setTop (mkF m 447 #[.val (.int p0), .val (.int p1), .val (.long p2), .second, .val (.long p3), .second, .val (.int p4), .val (.long p5), .second, .val (.int u9), .val (.int u10), .val (.int u11), .val (.int u12), .val (.int u13), .val (.int u14), .val (.int u15), .val (.int u16), .val (.int u17), .val (.int u18), .val (.int u19), .val (.int u20), .val (.long u21), .second, .val (.long u23), .second, .val (.ref r_1), .val (.ref r_4), .val (.ref r_7), .val (.ref r_10), .val (.ref a_12), .val (.int ((Jvm.Free.XT.ushr p4 (8 : Int32)) &&& (3 : Int32))), .val (.ref a_19), .val (.int (0 : Int32)), .unset] [(.int (1 : Int32))]))
                refine own_G.go (fun t_ k_ => XS.istore X_73.here hx rfl (hb hby at_447) rfl (l' := #[.val (.int p0), .val (.int p1), .val (.long p2), .second, .val (.long p3), .second, .val (.int p4), .val (.long p5), .second, .val (.int u9), .val (.int u10), .val (.int u11), .val (.int u12), .val (.int u13), .val (.int u14), .val (.int u15), .val (.int u16), .val (.int u17), .val (.int u18), .val (.int u19), .val (.int u20), .val (.long u21), .second, .val (.long u23), .second, .val (.ref r_1), .val (.ref r_4), .val (.ref r_7), .val (.ref r_10), .val (.ref a_12), .val (.int ((Jvm.Free.XT.ushr p4 (8 : Int32)) &&& (3 : Int32))), .val (.ref a_19), .val (.int (0 : Int32)), .val (.int (1 : Int32))]) rfl k_) ?_
                show own_G _ _ _ _ (T_73.setTop (mkF m 449 #[.val (.int p0), .val (.int p1), .val (.long p2), .second, .val (.long p3), .second, .val (.int p4), .val (.long p5), .second, .val (.int u9), .val (.int u10), .val (.int u11), .val (.int u12), .val (.int u13), .val (.int u14), .val (.int u15), .val (.int u16), .val (.int u17), .val (.int u18), .val (.int u19), .val (.int u20), .val (.long u21), .second, .val (.long u23), .second, .val (.ref r_1), .val (.ref r_4), .val (.ref r_7), .val (.ref r_10), .val (.ref a_12), .val (.int ((Jvm.Free.XT.ushr p4 (8 : Int32)) &&& (3 : Int32))), .val (.ref a_19), .val (.int (0 : Int32)), .val (.int (1 : Int32))] []))
                refine own_G.go (fun t_ k_ => XS.iload X_73.here hx rfl (hb hby at_449) rfl k_) ?_
                show own_G _ _ _ _ (T_73.setTop (mkF m 451 #[.val (.int p0), .val (.int p1), .val (.long p2), .second, .val (.long p3), .second, .val (.int p4), .val (.long p5), .second, .val (.int u9), .val (.int u10), .val (.int u11), .val (.int u12), .val (.int u13), .val (.int u14), .val (.int u15), .val (.int u16), .val (.int u17), .val (.int u18), .val (.int u19), .val (.int u20), .val (.long u21), .second, .val (.long u23), .second, .val (.ref r_1), .val (.ref r_4), .val (.ref r_7), .val (.ref r_10), .val (.ref a_12), .val (.int ((Jvm.Free.XT.ushr p4 (8 : Int32)) &&& (3 : Int32))), .val (.ref a_19), .val (.int (0 : Int32)), .val (.int (1 : Int32))] [(.int ((Jvm.Free.XT.ushr p4 (8 : Int32)) &&& (3 : Int32)))]))
                refine own_G.go (fun t_ k_ => XS.iconst X_73.here hx rfl (hb hby at_451) k_) ?_
                show own_G _ _ _ _ (T_73.setTop (mkF m 452 #[.val (.int p0), .val (.int p1), .val (.long p2), .second, .val (.long p3), .second, .val (.int p4), .val (.long p5), .second, .val (.int u9), .val (.int u10), .val (.int u11), .val (.int u12), .val (.int u13), .val (.int u14), .val (.int u15), .val (.int u16), .val (.int u17), .val (.int u18), .val (.int u19), .val (.int u20), .val (.long u21), .second, .val (.long u23), .second, .val (.ref r_1), .val (.ref r_4), .val (.ref r_7), .val (.ref r_10), .val (.ref a_12), .val (.int ((Jvm.Free.XT.ushr p4 (8 : Int32)) &&& (3 : Int32))), .val (.ref a_19), .val (.int (0 : Int32)), .val (.int (1 : Int32))] [(.int (3 : Int32)), (.int ((Jvm.Free.XT.ushr p4 (8 : Int32)) &&& (3 : Int32)))]))
                by_cases hm3 : ((Jvm.Free.XT.ushr p4 (8 : Int32)) &&& (3 : Int32)) = (3 : Int32)
                · refine own_G.go (fun t_ k_ => XS.icmpNo X_73.here hx rfl (hb hby at_452) rfl (teq hm3).2 k_) ?_
                  show own_G _ _ _ _ (T_73.setTop (mkF m 455 #[.val (.int p0), .val (.int p1), .val (.long p2), .second, .val (.long p3), .second, .val (.int p4), .val (.long p5), .second, .val (.int u9), .val (.int u10), .val (.int u11), .val (.int u12), .val (.int u13), .val (.int u14), .val (.int u15), .val (.int u16), .val (.int u17), .val (.int u18), .val (.int u19), .val (.int u20), .val (.long u21), .second, .val (.long u23), .second, .val (.ref r_1), .val (.ref r_4), .val (.ref r_7), .val (.ref r_10), .val (.ref a_12), .val (.int ((Jvm.Free.XT.ushr p4 (8 : Int32)) &&& (3 : Int32))), .val (.ref a_19), .val (.int (0 : Int32)), .val (.int (1 : Int32))] []))
                  refine own_G.go (fun t_ k_ => XS.iload X_73.here hx rfl (hb hby at_455) rfl k_) ?_
                  show own_G _ _ _ _ (T_73.setTop (mkF m 457 #[.val (.int p0), .val (.int p1), .val (.long p2), .second, .val (.long p3), .second, .val (.int p4), .val (.long p5), .second, .val (.int u9), .val (.int u10), .val (.int u11), .val (.int u12), .val (.int u13), .val (.int u14), .val (.int u15), .val (.int u16), .val (.int u17), .val (.int u18), .val (.int u19), .val (.int u20), .val (.long u21), .second, .val (.long u23), .second, .val (.ref r_1), .val (.ref r_4), .val (.ref r_7), .val (.ref r_10), .val (.ref a_12), .val (.int ((Jvm.Free.XT.ushr p4 (8 : Int32)) &&& (3 : Int32))), .val (.ref a_19), .val (.int (0 : Int32)), .val (.int (1 : Int32))] [(.int (1 : Int32))]))
                  refine own_G.go (fun t_ k_ => XS.ifNo X_73.here hx rfl (hb hby at_457) rfl ((if0 _ _).trans (feq (by decide : ¬ ((1 : Int32) = (0 : Int32)))).1) k_) ?_
                  show own_G _ _ _ _ (T_73.setTop (mkF m 460 #[.val (.int p0), .val (.int p1), .val (.long p2), .second, .val (.long p3), .second, .val (.int p4), .val (.long p5), .second, .val (.int u9), .val (.int u10), .val (.int u11), .val (.int u12), .val (.int u13), .val (.int u14), .val (.int u15), .val (.int u16), .val (.int u17), .val (.int u18), .val (.int u19), .val (.int u20), .val (.long u21), .second, .val (.long u23), .second, .val (.ref r_1), .val (.ref r_4), .val (.ref r_7), .val (.ref r_10), .val (.ref a_12), .val (.int ((Jvm.Free.XT.ushr p4 (8 : Int32)) &&& (3 : Int32))), .val (.ref a_19), .val (.int (0 : Int32)), .val (.int (1 : Int32))] []))
                  refine own_G.go (fun t_ k_ => XS.aload X_73.here hx rfl (hb hby at_460) rfl rfl k_) ?_
                  show own_G _ _ _ _ (T_73.setTop (mkF m 462 #[.val (.int p0), .val (.int p1), .val (.long p2), .second, .val (.long p3), .second, .val (.int p4), .val (.long p5), .second, .val (.int u9), .val (.int u10), .val (.int u11), .val (.int u12), .val (.int u13), .val (.int u14), .val (.int u15), .val (.int u16), .val (.int u17), .val (.int u18), .val (.int u19), .val (.int u20), .val (.long u21), .second, .val (.long u23), .second, .val (.ref r_1), .val (.ref r_4), .val (.ref r_7), .val (.ref r_10), .val (.ref a_12), .val (.int ((Jvm.Free.XT.ushr p4 (8 : Int32)) &&& (3 : Int32))), .val (.ref a_19), .val (.int (0 : Int32)), .val (.int (1 : Int32))] [(.ref a_12)]))
                  refine own_G.go (fun t_ k_ => XS.aload X_73.here hx rfl (hb hby at_462) rfl rfl k_) ?_
                  show own_G _ _ _ _ (T_73.setTop (mkF m 464 #[.val (.int p0), .val (.int p1), .val (.long p2), .second, .val (.long p3), .second, .val (.int p4), .val (.long p5), .second, .val (.int u9), .val (.int u10), .val (.int u11), .val (.int u12), .val (.int u13), .val (.int u14), .val (.int u15), .val (.int u16), .val (.int u17), .val (.int u18), .val (.int u19), .val (.int u20), .val (.long u21), .second, .val (.long u23), .second, .val (.ref r_1), .val (.ref r_4), .val (.ref r_7), .val (.ref r_10), .val (.ref a_12), .val (.int ((Jvm.Free.XT.ushr p4 (8 : Int32)) &&& (3 : Int32))), .val (.ref a_19), .val (.int (0 : Int32)), .val (.int (1 : Int32))] [(.ref a_12), (.ref a_12)]))
                  obtain ⟨cq_74, kq_74, q_74a, q_74b, q_74c⟩ := isOf hZ_10 eh_73 Ex_14'_50
                  obtain ⟨_, T_74, L_74, Q_74, X_74, st_74⟩ := own_callV X_73 hx (z := (⟨"com/example/kommit/kommit/KeyCounters$Entry", "equals", "(Ljava/lang/Object;)Z"⟩ : MethodName)) hown_10 (mvT hZ_10 (own_w hw 44 rfl)) (mvT hZ_10 (own_w hw 45 rfl)) (notFace_of_selects (args := #[]) (mvT hZ_10 (own_w hw 47 rfl))) (mvT hZ_10 (own_w hw 47 rfl)) (mvT hZ_10 (own_w hw 46 rfl)) (by decide) (Q := (Qeq ((own_cs u9 u10 u11) = (own_cs u9 u10 u11) ∧ (own_cs u15 u16 u17) = (own_cs u15 u16 u17) ∧ p2 = p2 ∧ p3 = p3) T_21.heap)) (backOf (W := 0) (rm_eqO l Z a0 hw [] a_12 a_12 r_1 r_4 r_1 r_4 t_1 t_4 t_1 t_4 kb_1 kb_4 kb_1 kb_4 (own_cs u9 u10 u11) (own_cs u15 u16 u17) (own_cs u9 u10 u11) (own_cs u15 u16 u17) p2 p3 p2 p3 zc T_21.heap n0 (Nat.le_trans Z0 (Nat.le_trans (Nat.le_trans (Nat.le_trans (Nat.le_trans (Nat.le_trans (Nat.le_trans (Nat.le_trans K_1.1 K_4.1) K_7.1) K_10.1) E_12.1) K_14.1) E_19.1) K_21.1)) Ex_14'_50 Ex_14'_50 G1_14'_51 G2_14'_52 G3_14'_53 G4_14'_54 G1_14'_51 G2_14'_52 G3_14'_53 G4_14'_54 Ex_1'_55 Fc_1'_56 Fv_1'_57 Kb_1'_58 (own_cs_b h10 h11) (own_cs_len _ _ _) Ex_4'_59 Fc_4'_60 Fv_4'_61 Kb_4'_62 (own_cs_b h16 h17) (own_cs_len _ _ _) Ex_1'_55 Fc_1'_56 Fv_1'_57 Kb_1'_58 (own_cs_b h10 h11) (own_cs_len _ _ _) Ex_4'_59 Fc_4'_60 Fv_4'_61 Kb_4'_62 (own_cs_b h16 h17) (own_cs_len _ _ _) O2 P5 O_71d) hZ_10 (own_w hw 48 rfl) (own_w hw 28 rfl) (by decide) (by decide)) q_74a q_74c (g := (mkF m 464 #[.val (.int p0), .val (.int p1), .val (.long p2), .second, .val (.long p3), .second, .val (.int p4), .val (.long p5), .second, .val (.int u9), .val (.int u10), .val (.int u11), .val (.int u12), .val (.int u13), .val (.int u14), .val (.int u15), .val (.int u16), .val (.int u17), .val (.int u18), .val (.int u19), .val (.int u20), .val (.long u21), .second, .val (.long u23), .second, .val (.ref r_1), .val (.ref r_4), .val (.ref r_7), .val (.ref r_10), .val (.ref a_12), .val (.int ((Jvm.Free.XT.ushr p4 (8 : Int32)) &&& (3 : Int32))), .val (.ref a_19), .val (.int (0 : Int32)), .val (.int (1 : Int32))] [(.ref a_12), (.ref a_12)])) rfl (by rw [hml]; rfl) (argsL := [(.ref a_12)]) (rest := []) (lenOf pd_3 rfl) rfl (by show 2 * 0 + _ ≤ _; exact Nat.le_of_eq rfl) (hb hby at_464) eh_73 rfl (by decide) (by decide)
                  obtain ⟨⟨z_74, rfl, hz_74⟩, rfl, eh_74⟩ := Q_74
                  refine own_G.via st_74 ?_
                  have N_74 := Fr.app N_73 (Fr.nil n0)
                  show own_G _ _ _ _ (T_74.setTop (mkF m 467 #[.val (.int p0), .val (.int p1), .val (.long p2), .second, .val (.long p3), .second, .val (.int p4), .val (.long p5), .second, .val (.int u9), .val (.int u10), .val (.int u11), .val (.int u12), .val (.int u13), .val (.int u14), .val (.int u15), .val (.int u16), .val (.int u17), .val (.int u18), .val (.int u19), .val (.int u20), .val (.long u21), .second, .val (.long u23), .second, .val (.ref r_1), .val (.ref r_4), .val (.ref r_7), .val (.ref r_10), .val (.ref a_12), .val (.int ((Jvm.Free.XT.ushr p4 (8 : Int32)) &&& (3 : Int32))), .val (.ref a_19), .val (.int (0 : Int32)), .val (.int (1 : Int32))] [(.int z_74)]))
                  refine own_G.go (fun t_ k_ => XS.ifNo X_74.here hx rfl (hb hby at_467) rfl ((if0 _ _).trans (feq (fun q => by have q1 := own_z1 hz_74 ⟨rfl, rfl, rfl, rfl⟩; rw [q1] at q; exact absurd q (by decide) : ¬ z_74 = (0 : Int32))).1) k_) ?_
                  show own_G _ _ _ _ (T_74.setTop (mkF m 470 #[.val (.int p0), .val (.int p1), .val (.long p2), .second, .val (.long p3), .second, .val (.int p4), .val (.long p5), .second, .val (.int u9), .val (.int u10), .val (.int u11), .val (.int u12), .val (.int u13), .val (.int u14), .val (.int u15), .val (.int u16), .val (.int u17), .val (.int u18), .val (.int u19), .val (.int u20), .val (.long u21), .second, .val (.long u23), .second, .val (.ref r_1), .val (.ref r_4), .val (.ref r_7), .val (.ref r_10), .val (.ref a_12), .val (.int ((Jvm.Free.XT.ushr p4 (8 : Int32)) &&& (3 : Int32))), .val (.ref a_19), .val (.int (0 : Int32)), .val (.int (1 : Int32))] []))
                  refine own_G.go (fun t_ k_ => XS.iconst X_74.here hx rfl (hb hby at_470) k_) ?_
                  show own_G _ _ _ _ (T_74.setTop (mkF m 471 #[.val (.int p0), .val (.int p1), .val (.long p2), .second, .val (.long p3), .second, .val (.int p4), .val (.long p5), .second, .val (.int u9), .val (.int u10), .val (.int u11), .val (.int u12), .val (.int u13), .val (.int u14), .val (.int u15), .val (.int u16), .val (.int u17), .val (.int u18), .val (.int u19), .val (.int u20), .val (.long u21), .second, .val (.long u23), .second, .val (.ref r_1), .val (.ref r_4), .val (.ref r_7), .val (.ref r_10), .val (.ref a_12), .val (.int ((Jvm.Free.XT.ushr p4 (8 : Int32)) &&& (3 : Int32))), .val (.ref a_19), .val (.int (0 : Int32)), .val (.int (1 : Int32))] [(.int (1 : Int32))]))
                  refine own_G.go (fun t_ k_ => XS.goto X_74.here hx rfl (pc0 := 471) (pc' := 475) rfl (hb hby at_471) (by decide) (by decide) k_) ?_
                  show own_G _ _ _ _ (T_74.setTop (mkF m 475 #[.val (.int p0), .val (.int p1), .val (.long p2), .second, .val (.long p3), .second, .val (.int p4), .val (.long p5), .second, .val (.int u9), .val (.int u10), .val (.int u11), .val (.int u12), .val (.int u13), .val (.int u14), .val (.int u15), .val (.int u16), .val (.int u17), .val (.int u18), .val (.int u19), .val (.int u20), .val (.long u21), .second, .val (.long u23), .second, .val (.ref r_1), .val (.ref r_4), .val (.ref r_7), .val (.ref r_10), .val (.ref a_12), .val (.int ((Jvm.Free.XT.ushr p4 (8 : Int32)) &&& (3 : Int32))), .val (.ref a_19), .val (.int (0 : Int32)), .val (.int (1 : Int32))] [(.int (1 : Int32))]))
                  exact own_G.endH X_74 hS_10 (Nat.le_trans (Nat.le_refl _) (Nat.le_trans (Nat.le_trans (Nat.le_trans E_12.1 K_14.1) E_19.1) K_21.1)) hZ_10 hEW (hh ▸ CH_22) hlk (v := (some (.int (1 : Int32)))) (fun h => by rw [hrt] at h; cases h) (fun fs hr => retN X_74 hx (z := (1 : Int32)) (t := .boolean) hrt (by simp) (hb hby at_475) hr) eh_74 ⟨rfl, N_74⟩ (by decide) (by decide)
                · refine own_G.go (fun t_ k_ => XS.icmpYes X_73.here hx rfl (pc0 := 452) (pc' := 476) rfl (hb hby at_452) rfl (feq hm3).2 (by decide) (by decide) k_) ?_
                  show own_G _ _ _ _ (T_73.setTop (mkF m 476 #[.val (.int p0), .val (.int p1), .val (.long p2), .second, .val (.long p3), .second, .val (.int p4), .val (.long p5), .second, .val (.int u9), .val (.int u10), .val (.int u11), .val (.int u12), .val (.int u13), .val (.int u14), .val (.int u15), .val (.int u16), .val (.int u17), .val (.int u18), .val (.int u19), .val (.int u20), .val (.long u21), .second, .val (.long u23), .second, .val (.ref r_1), .val (.ref r_4), .val (.ref r_7), .val (.ref r_10), .val (.ref a_12), .val (.int ((Jvm.Free.XT.ushr p4 (8 : Int32)) &&& (3 : Int32))), .val (.ref a_19), .val (.int (0 : Int32)), .val (.int (1 : Int32))] []))
                  refine own_G.go (fun t_ k_ => XS.iload X_73.here hx rfl (hb hby at_476) rfl k_) ?_
                  show own_G _ _ _ _ (T_73.setTop (mkF m 478 #[.val (.int p0), .val (.int p1), .val (.long p2), .second, .val (.long p3), .second, .val (.int p4), .val (.long p5), .second, .val (.int u9), .val (.int u10), .val (.int u11), .val (.int u12), .val (.int u13), .val (.int u14), .val (.int u15), .val (.int u16), .val (.int u17), .val (.int u18), .val (.int u19), .val (.int u20), .val (.long u21), .second, .val (.long u23), .second, .val (.ref r_1), .val (.ref r_4), .val (.ref r_7), .val (.ref r_10), .val (.ref a_12), .val (.int ((Jvm.Free.XT.ushr p4 (8 : Int32)) &&& (3 : Int32))), .val (.ref a_19), .val (.int (0 : Int32)), .val (.int (1 : Int32))] [(.int (1 : Int32))]))
                  exact own_G.endH X_73 hS_10 (Nat.le_trans (Nat.le_refl _) (Nat.le_trans (Nat.le_trans (Nat.le_trans E_12.1 K_14.1) E_19.1) K_21.1)) hZ_10 hEW (hh ▸ CH_22) hlk (v := (some (.int (1 : Int32)))) (fun h => by rw [hrt] at h; cases h) (fun fs hr => retN X_73 hx (z := (1 : Int32)) (t := .boolean) hrt (by simp) (hb hby at_478) hr) eh_73 ⟨rfl, N_73⟩ (by decide) (by decide)
            · refine own_G.go (fun t_ k_ => XS.ifYes X_24.here hx rfl (pc0 := 400) (pc' := 415) rfl (hb hby at_400) rfl ((if0 _ _).trans (feq hf).2) (by decide) (by decide) k_) ?_
              show own_G _ _ _ _ (T_24.setTop (mkF m 415 #[.val (.int p0), .val (.int p1), .val (.long p2), .second, .val (.long p3), .second, .val (.int p4), .val (.long p5), .second, .val (.int u9), .val (.int u10), .val (.int u11), .val (.int u12), .val (.int u13), .val (.int u14), .val (.int u15), .val (.int u16), .val (.int u17), .val (.int u18), .val (.int u19), .val (.int u20), .val (.long u21), .second, .val (.long u23), .second, .val (.ref r_1), .val (.ref r_4), .val (.ref r_7), .val (.ref r_10), .val (.ref a_12), .val (.int ((Jvm.Free.XT.ushr p4 (8 : Int32)) &&& (3 : Int32))), .val (.ref a_19), .unset, .unset] []))
              refine own_G.go (fun t_ k_ => XS.iconst X_24.here hx rfl (hb hby at_415) k_) ?_
              show own_G _ _ _ _ (T_24.setTop (mkF m 416 #[.val (.int p0), .val (.int p1), .val (.long p2), .second, .val (.long p3), .second, .val (.int p4), .val (.long p5), .second, .val (.int u9), .val (.int u10), .val (.int u11), .val (.int u12), .val (.int u13), .val (.int u14), .val (.int u15), .val (.int u16), .val (.int u17), .val (.int u18), .val (.int u19), .val (.int u20), .val (.long u21), .second, .val (.long u23), .second, .val (.ref r_1), .val (.ref r_4), .val (.ref r_7), .val (.ref r_10), .val (.ref a_12), .val (.int ((Jvm.Free.XT.ushr p4 (8 : Int32)) &&& (3 : Int32))), .val (.ref a_19), .unset, .unset] [(.int (0 : Int32))]))
              refine own_G.go (fun t_ k_ => XS.istore X_24.here hx rfl (hb hby at_416) rfl (l' := #[.val (.int p0), .val (.int p1), .val (.long p2), .second, .val (.long p3), .second, .val (.int p4), .val (.long p5), .second, .val (.int u9), .val (.int u10), .val (.int u11), .val (.int u12), .val (.int u13), .val (.int u14), .val (.int u15), .val (.int u16), .val (.int u17), .val (.int u18), .val (.int u19), .val (.int u20), .val (.long u21), .second, .val (.long u23), .second, .val (.ref r_1), .val (.ref r_4), .val (.ref r_7), .val (.ref r_10), .val (.ref a_12), .val (.int ((Jvm.Free.XT.ushr p4 (8 : Int32)) &&& (3 : Int32))), .val (.ref a_19), .val (.int (0 : Int32)), .unset]) rfl k_) ?_
              show own_G _ _ _ _ (T_24.setTop (mkF m 418 #[.val (.int p0), .val (.int p1), .val (.long p2), .second, .val (.long p3), .second, .val (.int p4), .val (.long p5), .second, .val (.int u9), .val (.int u10), .val (.int u11), .val (.int u12), .val (.int u13), .val (.int u14), .val (.int u15), .val (.int u16), .val (.int u17), .val (.int u18), .val (.int u19), .val (.int u20), .val (.long u21), .second, .val (.long u23), .second, .val (.ref r_1), .val (.ref r_4), .val (.ref r_7), .val (.ref r_10), .val (.ref a_12), .val (.int ((Jvm.Free.XT.ushr p4 (8 : Int32)) &&& (3 : Int32))), .val (.ref a_19), .val (.int (0 : Int32)), .unset] []))
              refine own_G.go (fun t_ k_ => XS.aload X_24.here hx rfl (hb hby at_418) rfl rfl k_) ?_
              show own_G _ _ _ _ (T_24.setTop (mkF m 420 #[.val (.int p0), .val (.int p1), .val (.long p2), .second, .val (.long p3), .second, .val (.int p4), .val (.long p5), .second, .val (.int u9), .val (.int u10), .val (.int u11), .val (.int u12), .val (.int u13), .val (.int u14), .val (.int u15), .val (.int u16), .val (.int u17), .val (.int u18), .val (.int u19), .val (.int u20), .val (.long u21), .second, .val (.long u23), .second, .val (.ref r_1), .val (.ref r_4), .val (.ref r_7), .val (.ref r_10), .val (.ref a_12), .val (.int ((Jvm.Free.XT.ushr p4 (8 : Int32)) &&& (3 : Int32))), .val (.ref a_19), .val (.int (0 : Int32)), .unset] [(.ref a_12)]))
              refine own_G.go (fun t_ k_ => XS.aload X_24.here hx rfl (hb hby at_420) rfl rfl k_) ?_
              show own_G _ _ _ _ (T_24.setTop (mkF m 422 #[.val (.int p0), .val (.int p1), .val (.long p2), .second, .val (.long p3), .second, .val (.int p4), .val (.long p5), .second, .val (.int u9), .val (.int u10), .val (.int u11), .val (.int u12), .val (.int u13), .val (.int u14), .val (.int u15), .val (.int u16), .val (.int u17), .val (.int u18), .val (.int u19), .val (.int u20), .val (.long u21), .second, .val (.long u23), .second, .val (.ref r_1), .val (.ref r_4), .val (.ref r_7), .val (.ref r_10), .val (.ref a_12), .val (.int ((Jvm.Free.XT.ushr p4 (8 : Int32)) &&& (3 : Int32))), .val (.ref a_19), .val (.int (0 : Int32)), .unset] [(.ref a_19), (.ref a_12)]))
              have Ex_14'_75 : Exa Z T_21.heap a_12 "com/example/kommit/kommit/KeyCounters$Entry" := ((Ex_14.ext E_19).keep K_21)
              have G1_14'_76 : Fld Z T_21.heap a_12 "com/example/kommit/kommit/KeyCounters$Entry" "kind" "Ljava/lang/String;" (.ref r_1) := ((G1_14.ext E_19).keep K_21 (ninS (Nat.ne_of_lt (Nat.lt_of_lt_of_le (Nat.lt_of_lt_of_le A_12.lt K_14.1) (Nat.le_of_eq g_19.symm))) nin0))
              have G2_14'_77 : Fld Z T_21.heap a_12 "com/example/kommit/kommit/KeyCounters$Entry" "name" "Ljava/lang/String;" (.ref r_4) := ((G2_14.ext E_19).keep K_21 (ninS (Nat.ne_of_lt (Nat.lt_of_lt_of_le (Nat.lt_of_lt_of_le A_12.lt K_14.1) (Nat.le_of_eq g_19.symm))) nin0))
              have G3_14'_78 : Fld Z T_21.heap a_12 "com/example/kommit/kommit/KeyCounters$Entry" "first" "J" (.long p2) := ((G3_14.ext E_19).keep K_21 (ninS (Nat.ne_of_lt (Nat.lt_of_lt_of_le (Nat.lt_of_lt_of_le A_12.lt K_14.1) (Nat.le_of_eq g_19.symm))) nin0))
              have G4_14'_79 : Fld Z T_21.heap a_12 "com/example/kommit/kommit/KeyCounters$Entry" "second" "J" (.long p3) := ((G4_14.ext E_19).keep K_21 (ninS (Nat.ne_of_lt (Nat.lt_of_lt_of_le (Nat.lt_of_lt_of_le A_12.lt K_14.1) (Nat.le_of_eq g_19.symm))) nin0))
              have Ex_1'_80 : Exa Z T_21.heap r_1 "java/lang/String" := (((((((Ex_1.keep K_4).keep K_7).keep K_10).ext E_12).keep K_14).ext E_19).keep K_21)
              have Fc_1'_81 : Fld Z T_21.heap r_1 "java/lang/String" "coder" "B" (.int 0) := (((((((Fc_1.keep K_4 nin0).keep K_7 nin0).keep K_10 nin0).ext E_12).keep K_14 (ninS (Nat.ne_of_lt (Nat.lt_of_lt_of_le (Nat.lt_of_lt_of_le Ex_1.lt (Nat.le_trans (Nat.le_trans K_4.1 K_7.1) K_10.1)) (Nat.le_of_eq g_12.symm))) nin0)).ext E_19).keep K_21 (ninS (Nat.ne_of_lt (Nat.lt_of_lt_of_le (Nat.lt_of_lt_of_le Ex_1.lt (Nat.le_trans (Nat.le_trans (Nat.le_trans (Nat.le_trans K_4.1 K_7.1) K_10.1) E_12.1) K_14.1)) (Nat.le_of_eq g_19.symm))) nin0))
              have Fv_1'_82 : Fld Z T_21.heap r_1 "java/lang/String" "value" "[B" (.ref t_1) := (((((((Fv_1.keep K_4 nin0).keep K_7 nin0).keep K_10 nin0).ext E_12).keep K_14 (ninS (Nat.ne_of_lt (Nat.lt_of_lt_of_le (Nat.lt_of_lt_of_le Ex_1.lt (Nat.le_trans (Nat.le_trans K_4.1 K_7.1) K_10.1)) (Nat.le_of_eq g_12.symm))) nin0)).ext E_19).keep K_21 (ninS (Nat.ne_of_lt (Nat.lt_of_lt_of_le (Nat.lt_of_lt_of_le Ex_1.lt (Nat.le_trans (Nat.le_trans (Nat.le_trans (Nat.le_trans K_4.1 K_7.1) K_10.1) E_12.1) K_14.1)) (Nat.le_of_eq g_19.symm))) nin0))
              have Kb_1'_83 : Arv Z T_21.heap t_1 kb_1 .byte (Int32.ofNat (own_cs u9 u10 u11).length) (((own_cs u9 u10 u11).map (fun c => c.toInt8.toInt32)).map Value.int) (.int 0) := (((((((Kb_1.keep K_4 nin0).keep K_7 nin0).keep K_10 nin0).ext E_12).keep K_14 (ninS (Nat.ne_of_lt (Nat.lt_of_lt_of_le (Nat.lt_of_lt_of_le Kb_1.lt (Nat.le_trans (Nat.le_trans K_4.1 K_7.1) K_10.1)) (Nat.le_of_eq g_12.symm))) nin0)).ext E_19).keep K_21 (ninS (Nat.ne_of_lt (Nat.lt_of_lt_of_le (Nat.lt_of_lt_of_le Kb_1.lt (Nat.le_trans (Nat.le_trans (Nat.le_trans (Nat.le_trans K_4.1 K_7.1) K_10.1) E_12.1) K_14.1)) (Nat.le_of_eq g_19.symm))) nin0))
              have Ex_4'_84 : Exa Z T_21.heap r_4 "java/lang/String" := ((((((Ex_4.keep K_7).keep K_10).ext E_12).keep K_14).ext E_19).keep K_21)
              have Fc_4'_85 : Fld Z T_21.heap r_4 "java/lang/String" "coder" "B" (.int 0) := ((((((Fc_4.keep K_7 nin0).keep K_10 nin0).ext E_12).keep K_14 (ninS (Nat.ne_of_lt (Nat.lt_of_lt_of_le (Nat.lt_of_lt_of_le Ex_4.lt (Nat.le_trans K_7.1 K_10.1)) (Nat.le_of_eq g_12.symm))) nin0)).ext E_19).keep K_21 (ninS (Nat.ne_of_lt (Nat.lt_of_lt_of_le (Nat.lt_of_lt_of_le Ex_4.lt (Nat.le_trans (Nat.le_trans (Nat.le_trans K_7.1 K_10.1) E_12.1) K_14.1)) (Nat.le_of_eq g_19.symm))) nin0))
              have Fv_4'_86 : Fld Z T_21.heap r_4 "java/lang/String" "value" "[B" (.ref t_4) := ((((((Fv_4.keep K_7 nin0).keep K_10 nin0).ext E_12).keep K_14 (ninS (Nat.ne_of_lt (Nat.lt_of_lt_of_le (Nat.lt_of_lt_of_le Ex_4.lt (Nat.le_trans K_7.1 K_10.1)) (Nat.le_of_eq g_12.symm))) nin0)).ext E_19).keep K_21 (ninS (Nat.ne_of_lt (Nat.lt_of_lt_of_le (Nat.lt_of_lt_of_le Ex_4.lt (Nat.le_trans (Nat.le_trans (Nat.le_trans K_7.1 K_10.1) E_12.1) K_14.1)) (Nat.le_of_eq g_19.symm))) nin0))
              have Kb_4'_87 : Arv Z T_21.heap t_4 kb_4 .byte (Int32.ofNat (own_cs u15 u16 u17).length) (((own_cs u15 u16 u17).map (fun c => c.toInt8.toInt32)).map Value.int) (.int 0) := ((((((Kb_4.keep K_7 nin0).keep K_10 nin0).ext E_12).keep K_14 (ninS (Nat.ne_of_lt (Nat.lt_of_lt_of_le (Nat.lt_of_lt_of_le Kb_4.lt (Nat.le_trans K_7.1 K_10.1)) (Nat.le_of_eq g_12.symm))) nin0)).ext E_19).keep K_21 (ninS (Nat.ne_of_lt (Nat.lt_of_lt_of_le (Nat.lt_of_lt_of_le Kb_4.lt (Nat.le_trans (Nat.le_trans (Nat.le_trans K_7.1 K_10.1) E_12.1) K_14.1)) (Nat.le_of_eq g_19.symm))) nin0))
              have Ex_7'_88 : Exa Z T_21.heap r_7 "java/lang/String" := (((((Ex_7.keep K_10).ext E_12).keep K_14).ext E_19).keep K_21)
              have Fc_7'_89 : Fld Z T_21.heap r_7 "java/lang/String" "coder" "B" (.int 0) := (((((Fc_7.keep K_10 nin0).ext E_12).keep K_14 (ninS (Nat.ne_of_lt (Nat.lt_of_lt_of_le (Nat.lt_of_lt_of_le Ex_7.lt K_10.1) (Nat.le_of_eq g_12.symm))) nin0)).ext E_19).keep K_21 (ninS (Nat.ne_of_lt (Nat.lt_of_lt_of_le (Nat.lt_of_lt_of_le Ex_7.lt (Nat.le_trans (Nat.le_trans K_10.1 E_12.1) K_14.1)) (Nat.le_of_eq g_19.symm))) nin0))
              have Fv_7'_90 : Fld Z T_21.heap r_7 "java/lang/String" "value" "[B" (.ref t_7) := (((((Fv_7.keep K_10 nin0).ext E_12).keep K_14 (ninS (Nat.ne_of_lt (Nat.lt_of_lt_of_le (Nat.lt_of_lt_of_le Ex_7.lt K_10.1) (Nat.le_of_eq g_12.symm))) nin0)).ext E_19).keep K_21 (ninS (Nat.ne_of_lt (Nat.lt_of_lt_of_le (Nat.lt_of_lt_of_le Ex_7.lt (Nat.le_trans (Nat.le_trans K_10.1 E_12.1) K_14.1)) (Nat.le_of_eq g_19.symm))) nin0))
              have Kb_7'_91 : Arv Z T_21.heap t_7 kb_7 .byte (Int32.ofNat (own_cs u12 u13 u14).length) (((own_cs u12 u13 u14).map (fun c => c.toInt8.toInt32)).map Value.int) (.int 0) := (((((Kb_7.keep K_10 nin0).ext E_12).keep K_14 (ninS (Nat.ne_of_lt (Nat.lt_of_lt_of_le (Nat.lt_of_lt_of_le Kb_7.lt K_10.1) (Nat.le_of_eq g_12.symm))) nin0)).ext E_19).keep K_21 (ninS (Nat.ne_of_lt (Nat.lt_of_lt_of_le (Nat.lt_of_lt_of_le Kb_7.lt (Nat.le_trans (Nat.le_trans K_10.1 E_12.1) K_14.1)) (Nat.le_of_eq g_19.symm))) nin0))
              have Ex_10'_92 : Exa Z T_21.heap r_10 "java/lang/String" := ((((Ex_10.ext E_12).keep K_14).ext E_19).keep K_21)
              have Fc_10'_93 : Fld Z T_21.heap r_10 "java/lang/String" "coder" "B" (.int 0) := ((((Fc_10.ext E_12).keep K_14 (ninS (Nat.ne_of_lt (Nat.lt_of_lt_of_le Ex_10.lt (Nat.le_of_eq g_12.symm))) nin0)).ext E_19).keep K_21 (ninS (Nat.ne_of_lt (Nat.lt_of_lt_of_le (Nat.lt_of_lt_of_le Ex_10.lt (Nat.le_trans E_12.1 K_14.1)) (Nat.le_of_eq g_19.symm))) nin0))
              have Fv_10'_94 : Fld Z T_21.heap r_10 "java/lang/String" "value" "[B" (.ref t_10) := ((((Fv_10.ext E_12).keep K_14 (ninS (Nat.ne_of_lt (Nat.lt_of_lt_of_le Ex_10.lt (Nat.le_of_eq g_12.symm))) nin0)).ext E_19).keep K_21 (ninS (Nat.ne_of_lt (Nat.lt_of_lt_of_le (Nat.lt_of_lt_of_le Ex_10.lt (Nat.le_trans E_12.1 K_14.1)) (Nat.le_of_eq g_19.symm))) nin0))
              have Kb_10'_95 : Arv Z T_21.heap t_10 kb_10 .byte (Int32.ofNat (own_cs u18 u19 u20).length) (((own_cs u18 u19 u20).map (fun c => c.toInt8.toInt32)).map Value.int) (.int 0) := ((((Kb_10.ext E_12).keep K_14 (ninS (Nat.ne_of_lt (Nat.lt_of_lt_of_le Kb_10.lt (Nat.le_of_eq g_12.symm))) nin0)).ext E_19).keep K_21 (ninS (Nat.ne_of_lt (Nat.lt_of_lt_of_le (Nat.lt_of_lt_of_le Kb_10.lt (Nat.le_trans E_12.1 K_14.1)) (Nat.le_of_eq g_19.symm))) nin0))
              have O_96d : Old Z n0 T_21.heap := (((((O_9d.keep K_10 all0).ext E_12).keep K_14 (allS g0_a_12 all0)).ext E_19).keep K_21 (allS g0_a_19 all0))
              obtain ⟨cq_97, kq_97, q_97a, q_97b, q_97c⟩ := isOf hZ_10 eh_24 Ex_14'_75
              obtain ⟨_, T_97, L_97, Q_97, X_97, st_97⟩ := own_callV X_24 hx (z := (⟨"com/example/kommit/kommit/KeyCounters$Entry", "equals", "(Ljava/lang/Object;)Z"⟩ : MethodName)) hown_10 (mvT hZ_10 (own_w hw 44 rfl)) (mvT hZ_10 (own_w hw 45 rfl)) (notFace_of_selects (args := #[]) (mvT hZ_10 (own_w hw 47 rfl))) (mvT hZ_10 (own_w hw 47 rfl)) (mvT hZ_10 (own_w hw 46 rfl)) (by decide) (Q := (Qeq ((own_cs u9 u10 u11) = (own_cs u12 u13 u14) ∧ (own_cs u15 u16 u17) = (own_cs u18 u19 u20) ∧ u21 = p2 ∧ u23 = p3) T_21.heap)) (backOf (W := 0) (rm_eqO l Z a0 hw [] a_12 a_19 r_1 r_4 r_7 r_10 t_1 t_4 t_7 t_10 kb_1 kb_4 kb_7 kb_10 (own_cs u9 u10 u11) (own_cs u15 u16 u17) (own_cs u12 u13 u14) (own_cs u18 u19 u20) p2 p3 u21 u23 zc T_21.heap n0 (Nat.le_trans Z0 (Nat.le_trans (Nat.le_trans (Nat.le_trans (Nat.le_trans (Nat.le_trans (Nat.le_trans (Nat.le_trans K_1.1 K_4.1) K_7.1) K_10.1) E_12.1) K_14.1) E_19.1) K_21.1)) Ex_14'_75 Ex_21 G1_14'_76 G2_14'_77 G3_14'_78 G4_14'_79 G1_21 G2_21 G3_21 G4_21 Ex_1'_80 Fc_1'_81 Fv_1'_82 Kb_1'_83 (own_cs_b h10 h11) (own_cs_len _ _ _) Ex_4'_84 Fc_4'_85 Fv_4'_86 Kb_4'_87 (own_cs_b h16 h17) (own_cs_len _ _ _) Ex_7'_88 Fc_7'_89 Fv_7'_90 Kb_7'_91 (own_cs_b h13 h14) (own_cs_len _ _ _) Ex_10'_92 Fc_10'_93 Fv_10'_94 Kb_10'_95 (own_cs_b h19 h20) (own_cs_len _ _ _) O2 P5 O_96d) hZ_10 (own_w hw 48 rfl) (own_w hw 28 rfl) (by decide) (by decide)) q_97a q_97c (g := (mkF m 422 #[.val (.int p0), .val (.int p1), .val (.long p2), .second, .val (.long p3), .second, .val (.int p4), .val (.long p5), .second, .val (.int u9), .val (.int u10), .val (.int u11), .val (.int u12), .val (.int u13), .val (.int u14), .val (.int u15), .val (.int u16), .val (.int u17), .val (.int u18), .val (.int u19), .val (.int u20), .val (.long u21), .second, .val (.long u23), .second, .val (.ref r_1), .val (.ref r_4), .val (.ref r_7), .val (.ref r_10), .val (.ref a_12), .val (.int ((Jvm.Free.XT.ushr p4 (8 : Int32)) &&& (3 : Int32))), .val (.ref a_19), .val (.int (0 : Int32)), .unset] [(.ref a_19), (.ref a_12)])) rfl (by rw [hml]; rfl) (argsL := [(.ref a_19)]) (rest := []) (lenOf pd_3 rfl) rfl (by show 2 * 0 + _ ≤ _; exact Nat.le_of_eq rfl) (hb hby at_422) eh_24 rfl (by decide) (by decide)
              obtain ⟨⟨z_97, rfl, hz_97⟩, rfl, eh_97⟩ := Q_97
              refine own_G.via st_97 ?_
              have N_97 := Fr.app N_24 (Fr.nil n0)
              show own_G _ _ _ _ (T_97.setTop (mkF m 425 #[.val (.int p0), .val (.int p1), .val (.long p2), .second, .val (.long p3), .second, .val (.int p4), .val (.long p5), .second, .val (.int u9), .val (.int u10), .val (.int u11), .val (.int u12), .val (.int u13), .val (.int u14), .val (.int u15), .val (.int u16), .val (.int u17), .val (.int u18), .val (.int u19), .val (.int u20), .val (.long u21), .second, .val (.long u23), .second, .val (.ref r_1), .val (.ref r_4), .val (.ref r_7), .val (.ref r_10), .val (.ref a_12), .val (.int ((Jvm.Free.XT.ushr p4 (8 : Int32)) &&& (3 : Int32))), .val (.ref a_19), .val (.int (0 : Int32)), .unset] [(.int z_97)]))
              refine own_G.go (fun t_ k_ => XS.iload X_97.here hx rfl (hb hby at_425) rfl k_) ?_
              show own_G _ _ _ _ (T_97.setTop (mkF m 427 #[.val (.int p0), .val (.int p1), .val (.long p2), .second, .val (.long p3), .second, .val (.int p4), .val (.long p5), .second, .val (.int u9), .val (.int u10), .val (.int u11), .val (.int u12), .val (.int u13), .val (.int u14), .val (.int u15), .val (.int u16), .val (.int u17), .val (.int u18), .val (.int u19), .val (.int u20), .val (.long u21), .second, .val (.long u23), .second, .val (.ref r_1), .val (.ref r_4), .val (.ref r_7), .val (.ref r_10), .val (.ref a_12), .val (.int ((Jvm.Free.XT.ushr p4 (8 : Int32)) &&& (3 : Int32))), .val (.ref a_19), .val (.int (0 : Int32)), .unset] [(.int (0 : Int32)), (.int z_97)]))
              refine own_G.go (fun t_ k_ => XS.icmpNo X_97.here hx rfl (hb hby at_427) rfl (teq (own_z0 hz_97 (fun q => by first | exact hg ((lw_eq _ _).mpr q.2.2.2) | exact hf ((lw_eq _ _).mpr q.2.2.1) | exact hs2 q.2.1 | exact hs1 q.1) : z_97 = (0 : Int32))).2 k_) ?_
              show own_G _ _ _ _ (T_97.setTop (mkF m 430 #[.val (.int p0), .val (.int p1), .val (.long p2), .second, .val (.long p3), .second, .val (.int p4), .val (.long p5), .second, .val (.int u9), .val (.int u10), .val (.int u11), .val (.int u12), .val (.int u13), .val (.int u14), .val (.int u15), .val (.int u16), .val (.int u17), .val (.int u18), .val (.int u19), .val (.int u20), .val (.long u21), .second, .val (.long u23), .second, .val (.ref r_1), .val (.ref r_4), .val (.ref r_7), .val (.ref r_10), .val (.ref a_12), .val (.int ((Jvm.Free.XT.ushr p4 (8 : Int32)) &&& (3 : Int32))), .val (.ref a_19), .val (.int (0 : Int32)), .unset] []))
              refine own_G.go (fun t_ k_ => XS.aload X_97.here hx rfl (hb hby at_430) rfl rfl k_) ?_
              show own_G _ _ _ _ (T_97.setTop (mkF m 432 #[.val (.int p0), .val (.int p1), .val (.long p2), .second, .val (.long p3), .second, .val (.int p4), .val (.long p5), .second, .val (.int u9), .val (.int u10), .val (.int u11), .val (.int u12), .val (.int u13), .val (.int u14), .val (.int u15), .val (.int u16), .val (.int u17), .val (.int u18), .val (.int u19), .val (.int u20), .val (.long u21), .second, .val (.long u23), .second, .val (.ref r_1), .val (.ref r_4), .val (.ref r_7), .val (.ref r_10), .val (.ref a_12), .val (.int ((Jvm.Free.XT.ushr p4 (8 : Int32)) &&& (3 : Int32))), .val (.ref a_19), .val (.int (0 : Int32)), .unset] [(.ref a_19)]))
              refine own_G.go (fun t_ k_ => XS.aload X_97.here hx rfl (hb hby at_432) rfl rfl k_) ?_
              show own_G _ _ _ _ (T_97.setTop (mkF m 434 #[.val (.int p0), .val (.int p1), .val (.long p2), .second, .val (.long p3), .second, .val (.int p4), .val (.long p5), .second, .val (.int u9), .val (.int u10), .val (.int u11), .val (.int u12), .val (.int u13), .val (.int u14), .val (.int u15), .val (.int u16), .val (.int u17), .val (.int u18), .val (.int u19), .val (.int u20), .val (.long u21), .second, .val (.long u23), .second, .val (.ref r_1), .val (.ref r_4), .val (.ref r_7), .val (.ref r_10), .val (.ref a_12), .val (.int ((Jvm.Free.XT.ushr p4 (8 : Int32)) &&& (3 : Int32))), .val (.ref a_19), .val (.int (0 : Int32)), .unset] [(.ref a_12), (.ref a_19)]))
              obtain ⟨cq_98, kq_98, q_98a, q_98b, q_98c⟩ := isOf hZ_10 eh_97 Ex_21
              obtain ⟨_, T_98, L_98, Q_98, X_98, st_98⟩ := own_callV X_97 hx (z := (⟨"com/example/kommit/kommit/KeyCounters$Entry", "equals", "(Ljava/lang/Object;)Z"⟩ : MethodName)) hown_10 (mvT hZ_10 (own_w hw 44 rfl)) (mvT hZ_10 (own_w hw 45 rfl)) (notFace_of_selects (args := #[]) (mvT hZ_10 (own_w hw 47 rfl))) (mvT hZ_10 (own_w hw 47 rfl)) (mvT hZ_10 (own_w hw 46 rfl)) (by decide) (Q := (Qeq ((own_cs u12 u13 u14) = (own_cs u9 u10 u11) ∧ (own_cs u18 u19 u20) = (own_cs u15 u16 u17) ∧ p2 = u21 ∧ p3 = u23) T_21.heap)) (backOf (W := 0) (rm_eqO l Z a0 hw [] a_19 a_12 r_7 r_10 r_1 r_4 t_7 t_10 t_1 t_4 kb_7 kb_10 kb_1 kb_4 (own_cs u12 u13 u14) (own_cs u18 u19 u20) (own_cs u9 u10 u11) (own_cs u15 u16 u17) u21 u23 p2 p3 zc T_21.heap n0 (Nat.le_trans Z0 (Nat.le_trans (Nat.le_trans (Nat.le_trans (Nat.le_trans (Nat.le_trans (Nat.le_trans (Nat.le_trans K_1.1 K_4.1) K_7.1) K_10.1) E_12.1) K_14.1) E_19.1) K_21.1)) Ex_21 Ex_14'_75 G1_21 G2_21 G3_21 G4_21 G1_14'_76 G2_14'_77 G3_14'_78 G4_14'_79 Ex_7'_88 Fc_7'_89 Fv_7'_90 Kb_7'_91 (own_cs_b h13 h14) (own_cs_len _ _ _) Ex_10'_92 Fc_10'_93 Fv_10'_94 Kb_10'_95 (own_cs_b h19 h20) (own_cs_len _ _ _) Ex_1'_80 Fc_1'_81 Fv_1'_82 Kb_1'_83 (own_cs_b h10 h11) (own_cs_len _ _ _) Ex_4'_84 Fc_4'_85 Fv_4'_86 Kb_4'_87 (own_cs_b h16 h17) (own_cs_len _ _ _) O2 P5 O_96d) hZ_10 (own_w hw 48 rfl) (own_w hw 28 rfl) (by decide) (by decide)) q_98a q_98c (g := (mkF m 434 #[.val (.int p0), .val (.int p1), .val (.long p2), .second, .val (.long p3), .second, .val (.int p4), .val (.long p5), .second, .val (.int u9), .val (.int u10), .val (.int u11), .val (.int u12), .val (.int u13), .val (.int u14), .val (.int u15), .val (.int u16), .val (.int u17), .val (.int u18), .val (.int u19), .val (.int u20), .val (.long u21), .second, .val (.long u23), .second, .val (.ref r_1), .val (.ref r_4), .val (.ref r_7), .val (.ref r_10), .val (.ref a_12), .val (.int ((Jvm.Free.XT.ushr p4 (8 : Int32)) &&& (3 : Int32))), .val (.ref a_19), .val (.int (0 : Int32)), .unset] [(.ref a_12), (.ref a_19)])) rfl (by rw [hml]; rfl) (argsL := [(.ref a_12)]) (rest := []) (lenOf pd_3 rfl) rfl (by show 2 * 0 + _ ≤ _; exact Nat.le_of_eq rfl) (hb hby at_434) eh_97 rfl (by decide) (by decide)
              obtain ⟨⟨z_98, rfl, hz_98⟩, rfl, eh_98⟩ := Q_98
              refine own_G.via st_98 ?_
              have N_98 := Fr.app N_97 (Fr.nil n0)
              show own_G _ _ _ _ (T_98.setTop (mkF m 437 #[.val (.int p0), .val (.int p1), .val (.long p2), .second, .val (.long p3), .second, .val (.int p4), .val (.long p5), .second, .val (.int u9), .val (.int u10), .val (.int u11), .val (.int u12), .val (.int u13), .val (.int u14), .val (.int u15), .val (.int u16), .val (.int u17), .val (.int u18), .val (.int u19), .val (.int u20), .val (.long u21), .second, .val (.long u23), .second, .val (.ref r_1), .val (.ref r_4), .val (.ref r_7), .val (.ref r_10), .val (.ref a_12), .val (.int ((Jvm.Free.XT.ushr p4 (8 : Int32)) &&& (3 : Int32))), .val (.ref a_19), .val (.int (0 : Int32)), .unset] [(.int z_98)]))
              refine own_G.go (fun t_ k_ => XS.iload X_98.here hx rfl (hb hby at_437) rfl k_) ?_
              show own_G _ _ _ _ (T_98.setTop (mkF m 439 #[.val (.int p0), .val (.int p1), .val (.long p2), .second, .val (.long p3), .second, .val (.int p4), .val (.long p5), .second, .val (.int u9), .val (.int u10), .val (.int u11), .val (.int u12), .val (.int u13), .val (.int u14), .val (.int u15), .val (.int u16), .val (.int u17), .val (.int u18), .val (.int u19), .val (.int u20), .val (.long u21), .second, .val (.long u23), .second, .val (.ref r_1), .val (.ref r_4), .val (.ref r_7), .val (.ref r_10), .val (.ref a_12), .val (.int ((Jvm.Free.XT.ushr p4 (8 : Int32)) &&& (3 : Int32))), .val (.ref a_19), .val (.int (0 : Int32)), .unset] [(.int (0 : Int32)), (.int z_98)]))
              refine own_G.go (fun t_ k_ => XS.icmpNo X_98.here hx rfl (hb hby at_439) rfl (teq (own_z0 hz_98 (fun q => by first | exact hg ((lw_eq _ _).mpr q.2.2.2.symm) | exact hf ((lw_eq _ _).mpr q.2.2.1.symm) | exact hs2 q.2.1.symm | exact hs1 q.1.symm) : z_98 = (0 : Int32))).2 k_) ?_
              show own_G _ _ _ _ (T_98.setTop (mkF m 442 #[.val (.int p0), .val (.int p1), .val (.long p2), .second, .val (.long p3), .second, .val (.int p4), .val (.long p5), .second, .val (.int u9), .val (.int u10), .val (.int u11), .val (.int u12), .val (.int u13), .val (.int u14), .val (.int u15), .val (.int u16), .val (.int u17), .val (.int u18), .val (.int u19), .val (.int u20), .val (.long u21), .second, .val (.long u23), .second, .val (.ref r_1), .val (.ref r_4), .val (.ref r_7), .val (.ref r_10), .val (.ref a_12), .val (.int ((Jvm.Free.XT.ushr p4 (8 : Int32)) &&& (3 : Int32))), .val (.ref a_19), .val (.int (0 : Int32)), .unset] []))
              refine own_G.go (fun t_ k_ => XS.iconst X_98.here hx rfl (hb hby at_442) k_) ?_
              show own_G _ _ _ _ (T_98.setTop (mkF m 443 #[.val (.int p0), .val (.int p1), .val (.long p2), .second, .val (.long p3), .second, .val (.int p4), .val (.long p5), .second, .val (.int u9), .val (.int u10), .val (.int u11), .val (.int u12), .val (.int u13), .val (.int u14), .val (.int u15), .val (.int u16), .val (.int u17), .val (.int u18), .val (.int u19), .val (.int u20), .val (.long u21), .second, .val (.long u23), .second, .val (.ref r_1), .val (.ref r_4), .val (.ref r_7), .val (.ref r_10), .val (.ref a_12), .val (.int ((Jvm.Free.XT.ushr p4 (8 : Int32)) &&& (3 : Int32))), .val (.ref a_19), .val (.int (0 : Int32)), .unset] [(.int (1 : Int32))]))
              refine own_G.go (fun t_ k_ => XS.goto X_98.here hx rfl (pc0 := 443) (pc' := 447) rfl (hb hby at_443) (by decide) (by decide) k_) ?_
              show own_G _ _ _ _ (T_98.setTop (mkF m 447 #[.val (.int p0), .val (.int p1), .val (.long p2), .second, .val (.long p3), .second, .val (.int p4), .val (.long p5), .second, .val (.int u9), .val (.int u10), .val (.int u11), .val (.int u12), .val (.int u13), .val (.int u14), .val (.int u15), .val (.int u16), .val (.int u17), .val (.int u18), .val (.int u19), .val (.int u20), .val (.long u21), .second, .val (.long u23), .second, .val (.ref r_1), .val (.ref r_4), .val (.ref r_7), .val (.ref r_10), .val (.ref a_12), .val (.int ((Jvm.Free.XT.ushr p4 (8 : Int32)) &&& (3 : Int32))), .val (.ref a_19), .val (.int (0 : Int32)), .unset] [(.int (1 : Int32))]))
              refine own_G.go (fun t_ k_ => XS.istore X_98.here hx rfl (hb hby at_447) rfl (l' := #[.val (.int p0), .val (.int p1), .val (.long p2), .second, .val (.long p3), .second, .val (.int p4), .val (.long p5), .second, .val (.int u9), .val (.int u10), .val (.int u11), .val (.int u12), .val (.int u13), .val (.int u14), .val (.int u15), .val (.int u16), .val (.int u17), .val (.int u18), .val (.int u19), .val (.int u20), .val (.long u21), .second, .val (.long u23), .second, .val (.ref r_1), .val (.ref r_4), .val (.ref r_7), .val (.ref r_10), .val (.ref a_12), .val (.int ((Jvm.Free.XT.ushr p4 (8 : Int32)) &&& (3 : Int32))), .val (.ref a_19), .val (.int (0 : Int32)), .val (.int (1 : Int32))]) rfl k_) ?_
              show own_G _ _ _ _ (T_98.setTop (mkF m 449 #[.val (.int p0), .val (.int p1), .val (.long p2), .second, .val (.long p3), .second, .val (.int p4), .val (.long p5), .second, .val (.int u9), .val (.int u10), .val (.int u11), .val (.int u12), .val (.int u13), .val (.int u14), .val (.int u15), .val (.int u16), .val (.int u17), .val (.int u18), .val (.int u19), .val (.int u20), .val (.long u21), .second, .val (.long u23), .second, .val (.ref r_1), .val (.ref r_4), .val (.ref r_7), .val (.ref r_10), .val (.ref a_12), .val (.int ((Jvm.Free.XT.ushr p4 (8 : Int32)) &&& (3 : Int32))), .val (.ref a_19), .val (.int (0 : Int32)), .val (.int (1 : Int32))] []))
              refine own_G.go (fun t_ k_ => XS.iload X_98.here hx rfl (hb hby at_449) rfl k_) ?_
              show own_G _ _ _ _ (T_98.setTop (mkF m 451 #[.val (.int p0), .val (.int p1), .val (.long p2), .second, .val (.long p3), .second, .val (.int p4), .val (.long p5), .second, .val (.int u9), .val (.int u10), .val (.int u11), .val (.int u12), .val (.int u13), .val (.int u14), .val (.int u15), .val (.int u16), .val (.int u17), .val (.int u18), .val (.int u19), .val (.int u20), .val (.long u21), .second, .val (.long u23), .second, .val (.ref r_1), .val (.ref r_4), .val (.ref r_7), .val (.ref r_10), .val (.ref a_12), .val (.int ((Jvm.Free.XT.ushr p4 (8 : Int32)) &&& (3 : Int32))), .val (.ref a_19), .val (.int (0 : Int32)), .val (.int (1 : Int32))] [(.int ((Jvm.Free.XT.ushr p4 (8 : Int32)) &&& (3 : Int32)))]))
              refine own_G.go (fun t_ k_ => XS.iconst X_98.here hx rfl (hb hby at_451) k_) ?_
              show own_G _ _ _ _ (T_98.setTop (mkF m 452 #[.val (.int p0), .val (.int p1), .val (.long p2), .second, .val (.long p3), .second, .val (.int p4), .val (.long p5), .second, .val (.int u9), .val (.int u10), .val (.int u11), .val (.int u12), .val (.int u13), .val (.int u14), .val (.int u15), .val (.int u16), .val (.int u17), .val (.int u18), .val (.int u19), .val (.int u20), .val (.long u21), .second, .val (.long u23), .second, .val (.ref r_1), .val (.ref r_4), .val (.ref r_7), .val (.ref r_10), .val (.ref a_12), .val (.int ((Jvm.Free.XT.ushr p4 (8 : Int32)) &&& (3 : Int32))), .val (.ref a_19), .val (.int (0 : Int32)), .val (.int (1 : Int32))] [(.int (3 : Int32)), (.int ((Jvm.Free.XT.ushr p4 (8 : Int32)) &&& (3 : Int32)))]))
              by_cases hm3 : ((Jvm.Free.XT.ushr p4 (8 : Int32)) &&& (3 : Int32)) = (3 : Int32)
              · refine own_G.go (fun t_ k_ => XS.icmpNo X_98.here hx rfl (hb hby at_452) rfl (teq hm3).2 k_) ?_
                show own_G _ _ _ _ (T_98.setTop (mkF m 455 #[.val (.int p0), .val (.int p1), .val (.long p2), .second, .val (.long p3), .second, .val (.int p4), .val (.long p5), .second, .val (.int u9), .val (.int u10), .val (.int u11), .val (.int u12), .val (.int u13), .val (.int u14), .val (.int u15), .val (.int u16), .val (.int u17), .val (.int u18), .val (.int u19), .val (.int u20), .val (.long u21), .second, .val (.long u23), .second, .val (.ref r_1), .val (.ref r_4), .val (.ref r_7), .val (.ref r_10), .val (.ref a_12), .val (.int ((Jvm.Free.XT.ushr p4 (8 : Int32)) &&& (3 : Int32))), .val (.ref a_19), .val (.int (0 : Int32)), .val (.int (1 : Int32))] []))
                refine own_G.go (fun t_ k_ => XS.iload X_98.here hx rfl (hb hby at_455) rfl k_) ?_
                show own_G _ _ _ _ (T_98.setTop (mkF m 457 #[.val (.int p0), .val (.int p1), .val (.long p2), .second, .val (.long p3), .second, .val (.int p4), .val (.long p5), .second, .val (.int u9), .val (.int u10), .val (.int u11), .val (.int u12), .val (.int u13), .val (.int u14), .val (.int u15), .val (.int u16), .val (.int u17), .val (.int u18), .val (.int u19), .val (.int u20), .val (.long u21), .second, .val (.long u23), .second, .val (.ref r_1), .val (.ref r_4), .val (.ref r_7), .val (.ref r_10), .val (.ref a_12), .val (.int ((Jvm.Free.XT.ushr p4 (8 : Int32)) &&& (3 : Int32))), .val (.ref a_19), .val (.int (0 : Int32)), .val (.int (1 : Int32))] [(.int (1 : Int32))]))
                refine own_G.go (fun t_ k_ => XS.ifNo X_98.here hx rfl (hb hby at_457) rfl ((if0 _ _).trans (feq (by decide : ¬ ((1 : Int32) = (0 : Int32)))).1) k_) ?_
                show own_G _ _ _ _ (T_98.setTop (mkF m 460 #[.val (.int p0), .val (.int p1), .val (.long p2), .second, .val (.long p3), .second, .val (.int p4), .val (.long p5), .second, .val (.int u9), .val (.int u10), .val (.int u11), .val (.int u12), .val (.int u13), .val (.int u14), .val (.int u15), .val (.int u16), .val (.int u17), .val (.int u18), .val (.int u19), .val (.int u20), .val (.long u21), .second, .val (.long u23), .second, .val (.ref r_1), .val (.ref r_4), .val (.ref r_7), .val (.ref r_10), .val (.ref a_12), .val (.int ((Jvm.Free.XT.ushr p4 (8 : Int32)) &&& (3 : Int32))), .val (.ref a_19), .val (.int (0 : Int32)), .val (.int (1 : Int32))] []))
                refine own_G.go (fun t_ k_ => XS.aload X_98.here hx rfl (hb hby at_460) rfl rfl k_) ?_
                show own_G _ _ _ _ (T_98.setTop (mkF m 462 #[.val (.int p0), .val (.int p1), .val (.long p2), .second, .val (.long p3), .second, .val (.int p4), .val (.long p5), .second, .val (.int u9), .val (.int u10), .val (.int u11), .val (.int u12), .val (.int u13), .val (.int u14), .val (.int u15), .val (.int u16), .val (.int u17), .val (.int u18), .val (.int u19), .val (.int u20), .val (.long u21), .second, .val (.long u23), .second, .val (.ref r_1), .val (.ref r_4), .val (.ref r_7), .val (.ref r_10), .val (.ref a_12), .val (.int ((Jvm.Free.XT.ushr p4 (8 : Int32)) &&& (3 : Int32))), .val (.ref a_19), .val (.int (0 : Int32)), .val (.int (1 : Int32))] [(.ref a_12)]))
                refine own_G.go (fun t_ k_ => XS.aload X_98.here hx rfl (hb hby at_462) rfl rfl k_) ?_
                show own_G _ _ _ _ (T_98.setTop (mkF m 464 #[.val (.int p0), .val (.int p1), .val (.long p2), .second, .val (.long p3), .second, .val (.int p4), .val (.long p5), .second, .val (.int u9), .val (.int u10), .val (.int u11), .val (.int u12), .val (.int u13), .val (.int u14), .val (.int u15), .val (.int u16), .val (.int u17), .val (.int u18), .val (.int u19), .val (.int u20), .val (.long u21), .second, .val (.long u23), .second, .val (.ref r_1), .val (.ref r_4), .val (.ref r_7), .val (.ref r_10), .val (.ref a_12), .val (.int ((Jvm.Free.XT.ushr p4 (8 : Int32)) &&& (3 : Int32))), .val (.ref a_19), .val (.int (0 : Int32)), .val (.int (1 : Int32))] [(.ref a_12), (.ref a_12)]))
                obtain ⟨cq_99, kq_99, q_99a, q_99b, q_99c⟩ := isOf hZ_10 eh_98 Ex_14'_75
                obtain ⟨_, T_99, L_99, Q_99, X_99, st_99⟩ := own_callV X_98 hx (z := (⟨"com/example/kommit/kommit/KeyCounters$Entry", "equals", "(Ljava/lang/Object;)Z"⟩ : MethodName)) hown_10 (mvT hZ_10 (own_w hw 44 rfl)) (mvT hZ_10 (own_w hw 45 rfl)) (notFace_of_selects (args := #[]) (mvT hZ_10 (own_w hw 47 rfl))) (mvT hZ_10 (own_w hw 47 rfl)) (mvT hZ_10 (own_w hw 46 rfl)) (by decide) (Q := (Qeq ((own_cs u9 u10 u11) = (own_cs u9 u10 u11) ∧ (own_cs u15 u16 u17) = (own_cs u15 u16 u17) ∧ p2 = p2 ∧ p3 = p3) T_21.heap)) (backOf (W := 0) (rm_eqO l Z a0 hw [] a_12 a_12 r_1 r_4 r_1 r_4 t_1 t_4 t_1 t_4 kb_1 kb_4 kb_1 kb_4 (own_cs u9 u10 u11) (own_cs u15 u16 u17) (own_cs u9 u10 u11) (own_cs u15 u16 u17) p2 p3 p2 p3 zc T_21.heap n0 (Nat.le_trans Z0 (Nat.le_trans (Nat.le_trans (Nat.le_trans (Nat.le_trans (Nat.le_trans (Nat.le_trans (Nat.le_trans K_1.1 K_4.1) K_7.1) K_10.1) E_12.1) K_14.1) E_19.1) K_21.1)) Ex_14'_75 Ex_14'_75 G1_14'_76 G2_14'_77 G3_14'_78 G4_14'_79 G1_14'_76 G2_14'_77 G3_14'_78 G4_14'_79 Ex_1'_80 Fc_1'_81 Fv_1'_82 Kb_1'_83 (own_cs_b h10 h11) (own_cs_len _ _ _) Ex_4'_84 Fc_4'_85 Fv_4'_86 Kb_4'_87 (own_cs_b h16 h17) (own_cs_len _ _ _) Ex_1'_80 Fc_1'_81 Fv_1'_82 Kb_1'_83 (own_cs_b h10 h11) (own_cs_len _ _ _) Ex_4'_84 Fc_4'_85 Fv_4'_86 Kb_4'_87 (own_cs_b h16 h17) (own_cs_len _ _ _) O2 P5 O_96d) hZ_10 (own_w hw 48 rfl) (own_w hw 28 rfl) (by decide) (by decide)) q_99a q_99c (g := (mkF m 464 #[.val (.int p0), .val (.int p1), .val (.long p2), .second, .val (.long p3), .second, .val (.int p4), .val (.long p5), .second, .val (.int u9), .val (.int u10), .val (.int u11), .val (.int u12), .val (.int u13), .val (.int u14), .val (.int u15), .val (.int u16), .val (.int u17), .val (.int u18), .val (.int u19), .val (.int u20), .val (.long u21), .second, .val (.long u23), .second, .val (.ref r_1), .val (.ref r_4), .val (.ref r_7), .val (.ref r_10), .val (.ref a_12), .val (.int ((Jvm.Free.XT.ushr p4 (8 : Int32)) &&& (3 : Int32))), .val (.ref a_19), .val (.int (0 : Int32)), .val (.int (1 : Int32))] [(.ref a_12), (.ref a_12)])) rfl (by rw [hml]; rfl) (argsL := [(.ref a_12)]) (rest := []) (lenOf pd_3 rfl) rfl (by show 2 * 0 + _ ≤ _; exact Nat.le_of_eq rfl) (hb hby at_464) eh_98 rfl (by decide) (by decide)
                obtain ⟨⟨z_99, rfl, hz_99⟩, rfl, eh_99⟩ := Q_99
                refine own_G.via st_99 ?_
                have N_99 := Fr.app N_98 (Fr.nil n0)
                show own_G _ _ _ _ (T_99.setTop (mkF m 467 #[.val (.int p0), .val (.int p1), .val (.long p2), .second, .val (.long p3), .second, .val (.int p4), .val (.long p5), .second, .val (.int u9), .val (.int u10), .val (.int u11), .val (.int u12), .val (.int u13), .val (.int u14), .val (.int u15), .val (.int u16), .val (.int u17), .val (.int u18), .val (.int u19), .val (.int u20), .val (.long u21), .second, .val (.long u23), .second, .val (.ref r_1), .val (.ref r_4), .val (.ref r_7), .val (.ref r_10), .val (.ref a_12), .val (.int ((Jvm.Free.XT.ushr p4 (8 : Int32)) &&& (3 : Int32))), .val (.ref a_19), .val (.int (0 : Int32)), .val (.int (1 : Int32))] [(.int z_99)]))
                refine own_G.go (fun t_ k_ => XS.ifNo X_99.here hx rfl (hb hby at_467) rfl ((if0 _ _).trans (feq (fun q => by have q1 := own_z1 hz_99 ⟨rfl, rfl, rfl, rfl⟩; rw [q1] at q; exact absurd q (by decide) : ¬ z_99 = (0 : Int32))).1) k_) ?_
                show own_G _ _ _ _ (T_99.setTop (mkF m 470 #[.val (.int p0), .val (.int p1), .val (.long p2), .second, .val (.long p3), .second, .val (.int p4), .val (.long p5), .second, .val (.int u9), .val (.int u10), .val (.int u11), .val (.int u12), .val (.int u13), .val (.int u14), .val (.int u15), .val (.int u16), .val (.int u17), .val (.int u18), .val (.int u19), .val (.int u20), .val (.long u21), .second, .val (.long u23), .second, .val (.ref r_1), .val (.ref r_4), .val (.ref r_7), .val (.ref r_10), .val (.ref a_12), .val (.int ((Jvm.Free.XT.ushr p4 (8 : Int32)) &&& (3 : Int32))), .val (.ref a_19), .val (.int (0 : Int32)), .val (.int (1 : Int32))] []))
                refine own_G.go (fun t_ k_ => XS.iconst X_99.here hx rfl (hb hby at_470) k_) ?_
                show own_G _ _ _ _ (T_99.setTop (mkF m 471 #[.val (.int p0), .val (.int p1), .val (.long p2), .second, .val (.long p3), .second, .val (.int p4), .val (.long p5), .second, .val (.int u9), .val (.int u10), .val (.int u11), .val (.int u12), .val (.int u13), .val (.int u14), .val (.int u15), .val (.int u16), .val (.int u17), .val (.int u18), .val (.int u19), .val (.int u20), .val (.long u21), .second, .val (.long u23), .second, .val (.ref r_1), .val (.ref r_4), .val (.ref r_7), .val (.ref r_10), .val (.ref a_12), .val (.int ((Jvm.Free.XT.ushr p4 (8 : Int32)) &&& (3 : Int32))), .val (.ref a_19), .val (.int (0 : Int32)), .val (.int (1 : Int32))] [(.int (1 : Int32))]))
                refine own_G.go (fun t_ k_ => XS.goto X_99.here hx rfl (pc0 := 471) (pc' := 475) rfl (hb hby at_471) (by decide) (by decide) k_) ?_
                show own_G _ _ _ _ (T_99.setTop (mkF m 475 #[.val (.int p0), .val (.int p1), .val (.long p2), .second, .val (.long p3), .second, .val (.int p4), .val (.long p5), .second, .val (.int u9), .val (.int u10), .val (.int u11), .val (.int u12), .val (.int u13), .val (.int u14), .val (.int u15), .val (.int u16), .val (.int u17), .val (.int u18), .val (.int u19), .val (.int u20), .val (.long u21), .second, .val (.long u23), .second, .val (.ref r_1), .val (.ref r_4), .val (.ref r_7), .val (.ref r_10), .val (.ref a_12), .val (.int ((Jvm.Free.XT.ushr p4 (8 : Int32)) &&& (3 : Int32))), .val (.ref a_19), .val (.int (0 : Int32)), .val (.int (1 : Int32))] [(.int (1 : Int32))]))
                exact own_G.endH X_99 hS_10 (Nat.le_trans (Nat.le_refl _) (Nat.le_trans (Nat.le_trans (Nat.le_trans E_12.1 K_14.1) E_19.1) K_21.1)) hZ_10 hEW (hh ▸ CH_22) hlk (v := (some (.int (1 : Int32)))) (fun h => by rw [hrt] at h; cases h) (fun fs hr => retN X_99 hx (z := (1 : Int32)) (t := .boolean) hrt (by simp) (hb hby at_475) hr) eh_99 ⟨rfl, N_99⟩ (by decide) (by decide)
              · refine own_G.go (fun t_ k_ => XS.icmpYes X_98.here hx rfl (pc0 := 452) (pc' := 476) rfl (hb hby at_452) rfl (feq hm3).2 (by decide) (by decide) k_) ?_
                show own_G _ _ _ _ (T_98.setTop (mkF m 476 #[.val (.int p0), .val (.int p1), .val (.long p2), .second, .val (.long p3), .second, .val (.int p4), .val (.long p5), .second, .val (.int u9), .val (.int u10), .val (.int u11), .val (.int u12), .val (.int u13), .val (.int u14), .val (.int u15), .val (.int u16), .val (.int u17), .val (.int u18), .val (.int u19), .val (.int u20), .val (.long u21), .second, .val (.long u23), .second, .val (.ref r_1), .val (.ref r_4), .val (.ref r_7), .val (.ref r_10), .val (.ref a_12), .val (.int ((Jvm.Free.XT.ushr p4 (8 : Int32)) &&& (3 : Int32))), .val (.ref a_19), .val (.int (0 : Int32)), .val (.int (1 : Int32))] []))
                refine own_G.go (fun t_ k_ => XS.iload X_98.here hx rfl (hb hby at_476) rfl k_) ?_
                show own_G _ _ _ _ (T_98.setTop (mkF m 478 #[.val (.int p0), .val (.int p1), .val (.long p2), .second, .val (.long p3), .second, .val (.int p4), .val (.long p5), .second, .val (.int u9), .val (.int u10), .val (.int u11), .val (.int u12), .val (.int u13), .val (.int u14), .val (.int u15), .val (.int u16), .val (.int u17), .val (.int u18), .val (.int u19), .val (.int u20), .val (.long u21), .second, .val (.long u23), .second, .val (.ref r_1), .val (.ref r_4), .val (.ref r_7), .val (.ref r_10), .val (.ref a_12), .val (.int ((Jvm.Free.XT.ushr p4 (8 : Int32)) &&& (3 : Int32))), .val (.ref a_19), .val (.int (0 : Int32)), .val (.int (1 : Int32))] [(.int (1 : Int32))]))
                exact own_G.endH X_98 hS_10 (Nat.le_trans (Nat.le_refl _) (Nat.le_trans (Nat.le_trans (Nat.le_trans E_12.1 K_14.1) E_19.1) K_21.1)) hZ_10 hEW (hh ▸ CH_22) hlk (v := (some (.int (1 : Int32)))) (fun h => by rw [hrt] at h; cases h) (fun fs hr => retN X_98 hx (z := (1 : Int32)) (t := .boolean) hrt (by simp) (hb hby at_478) hr) eh_98 ⟨rfl, N_98⟩ (by decide) (by decide)
          · show own_G _ _ _ _ (T_24.setTop (mkF m 393 #[.val (.int p0), .val (.int p1), .val (.long p2), .second, .val (.long p3), .second, .val (.int p4), .val (.long p5), .second, .val (.int u9), .val (.int u10), .val (.int u11), .val (.int u12), .val (.int u13), .val (.int u14), .val (.int u15), .val (.int u16), .val (.int u17), .val (.int u18), .val (.int u19), .val (.int u20), .val (.long u21), .second, .val (.long u23), .second, .val (.ref r_1), .val (.ref r_4), .val (.ref r_7), .val (.ref r_10), .val (.ref a_12), .val (.int ((Jvm.Free.XT.ushr p4 (8 : Int32)) &&& (3 : Int32))), .val (.ref a_19), .unset, .unset] [(.int (0 : Int32))]))
            refine own_G.go (fun t_ k_ => XS.ifYes X_24.here hx rfl (pc0 := 393) (pc' := 415) rfl (hb hby at_393) rfl ((if0 _ _).trans (teq (by decide : (0 : Int32) = (0 : Int32))).1) (by decide) (by decide) k_) ?_
            show own_G _ _ _ _ (T_24.setTop (mkF m 415 #[.val (.int p0), .val (.int p1), .val (.long p2), .second, .val (.long p3), .second, .val (.int p4), .val (.long p5), .second, .val (.int u9), .val (.int u10), .val (.int u11), .val (.int u12), .val (.int u13), .val (.int u14), .val (.int u15), .val (.int u16), .val (.int u17), .val (.int u18), .val (.int u19), .val (.int u20), .val (.long u21), .second, .val (.long u23), .second, .val (.ref r_1), .val (.ref r_4), .val (.ref r_7), .val (.ref r_10), .val (.ref a_12), .val (.int ((Jvm.Free.XT.ushr p4 (8 : Int32)) &&& (3 : Int32))), .val (.ref a_19), .unset, .unset] []))
            refine own_G.go (fun t_ k_ => XS.iconst X_24.here hx rfl (hb hby at_415) k_) ?_
            show own_G _ _ _ _ (T_24.setTop (mkF m 416 #[.val (.int p0), .val (.int p1), .val (.long p2), .second, .val (.long p3), .second, .val (.int p4), .val (.long p5), .second, .val (.int u9), .val (.int u10), .val (.int u11), .val (.int u12), .val (.int u13), .val (.int u14), .val (.int u15), .val (.int u16), .val (.int u17), .val (.int u18), .val (.int u19), .val (.int u20), .val (.long u21), .second, .val (.long u23), .second, .val (.ref r_1), .val (.ref r_4), .val (.ref r_7), .val (.ref r_10), .val (.ref a_12), .val (.int ((Jvm.Free.XT.ushr p4 (8 : Int32)) &&& (3 : Int32))), .val (.ref a_19), .unset, .unset] [(.int (0 : Int32))]))
            refine own_G.go (fun t_ k_ => XS.istore X_24.here hx rfl (hb hby at_416) rfl (l' := #[.val (.int p0), .val (.int p1), .val (.long p2), .second, .val (.long p3), .second, .val (.int p4), .val (.long p5), .second, .val (.int u9), .val (.int u10), .val (.int u11), .val (.int u12), .val (.int u13), .val (.int u14), .val (.int u15), .val (.int u16), .val (.int u17), .val (.int u18), .val (.int u19), .val (.int u20), .val (.long u21), .second, .val (.long u23), .second, .val (.ref r_1), .val (.ref r_4), .val (.ref r_7), .val (.ref r_10), .val (.ref a_12), .val (.int ((Jvm.Free.XT.ushr p4 (8 : Int32)) &&& (3 : Int32))), .val (.ref a_19), .val (.int (0 : Int32)), .unset]) rfl k_) ?_
            show own_G _ _ _ _ (T_24.setTop (mkF m 418 #[.val (.int p0), .val (.int p1), .val (.long p2), .second, .val (.long p3), .second, .val (.int p4), .val (.long p5), .second, .val (.int u9), .val (.int u10), .val (.int u11), .val (.int u12), .val (.int u13), .val (.int u14), .val (.int u15), .val (.int u16), .val (.int u17), .val (.int u18), .val (.int u19), .val (.int u20), .val (.long u21), .second, .val (.long u23), .second, .val (.ref r_1), .val (.ref r_4), .val (.ref r_7), .val (.ref r_10), .val (.ref a_12), .val (.int ((Jvm.Free.XT.ushr p4 (8 : Int32)) &&& (3 : Int32))), .val (.ref a_19), .val (.int (0 : Int32)), .unset] []))
            refine own_G.go (fun t_ k_ => XS.aload X_24.here hx rfl (hb hby at_418) rfl rfl k_) ?_
            show own_G _ _ _ _ (T_24.setTop (mkF m 420 #[.val (.int p0), .val (.int p1), .val (.long p2), .second, .val (.long p3), .second, .val (.int p4), .val (.long p5), .second, .val (.int u9), .val (.int u10), .val (.int u11), .val (.int u12), .val (.int u13), .val (.int u14), .val (.int u15), .val (.int u16), .val (.int u17), .val (.int u18), .val (.int u19), .val (.int u20), .val (.long u21), .second, .val (.long u23), .second, .val (.ref r_1), .val (.ref r_4), .val (.ref r_7), .val (.ref r_10), .val (.ref a_12), .val (.int ((Jvm.Free.XT.ushr p4 (8 : Int32)) &&& (3 : Int32))), .val (.ref a_19), .val (.int (0 : Int32)), .unset] [(.ref a_12)]))
            refine own_G.go (fun t_ k_ => XS.aload X_24.here hx rfl (hb hby at_420) rfl rfl k_) ?_
            show own_G _ _ _ _ (T_24.setTop (mkF m 422 #[.val (.int p0), .val (.int p1), .val (.long p2), .second, .val (.long p3), .second, .val (.int p4), .val (.long p5), .second, .val (.int u9), .val (.int u10), .val (.int u11), .val (.int u12), .val (.int u13), .val (.int u14), .val (.int u15), .val (.int u16), .val (.int u17), .val (.int u18), .val (.int u19), .val (.int u20), .val (.long u21), .second, .val (.long u23), .second, .val (.ref r_1), .val (.ref r_4), .val (.ref r_7), .val (.ref r_10), .val (.ref a_12), .val (.int ((Jvm.Free.XT.ushr p4 (8 : Int32)) &&& (3 : Int32))), .val (.ref a_19), .val (.int (0 : Int32)), .unset] [(.ref a_19), (.ref a_12)]))
            have Ex_14'_100 : Exa Z T_21.heap a_12 "com/example/kommit/kommit/KeyCounters$Entry" := ((Ex_14.ext E_19).keep K_21)
            have G1_14'_101 : Fld Z T_21.heap a_12 "com/example/kommit/kommit/KeyCounters$Entry" "kind" "Ljava/lang/String;" (.ref r_1) := ((G1_14.ext E_19).keep K_21 (ninS (Nat.ne_of_lt (Nat.lt_of_lt_of_le (Nat.lt_of_lt_of_le A_12.lt K_14.1) (Nat.le_of_eq g_19.symm))) nin0))
            have G2_14'_102 : Fld Z T_21.heap a_12 "com/example/kommit/kommit/KeyCounters$Entry" "name" "Ljava/lang/String;" (.ref r_4) := ((G2_14.ext E_19).keep K_21 (ninS (Nat.ne_of_lt (Nat.lt_of_lt_of_le (Nat.lt_of_lt_of_le A_12.lt K_14.1) (Nat.le_of_eq g_19.symm))) nin0))
            have G3_14'_103 : Fld Z T_21.heap a_12 "com/example/kommit/kommit/KeyCounters$Entry" "first" "J" (.long p2) := ((G3_14.ext E_19).keep K_21 (ninS (Nat.ne_of_lt (Nat.lt_of_lt_of_le (Nat.lt_of_lt_of_le A_12.lt K_14.1) (Nat.le_of_eq g_19.symm))) nin0))
            have G4_14'_104 : Fld Z T_21.heap a_12 "com/example/kommit/kommit/KeyCounters$Entry" "second" "J" (.long p3) := ((G4_14.ext E_19).keep K_21 (ninS (Nat.ne_of_lt (Nat.lt_of_lt_of_le (Nat.lt_of_lt_of_le A_12.lt K_14.1) (Nat.le_of_eq g_19.symm))) nin0))
            have Ex_1'_105 : Exa Z T_21.heap r_1 "java/lang/String" := (((((((Ex_1.keep K_4).keep K_7).keep K_10).ext E_12).keep K_14).ext E_19).keep K_21)
            have Fc_1'_106 : Fld Z T_21.heap r_1 "java/lang/String" "coder" "B" (.int 0) := (((((((Fc_1.keep K_4 nin0).keep K_7 nin0).keep K_10 nin0).ext E_12).keep K_14 (ninS (Nat.ne_of_lt (Nat.lt_of_lt_of_le (Nat.lt_of_lt_of_le Ex_1.lt (Nat.le_trans (Nat.le_trans K_4.1 K_7.1) K_10.1)) (Nat.le_of_eq g_12.symm))) nin0)).ext E_19).keep K_21 (ninS (Nat.ne_of_lt (Nat.lt_of_lt_of_le (Nat.lt_of_lt_of_le Ex_1.lt (Nat.le_trans (Nat.le_trans (Nat.le_trans (Nat.le_trans K_4.1 K_7.1) K_10.1) E_12.1) K_14.1)) (Nat.le_of_eq g_19.symm))) nin0))
            have Fv_1'_107 : Fld Z T_21.heap r_1 "java/lang/String" "value" "[B" (.ref t_1) := (((((((Fv_1.keep K_4 nin0).keep K_7 nin0).keep K_10 nin0).ext E_12).keep K_14 (ninS (Nat.ne_of_lt (Nat.lt_of_lt_of_le (Nat.lt_of_lt_of_le Ex_1.lt (Nat.le_trans (Nat.le_trans K_4.1 K_7.1) K_10.1)) (Nat.le_of_eq g_12.symm))) nin0)).ext E_19).keep K_21 (ninS (Nat.ne_of_lt (Nat.lt_of_lt_of_le (Nat.lt_of_lt_of_le Ex_1.lt (Nat.le_trans (Nat.le_trans (Nat.le_trans (Nat.le_trans K_4.1 K_7.1) K_10.1) E_12.1) K_14.1)) (Nat.le_of_eq g_19.symm))) nin0))
            have Kb_1'_108 : Arv Z T_21.heap t_1 kb_1 .byte (Int32.ofNat (own_cs u9 u10 u11).length) (((own_cs u9 u10 u11).map (fun c => c.toInt8.toInt32)).map Value.int) (.int 0) := (((((((Kb_1.keep K_4 nin0).keep K_7 nin0).keep K_10 nin0).ext E_12).keep K_14 (ninS (Nat.ne_of_lt (Nat.lt_of_lt_of_le (Nat.lt_of_lt_of_le Kb_1.lt (Nat.le_trans (Nat.le_trans K_4.1 K_7.1) K_10.1)) (Nat.le_of_eq g_12.symm))) nin0)).ext E_19).keep K_21 (ninS (Nat.ne_of_lt (Nat.lt_of_lt_of_le (Nat.lt_of_lt_of_le Kb_1.lt (Nat.le_trans (Nat.le_trans (Nat.le_trans (Nat.le_trans K_4.1 K_7.1) K_10.1) E_12.1) K_14.1)) (Nat.le_of_eq g_19.symm))) nin0))
            have Ex_4'_109 : Exa Z T_21.heap r_4 "java/lang/String" := ((((((Ex_4.keep K_7).keep K_10).ext E_12).keep K_14).ext E_19).keep K_21)
            have Fc_4'_110 : Fld Z T_21.heap r_4 "java/lang/String" "coder" "B" (.int 0) := ((((((Fc_4.keep K_7 nin0).keep K_10 nin0).ext E_12).keep K_14 (ninS (Nat.ne_of_lt (Nat.lt_of_lt_of_le (Nat.lt_of_lt_of_le Ex_4.lt (Nat.le_trans K_7.1 K_10.1)) (Nat.le_of_eq g_12.symm))) nin0)).ext E_19).keep K_21 (ninS (Nat.ne_of_lt (Nat.lt_of_lt_of_le (Nat.lt_of_lt_of_le Ex_4.lt (Nat.le_trans (Nat.le_trans (Nat.le_trans K_7.1 K_10.1) E_12.1) K_14.1)) (Nat.le_of_eq g_19.symm))) nin0))
            have Fv_4'_111 : Fld Z T_21.heap r_4 "java/lang/String" "value" "[B" (.ref t_4) := ((((((Fv_4.keep K_7 nin0).keep K_10 nin0).ext E_12).keep K_14 (ninS (Nat.ne_of_lt (Nat.lt_of_lt_of_le (Nat.lt_of_lt_of_le Ex_4.lt (Nat.le_trans K_7.1 K_10.1)) (Nat.le_of_eq g_12.symm))) nin0)).ext E_19).keep K_21 (ninS (Nat.ne_of_lt (Nat.lt_of_lt_of_le (Nat.lt_of_lt_of_le Ex_4.lt (Nat.le_trans (Nat.le_trans (Nat.le_trans K_7.1 K_10.1) E_12.1) K_14.1)) (Nat.le_of_eq g_19.symm))) nin0))
            have Kb_4'_112 : Arv Z T_21.heap t_4 kb_4 .byte (Int32.ofNat (own_cs u15 u16 u17).length) (((own_cs u15 u16 u17).map (fun c => c.toInt8.toInt32)).map Value.int) (.int 0) := ((((((Kb_4.keep K_7 nin0).keep K_10 nin0).ext E_12).keep K_14 (ninS (Nat.ne_of_lt (Nat.lt_of_lt_of_le (Nat.lt_of_lt_of_le Kb_4.lt (Nat.le_trans K_7.1 K_10.1)) (Nat.le_of_eq g_12.symm))) nin0)).ext E_19).keep K_21 (ninS (Nat.ne_of_lt (Nat.lt_of_lt_of_le (Nat.lt_of_lt_of_le Kb_4.lt (Nat.le_trans (Nat.le_trans (Nat.le_trans K_7.1 K_10.1) E_12.1) K_14.1)) (Nat.le_of_eq g_19.symm))) nin0))
            have Ex_7'_113 : Exa Z T_21.heap r_7 "java/lang/String" := (((((Ex_7.keep K_10).ext E_12).keep K_14).ext E_19).keep K_21)
            have Fc_7'_114 : Fld Z T_21.heap r_7 "java/lang/String" "coder" "B" (.int 0) := (((((Fc_7.keep K_10 nin0).ext E_12).keep K_14 (ninS (Nat.ne_of_lt (Nat.lt_of_lt_of_le (Nat.lt_of_lt_of_le Ex_7.lt K_10.1) (Nat.le_of_eq g_12.symm))) nin0)).ext E_19).keep K_21 (ninS (Nat.ne_of_lt (Nat.lt_of_lt_of_le (Nat.lt_of_lt_of_le Ex_7.lt (Nat.le_trans (Nat.le_trans K_10.1 E_12.1) K_14.1)) (Nat.le_of_eq g_19.symm))) nin0))
            have Fv_7'_115 : Fld Z T_21.heap r_7 "java/lang/String" "value" "[B" (.ref t_7) := (((((Fv_7.keep K_10 nin0).ext E_12).keep K_14 (ninS (Nat.ne_of_lt (Nat.lt_of_lt_of_le (Nat.lt_of_lt_of_le Ex_7.lt K_10.1) (Nat.le_of_eq g_12.symm))) nin0)).ext E_19).keep K_21 (ninS (Nat.ne_of_lt (Nat.lt_of_lt_of_le (Nat.lt_of_lt_of_le Ex_7.lt (Nat.le_trans (Nat.le_trans K_10.1 E_12.1) K_14.1)) (Nat.le_of_eq g_19.symm))) nin0))
            have Kb_7'_116 : Arv Z T_21.heap t_7 kb_7 .byte (Int32.ofNat (own_cs u12 u13 u14).length) (((own_cs u12 u13 u14).map (fun c => c.toInt8.toInt32)).map Value.int) (.int 0) := (((((Kb_7.keep K_10 nin0).ext E_12).keep K_14 (ninS (Nat.ne_of_lt (Nat.lt_of_lt_of_le (Nat.lt_of_lt_of_le Kb_7.lt K_10.1) (Nat.le_of_eq g_12.symm))) nin0)).ext E_19).keep K_21 (ninS (Nat.ne_of_lt (Nat.lt_of_lt_of_le (Nat.lt_of_lt_of_le Kb_7.lt (Nat.le_trans (Nat.le_trans K_10.1 E_12.1) K_14.1)) (Nat.le_of_eq g_19.symm))) nin0))
            have Ex_10'_117 : Exa Z T_21.heap r_10 "java/lang/String" := ((((Ex_10.ext E_12).keep K_14).ext E_19).keep K_21)
            have Fc_10'_118 : Fld Z T_21.heap r_10 "java/lang/String" "coder" "B" (.int 0) := ((((Fc_10.ext E_12).keep K_14 (ninS (Nat.ne_of_lt (Nat.lt_of_lt_of_le Ex_10.lt (Nat.le_of_eq g_12.symm))) nin0)).ext E_19).keep K_21 (ninS (Nat.ne_of_lt (Nat.lt_of_lt_of_le (Nat.lt_of_lt_of_le Ex_10.lt (Nat.le_trans E_12.1 K_14.1)) (Nat.le_of_eq g_19.symm))) nin0))
            have Fv_10'_119 : Fld Z T_21.heap r_10 "java/lang/String" "value" "[B" (.ref t_10) := ((((Fv_10.ext E_12).keep K_14 (ninS (Nat.ne_of_lt (Nat.lt_of_lt_of_le Ex_10.lt (Nat.le_of_eq g_12.symm))) nin0)).ext E_19).keep K_21 (ninS (Nat.ne_of_lt (Nat.lt_of_lt_of_le (Nat.lt_of_lt_of_le Ex_10.lt (Nat.le_trans E_12.1 K_14.1)) (Nat.le_of_eq g_19.symm))) nin0))
            have Kb_10'_120 : Arv Z T_21.heap t_10 kb_10 .byte (Int32.ofNat (own_cs u18 u19 u20).length) (((own_cs u18 u19 u20).map (fun c => c.toInt8.toInt32)).map Value.int) (.int 0) := ((((Kb_10.ext E_12).keep K_14 (ninS (Nat.ne_of_lt (Nat.lt_of_lt_of_le Kb_10.lt (Nat.le_of_eq g_12.symm))) nin0)).ext E_19).keep K_21 (ninS (Nat.ne_of_lt (Nat.lt_of_lt_of_le (Nat.lt_of_lt_of_le Kb_10.lt (Nat.le_trans E_12.1 K_14.1)) (Nat.le_of_eq g_19.symm))) nin0))
            have O_121d : Old Z n0 T_21.heap := (((((O_9d.keep K_10 all0).ext E_12).keep K_14 (allS g0_a_12 all0)).ext E_19).keep K_21 (allS g0_a_19 all0))
            obtain ⟨cq_122, kq_122, q_122a, q_122b, q_122c⟩ := isOf hZ_10 eh_24 Ex_14'_100
            obtain ⟨_, T_122, L_122, Q_122, X_122, st_122⟩ := own_callV X_24 hx (z := (⟨"com/example/kommit/kommit/KeyCounters$Entry", "equals", "(Ljava/lang/Object;)Z"⟩ : MethodName)) hown_10 (mvT hZ_10 (own_w hw 44 rfl)) (mvT hZ_10 (own_w hw 45 rfl)) (notFace_of_selects (args := #[]) (mvT hZ_10 (own_w hw 47 rfl))) (mvT hZ_10 (own_w hw 47 rfl)) (mvT hZ_10 (own_w hw 46 rfl)) (by decide) (Q := (Qeq ((own_cs u9 u10 u11) = (own_cs u12 u13 u14) ∧ (own_cs u15 u16 u17) = (own_cs u18 u19 u20) ∧ u21 = p2 ∧ u23 = p3) T_21.heap)) (backOf (W := 0) (rm_eqO l Z a0 hw [] a_12 a_19 r_1 r_4 r_7 r_10 t_1 t_4 t_7 t_10 kb_1 kb_4 kb_7 kb_10 (own_cs u9 u10 u11) (own_cs u15 u16 u17) (own_cs u12 u13 u14) (own_cs u18 u19 u20) p2 p3 u21 u23 zc T_21.heap n0 (Nat.le_trans Z0 (Nat.le_trans (Nat.le_trans (Nat.le_trans (Nat.le_trans (Nat.le_trans (Nat.le_trans (Nat.le_trans K_1.1 K_4.1) K_7.1) K_10.1) E_12.1) K_14.1) E_19.1) K_21.1)) Ex_14'_100 Ex_21 G1_14'_101 G2_14'_102 G3_14'_103 G4_14'_104 G1_21 G2_21 G3_21 G4_21 Ex_1'_105 Fc_1'_106 Fv_1'_107 Kb_1'_108 (own_cs_b h10 h11) (own_cs_len _ _ _) Ex_4'_109 Fc_4'_110 Fv_4'_111 Kb_4'_112 (own_cs_b h16 h17) (own_cs_len _ _ _) Ex_7'_113 Fc_7'_114 Fv_7'_115 Kb_7'_116 (own_cs_b h13 h14) (own_cs_len _ _ _) Ex_10'_117 Fc_10'_118 Fv_10'_119 Kb_10'_120 (own_cs_b h19 h20) (own_cs_len _ _ _) O2 P5 O_121d) hZ_10 (own_w hw 48 rfl) (own_w hw 28 rfl) (by decide) (by decide)) q_122a q_122c (g := (mkF m 422 #[.val (.int p0), .val (.int p1), .val (.long p2), .second, .val (.long p3), .second, .val (.int p4), .val (.long p5), .second, .val (.int u9), .val (.int u10), .val (.int u11), .val (.int u12), .val (.int u13), .val (.int u14), .val (.int u15), .val (.int u16), .val (.int u17), .val (.int u18), .val (.int u19), .val (.int u20), .val (.long u21), .second, .val (.long u23), .second, .val (.ref r_1), .val (.ref r_4), .val (.ref r_7), .val (.ref r_10), .val (.ref a_12), .val (.int ((Jvm.Free.XT.ushr p4 (8 : Int32)) &&& (3 : Int32))), .val (.ref a_19), .val (.int (0 : Int32)), .unset] [(.ref a_19), (.ref a_12)])) rfl (by rw [hml]; rfl) (argsL := [(.ref a_19)]) (rest := []) (lenOf pd_3 rfl) rfl (by show 2 * 0 + _ ≤ _; exact Nat.le_of_eq rfl) (hb hby at_422) eh_24 rfl (by decide) (by decide)
            obtain ⟨⟨z_122, rfl, hz_122⟩, rfl, eh_122⟩ := Q_122
            refine own_G.via st_122 ?_
            have N_122 := Fr.app N_24 (Fr.nil n0)
            show own_G _ _ _ _ (T_122.setTop (mkF m 425 #[.val (.int p0), .val (.int p1), .val (.long p2), .second, .val (.long p3), .second, .val (.int p4), .val (.long p5), .second, .val (.int u9), .val (.int u10), .val (.int u11), .val (.int u12), .val (.int u13), .val (.int u14), .val (.int u15), .val (.int u16), .val (.int u17), .val (.int u18), .val (.int u19), .val (.int u20), .val (.long u21), .second, .val (.long u23), .second, .val (.ref r_1), .val (.ref r_4), .val (.ref r_7), .val (.ref r_10), .val (.ref a_12), .val (.int ((Jvm.Free.XT.ushr p4 (8 : Int32)) &&& (3 : Int32))), .val (.ref a_19), .val (.int (0 : Int32)), .unset] [(.int z_122)]))
            refine own_G.go (fun t_ k_ => XS.iload X_122.here hx rfl (hb hby at_425) rfl k_) ?_
            show own_G _ _ _ _ (T_122.setTop (mkF m 427 #[.val (.int p0), .val (.int p1), .val (.long p2), .second, .val (.long p3), .second, .val (.int p4), .val (.long p5), .second, .val (.int u9), .val (.int u10), .val (.int u11), .val (.int u12), .val (.int u13), .val (.int u14), .val (.int u15), .val (.int u16), .val (.int u17), .val (.int u18), .val (.int u19), .val (.int u20), .val (.long u21), .second, .val (.long u23), .second, .val (.ref r_1), .val (.ref r_4), .val (.ref r_7), .val (.ref r_10), .val (.ref a_12), .val (.int ((Jvm.Free.XT.ushr p4 (8 : Int32)) &&& (3 : Int32))), .val (.ref a_19), .val (.int (0 : Int32)), .unset] [(.int (0 : Int32)), (.int z_122)]))
            refine own_G.go (fun t_ k_ => XS.icmpNo X_122.here hx rfl (hb hby at_427) rfl (teq (own_z0 hz_122 (fun q => by first | exact hg ((lw_eq _ _).mpr q.2.2.2) | exact hf ((lw_eq _ _).mpr q.2.2.1) | exact hs2 q.2.1 | exact hs1 q.1) : z_122 = (0 : Int32))).2 k_) ?_
            show own_G _ _ _ _ (T_122.setTop (mkF m 430 #[.val (.int p0), .val (.int p1), .val (.long p2), .second, .val (.long p3), .second, .val (.int p4), .val (.long p5), .second, .val (.int u9), .val (.int u10), .val (.int u11), .val (.int u12), .val (.int u13), .val (.int u14), .val (.int u15), .val (.int u16), .val (.int u17), .val (.int u18), .val (.int u19), .val (.int u20), .val (.long u21), .second, .val (.long u23), .second, .val (.ref r_1), .val (.ref r_4), .val (.ref r_7), .val (.ref r_10), .val (.ref a_12), .val (.int ((Jvm.Free.XT.ushr p4 (8 : Int32)) &&& (3 : Int32))), .val (.ref a_19), .val (.int (0 : Int32)), .unset] []))
            refine own_G.go (fun t_ k_ => XS.aload X_122.here hx rfl (hb hby at_430) rfl rfl k_) ?_
            show own_G _ _ _ _ (T_122.setTop (mkF m 432 #[.val (.int p0), .val (.int p1), .val (.long p2), .second, .val (.long p3), .second, .val (.int p4), .val (.long p5), .second, .val (.int u9), .val (.int u10), .val (.int u11), .val (.int u12), .val (.int u13), .val (.int u14), .val (.int u15), .val (.int u16), .val (.int u17), .val (.int u18), .val (.int u19), .val (.int u20), .val (.long u21), .second, .val (.long u23), .second, .val (.ref r_1), .val (.ref r_4), .val (.ref r_7), .val (.ref r_10), .val (.ref a_12), .val (.int ((Jvm.Free.XT.ushr p4 (8 : Int32)) &&& (3 : Int32))), .val (.ref a_19), .val (.int (0 : Int32)), .unset] [(.ref a_19)]))
            refine own_G.go (fun t_ k_ => XS.aload X_122.here hx rfl (hb hby at_432) rfl rfl k_) ?_
            show own_G _ _ _ _ (T_122.setTop (mkF m 434 #[.val (.int p0), .val (.int p1), .val (.long p2), .second, .val (.long p3), .second, .val (.int p4), .val (.long p5), .second, .val (.int u9), .val (.int u10), .val (.int u11), .val (.int u12), .val (.int u13), .val (.int u14), .val (.int u15), .val (.int u16), .val (.int u17), .val (.int u18), .val (.int u19), .val (.int u20), .val (.long u21), .second, .val (.long u23), .second, .val (.ref r_1), .val (.ref r_4), .val (.ref r_7), .val (.ref r_10), .val (.ref a_12), .val (.int ((Jvm.Free.XT.ushr p4 (8 : Int32)) &&& (3 : Int32))), .val (.ref a_19), .val (.int (0 : Int32)), .unset] [(.ref a_12), (.ref a_19)]))
            obtain ⟨cq_123, kq_123, q_123a, q_123b, q_123c⟩ := isOf hZ_10 eh_122 Ex_21
            obtain ⟨_, T_123, L_123, Q_123, X_123, st_123⟩ := own_callV X_122 hx (z := (⟨"com/example/kommit/kommit/KeyCounters$Entry", "equals", "(Ljava/lang/Object;)Z"⟩ : MethodName)) hown_10 (mvT hZ_10 (own_w hw 44 rfl)) (mvT hZ_10 (own_w hw 45 rfl)) (notFace_of_selects (args := #[]) (mvT hZ_10 (own_w hw 47 rfl))) (mvT hZ_10 (own_w hw 47 rfl)) (mvT hZ_10 (own_w hw 46 rfl)) (by decide) (Q := (Qeq ((own_cs u12 u13 u14) = (own_cs u9 u10 u11) ∧ (own_cs u18 u19 u20) = (own_cs u15 u16 u17) ∧ p2 = u21 ∧ p3 = u23) T_21.heap)) (backOf (W := 0) (rm_eqO l Z a0 hw [] a_19 a_12 r_7 r_10 r_1 r_4 t_7 t_10 t_1 t_4 kb_7 kb_10 kb_1 kb_4 (own_cs u12 u13 u14) (own_cs u18 u19 u20) (own_cs u9 u10 u11) (own_cs u15 u16 u17) u21 u23 p2 p3 zc T_21.heap n0 (Nat.le_trans Z0 (Nat.le_trans (Nat.le_trans (Nat.le_trans (Nat.le_trans (Nat.le_trans (Nat.le_trans (Nat.le_trans K_1.1 K_4.1) K_7.1) K_10.1) E_12.1) K_14.1) E_19.1) K_21.1)) Ex_21 Ex_14'_100 G1_21 G2_21 G3_21 G4_21 G1_14'_101 G2_14'_102 G3_14'_103 G4_14'_104 Ex_7'_113 Fc_7'_114 Fv_7'_115 Kb_7'_116 (own_cs_b h13 h14) (own_cs_len _ _ _) Ex_10'_117 Fc_10'_118 Fv_10'_119 Kb_10'_120 (own_cs_b h19 h20) (own_cs_len _ _ _) Ex_1'_105 Fc_1'_106 Fv_1'_107 Kb_1'_108 (own_cs_b h10 h11) (own_cs_len _ _ _) Ex_4'_109 Fc_4'_110 Fv_4'_111 Kb_4'_112 (own_cs_b h16 h17) (own_cs_len _ _ _) O2 P5 O_121d) hZ_10 (own_w hw 48 rfl) (own_w hw 28 rfl) (by decide) (by decide)) q_123a q_123c (g := (mkF m 434 #[.val (.int p0), .val (.int p1), .val (.long p2), .second, .val (.long p3), .second, .val (.int p4), .val (.long p5), .second, .val (.int u9), .val (.int u10), .val (.int u11), .val (.int u12), .val (.int u13), .val (.int u14), .val (.int u15), .val (.int u16), .val (.int u17), .val (.int u18), .val (.int u19), .val (.int u20), .val (.long u21), .second, .val (.long u23), .second, .val (.ref r_1), .val (.ref r_4), .val (.ref r_7), .val (.ref r_10), .val (.ref a_12), .val (.int ((Jvm.Free.XT.ushr p4 (8 : Int32)) &&& (3 : Int32))), .val (.ref a_19), .val (.int (0 : Int32)), .unset] [(.ref a_12), (.ref a_19)])) rfl (by rw [hml]; rfl) (argsL := [(.ref a_12)]) (rest := []) (lenOf pd_3 rfl) rfl (by show 2 * 0 + _ ≤ _; exact Nat.le_of_eq rfl) (hb hby at_434) eh_122 rfl (by decide) (by decide)
            obtain ⟨⟨z_123, rfl, hz_123⟩, rfl, eh_123⟩ := Q_123
            refine own_G.via st_123 ?_
            have N_123 := Fr.app N_122 (Fr.nil n0)
            show own_G _ _ _ _ (T_123.setTop (mkF m 437 #[.val (.int p0), .val (.int p1), .val (.long p2), .second, .val (.long p3), .second, .val (.int p4), .val (.long p5), .second, .val (.int u9), .val (.int u10), .val (.int u11), .val (.int u12), .val (.int u13), .val (.int u14), .val (.int u15), .val (.int u16), .val (.int u17), .val (.int u18), .val (.int u19), .val (.int u20), .val (.long u21), .second, .val (.long u23), .second, .val (.ref r_1), .val (.ref r_4), .val (.ref r_7), .val (.ref r_10), .val (.ref a_12), .val (.int ((Jvm.Free.XT.ushr p4 (8 : Int32)) &&& (3 : Int32))), .val (.ref a_19), .val (.int (0 : Int32)), .unset] [(.int z_123)]))
            refine own_G.go (fun t_ k_ => XS.iload X_123.here hx rfl (hb hby at_437) rfl k_) ?_
            show own_G _ _ _ _ (T_123.setTop (mkF m 439 #[.val (.int p0), .val (.int p1), .val (.long p2), .second, .val (.long p3), .second, .val (.int p4), .val (.long p5), .second, .val (.int u9), .val (.int u10), .val (.int u11), .val (.int u12), .val (.int u13), .val (.int u14), .val (.int u15), .val (.int u16), .val (.int u17), .val (.int u18), .val (.int u19), .val (.int u20), .val (.long u21), .second, .val (.long u23), .second, .val (.ref r_1), .val (.ref r_4), .val (.ref r_7), .val (.ref r_10), .val (.ref a_12), .val (.int ((Jvm.Free.XT.ushr p4 (8 : Int32)) &&& (3 : Int32))), .val (.ref a_19), .val (.int (0 : Int32)), .unset] [(.int (0 : Int32)), (.int z_123)]))
            refine own_G.go (fun t_ k_ => XS.icmpNo X_123.here hx rfl (hb hby at_439) rfl (teq (own_z0 hz_123 (fun q => by first | exact hg ((lw_eq _ _).mpr q.2.2.2.symm) | exact hf ((lw_eq _ _).mpr q.2.2.1.symm) | exact hs2 q.2.1.symm | exact hs1 q.1.symm) : z_123 = (0 : Int32))).2 k_) ?_
            show own_G _ _ _ _ (T_123.setTop (mkF m 442 #[.val (.int p0), .val (.int p1), .val (.long p2), .second, .val (.long p3), .second, .val (.int p4), .val (.long p5), .second, .val (.int u9), .val (.int u10), .val (.int u11), .val (.int u12), .val (.int u13), .val (.int u14), .val (.int u15), .val (.int u16), .val (.int u17), .val (.int u18), .val (.int u19), .val (.int u20), .val (.long u21), .second, .val (.long u23), .second, .val (.ref r_1), .val (.ref r_4), .val (.ref r_7), .val (.ref r_10), .val (.ref a_12), .val (.int ((Jvm.Free.XT.ushr p4 (8 : Int32)) &&& (3 : Int32))), .val (.ref a_19), .val (.int (0 : Int32)), .unset] []))
            refine own_G.go (fun t_ k_ => XS.iconst X_123.here hx rfl (hb hby at_442) k_) ?_
            show own_G _ _ _ _ (T_123.setTop (mkF m 443 #[.val (.int p0), .val (.int p1), .val (.long p2), .second, .val (.long p3), .second, .val (.int p4), .val (.long p5), .second, .val (.int u9), .val (.int u10), .val (.int u11), .val (.int u12), .val (.int u13), .val (.int u14), .val (.int u15), .val (.int u16), .val (.int u17), .val (.int u18), .val (.int u19), .val (.int u20), .val (.long u21), .second, .val (.long u23), .second, .val (.ref r_1), .val (.ref r_4), .val (.ref r_7), .val (.ref r_10), .val (.ref a_12), .val (.int ((Jvm.Free.XT.ushr p4 (8 : Int32)) &&& (3 : Int32))), .val (.ref a_19), .val (.int (0 : Int32)), .unset] [(.int (1 : Int32))]))
            refine own_G.go (fun t_ k_ => XS.goto X_123.here hx rfl (pc0 := 443) (pc' := 447) rfl (hb hby at_443) (by decide) (by decide) k_) ?_
            show own_G _ _ _ _ (T_123.setTop (mkF m 447 #[.val (.int p0), .val (.int p1), .val (.long p2), .second, .val (.long p3), .second, .val (.int p4), .val (.long p5), .second, .val (.int u9), .val (.int u10), .val (.int u11), .val (.int u12), .val (.int u13), .val (.int u14), .val (.int u15), .val (.int u16), .val (.int u17), .val (.int u18), .val (.int u19), .val (.int u20), .val (.long u21), .second, .val (.long u23), .second, .val (.ref r_1), .val (.ref r_4), .val (.ref r_7), .val (.ref r_10), .val (.ref a_12), .val (.int ((Jvm.Free.XT.ushr p4 (8 : Int32)) &&& (3 : Int32))), .val (.ref a_19), .val (.int (0 : Int32)), .unset] [(.int (1 : Int32))]))
            refine own_G.go (fun t_ k_ => XS.istore X_123.here hx rfl (hb hby at_447) rfl (l' := #[.val (.int p0), .val (.int p1), .val (.long p2), .second, .val (.long p3), .second, .val (.int p4), .val (.long p5), .second, .val (.int u9), .val (.int u10), .val (.int u11), .val (.int u12), .val (.int u13), .val (.int u14), .val (.int u15), .val (.int u16), .val (.int u17), .val (.int u18), .val (.int u19), .val (.int u20), .val (.long u21), .second, .val (.long u23), .second, .val (.ref r_1), .val (.ref r_4), .val (.ref r_7), .val (.ref r_10), .val (.ref a_12), .val (.int ((Jvm.Free.XT.ushr p4 (8 : Int32)) &&& (3 : Int32))), .val (.ref a_19), .val (.int (0 : Int32)), .val (.int (1 : Int32))]) rfl k_) ?_
            show own_G _ _ _ _ (T_123.setTop (mkF m 449 #[.val (.int p0), .val (.int p1), .val (.long p2), .second, .val (.long p3), .second, .val (.int p4), .val (.long p5), .second, .val (.int u9), .val (.int u10), .val (.int u11), .val (.int u12), .val (.int u13), .val (.int u14), .val (.int u15), .val (.int u16), .val (.int u17), .val (.int u18), .val (.int u19), .val (.int u20), .val (.long u21), .second, .val (.long u23), .second, .val (.ref r_1), .val (.ref r_4), .val (.ref r_7), .val (.ref r_10), .val (.ref a_12), .val (.int ((Jvm.Free.XT.ushr p4 (8 : Int32)) &&& (3 : Int32))), .val (.ref a_19), .val (.int (0 : Int32)), .val (.int (1 : Int32))] []))
            refine own_G.go (fun t_ k_ => XS.iload X_123.here hx rfl (hb hby at_449) rfl k_) ?_
            show own_G _ _ _ _ (T_123.setTop (mkF m 451 #[.val (.int p0), .val (.int p1), .val (.long p2), .second, .val (.long p3), .second, .val (.int p4), .val (.long p5), .second, .val (.int u9), .val (.int u10), .val (.int u11), .val (.int u12), .val (.int u13), .val (.int u14), .val (.int u15), .val (.int u16), .val (.int u17), .val (.int u18), .val (.int u19), .val (.int u20), .val (.long u21), .second, .val (.long u23), .second, .val (.ref r_1), .val (.ref r_4), .val (.ref r_7), .val (.ref r_10), .val (.ref a_12), .val (.int ((Jvm.Free.XT.ushr p4 (8 : Int32)) &&& (3 : Int32))), .val (.ref a_19), .val (.int (0 : Int32)), .val (.int (1 : Int32))] [(.int ((Jvm.Free.XT.ushr p4 (8 : Int32)) &&& (3 : Int32)))]))
            refine own_G.go (fun t_ k_ => XS.iconst X_123.here hx rfl (hb hby at_451) k_) ?_
            show own_G _ _ _ _ (T_123.setTop (mkF m 452 #[.val (.int p0), .val (.int p1), .val (.long p2), .second, .val (.long p3), .second, .val (.int p4), .val (.long p5), .second, .val (.int u9), .val (.int u10), .val (.int u11), .val (.int u12), .val (.int u13), .val (.int u14), .val (.int u15), .val (.int u16), .val (.int u17), .val (.int u18), .val (.int u19), .val (.int u20), .val (.long u21), .second, .val (.long u23), .second, .val (.ref r_1), .val (.ref r_4), .val (.ref r_7), .val (.ref r_10), .val (.ref a_12), .val (.int ((Jvm.Free.XT.ushr p4 (8 : Int32)) &&& (3 : Int32))), .val (.ref a_19), .val (.int (0 : Int32)), .val (.int (1 : Int32))] [(.int (3 : Int32)), (.int ((Jvm.Free.XT.ushr p4 (8 : Int32)) &&& (3 : Int32)))]))
            by_cases hm3 : ((Jvm.Free.XT.ushr p4 (8 : Int32)) &&& (3 : Int32)) = (3 : Int32)
            · refine own_G.go (fun t_ k_ => XS.icmpNo X_123.here hx rfl (hb hby at_452) rfl (teq hm3).2 k_) ?_
              show own_G _ _ _ _ (T_123.setTop (mkF m 455 #[.val (.int p0), .val (.int p1), .val (.long p2), .second, .val (.long p3), .second, .val (.int p4), .val (.long p5), .second, .val (.int u9), .val (.int u10), .val (.int u11), .val (.int u12), .val (.int u13), .val (.int u14), .val (.int u15), .val (.int u16), .val (.int u17), .val (.int u18), .val (.int u19), .val (.int u20), .val (.long u21), .second, .val (.long u23), .second, .val (.ref r_1), .val (.ref r_4), .val (.ref r_7), .val (.ref r_10), .val (.ref a_12), .val (.int ((Jvm.Free.XT.ushr p4 (8 : Int32)) &&& (3 : Int32))), .val (.ref a_19), .val (.int (0 : Int32)), .val (.int (1 : Int32))] []))
              refine own_G.go (fun t_ k_ => XS.iload X_123.here hx rfl (hb hby at_455) rfl k_) ?_
              show own_G _ _ _ _ (T_123.setTop (mkF m 457 #[.val (.int p0), .val (.int p1), .val (.long p2), .second, .val (.long p3), .second, .val (.int p4), .val (.long p5), .second, .val (.int u9), .val (.int u10), .val (.int u11), .val (.int u12), .val (.int u13), .val (.int u14), .val (.int u15), .val (.int u16), .val (.int u17), .val (.int u18), .val (.int u19), .val (.int u20), .val (.long u21), .second, .val (.long u23), .second, .val (.ref r_1), .val (.ref r_4), .val (.ref r_7), .val (.ref r_10), .val (.ref a_12), .val (.int ((Jvm.Free.XT.ushr p4 (8 : Int32)) &&& (3 : Int32))), .val (.ref a_19), .val (.int (0 : Int32)), .val (.int (1 : Int32))] [(.int (1 : Int32))]))
              refine own_G.go (fun t_ k_ => XS.ifNo X_123.here hx rfl (hb hby at_457) rfl ((if0 _ _).trans (feq (by decide : ¬ ((1 : Int32) = (0 : Int32)))).1) k_) ?_
              show own_G _ _ _ _ (T_123.setTop (mkF m 460 #[.val (.int p0), .val (.int p1), .val (.long p2), .second, .val (.long p3), .second, .val (.int p4), .val (.long p5), .second, .val (.int u9), .val (.int u10), .val (.int u11), .val (.int u12), .val (.int u13), .val (.int u14), .val (.int u15), .val (.int u16), .val (.int u17), .val (.int u18), .val (.int u19), .val (.int u20), .val (.long u21), .second, .val (.long u23), .second, .val (.ref r_1), .val (.ref r_4), .val (.ref r_7), .val (.ref r_10), .val (.ref a_12), .val (.int ((Jvm.Free.XT.ushr p4 (8 : Int32)) &&& (3 : Int32))), .val (.ref a_19), .val (.int (0 : Int32)), .val (.int (1 : Int32))] []))
              refine own_G.go (fun t_ k_ => XS.aload X_123.here hx rfl (hb hby at_460) rfl rfl k_) ?_
              show own_G _ _ _ _ (T_123.setTop (mkF m 462 #[.val (.int p0), .val (.int p1), .val (.long p2), .second, .val (.long p3), .second, .val (.int p4), .val (.long p5), .second, .val (.int u9), .val (.int u10), .val (.int u11), .val (.int u12), .val (.int u13), .val (.int u14), .val (.int u15), .val (.int u16), .val (.int u17), .val (.int u18), .val (.int u19), .val (.int u20), .val (.long u21), .second, .val (.long u23), .second, .val (.ref r_1), .val (.ref r_4), .val (.ref r_7), .val (.ref r_10), .val (.ref a_12), .val (.int ((Jvm.Free.XT.ushr p4 (8 : Int32)) &&& (3 : Int32))), .val (.ref a_19), .val (.int (0 : Int32)), .val (.int (1 : Int32))] [(.ref a_12)]))
              refine own_G.go (fun t_ k_ => XS.aload X_123.here hx rfl (hb hby at_462) rfl rfl k_) ?_
              show own_G _ _ _ _ (T_123.setTop (mkF m 464 #[.val (.int p0), .val (.int p1), .val (.long p2), .second, .val (.long p3), .second, .val (.int p4), .val (.long p5), .second, .val (.int u9), .val (.int u10), .val (.int u11), .val (.int u12), .val (.int u13), .val (.int u14), .val (.int u15), .val (.int u16), .val (.int u17), .val (.int u18), .val (.int u19), .val (.int u20), .val (.long u21), .second, .val (.long u23), .second, .val (.ref r_1), .val (.ref r_4), .val (.ref r_7), .val (.ref r_10), .val (.ref a_12), .val (.int ((Jvm.Free.XT.ushr p4 (8 : Int32)) &&& (3 : Int32))), .val (.ref a_19), .val (.int (0 : Int32)), .val (.int (1 : Int32))] [(.ref a_12), (.ref a_12)]))
              obtain ⟨cq_124, kq_124, q_124a, q_124b, q_124c⟩ := isOf hZ_10 eh_123 Ex_14'_100
              obtain ⟨_, T_124, L_124, Q_124, X_124, st_124⟩ := own_callV X_123 hx (z := (⟨"com/example/kommit/kommit/KeyCounters$Entry", "equals", "(Ljava/lang/Object;)Z"⟩ : MethodName)) hown_10 (mvT hZ_10 (own_w hw 44 rfl)) (mvT hZ_10 (own_w hw 45 rfl)) (notFace_of_selects (args := #[]) (mvT hZ_10 (own_w hw 47 rfl))) (mvT hZ_10 (own_w hw 47 rfl)) (mvT hZ_10 (own_w hw 46 rfl)) (by decide) (Q := (Qeq ((own_cs u9 u10 u11) = (own_cs u9 u10 u11) ∧ (own_cs u15 u16 u17) = (own_cs u15 u16 u17) ∧ p2 = p2 ∧ p3 = p3) T_21.heap)) (backOf (W := 0) (rm_eqO l Z a0 hw [] a_12 a_12 r_1 r_4 r_1 r_4 t_1 t_4 t_1 t_4 kb_1 kb_4 kb_1 kb_4 (own_cs u9 u10 u11) (own_cs u15 u16 u17) (own_cs u9 u10 u11) (own_cs u15 u16 u17) p2 p3 p2 p3 zc T_21.heap n0 (Nat.le_trans Z0 (Nat.le_trans (Nat.le_trans (Nat.le_trans (Nat.le_trans (Nat.le_trans (Nat.le_trans (Nat.le_trans K_1.1 K_4.1) K_7.1) K_10.1) E_12.1) K_14.1) E_19.1) K_21.1)) Ex_14'_100 Ex_14'_100 G1_14'_101 G2_14'_102 G3_14'_103 G4_14'_104 G1_14'_101 G2_14'_102 G3_14'_103 G4_14'_104 Ex_1'_105 Fc_1'_106 Fv_1'_107 Kb_1'_108 (own_cs_b h10 h11) (own_cs_len _ _ _) Ex_4'_109 Fc_4'_110 Fv_4'_111 Kb_4'_112 (own_cs_b h16 h17) (own_cs_len _ _ _) Ex_1'_105 Fc_1'_106 Fv_1'_107 Kb_1'_108 (own_cs_b h10 h11) (own_cs_len _ _ _) Ex_4'_109 Fc_4'_110 Fv_4'_111 Kb_4'_112 (own_cs_b h16 h17) (own_cs_len _ _ _) O2 P5 O_121d) hZ_10 (own_w hw 48 rfl) (own_w hw 28 rfl) (by decide) (by decide)) q_124a q_124c (g := (mkF m 464 #[.val (.int p0), .val (.int p1), .val (.long p2), .second, .val (.long p3), .second, .val (.int p4), .val (.long p5), .second, .val (.int u9), .val (.int u10), .val (.int u11), .val (.int u12), .val (.int u13), .val (.int u14), .val (.int u15), .val (.int u16), .val (.int u17), .val (.int u18), .val (.int u19), .val (.int u20), .val (.long u21), .second, .val (.long u23), .second, .val (.ref r_1), .val (.ref r_4), .val (.ref r_7), .val (.ref r_10), .val (.ref a_12), .val (.int ((Jvm.Free.XT.ushr p4 (8 : Int32)) &&& (3 : Int32))), .val (.ref a_19), .val (.int (0 : Int32)), .val (.int (1 : Int32))] [(.ref a_12), (.ref a_12)])) rfl (by rw [hml]; rfl) (argsL := [(.ref a_12)]) (rest := []) (lenOf pd_3 rfl) rfl (by show 2 * 0 + _ ≤ _; exact Nat.le_of_eq rfl) (hb hby at_464) eh_123 rfl (by decide) (by decide)
              obtain ⟨⟨z_124, rfl, hz_124⟩, rfl, eh_124⟩ := Q_124
              refine own_G.via st_124 ?_
              have N_124 := Fr.app N_123 (Fr.nil n0)
              show own_G _ _ _ _ (T_124.setTop (mkF m 467 #[.val (.int p0), .val (.int p1), .val (.long p2), .second, .val (.long p3), .second, .val (.int p4), .val (.long p5), .second, .val (.int u9), .val (.int u10), .val (.int u11), .val (.int u12), .val (.int u13), .val (.int u14), .val (.int u15), .val (.int u16), .val (.int u17), .val (.int u18), .val (.int u19), .val (.int u20), .val (.long u21), .second, .val (.long u23), .second, .val (.ref r_1), .val (.ref r_4), .val (.ref r_7), .val (.ref r_10), .val (.ref a_12), .val (.int ((Jvm.Free.XT.ushr p4 (8 : Int32)) &&& (3 : Int32))), .val (.ref a_19), .val (.int (0 : Int32)), .val (.int (1 : Int32))] [(.int z_124)]))
              refine own_G.go (fun t_ k_ => XS.ifNo X_124.here hx rfl (hb hby at_467) rfl ((if0 _ _).trans (feq (fun q => by have q1 := own_z1 hz_124 ⟨rfl, rfl, rfl, rfl⟩; rw [q1] at q; exact absurd q (by decide) : ¬ z_124 = (0 : Int32))).1) k_) ?_
              show own_G _ _ _ _ (T_124.setTop (mkF m 470 #[.val (.int p0), .val (.int p1), .val (.long p2), .second, .val (.long p3), .second, .val (.int p4), .val (.long p5), .second, .val (.int u9), .val (.int u10), .val (.int u11), .val (.int u12), .val (.int u13), .val (.int u14), .val (.int u15), .val (.int u16), .val (.int u17), .val (.int u18), .val (.int u19), .val (.int u20), .val (.long u21), .second, .val (.long u23), .second, .val (.ref r_1), .val (.ref r_4), .val (.ref r_7), .val (.ref r_10), .val (.ref a_12), .val (.int ((Jvm.Free.XT.ushr p4 (8 : Int32)) &&& (3 : Int32))), .val (.ref a_19), .val (.int (0 : Int32)), .val (.int (1 : Int32))] []))
              refine own_G.go (fun t_ k_ => XS.iconst X_124.here hx rfl (hb hby at_470) k_) ?_
              show own_G _ _ _ _ (T_124.setTop (mkF m 471 #[.val (.int p0), .val (.int p1), .val (.long p2), .second, .val (.long p3), .second, .val (.int p4), .val (.long p5), .second, .val (.int u9), .val (.int u10), .val (.int u11), .val (.int u12), .val (.int u13), .val (.int u14), .val (.int u15), .val (.int u16), .val (.int u17), .val (.int u18), .val (.int u19), .val (.int u20), .val (.long u21), .second, .val (.long u23), .second, .val (.ref r_1), .val (.ref r_4), .val (.ref r_7), .val (.ref r_10), .val (.ref a_12), .val (.int ((Jvm.Free.XT.ushr p4 (8 : Int32)) &&& (3 : Int32))), .val (.ref a_19), .val (.int (0 : Int32)), .val (.int (1 : Int32))] [(.int (1 : Int32))]))
              refine own_G.go (fun t_ k_ => XS.goto X_124.here hx rfl (pc0 := 471) (pc' := 475) rfl (hb hby at_471) (by decide) (by decide) k_) ?_
              show own_G _ _ _ _ (T_124.setTop (mkF m 475 #[.val (.int p0), .val (.int p1), .val (.long p2), .second, .val (.long p3), .second, .val (.int p4), .val (.long p5), .second, .val (.int u9), .val (.int u10), .val (.int u11), .val (.int u12), .val (.int u13), .val (.int u14), .val (.int u15), .val (.int u16), .val (.int u17), .val (.int u18), .val (.int u19), .val (.int u20), .val (.long u21), .second, .val (.long u23), .second, .val (.ref r_1), .val (.ref r_4), .val (.ref r_7), .val (.ref r_10), .val (.ref a_12), .val (.int ((Jvm.Free.XT.ushr p4 (8 : Int32)) &&& (3 : Int32))), .val (.ref a_19), .val (.int (0 : Int32)), .val (.int (1 : Int32))] [(.int (1 : Int32))]))
              exact own_G.endH X_124 hS_10 (Nat.le_trans (Nat.le_refl _) (Nat.le_trans (Nat.le_trans (Nat.le_trans E_12.1 K_14.1) E_19.1) K_21.1)) hZ_10 hEW (hh ▸ CH_22) hlk (v := (some (.int (1 : Int32)))) (fun h => by rw [hrt] at h; cases h) (fun fs hr => retN X_124 hx (z := (1 : Int32)) (t := .boolean) hrt (by simp) (hb hby at_475) hr) eh_124 ⟨rfl, N_124⟩ (by decide) (by decide)
            · refine own_G.go (fun t_ k_ => XS.icmpYes X_123.here hx rfl (pc0 := 452) (pc' := 476) rfl (hb hby at_452) rfl (feq hm3).2 (by decide) (by decide) k_) ?_
              show own_G _ _ _ _ (T_123.setTop (mkF m 476 #[.val (.int p0), .val (.int p1), .val (.long p2), .second, .val (.long p3), .second, .val (.int p4), .val (.long p5), .second, .val (.int u9), .val (.int u10), .val (.int u11), .val (.int u12), .val (.int u13), .val (.int u14), .val (.int u15), .val (.int u16), .val (.int u17), .val (.int u18), .val (.int u19), .val (.int u20), .val (.long u21), .second, .val (.long u23), .second, .val (.ref r_1), .val (.ref r_4), .val (.ref r_7), .val (.ref r_10), .val (.ref a_12), .val (.int ((Jvm.Free.XT.ushr p4 (8 : Int32)) &&& (3 : Int32))), .val (.ref a_19), .val (.int (0 : Int32)), .val (.int (1 : Int32))] []))
              refine own_G.go (fun t_ k_ => XS.iload X_123.here hx rfl (hb hby at_476) rfl k_) ?_
              show own_G _ _ _ _ (T_123.setTop (mkF m 478 #[.val (.int p0), .val (.int p1), .val (.long p2), .second, .val (.long p3), .second, .val (.int p4), .val (.long p5), .second, .val (.int u9), .val (.int u10), .val (.int u11), .val (.int u12), .val (.int u13), .val (.int u14), .val (.int u15), .val (.int u16), .val (.int u17), .val (.int u18), .val (.int u19), .val (.int u20), .val (.long u21), .second, .val (.long u23), .second, .val (.ref r_1), .val (.ref r_4), .val (.ref r_7), .val (.ref r_10), .val (.ref a_12), .val (.int ((Jvm.Free.XT.ushr p4 (8 : Int32)) &&& (3 : Int32))), .val (.ref a_19), .val (.int (0 : Int32)), .val (.int (1 : Int32))] [(.int (1 : Int32))]))
              exact own_G.endH X_123 hS_10 (Nat.le_trans (Nat.le_refl _) (Nat.le_trans (Nat.le_trans (Nat.le_trans E_12.1 K_14.1) E_19.1) K_21.1)) hZ_10 hEW (hh ▸ CH_22) hlk (v := (some (.int (1 : Int32)))) (fun h => by rw [hrt] at h; cases h) (fun fs hr => retN X_123 hx (z := (1 : Int32)) (t := .boolean) hrt (by simp) (hb hby at_478) hr) eh_123 ⟨rfl, N_123⟩ (by decide) (by decide)
        · show own_G _ _ _ _ (T_23.setTop (mkF m 375 #[.val (.int p0), .val (.int p1), .val (.long p2), .second, .val (.long p3), .second, .val (.int p4), .val (.long p5), .second, .val (.int u9), .val (.int u10), .val (.int u11), .val (.int u12), .val (.int u13), .val (.int u14), .val (.int u15), .val (.int u16), .val (.int u17), .val (.int u18), .val (.int u19), .val (.int u20), .val (.long u21), .second, .val (.long u23), .second, .val (.ref r_1), .val (.ref r_4), .val (.ref r_7), .val (.ref r_10), .val (.ref a_12), .val (.int ((Jvm.Free.XT.ushr p4 (8 : Int32)) &&& (3 : Int32))), .val (.ref a_19), .unset, .unset] [(.int (0 : Int32))]))
          refine own_G.go (fun t_ k_ => XS.ifYes X_23.here hx rfl (pc0 := 375) (pc' := 415) rfl (hb hby at_375) rfl ((if0 _ _).trans (teq (by decide : (0 : Int32) = (0 : Int32))).1) (by decide) (by decide) k_) ?_
          show own_G _ _ _ _ (T_23.setTop (mkF m 415 #[.val (.int p0), .val (.int p1), .val (.long p2), .second, .val (.long p3), .second, .val (.int p4), .val (.long p5), .second, .val (.int u9), .val (.int u10), .val (.int u11), .val (.int u12), .val (.int u13), .val (.int u14), .val (.int u15), .val (.int u16), .val (.int u17), .val (.int u18), .val (.int u19), .val (.int u20), .val (.long u21), .second, .val (.long u23), .second, .val (.ref r_1), .val (.ref r_4), .val (.ref r_7), .val (.ref r_10), .val (.ref a_12), .val (.int ((Jvm.Free.XT.ushr p4 (8 : Int32)) &&& (3 : Int32))), .val (.ref a_19), .unset, .unset] []))
          refine own_G.go (fun t_ k_ => XS.iconst X_23.here hx rfl (hb hby at_415) k_) ?_
          show own_G _ _ _ _ (T_23.setTop (mkF m 416 #[.val (.int p0), .val (.int p1), .val (.long p2), .second, .val (.long p3), .second, .val (.int p4), .val (.long p5), .second, .val (.int u9), .val (.int u10), .val (.int u11), .val (.int u12), .val (.int u13), .val (.int u14), .val (.int u15), .val (.int u16), .val (.int u17), .val (.int u18), .val (.int u19), .val (.int u20), .val (.long u21), .second, .val (.long u23), .second, .val (.ref r_1), .val (.ref r_4), .val (.ref r_7), .val (.ref r_10), .val (.ref a_12), .val (.int ((Jvm.Free.XT.ushr p4 (8 : Int32)) &&& (3 : Int32))), .val (.ref a_19), .unset, .unset] [(.int (0 : Int32))]))
          refine own_G.go (fun t_ k_ => XS.istore X_23.here hx rfl (hb hby at_416) rfl (l' := #[.val (.int p0), .val (.int p1), .val (.long p2), .second, .val (.long p3), .second, .val (.int p4), .val (.long p5), .second, .val (.int u9), .val (.int u10), .val (.int u11), .val (.int u12), .val (.int u13), .val (.int u14), .val (.int u15), .val (.int u16), .val (.int u17), .val (.int u18), .val (.int u19), .val (.int u20), .val (.long u21), .second, .val (.long u23), .second, .val (.ref r_1), .val (.ref r_4), .val (.ref r_7), .val (.ref r_10), .val (.ref a_12), .val (.int ((Jvm.Free.XT.ushr p4 (8 : Int32)) &&& (3 : Int32))), .val (.ref a_19), .val (.int (0 : Int32)), .unset]) rfl k_) ?_
          show own_G _ _ _ _ (T_23.setTop (mkF m 418 #[.val (.int p0), .val (.int p1), .val (.long p2), .second, .val (.long p3), .second, .val (.int p4), .val (.long p5), .second, .val (.int u9), .val (.int u10), .val (.int u11), .val (.int u12), .val (.int u13), .val (.int u14), .val (.int u15), .val (.int u16), .val (.int u17), .val (.int u18), .val (.int u19), .val (.int u20), .val (.long u21), .second, .val (.long u23), .second, .val (.ref r_1), .val (.ref r_4), .val (.ref r_7), .val (.ref r_10), .val (.ref a_12), .val (.int ((Jvm.Free.XT.ushr p4 (8 : Int32)) &&& (3 : Int32))), .val (.ref a_19), .val (.int (0 : Int32)), .unset] []))
          refine own_G.go (fun t_ k_ => XS.aload X_23.here hx rfl (hb hby at_418) rfl rfl k_) ?_
          show own_G _ _ _ _ (T_23.setTop (mkF m 420 #[.val (.int p0), .val (.int p1), .val (.long p2), .second, .val (.long p3), .second, .val (.int p4), .val (.long p5), .second, .val (.int u9), .val (.int u10), .val (.int u11), .val (.int u12), .val (.int u13), .val (.int u14), .val (.int u15), .val (.int u16), .val (.int u17), .val (.int u18), .val (.int u19), .val (.int u20), .val (.long u21), .second, .val (.long u23), .second, .val (.ref r_1), .val (.ref r_4), .val (.ref r_7), .val (.ref r_10), .val (.ref a_12), .val (.int ((Jvm.Free.XT.ushr p4 (8 : Int32)) &&& (3 : Int32))), .val (.ref a_19), .val (.int (0 : Int32)), .unset] [(.ref a_12)]))
          refine own_G.go (fun t_ k_ => XS.aload X_23.here hx rfl (hb hby at_420) rfl rfl k_) ?_
          show own_G _ _ _ _ (T_23.setTop (mkF m 422 #[.val (.int p0), .val (.int p1), .val (.long p2), .second, .val (.long p3), .second, .val (.int p4), .val (.long p5), .second, .val (.int u9), .val (.int u10), .val (.int u11), .val (.int u12), .val (.int u13), .val (.int u14), .val (.int u15), .val (.int u16), .val (.int u17), .val (.int u18), .val (.int u19), .val (.int u20), .val (.long u21), .second, .val (.long u23), .second, .val (.ref r_1), .val (.ref r_4), .val (.ref r_7), .val (.ref r_10), .val (.ref a_12), .val (.int ((Jvm.Free.XT.ushr p4 (8 : Int32)) &&& (3 : Int32))), .val (.ref a_19), .val (.int (0 : Int32)), .unset] [(.ref a_19), (.ref a_12)]))
          have Ex_14'_125 : Exa Z T_21.heap a_12 "com/example/kommit/kommit/KeyCounters$Entry" := ((Ex_14.ext E_19).keep K_21)
          have G1_14'_126 : Fld Z T_21.heap a_12 "com/example/kommit/kommit/KeyCounters$Entry" "kind" "Ljava/lang/String;" (.ref r_1) := ((G1_14.ext E_19).keep K_21 (ninS (Nat.ne_of_lt (Nat.lt_of_lt_of_le (Nat.lt_of_lt_of_le A_12.lt K_14.1) (Nat.le_of_eq g_19.symm))) nin0))
          have G2_14'_127 : Fld Z T_21.heap a_12 "com/example/kommit/kommit/KeyCounters$Entry" "name" "Ljava/lang/String;" (.ref r_4) := ((G2_14.ext E_19).keep K_21 (ninS (Nat.ne_of_lt (Nat.lt_of_lt_of_le (Nat.lt_of_lt_of_le A_12.lt K_14.1) (Nat.le_of_eq g_19.symm))) nin0))
          have G3_14'_128 : Fld Z T_21.heap a_12 "com/example/kommit/kommit/KeyCounters$Entry" "first" "J" (.long p2) := ((G3_14.ext E_19).keep K_21 (ninS (Nat.ne_of_lt (Nat.lt_of_lt_of_le (Nat.lt_of_lt_of_le A_12.lt K_14.1) (Nat.le_of_eq g_19.symm))) nin0))
          have G4_14'_129 : Fld Z T_21.heap a_12 "com/example/kommit/kommit/KeyCounters$Entry" "second" "J" (.long p3) := ((G4_14.ext E_19).keep K_21 (ninS (Nat.ne_of_lt (Nat.lt_of_lt_of_le (Nat.lt_of_lt_of_le A_12.lt K_14.1) (Nat.le_of_eq g_19.symm))) nin0))
          have Ex_1'_130 : Exa Z T_21.heap r_1 "java/lang/String" := (((((((Ex_1.keep K_4).keep K_7).keep K_10).ext E_12).keep K_14).ext E_19).keep K_21)
          have Fc_1'_131 : Fld Z T_21.heap r_1 "java/lang/String" "coder" "B" (.int 0) := (((((((Fc_1.keep K_4 nin0).keep K_7 nin0).keep K_10 nin0).ext E_12).keep K_14 (ninS (Nat.ne_of_lt (Nat.lt_of_lt_of_le (Nat.lt_of_lt_of_le Ex_1.lt (Nat.le_trans (Nat.le_trans K_4.1 K_7.1) K_10.1)) (Nat.le_of_eq g_12.symm))) nin0)).ext E_19).keep K_21 (ninS (Nat.ne_of_lt (Nat.lt_of_lt_of_le (Nat.lt_of_lt_of_le Ex_1.lt (Nat.le_trans (Nat.le_trans (Nat.le_trans (Nat.le_trans K_4.1 K_7.1) K_10.1) E_12.1) K_14.1)) (Nat.le_of_eq g_19.symm))) nin0))
          have Fv_1'_132 : Fld Z T_21.heap r_1 "java/lang/String" "value" "[B" (.ref t_1) := (((((((Fv_1.keep K_4 nin0).keep K_7 nin0).keep K_10 nin0).ext E_12).keep K_14 (ninS (Nat.ne_of_lt (Nat.lt_of_lt_of_le (Nat.lt_of_lt_of_le Ex_1.lt (Nat.le_trans (Nat.le_trans K_4.1 K_7.1) K_10.1)) (Nat.le_of_eq g_12.symm))) nin0)).ext E_19).keep K_21 (ninS (Nat.ne_of_lt (Nat.lt_of_lt_of_le (Nat.lt_of_lt_of_le Ex_1.lt (Nat.le_trans (Nat.le_trans (Nat.le_trans (Nat.le_trans K_4.1 K_7.1) K_10.1) E_12.1) K_14.1)) (Nat.le_of_eq g_19.symm))) nin0))
          have Kb_1'_133 : Arv Z T_21.heap t_1 kb_1 .byte (Int32.ofNat (own_cs u9 u10 u11).length) (((own_cs u9 u10 u11).map (fun c => c.toInt8.toInt32)).map Value.int) (.int 0) := (((((((Kb_1.keep K_4 nin0).keep K_7 nin0).keep K_10 nin0).ext E_12).keep K_14 (ninS (Nat.ne_of_lt (Nat.lt_of_lt_of_le (Nat.lt_of_lt_of_le Kb_1.lt (Nat.le_trans (Nat.le_trans K_4.1 K_7.1) K_10.1)) (Nat.le_of_eq g_12.symm))) nin0)).ext E_19).keep K_21 (ninS (Nat.ne_of_lt (Nat.lt_of_lt_of_le (Nat.lt_of_lt_of_le Kb_1.lt (Nat.le_trans (Nat.le_trans (Nat.le_trans (Nat.le_trans K_4.1 K_7.1) K_10.1) E_12.1) K_14.1)) (Nat.le_of_eq g_19.symm))) nin0))
          have Ex_4'_134 : Exa Z T_21.heap r_4 "java/lang/String" := ((((((Ex_4.keep K_7).keep K_10).ext E_12).keep K_14).ext E_19).keep K_21)
          have Fc_4'_135 : Fld Z T_21.heap r_4 "java/lang/String" "coder" "B" (.int 0) := ((((((Fc_4.keep K_7 nin0).keep K_10 nin0).ext E_12).keep K_14 (ninS (Nat.ne_of_lt (Nat.lt_of_lt_of_le (Nat.lt_of_lt_of_le Ex_4.lt (Nat.le_trans K_7.1 K_10.1)) (Nat.le_of_eq g_12.symm))) nin0)).ext E_19).keep K_21 (ninS (Nat.ne_of_lt (Nat.lt_of_lt_of_le (Nat.lt_of_lt_of_le Ex_4.lt (Nat.le_trans (Nat.le_trans (Nat.le_trans K_7.1 K_10.1) E_12.1) K_14.1)) (Nat.le_of_eq g_19.symm))) nin0))
          have Fv_4'_136 : Fld Z T_21.heap r_4 "java/lang/String" "value" "[B" (.ref t_4) := ((((((Fv_4.keep K_7 nin0).keep K_10 nin0).ext E_12).keep K_14 (ninS (Nat.ne_of_lt (Nat.lt_of_lt_of_le (Nat.lt_of_lt_of_le Ex_4.lt (Nat.le_trans K_7.1 K_10.1)) (Nat.le_of_eq g_12.symm))) nin0)).ext E_19).keep K_21 (ninS (Nat.ne_of_lt (Nat.lt_of_lt_of_le (Nat.lt_of_lt_of_le Ex_4.lt (Nat.le_trans (Nat.le_trans (Nat.le_trans K_7.1 K_10.1) E_12.1) K_14.1)) (Nat.le_of_eq g_19.symm))) nin0))
          have Kb_4'_137 : Arv Z T_21.heap t_4 kb_4 .byte (Int32.ofNat (own_cs u15 u16 u17).length) (((own_cs u15 u16 u17).map (fun c => c.toInt8.toInt32)).map Value.int) (.int 0) := ((((((Kb_4.keep K_7 nin0).keep K_10 nin0).ext E_12).keep K_14 (ninS (Nat.ne_of_lt (Nat.lt_of_lt_of_le (Nat.lt_of_lt_of_le Kb_4.lt (Nat.le_trans K_7.1 K_10.1)) (Nat.le_of_eq g_12.symm))) nin0)).ext E_19).keep K_21 (ninS (Nat.ne_of_lt (Nat.lt_of_lt_of_le (Nat.lt_of_lt_of_le Kb_4.lt (Nat.le_trans (Nat.le_trans (Nat.le_trans K_7.1 K_10.1) E_12.1) K_14.1)) (Nat.le_of_eq g_19.symm))) nin0))
          have Ex_7'_138 : Exa Z T_21.heap r_7 "java/lang/String" := (((((Ex_7.keep K_10).ext E_12).keep K_14).ext E_19).keep K_21)
          have Fc_7'_139 : Fld Z T_21.heap r_7 "java/lang/String" "coder" "B" (.int 0) := (((((Fc_7.keep K_10 nin0).ext E_12).keep K_14 (ninS (Nat.ne_of_lt (Nat.lt_of_lt_of_le (Nat.lt_of_lt_of_le Ex_7.lt K_10.1) (Nat.le_of_eq g_12.symm))) nin0)).ext E_19).keep K_21 (ninS (Nat.ne_of_lt (Nat.lt_of_lt_of_le (Nat.lt_of_lt_of_le Ex_7.lt (Nat.le_trans (Nat.le_trans K_10.1 E_12.1) K_14.1)) (Nat.le_of_eq g_19.symm))) nin0))
          have Fv_7'_140 : Fld Z T_21.heap r_7 "java/lang/String" "value" "[B" (.ref t_7) := (((((Fv_7.keep K_10 nin0).ext E_12).keep K_14 (ninS (Nat.ne_of_lt (Nat.lt_of_lt_of_le (Nat.lt_of_lt_of_le Ex_7.lt K_10.1) (Nat.le_of_eq g_12.symm))) nin0)).ext E_19).keep K_21 (ninS (Nat.ne_of_lt (Nat.lt_of_lt_of_le (Nat.lt_of_lt_of_le Ex_7.lt (Nat.le_trans (Nat.le_trans K_10.1 E_12.1) K_14.1)) (Nat.le_of_eq g_19.symm))) nin0))
          have Kb_7'_141 : Arv Z T_21.heap t_7 kb_7 .byte (Int32.ofNat (own_cs u12 u13 u14).length) (((own_cs u12 u13 u14).map (fun c => c.toInt8.toInt32)).map Value.int) (.int 0) := (((((Kb_7.keep K_10 nin0).ext E_12).keep K_14 (ninS (Nat.ne_of_lt (Nat.lt_of_lt_of_le (Nat.lt_of_lt_of_le Kb_7.lt K_10.1) (Nat.le_of_eq g_12.symm))) nin0)).ext E_19).keep K_21 (ninS (Nat.ne_of_lt (Nat.lt_of_lt_of_le (Nat.lt_of_lt_of_le Kb_7.lt (Nat.le_trans (Nat.le_trans K_10.1 E_12.1) K_14.1)) (Nat.le_of_eq g_19.symm))) nin0))
          have Ex_10'_142 : Exa Z T_21.heap r_10 "java/lang/String" := ((((Ex_10.ext E_12).keep K_14).ext E_19).keep K_21)
          have Fc_10'_143 : Fld Z T_21.heap r_10 "java/lang/String" "coder" "B" (.int 0) := ((((Fc_10.ext E_12).keep K_14 (ninS (Nat.ne_of_lt (Nat.lt_of_lt_of_le Ex_10.lt (Nat.le_of_eq g_12.symm))) nin0)).ext E_19).keep K_21 (ninS (Nat.ne_of_lt (Nat.lt_of_lt_of_le (Nat.lt_of_lt_of_le Ex_10.lt (Nat.le_trans E_12.1 K_14.1)) (Nat.le_of_eq g_19.symm))) nin0))
          have Fv_10'_144 : Fld Z T_21.heap r_10 "java/lang/String" "value" "[B" (.ref t_10) := ((((Fv_10.ext E_12).keep K_14 (ninS (Nat.ne_of_lt (Nat.lt_of_lt_of_le Ex_10.lt (Nat.le_of_eq g_12.symm))) nin0)).ext E_19).keep K_21 (ninS (Nat.ne_of_lt (Nat.lt_of_lt_of_le (Nat.lt_of_lt_of_le Ex_10.lt (Nat.le_trans E_12.1 K_14.1)) (Nat.le_of_eq g_19.symm))) nin0))
          have Kb_10'_145 : Arv Z T_21.heap t_10 kb_10 .byte (Int32.ofNat (own_cs u18 u19 u20).length) (((own_cs u18 u19 u20).map (fun c => c.toInt8.toInt32)).map Value.int) (.int 0) := ((((Kb_10.ext E_12).keep K_14 (ninS (Nat.ne_of_lt (Nat.lt_of_lt_of_le Kb_10.lt (Nat.le_of_eq g_12.symm))) nin0)).ext E_19).keep K_21 (ninS (Nat.ne_of_lt (Nat.lt_of_lt_of_le (Nat.lt_of_lt_of_le Kb_10.lt (Nat.le_trans E_12.1 K_14.1)) (Nat.le_of_eq g_19.symm))) nin0))
          have O_146d : Old Z n0 T_21.heap := (((((O_9d.keep K_10 all0).ext E_12).keep K_14 (allS g0_a_12 all0)).ext E_19).keep K_21 (allS g0_a_19 all0))
          obtain ⟨cq_147, kq_147, q_147a, q_147b, q_147c⟩ := isOf hZ_10 eh_23 Ex_14'_125
          obtain ⟨_, T_147, L_147, Q_147, X_147, st_147⟩ := own_callV X_23 hx (z := (⟨"com/example/kommit/kommit/KeyCounters$Entry", "equals", "(Ljava/lang/Object;)Z"⟩ : MethodName)) hown_10 (mvT hZ_10 (own_w hw 44 rfl)) (mvT hZ_10 (own_w hw 45 rfl)) (notFace_of_selects (args := #[]) (mvT hZ_10 (own_w hw 47 rfl))) (mvT hZ_10 (own_w hw 47 rfl)) (mvT hZ_10 (own_w hw 46 rfl)) (by decide) (Q := (Qeq ((own_cs u9 u10 u11) = (own_cs u12 u13 u14) ∧ (own_cs u15 u16 u17) = (own_cs u18 u19 u20) ∧ u21 = p2 ∧ u23 = p3) T_21.heap)) (backOf (W := 0) (rm_eqO l Z a0 hw [] a_12 a_19 r_1 r_4 r_7 r_10 t_1 t_4 t_7 t_10 kb_1 kb_4 kb_7 kb_10 (own_cs u9 u10 u11) (own_cs u15 u16 u17) (own_cs u12 u13 u14) (own_cs u18 u19 u20) p2 p3 u21 u23 zc T_21.heap n0 (Nat.le_trans Z0 (Nat.le_trans (Nat.le_trans (Nat.le_trans (Nat.le_trans (Nat.le_trans (Nat.le_trans (Nat.le_trans K_1.1 K_4.1) K_7.1) K_10.1) E_12.1) K_14.1) E_19.1) K_21.1)) Ex_14'_125 Ex_21 G1_14'_126 G2_14'_127 G3_14'_128 G4_14'_129 G1_21 G2_21 G3_21 G4_21 Ex_1'_130 Fc_1'_131 Fv_1'_132 Kb_1'_133 (own_cs_b h10 h11) (own_cs_len _ _ _) Ex_4'_134 Fc_4'_135 Fv_4'_136 Kb_4'_137 (own_cs_b h16 h17) (own_cs_len _ _ _) Ex_7'_138 Fc_7'_139 Fv_7'_140 Kb_7'_141 (own_cs_b h13 h14) (own_cs_len _ _ _) Ex_10'_142 Fc_10'_143 Fv_10'_144 Kb_10'_145 (own_cs_b h19 h20) (own_cs_len _ _ _) O2 P5 O_146d) hZ_10 (own_w hw 48 rfl) (own_w hw 28 rfl) (by decide) (by decide)) q_147a q_147c (g := (mkF m 422 #[.val (.int p0), .val (.int p1), .val (.long p2), .second, .val (.long p3), .second, .val (.int p4), .val (.long p5), .second, .val (.int u9), .val (.int u10), .val (.int u11), .val (.int u12), .val (.int u13), .val (.int u14), .val (.int u15), .val (.int u16), .val (.int u17), .val (.int u18), .val (.int u19), .val (.int u20), .val (.long u21), .second, .val (.long u23), .second, .val (.ref r_1), .val (.ref r_4), .val (.ref r_7), .val (.ref r_10), .val (.ref a_12), .val (.int ((Jvm.Free.XT.ushr p4 (8 : Int32)) &&& (3 : Int32))), .val (.ref a_19), .val (.int (0 : Int32)), .unset] [(.ref a_19), (.ref a_12)])) rfl (by rw [hml]; rfl) (argsL := [(.ref a_19)]) (rest := []) (lenOf pd_3 rfl) rfl (by show 2 * 0 + _ ≤ _; exact Nat.le_of_eq rfl) (hb hby at_422) eh_23 rfl (by decide) (by decide)
          obtain ⟨⟨z_147, rfl, hz_147⟩, rfl, eh_147⟩ := Q_147
          refine own_G.via st_147 ?_
          have N_147 := Fr.app N_23 (Fr.nil n0)
          show own_G _ _ _ _ (T_147.setTop (mkF m 425 #[.val (.int p0), .val (.int p1), .val (.long p2), .second, .val (.long p3), .second, .val (.int p4), .val (.long p5), .second, .val (.int u9), .val (.int u10), .val (.int u11), .val (.int u12), .val (.int u13), .val (.int u14), .val (.int u15), .val (.int u16), .val (.int u17), .val (.int u18), .val (.int u19), .val (.int u20), .val (.long u21), .second, .val (.long u23), .second, .val (.ref r_1), .val (.ref r_4), .val (.ref r_7), .val (.ref r_10), .val (.ref a_12), .val (.int ((Jvm.Free.XT.ushr p4 (8 : Int32)) &&& (3 : Int32))), .val (.ref a_19), .val (.int (0 : Int32)), .unset] [(.int z_147)]))
          refine own_G.go (fun t_ k_ => XS.iload X_147.here hx rfl (hb hby at_425) rfl k_) ?_
          show own_G _ _ _ _ (T_147.setTop (mkF m 427 #[.val (.int p0), .val (.int p1), .val (.long p2), .second, .val (.long p3), .second, .val (.int p4), .val (.long p5), .second, .val (.int u9), .val (.int u10), .val (.int u11), .val (.int u12), .val (.int u13), .val (.int u14), .val (.int u15), .val (.int u16), .val (.int u17), .val (.int u18), .val (.int u19), .val (.int u20), .val (.long u21), .second, .val (.long u23), .second, .val (.ref r_1), .val (.ref r_4), .val (.ref r_7), .val (.ref r_10), .val (.ref a_12), .val (.int ((Jvm.Free.XT.ushr p4 (8 : Int32)) &&& (3 : Int32))), .val (.ref a_19), .val (.int (0 : Int32)), .unset] [(.int (0 : Int32)), (.int z_147)]))
          refine own_G.go (fun t_ k_ => XS.icmpNo X_147.here hx rfl (hb hby at_427) rfl (teq (own_z0 hz_147 (fun q => by first | exact hg ((lw_eq _ _).mpr q.2.2.2) | exact hf ((lw_eq _ _).mpr q.2.2.1) | exact hs2 q.2.1 | exact hs1 q.1) : z_147 = (0 : Int32))).2 k_) ?_
          show own_G _ _ _ _ (T_147.setTop (mkF m 430 #[.val (.int p0), .val (.int p1), .val (.long p2), .second, .val (.long p3), .second, .val (.int p4), .val (.long p5), .second, .val (.int u9), .val (.int u10), .val (.int u11), .val (.int u12), .val (.int u13), .val (.int u14), .val (.int u15), .val (.int u16), .val (.int u17), .val (.int u18), .val (.int u19), .val (.int u20), .val (.long u21), .second, .val (.long u23), .second, .val (.ref r_1), .val (.ref r_4), .val (.ref r_7), .val (.ref r_10), .val (.ref a_12), .val (.int ((Jvm.Free.XT.ushr p4 (8 : Int32)) &&& (3 : Int32))), .val (.ref a_19), .val (.int (0 : Int32)), .unset] []))
          refine own_G.go (fun t_ k_ => XS.aload X_147.here hx rfl (hb hby at_430) rfl rfl k_) ?_
          show own_G _ _ _ _ (T_147.setTop (mkF m 432 #[.val (.int p0), .val (.int p1), .val (.long p2), .second, .val (.long p3), .second, .val (.int p4), .val (.long p5), .second, .val (.int u9), .val (.int u10), .val (.int u11), .val (.int u12), .val (.int u13), .val (.int u14), .val (.int u15), .val (.int u16), .val (.int u17), .val (.int u18), .val (.int u19), .val (.int u20), .val (.long u21), .second, .val (.long u23), .second, .val (.ref r_1), .val (.ref r_4), .val (.ref r_7), .val (.ref r_10), .val (.ref a_12), .val (.int ((Jvm.Free.XT.ushr p4 (8 : Int32)) &&& (3 : Int32))), .val (.ref a_19), .val (.int (0 : Int32)), .unset] [(.ref a_19)]))
          refine own_G.go (fun t_ k_ => XS.aload X_147.here hx rfl (hb hby at_432) rfl rfl k_) ?_
          show own_G _ _ _ _ (T_147.setTop (mkF m 434 #[.val (.int p0), .val (.int p1), .val (.long p2), .second, .val (.long p3), .second, .val (.int p4), .val (.long p5), .second, .val (.int u9), .val (.int u10), .val (.int u11), .val (.int u12), .val (.int u13), .val (.int u14), .val (.int u15), .val (.int u16), .val (.int u17), .val (.int u18), .val (.int u19), .val (.int u20), .val (.long u21), .second, .val (.long u23), .second, .val (.ref r_1), .val (.ref r_4), .val (.ref r_7), .val (.ref r_10), .val (.ref a_12), .val (.int ((Jvm.Free.XT.ushr p4 (8 : Int32)) &&& (3 : Int32))), .val (.ref a_19), .val (.int (0 : Int32)), .unset] [(.ref a_12), (.ref a_19)]))
          obtain ⟨cq_148, kq_148, q_148a, q_148b, q_148c⟩ := isOf hZ_10 eh_147 Ex_21
          obtain ⟨_, T_148, L_148, Q_148, X_148, st_148⟩ := own_callV X_147 hx (z := (⟨"com/example/kommit/kommit/KeyCounters$Entry", "equals", "(Ljava/lang/Object;)Z"⟩ : MethodName)) hown_10 (mvT hZ_10 (own_w hw 44 rfl)) (mvT hZ_10 (own_w hw 45 rfl)) (notFace_of_selects (args := #[]) (mvT hZ_10 (own_w hw 47 rfl))) (mvT hZ_10 (own_w hw 47 rfl)) (mvT hZ_10 (own_w hw 46 rfl)) (by decide) (Q := (Qeq ((own_cs u12 u13 u14) = (own_cs u9 u10 u11) ∧ (own_cs u18 u19 u20) = (own_cs u15 u16 u17) ∧ p2 = u21 ∧ p3 = u23) T_21.heap)) (backOf (W := 0) (rm_eqO l Z a0 hw [] a_19 a_12 r_7 r_10 r_1 r_4 t_7 t_10 t_1 t_4 kb_7 kb_10 kb_1 kb_4 (own_cs u12 u13 u14) (own_cs u18 u19 u20) (own_cs u9 u10 u11) (own_cs u15 u16 u17) u21 u23 p2 p3 zc T_21.heap n0 (Nat.le_trans Z0 (Nat.le_trans (Nat.le_trans (Nat.le_trans (Nat.le_trans (Nat.le_trans (Nat.le_trans (Nat.le_trans K_1.1 K_4.1) K_7.1) K_10.1) E_12.1) K_14.1) E_19.1) K_21.1)) Ex_21 Ex_14'_125 G1_21 G2_21 G3_21 G4_21 G1_14'_126 G2_14'_127 G3_14'_128 G4_14'_129 Ex_7'_138 Fc_7'_139 Fv_7'_140 Kb_7'_141 (own_cs_b h13 h14) (own_cs_len _ _ _) Ex_10'_142 Fc_10'_143 Fv_10'_144 Kb_10'_145 (own_cs_b h19 h20) (own_cs_len _ _ _) Ex_1'_130 Fc_1'_131 Fv_1'_132 Kb_1'_133 (own_cs_b h10 h11) (own_cs_len _ _ _) Ex_4'_134 Fc_4'_135 Fv_4'_136 Kb_4'_137 (own_cs_b h16 h17) (own_cs_len _ _ _) O2 P5 O_146d) hZ_10 (own_w hw 48 rfl) (own_w hw 28 rfl) (by decide) (by decide)) q_148a q_148c (g := (mkF m 434 #[.val (.int p0), .val (.int p1), .val (.long p2), .second, .val (.long p3), .second, .val (.int p4), .val (.long p5), .second, .val (.int u9), .val (.int u10), .val (.int u11), .val (.int u12), .val (.int u13), .val (.int u14), .val (.int u15), .val (.int u16), .val (.int u17), .val (.int u18), .val (.int u19), .val (.int u20), .val (.long u21), .second, .val (.long u23), .second, .val (.ref r_1), .val (.ref r_4), .val (.ref r_7), .val (.ref r_10), .val (.ref a_12), .val (.int ((Jvm.Free.XT.ushr p4 (8 : Int32)) &&& (3 : Int32))), .val (.ref a_19), .val (.int (0 : Int32)), .unset] [(.ref a_12), (.ref a_19)])) rfl (by rw [hml]; rfl) (argsL := [(.ref a_12)]) (rest := []) (lenOf pd_3 rfl) rfl (by show 2 * 0 + _ ≤ _; exact Nat.le_of_eq rfl) (hb hby at_434) eh_147 rfl (by decide) (by decide)
          obtain ⟨⟨z_148, rfl, hz_148⟩, rfl, eh_148⟩ := Q_148
          refine own_G.via st_148 ?_
          have N_148 := Fr.app N_147 (Fr.nil n0)
          show own_G _ _ _ _ (T_148.setTop (mkF m 437 #[.val (.int p0), .val (.int p1), .val (.long p2), .second, .val (.long p3), .second, .val (.int p4), .val (.long p5), .second, .val (.int u9), .val (.int u10), .val (.int u11), .val (.int u12), .val (.int u13), .val (.int u14), .val (.int u15), .val (.int u16), .val (.int u17), .val (.int u18), .val (.int u19), .val (.int u20), .val (.long u21), .second, .val (.long u23), .second, .val (.ref r_1), .val (.ref r_4), .val (.ref r_7), .val (.ref r_10), .val (.ref a_12), .val (.int ((Jvm.Free.XT.ushr p4 (8 : Int32)) &&& (3 : Int32))), .val (.ref a_19), .val (.int (0 : Int32)), .unset] [(.int z_148)]))
          refine own_G.go (fun t_ k_ => XS.iload X_148.here hx rfl (hb hby at_437) rfl k_) ?_
          show own_G _ _ _ _ (T_148.setTop (mkF m 439 #[.val (.int p0), .val (.int p1), .val (.long p2), .second, .val (.long p3), .second, .val (.int p4), .val (.long p5), .second, .val (.int u9), .val (.int u10), .val (.int u11), .val (.int u12), .val (.int u13), .val (.int u14), .val (.int u15), .val (.int u16), .val (.int u17), .val (.int u18), .val (.int u19), .val (.int u20), .val (.long u21), .second, .val (.long u23), .second, .val (.ref r_1), .val (.ref r_4), .val (.ref r_7), .val (.ref r_10), .val (.ref a_12), .val (.int ((Jvm.Free.XT.ushr p4 (8 : Int32)) &&& (3 : Int32))), .val (.ref a_19), .val (.int (0 : Int32)), .unset] [(.int (0 : Int32)), (.int z_148)]))
          refine own_G.go (fun t_ k_ => XS.icmpNo X_148.here hx rfl (hb hby at_439) rfl (teq (own_z0 hz_148 (fun q => by first | exact hg ((lw_eq _ _).mpr q.2.2.2.symm) | exact hf ((lw_eq _ _).mpr q.2.2.1.symm) | exact hs2 q.2.1.symm | exact hs1 q.1.symm) : z_148 = (0 : Int32))).2 k_) ?_
          show own_G _ _ _ _ (T_148.setTop (mkF m 442 #[.val (.int p0), .val (.int p1), .val (.long p2), .second, .val (.long p3), .second, .val (.int p4), .val (.long p5), .second, .val (.int u9), .val (.int u10), .val (.int u11), .val (.int u12), .val (.int u13), .val (.int u14), .val (.int u15), .val (.int u16), .val (.int u17), .val (.int u18), .val (.int u19), .val (.int u20), .val (.long u21), .second, .val (.long u23), .second, .val (.ref r_1), .val (.ref r_4), .val (.ref r_7), .val (.ref r_10), .val (.ref a_12), .val (.int ((Jvm.Free.XT.ushr p4 (8 : Int32)) &&& (3 : Int32))), .val (.ref a_19), .val (.int (0 : Int32)), .unset] []))
          refine own_G.go (fun t_ k_ => XS.iconst X_148.here hx rfl (hb hby at_442) k_) ?_
          show own_G _ _ _ _ (T_148.setTop (mkF m 443 #[.val (.int p0), .val (.int p1), .val (.long p2), .second, .val (.long p3), .second, .val (.int p4), .val (.long p5), .second, .val (.int u9), .val (.int u10), .val (.int u11), .val (.int u12), .val (.int u13), .val (.int u14), .val (.int u15), .val (.int u16), .val (.int u17), .val (.int u18), .val (.int u19), .val (.int u20), .val (.long u21), .second, .val (.long u23), .second, .val (.ref r_1), .val (.ref r_4), .val (.ref r_7), .val (.ref r_10), .val (.ref a_12), .val (.int ((Jvm.Free.XT.ushr p4 (8 : Int32)) &&& (3 : Int32))), .val (.ref a_19), .val (.int (0 : Int32)), .unset] [(.int (1 : Int32))]))
          refine own_G.go (fun t_ k_ => XS.goto X_148.here hx rfl (pc0 := 443) (pc' := 447) rfl (hb hby at_443) (by decide) (by decide) k_) ?_
          show own_G _ _ _ _ (T_148.setTop (mkF m 447 #[.val (.int p0), .val (.int p1), .val (.long p2), .second, .val (.long p3), .second, .val (.int p4), .val (.long p5), .second, .val (.int u9), .val (.int u10), .val (.int u11), .val (.int u12), .val (.int u13), .val (.int u14), .val (.int u15), .val (.int u16), .val (.int u17), .val (.int u18), .val (.int u19), .val (.int u20), .val (.long u21), .second, .val (.long u23), .second, .val (.ref r_1), .val (.ref r_4), .val (.ref r_7), .val (.ref r_10), .val (.ref a_12), .val (.int ((Jvm.Free.XT.ushr p4 (8 : Int32)) &&& (3 : Int32))), .val (.ref a_19), .val (.int (0 : Int32)), .unset] [(.int (1 : Int32))]))
          refine own_G.go (fun t_ k_ => XS.istore X_148.here hx rfl (hb hby at_447) rfl (l' := #[.val (.int p0), .val (.int p1), .val (.long p2), .second, .val (.long p3), .second, .val (.int p4), .val (.long p5), .second, .val (.int u9), .val (.int u10), .val (.int u11), .val (.int u12), .val (.int u13), .val (.int u14), .val (.int u15), .val (.int u16), .val (.int u17), .val (.int u18), .val (.int u19), .val (.int u20), .val (.long u21), .second, .val (.long u23), .second, .val (.ref r_1), .val (.ref r_4), .val (.ref r_7), .val (.ref r_10), .val (.ref a_12), .val (.int ((Jvm.Free.XT.ushr p4 (8 : Int32)) &&& (3 : Int32))), .val (.ref a_19), .val (.int (0 : Int32)), .val (.int (1 : Int32))]) rfl k_) ?_
          show own_G _ _ _ _ (T_148.setTop (mkF m 449 #[.val (.int p0), .val (.int p1), .val (.long p2), .second, .val (.long p3), .second, .val (.int p4), .val (.long p5), .second, .val (.int u9), .val (.int u10), .val (.int u11), .val (.int u12), .val (.int u13), .val (.int u14), .val (.int u15), .val (.int u16), .val (.int u17), .val (.int u18), .val (.int u19), .val (.int u20), .val (.long u21), .second, .val (.long u23), .second, .val (.ref r_1), .val (.ref r_4), .val (.ref r_7), .val (.ref r_10), .val (.ref a_12), .val (.int ((Jvm.Free.XT.ushr p4 (8 : Int32)) &&& (3 : Int32))), .val (.ref a_19), .val (.int (0 : Int32)), .val (.int (1 : Int32))] []))
          refine own_G.go (fun t_ k_ => XS.iload X_148.here hx rfl (hb hby at_449) rfl k_) ?_
          show own_G _ _ _ _ (T_148.setTop (mkF m 451 #[.val (.int p0), .val (.int p1), .val (.long p2), .second, .val (.long p3), .second, .val (.int p4), .val (.long p5), .second, .val (.int u9), .val (.int u10), .val (.int u11), .val (.int u12), .val (.int u13), .val (.int u14), .val (.int u15), .val (.int u16), .val (.int u17), .val (.int u18), .val (.int u19), .val (.int u20), .val (.long u21), .second, .val (.long u23), .second, .val (.ref r_1), .val (.ref r_4), .val (.ref r_7), .val (.ref r_10), .val (.ref a_12), .val (.int ((Jvm.Free.XT.ushr p4 (8 : Int32)) &&& (3 : Int32))), .val (.ref a_19), .val (.int (0 : Int32)), .val (.int (1 : Int32))] [(.int ((Jvm.Free.XT.ushr p4 (8 : Int32)) &&& (3 : Int32)))]))
          refine own_G.go (fun t_ k_ => XS.iconst X_148.here hx rfl (hb hby at_451) k_) ?_
          show own_G _ _ _ _ (T_148.setTop (mkF m 452 #[.val (.int p0), .val (.int p1), .val (.long p2), .second, .val (.long p3), .second, .val (.int p4), .val (.long p5), .second, .val (.int u9), .val (.int u10), .val (.int u11), .val (.int u12), .val (.int u13), .val (.int u14), .val (.int u15), .val (.int u16), .val (.int u17), .val (.int u18), .val (.int u19), .val (.int u20), .val (.long u21), .second, .val (.long u23), .second, .val (.ref r_1), .val (.ref r_4), .val (.ref r_7), .val (.ref r_10), .val (.ref a_12), .val (.int ((Jvm.Free.XT.ushr p4 (8 : Int32)) &&& (3 : Int32))), .val (.ref a_19), .val (.int (0 : Int32)), .val (.int (1 : Int32))] [(.int (3 : Int32)), (.int ((Jvm.Free.XT.ushr p4 (8 : Int32)) &&& (3 : Int32)))]))
          by_cases hm3 : ((Jvm.Free.XT.ushr p4 (8 : Int32)) &&& (3 : Int32)) = (3 : Int32)
          · refine own_G.go (fun t_ k_ => XS.icmpNo X_148.here hx rfl (hb hby at_452) rfl (teq hm3).2 k_) ?_
            show own_G _ _ _ _ (T_148.setTop (mkF m 455 #[.val (.int p0), .val (.int p1), .val (.long p2), .second, .val (.long p3), .second, .val (.int p4), .val (.long p5), .second, .val (.int u9), .val (.int u10), .val (.int u11), .val (.int u12), .val (.int u13), .val (.int u14), .val (.int u15), .val (.int u16), .val (.int u17), .val (.int u18), .val (.int u19), .val (.int u20), .val (.long u21), .second, .val (.long u23), .second, .val (.ref r_1), .val (.ref r_4), .val (.ref r_7), .val (.ref r_10), .val (.ref a_12), .val (.int ((Jvm.Free.XT.ushr p4 (8 : Int32)) &&& (3 : Int32))), .val (.ref a_19), .val (.int (0 : Int32)), .val (.int (1 : Int32))] []))
            refine own_G.go (fun t_ k_ => XS.iload X_148.here hx rfl (hb hby at_455) rfl k_) ?_
            show own_G _ _ _ _ (T_148.setTop (mkF m 457 #[.val (.int p0), .val (.int p1), .val (.long p2), .second, .val (.long p3), .second, .val (.int p4), .val (.long p5), .second, .val (.int u9), .val (.int u10), .val (.int u11), .val (.int u12), .val (.int u13), .val (.int u14), .val (.int u15), .val (.int u16), .val (.int u17), .val (.int u18), .val (.int u19), .val (.int u20), .val (.long u21), .second, .val (.long u23), .second, .val (.ref r_1), .val (.ref r_4), .val (.ref r_7), .val (.ref r_10), .val (.ref a_12), .val (.int ((Jvm.Free.XT.ushr p4 (8 : Int32)) &&& (3 : Int32))), .val (.ref a_19), .val (.int (0 : Int32)), .val (.int (1 : Int32))] [(.int (1 : Int32))]))
            refine own_G.go (fun t_ k_ => XS.ifNo X_148.here hx rfl (hb hby at_457) rfl ((if0 _ _).trans (feq (by decide : ¬ ((1 : Int32) = (0 : Int32)))).1) k_) ?_
            show own_G _ _ _ _ (T_148.setTop (mkF m 460 #[.val (.int p0), .val (.int p1), .val (.long p2), .second, .val (.long p3), .second, .val (.int p4), .val (.long p5), .second, .val (.int u9), .val (.int u10), .val (.int u11), .val (.int u12), .val (.int u13), .val (.int u14), .val (.int u15), .val (.int u16), .val (.int u17), .val (.int u18), .val (.int u19), .val (.int u20), .val (.long u21), .second, .val (.long u23), .second, .val (.ref r_1), .val (.ref r_4), .val (.ref r_7), .val (.ref r_10), .val (.ref a_12), .val (.int ((Jvm.Free.XT.ushr p4 (8 : Int32)) &&& (3 : Int32))), .val (.ref a_19), .val (.int (0 : Int32)), .val (.int (1 : Int32))] []))
            refine own_G.go (fun t_ k_ => XS.aload X_148.here hx rfl (hb hby at_460) rfl rfl k_) ?_
            show own_G _ _ _ _ (T_148.setTop (mkF m 462 #[.val (.int p0), .val (.int p1), .val (.long p2), .second, .val (.long p3), .second, .val (.int p4), .val (.long p5), .second, .val (.int u9), .val (.int u10), .val (.int u11), .val (.int u12), .val (.int u13), .val (.int u14), .val (.int u15), .val (.int u16), .val (.int u17), .val (.int u18), .val (.int u19), .val (.int u20), .val (.long u21), .second, .val (.long u23), .second, .val (.ref r_1), .val (.ref r_4), .val (.ref r_7), .val (.ref r_10), .val (.ref a_12), .val (.int ((Jvm.Free.XT.ushr p4 (8 : Int32)) &&& (3 : Int32))), .val (.ref a_19), .val (.int (0 : Int32)), .val (.int (1 : Int32))] [(.ref a_12)]))
            refine own_G.go (fun t_ k_ => XS.aload X_148.here hx rfl (hb hby at_462) rfl rfl k_) ?_
            show own_G _ _ _ _ (T_148.setTop (mkF m 464 #[.val (.int p0), .val (.int p1), .val (.long p2), .second, .val (.long p3), .second, .val (.int p4), .val (.long p5), .second, .val (.int u9), .val (.int u10), .val (.int u11), .val (.int u12), .val (.int u13), .val (.int u14), .val (.int u15), .val (.int u16), .val (.int u17), .val (.int u18), .val (.int u19), .val (.int u20), .val (.long u21), .second, .val (.long u23), .second, .val (.ref r_1), .val (.ref r_4), .val (.ref r_7), .val (.ref r_10), .val (.ref a_12), .val (.int ((Jvm.Free.XT.ushr p4 (8 : Int32)) &&& (3 : Int32))), .val (.ref a_19), .val (.int (0 : Int32)), .val (.int (1 : Int32))] [(.ref a_12), (.ref a_12)]))
            obtain ⟨cq_149, kq_149, q_149a, q_149b, q_149c⟩ := isOf hZ_10 eh_148 Ex_14'_125
            obtain ⟨_, T_149, L_149, Q_149, X_149, st_149⟩ := own_callV X_148 hx (z := (⟨"com/example/kommit/kommit/KeyCounters$Entry", "equals", "(Ljava/lang/Object;)Z"⟩ : MethodName)) hown_10 (mvT hZ_10 (own_w hw 44 rfl)) (mvT hZ_10 (own_w hw 45 rfl)) (notFace_of_selects (args := #[]) (mvT hZ_10 (own_w hw 47 rfl))) (mvT hZ_10 (own_w hw 47 rfl)) (mvT hZ_10 (own_w hw 46 rfl)) (by decide) (Q := (Qeq ((own_cs u9 u10 u11) = (own_cs u9 u10 u11) ∧ (own_cs u15 u16 u17) = (own_cs u15 u16 u17) ∧ p2 = p2 ∧ p3 = p3) T_21.heap)) (backOf (W := 0) (rm_eqO l Z a0 hw [] a_12 a_12 r_1 r_4 r_1 r_4 t_1 t_4 t_1 t_4 kb_1 kb_4 kb_1 kb_4 (own_cs u9 u10 u11) (own_cs u15 u16 u17) (own_cs u9 u10 u11) (own_cs u15 u16 u17) p2 p3 p2 p3 zc T_21.heap n0 (Nat.le_trans Z0 (Nat.le_trans (Nat.le_trans (Nat.le_trans (Nat.le_trans (Nat.le_trans (Nat.le_trans (Nat.le_trans K_1.1 K_4.1) K_7.1) K_10.1) E_12.1) K_14.1) E_19.1) K_21.1)) Ex_14'_125 Ex_14'_125 G1_14'_126 G2_14'_127 G3_14'_128 G4_14'_129 G1_14'_126 G2_14'_127 G3_14'_128 G4_14'_129 Ex_1'_130 Fc_1'_131 Fv_1'_132 Kb_1'_133 (own_cs_b h10 h11) (own_cs_len _ _ _) Ex_4'_134 Fc_4'_135 Fv_4'_136 Kb_4'_137 (own_cs_b h16 h17) (own_cs_len _ _ _) Ex_1'_130 Fc_1'_131 Fv_1'_132 Kb_1'_133 (own_cs_b h10 h11) (own_cs_len _ _ _) Ex_4'_134 Fc_4'_135 Fv_4'_136 Kb_4'_137 (own_cs_b h16 h17) (own_cs_len _ _ _) O2 P5 O_146d) hZ_10 (own_w hw 48 rfl) (own_w hw 28 rfl) (by decide) (by decide)) q_149a q_149c (g := (mkF m 464 #[.val (.int p0), .val (.int p1), .val (.long p2), .second, .val (.long p3), .second, .val (.int p4), .val (.long p5), .second, .val (.int u9), .val (.int u10), .val (.int u11), .val (.int u12), .val (.int u13), .val (.int u14), .val (.int u15), .val (.int u16), .val (.int u17), .val (.int u18), .val (.int u19), .val (.int u20), .val (.long u21), .second, .val (.long u23), .second, .val (.ref r_1), .val (.ref r_4), .val (.ref r_7), .val (.ref r_10), .val (.ref a_12), .val (.int ((Jvm.Free.XT.ushr p4 (8 : Int32)) &&& (3 : Int32))), .val (.ref a_19), .val (.int (0 : Int32)), .val (.int (1 : Int32))] [(.ref a_12), (.ref a_12)])) rfl (by rw [hml]; rfl) (argsL := [(.ref a_12)]) (rest := []) (lenOf pd_3 rfl) rfl (by show 2 * 0 + _ ≤ _; exact Nat.le_of_eq rfl) (hb hby at_464) eh_148 rfl (by decide) (by decide)
            obtain ⟨⟨z_149, rfl, hz_149⟩, rfl, eh_149⟩ := Q_149
            refine own_G.via st_149 ?_
            have N_149 := Fr.app N_148 (Fr.nil n0)
            show own_G _ _ _ _ (T_149.setTop (mkF m 467 #[.val (.int p0), .val (.int p1), .val (.long p2), .second, .val (.long p3), .second, .val (.int p4), .val (.long p5), .second, .val (.int u9), .val (.int u10), .val (.int u11), .val (.int u12), .val (.int u13), .val (.int u14), .val (.int u15), .val (.int u16), .val (.int u17), .val (.int u18), .val (.int u19), .val (.int u20), .val (.long u21), .second, .val (.long u23), .second, .val (.ref r_1), .val (.ref r_4), .val (.ref r_7), .val (.ref r_10), .val (.ref a_12), .val (.int ((Jvm.Free.XT.ushr p4 (8 : Int32)) &&& (3 : Int32))), .val (.ref a_19), .val (.int (0 : Int32)), .val (.int (1 : Int32))] [(.int z_149)]))
            refine own_G.go (fun t_ k_ => XS.ifNo X_149.here hx rfl (hb hby at_467) rfl ((if0 _ _).trans (feq (fun q => by have q1 := own_z1 hz_149 ⟨rfl, rfl, rfl, rfl⟩; rw [q1] at q; exact absurd q (by decide) : ¬ z_149 = (0 : Int32))).1) k_) ?_
            show own_G _ _ _ _ (T_149.setTop (mkF m 470 #[.val (.int p0), .val (.int p1), .val (.long p2), .second, .val (.long p3), .second, .val (.int p4), .val (.long p5), .second, .val (.int u9), .val (.int u10), .val (.int u11), .val (.int u12), .val (.int u13), .val (.int u14), .val (.int u15), .val (.int u16), .val (.int u17), .val (.int u18), .val (.int u19), .val (.int u20), .val (.long u21), .second, .val (.long u23), .second, .val (.ref r_1), .val (.ref r_4), .val (.ref r_7), .val (.ref r_10), .val (.ref a_12), .val (.int ((Jvm.Free.XT.ushr p4 (8 : Int32)) &&& (3 : Int32))), .val (.ref a_19), .val (.int (0 : Int32)), .val (.int (1 : Int32))] []))
            refine own_G.go (fun t_ k_ => XS.iconst X_149.here hx rfl (hb hby at_470) k_) ?_
            show own_G _ _ _ _ (T_149.setTop (mkF m 471 #[.val (.int p0), .val (.int p1), .val (.long p2), .second, .val (.long p3), .second, .val (.int p4), .val (.long p5), .second, .val (.int u9), .val (.int u10), .val (.int u11), .val (.int u12), .val (.int u13), .val (.int u14), .val (.int u15), .val (.int u16), .val (.int u17), .val (.int u18), .val (.int u19), .val (.int u20), .val (.long u21), .second, .val (.long u23), .second, .val (.ref r_1), .val (.ref r_4), .val (.ref r_7), .val (.ref r_10), .val (.ref a_12), .val (.int ((Jvm.Free.XT.ushr p4 (8 : Int32)) &&& (3 : Int32))), .val (.ref a_19), .val (.int (0 : Int32)), .val (.int (1 : Int32))] [(.int (1 : Int32))]))
            refine own_G.go (fun t_ k_ => XS.goto X_149.here hx rfl (pc0 := 471) (pc' := 475) rfl (hb hby at_471) (by decide) (by decide) k_) ?_
            show own_G _ _ _ _ (T_149.setTop (mkF m 475 #[.val (.int p0), .val (.int p1), .val (.long p2), .second, .val (.long p3), .second, .val (.int p4), .val (.long p5), .second, .val (.int u9), .val (.int u10), .val (.int u11), .val (.int u12), .val (.int u13), .val (.int u14), .val (.int u15), .val (.int u16), .val (.int u17), .val (.int u18), .val (.int u19), .val (.int u20), .val (.long u21), .second, .val (.long u23), .second, .val (.ref r_1), .val (.ref r_4), .val (.ref r_7), .val (.ref r_10), .val (.ref a_12), .val (.int ((Jvm.Free.XT.ushr p4 (8 : Int32)) &&& (3 : Int32))), .val (.ref a_19), .val (.int (0 : Int32)), .val (.int (1 : Int32))] [(.int (1 : Int32))]))
            exact own_G.endH X_149 hS_10 (Nat.le_trans (Nat.le_refl _) (Nat.le_trans (Nat.le_trans (Nat.le_trans E_12.1 K_14.1) E_19.1) K_21.1)) hZ_10 hEW (hh ▸ CH_22) hlk (v := (some (.int (1 : Int32)))) (fun h => by rw [hrt] at h; cases h) (fun fs hr => retN X_149 hx (z := (1 : Int32)) (t := .boolean) hrt (by simp) (hb hby at_475) hr) eh_149 ⟨rfl, N_149⟩ (by decide) (by decide)
          · refine own_G.go (fun t_ k_ => XS.icmpYes X_148.here hx rfl (pc0 := 452) (pc' := 476) rfl (hb hby at_452) rfl (feq hm3).2 (by decide) (by decide) k_) ?_
            show own_G _ _ _ _ (T_148.setTop (mkF m 476 #[.val (.int p0), .val (.int p1), .val (.long p2), .second, .val (.long p3), .second, .val (.int p4), .val (.long p5), .second, .val (.int u9), .val (.int u10), .val (.int u11), .val (.int u12), .val (.int u13), .val (.int u14), .val (.int u15), .val (.int u16), .val (.int u17), .val (.int u18), .val (.int u19), .val (.int u20), .val (.long u21), .second, .val (.long u23), .second, .val (.ref r_1), .val (.ref r_4), .val (.ref r_7), .val (.ref r_10), .val (.ref a_12), .val (.int ((Jvm.Free.XT.ushr p4 (8 : Int32)) &&& (3 : Int32))), .val (.ref a_19), .val (.int (0 : Int32)), .val (.int (1 : Int32))] []))
            refine own_G.go (fun t_ k_ => XS.iload X_148.here hx rfl (hb hby at_476) rfl k_) ?_
            show own_G _ _ _ _ (T_148.setTop (mkF m 478 #[.val (.int p0), .val (.int p1), .val (.long p2), .second, .val (.long p3), .second, .val (.int p4), .val (.long p5), .second, .val (.int u9), .val (.int u10), .val (.int u11), .val (.int u12), .val (.int u13), .val (.int u14), .val (.int u15), .val (.int u16), .val (.int u17), .val (.int u18), .val (.int u19), .val (.int u20), .val (.long u21), .second, .val (.long u23), .second, .val (.ref r_1), .val (.ref r_4), .val (.ref r_7), .val (.ref r_10), .val (.ref a_12), .val (.int ((Jvm.Free.XT.ushr p4 (8 : Int32)) &&& (3 : Int32))), .val (.ref a_19), .val (.int (0 : Int32)), .val (.int (1 : Int32))] [(.int (1 : Int32))]))
            exact own_G.endH X_148 hS_10 (Nat.le_trans (Nat.le_refl _) (Nat.le_trans (Nat.le_trans (Nat.le_trans E_12.1 K_14.1) E_19.1) K_21.1)) hZ_10 hEW (hh ▸ CH_22) hlk (v := (some (.int (1 : Int32)))) (fun h => by rw [hrt] at h; cases h) (fun fs hr => retN X_148 hx (z := (1 : Int32)) (t := .boolean) hrt (by simp) (hb hby at_478) hr) eh_148 ⟨rfl, N_148⟩ (by decide) (by decide)
  have J211 : ∀ (u9 : Int32) (u10 : Int32) (u11 : Int32) (u12 : Int32) (u13 : Int32) (u14 : Int32) (u15 : Int32) (u16 : Int32) (u17 : Int32) (u18 : Int32) (u19 : Int32) (u20 : Int32) (u21 : Int64) (h9 : own_l u9) (h10 : own_b u10) (h11 : own_b u11) (h12 : own_l u12) (h13 : own_b u13) (h14 : own_b u14) (h15 : own_l u15) (h16 : own_b u16) (h17 : own_b u17) (h18 : own_l u18) (h19 : own_b u19) (h20 : own_b u20), own_G p.tables e below (fun o t => ∃ v L, o = .returned v ∧ Qlaw n0 v t.heap L ∧ CHr Z own_EL s.vm s.heap t.vm t.heap ∧ ReturnedEndW s o t L room_1.cells room_1.slots) (s₁.setTop (mkF m 211 #[.val (.int p0), .val (.int p1), .val (.long p2), .second, .val (.long p3), .second, .val (.int p4), .val (.long p5), .second, .val (.int u9), .val (.int u10), .val (.int u11), .val (.int u12), .val (.int u13), .val (.int u14), .val (.int u15), .val (.int u16), .val (.int u17), .val (.int u18), .val (.int u19), .val (.int u20), .unset, .unset, .unset, .unset, .unset, .unset, .unset, .unset, .unset, .unset, .unset, .unset, .unset] [(.long u21)])) := by
    intro u9 u10 u11 u12 u13 u14 u15 u16 u17 u18 u19 u20 u21 h9 h10 h11 h12 h13 h14 h15 h16 h17 h18 h19 h20
    refine own_G.go (fun t_ k_ => XS.lstore X0.here hx rfl (hb hby at_211) rfl (l' := #[.val (.int p0), .val (.int p1), .val (.long p2), .second, .val (.long p3), .second, .val (.int p4), .val (.long p5), .second, .val (.int u9), .val (.int u10), .val (.int u11), .val (.int u12), .val (.int u13), .val (.int u14), .val (.int u15), .val (.int u16), .val (.int u17), .val (.int u18), .val (.int u19), .val (.int u20), .val (.long u21), .second, .unset, .unset, .unset, .unset, .unset, .unset, .unset, .unset, .unset, .unset, .unset]) rfl k_) ?_
    show own_G _ _ _ _ (s₁.setTop (mkF m 213 #[.val (.int p0), .val (.int p1), .val (.long p2), .second, .val (.long p3), .second, .val (.int p4), .val (.long p5), .second, .val (.int u9), .val (.int u10), .val (.int u11), .val (.int u12), .val (.int u13), .val (.int u14), .val (.int u15), .val (.int u16), .val (.int u17), .val (.int u18), .val (.int u19), .val (.int u20), .val (.long u21), .second, .unset, .unset, .unset, .unset, .unset, .unset, .unset, .unset, .unset, .unset, .unset] []))
    refine own_G.go (fun t_ k_ => XS.iload X0.here hx rfl (hb hby at_213) rfl k_) ?_
    show own_G _ _ _ _ (s₁.setTop (mkF m 215 #[.val (.int p0), .val (.int p1), .val (.long p2), .second, .val (.long p3), .second, .val (.int p4), .val (.long p5), .second, .val (.int u9), .val (.int u10), .val (.int u11), .val (.int u12), .val (.int u13), .val (.int u14), .val (.int u15), .val (.int u16), .val (.int u17), .val (.int u18), .val (.int u19), .val (.int u20), .val (.long u21), .second, .unset, .unset, .unset, .unset, .unset, .unset, .unset, .unset, .unset, .unset, .unset] [(.int p4)]))
    refine own_G.go (fun t_ k_ => XS.sipush X0.here hx rfl (hb hby at_215) k_) ?_
    show own_G _ _ _ _ (s₁.setTop (mkF m 218 #[.val (.int p0), .val (.int p1), .val (.long p2), .second, .val (.long p3), .second, .val (.int p4), .val (.long p5), .second, .val (.int u9), .val (.int u10), .val (.int u11), .val (.int u12), .val (.int u13), .val (.int u14), .val (.int u15), .val (.int u16), .val (.int u17), .val (.int u18), .val (.int u19), .val (.int u20), .val (.long u21), .second, .unset, .unset, .unset, .unset, .unset, .unset, .unset, .unset, .unset, .unset, .unset] [(.int (128 : Int32)), (.int p4)]))
    refine own_G.go (fun t_ k_ => XS.iand X0.here hx rfl (hb hby at_218) rfl k_) ?_
    show own_G _ _ _ _ (s₁.setTop (mkF m 219 #[.val (.int p0), .val (.int p1), .val (.long p2), .second, .val (.long p3), .second, .val (.int p4), .val (.long p5), .second, .val (.int u9), .val (.int u10), .val (.int u11), .val (.int u12), .val (.int u13), .val (.int u14), .val (.int u15), .val (.int u16), .val (.int u17), .val (.int u18), .val (.int u19), .val (.int u20), .val (.long u21), .second, .unset, .unset, .unset, .unset, .unset, .unset, .unset, .unset, .unset, .unset, .unset] [(.int (p4 &&& (128 : Int32)))]))
    by_cases hb219 : (p4 &&& (128 : Int32)) = (0 : Int32)
    · refine own_G.go (fun t_ k_ => XS.ifYes X0.here hx rfl (pc0 := 219) (pc' := 227) rfl (hb hby at_219) rfl ((if0 _ _).trans (teq hb219).1) (by decide) (by decide) k_) ?_
      show own_G _ _ _ _ (s₁.setTop (mkF m 227 #[.val (.int p0), .val (.int p1), .val (.long p2), .second, .val (.long p3), .second, .val (.int p4), .val (.long p5), .second, .val (.int u9), .val (.int u10), .val (.int u11), .val (.int u12), .val (.int u13), .val (.int u14), .val (.int u15), .val (.int u16), .val (.int u17), .val (.int u18), .val (.int u19), .val (.int u20), .val (.long u21), .second, .unset, .unset, .unset, .unset, .unset, .unset, .unset, .unset, .unset, .unset, .unset] []))
      refine own_G.go (fun t_ k_ => XS.lload X0.here hx rfl (hb hby at_227) rfl k_) ?_
      show own_G _ _ _ _ (s₁.setTop (mkF m 229 #[.val (.int p0), .val (.int p1), .val (.long p2), .second, .val (.long p3), .second, .val (.int p4), .val (.long p5), .second, .val (.int u9), .val (.int u10), .val (.int u11), .val (.int u12), .val (.int u13), .val (.int u14), .val (.int u15), .val (.int u16), .val (.int u17), .val (.int u18), .val (.int u19), .val (.int u20), .val (.long u21), .second, .unset, .unset, .unset, .unset, .unset, .unset, .unset, .unset, .unset, .unset, .unset] [(.long p3)]))
      exact J229 _ _ _ _ _ _ _ _ _ _ _ _ _ _ (by first | assumption | exact own_l3 _ | exact own_mask _) (by first | assumption | exact own_l3 _ | exact own_mask _) (by first | assumption | exact own_l3 _ | exact own_mask _) (by first | assumption | exact own_l3 _ | exact own_mask _) (by first | assumption | exact own_l3 _ | exact own_mask _) (by first | assumption | exact own_l3 _ | exact own_mask _) (by first | assumption | exact own_l3 _ | exact own_mask _) (by first | assumption | exact own_l3 _ | exact own_mask _) (by first | assumption | exact own_l3 _ | exact own_mask _) (by first | assumption | exact own_l3 _ | exact own_mask _) (by first | assumption | exact own_l3 _ | exact own_mask _) (by first | assumption | exact own_l3 _ | exact own_mask _)
    · refine own_G.go (fun t_ k_ => XS.ifNo X0.here hx rfl (hb hby at_219) rfl ((if0 _ _).trans (feq hb219).1) k_) ?_
      show own_G _ _ _ _ (s₁.setTop (mkF m 222 #[.val (.int p0), .val (.int p1), .val (.long p2), .second, .val (.long p3), .second, .val (.int p4), .val (.long p5), .second, .val (.int u9), .val (.int u10), .val (.int u11), .val (.int u12), .val (.int u13), .val (.int u14), .val (.int u15), .val (.int u16), .val (.int u17), .val (.int u18), .val (.int u19), .val (.int u20), .val (.long u21), .second, .unset, .unset, .unset, .unset, .unset, .unset, .unset, .unset, .unset, .unset, .unset] []))
      refine own_G.go (fun t_ k_ => XS.lload X0.here hx rfl (hb hby at_222) rfl k_) ?_
      show own_G _ _ _ _ (s₁.setTop (mkF m 224 #[.val (.int p0), .val (.int p1), .val (.long p2), .second, .val (.long p3), .second, .val (.int p4), .val (.long p5), .second, .val (.int u9), .val (.int u10), .val (.int u11), .val (.int u12), .val (.int u13), .val (.int u14), .val (.int u15), .val (.int u16), .val (.int u17), .val (.int u18), .val (.int u19), .val (.int u20), .val (.long u21), .second, .unset, .unset, .unset, .unset, .unset, .unset, .unset, .unset, .unset, .unset, .unset] [(.long p5)]))
      refine own_G.go (fun t_ k_ => XS.goto X0.here hx rfl (pc0 := 224) (pc' := 229) rfl (hb hby at_224) (by decide) (by decide) k_) ?_
      show own_G _ _ _ _ (s₁.setTop (mkF m 229 #[.val (.int p0), .val (.int p1), .val (.long p2), .second, .val (.long p3), .second, .val (.int p4), .val (.long p5), .second, .val (.int u9), .val (.int u10), .val (.int u11), .val (.int u12), .val (.int u13), .val (.int u14), .val (.int u15), .val (.int u16), .val (.int u17), .val (.int u18), .val (.int u19), .val (.int u20), .val (.long u21), .second, .unset, .unset, .unset, .unset, .unset, .unset, .unset, .unset, .unset, .unset, .unset] [(.long p5)]))
      exact J229 _ _ _ _ _ _ _ _ _ _ _ _ _ _ (by first | assumption | exact own_l3 _ | exact own_mask _) (by first | assumption | exact own_l3 _ | exact own_mask _) (by first | assumption | exact own_l3 _ | exact own_mask _) (by first | assumption | exact own_l3 _ | exact own_mask _) (by first | assumption | exact own_l3 _ | exact own_mask _) (by first | assumption | exact own_l3 _ | exact own_mask _) (by first | assumption | exact own_l3 _ | exact own_mask _) (by first | assumption | exact own_l3 _ | exact own_mask _) (by first | assumption | exact own_l3 _ | exact own_mask _) (by first | assumption | exact own_l3 _ | exact own_mask _) (by first | assumption | exact own_l3 _ | exact own_mask _) (by first | assumption | exact own_l3 _ | exact own_mask _)
  have J195 : ∀ (u9 : Int32) (u10 : Int32) (u11 : Int32) (u12 : Int32) (u13 : Int32) (u14 : Int32) (u15 : Int32) (u16 : Int32) (u17 : Int32) (u18 : Int32) (u19 : Int32) (u20 : Int32) (h9 : own_l u9) (h10 : own_b u10) (h11 : own_b u11) (h12 : own_l u12) (h13 : own_b u13) (h14 : own_b u14) (h15 : own_l u15) (h16 : own_b u16) (h17 : own_b u17) (h18 : own_l u18) (h19 : own_b u19) (h20 : own_b u20), own_G p.tables e below (fun o t => ∃ v L, o = .returned v ∧ Qlaw n0 v t.heap L ∧ CHr Z own_EL s.vm s.heap t.vm t.heap ∧ ReturnedEndW s o t L room_1.cells room_1.slots) (s₁.setTop (mkF m 195 #[.val (.int p0), .val (.int p1), .val (.long p2), .second, .val (.long p3), .second, .val (.int p4), .val (.long p5), .second, .val (.int u9), .val (.int u10), .val (.int u11), .val (.int u12), .val (.int u13), .val (.int u14), .val (.int u15), .val (.int u16), .val (.int u17), .val (.int u18), .val (.int u19), .unset, .unset, .unset, .unset, .unset, .unset, .unset, .unset, .unset, .unset, .unset, .unset, .unset, .unset] [(.int u20)])) := by
    intro u9 u10 u11 u12 u13 u14 u15 u16 u17 u18 u19 u20 h9 h10 h11 h12 h13 h14 h15 h16 h17 h18 h19 h20
    refine own_G.go (fun t_ k_ => XS.istore X0.here hx rfl (hb hby at_195) rfl (l' := #[.val (.int p0), .val (.int p1), .val (.long p2), .second, .val (.long p3), .second, .val (.int p4), .val (.long p5), .second, .val (.int u9), .val (.int u10), .val (.int u11), .val (.int u12), .val (.int u13), .val (.int u14), .val (.int u15), .val (.int u16), .val (.int u17), .val (.int u18), .val (.int u19), .val (.int u20), .unset, .unset, .unset, .unset, .unset, .unset, .unset, .unset, .unset, .unset, .unset, .unset, .unset]) rfl k_) ?_
    show own_G _ _ _ _ (s₁.setTop (mkF m 197 #[.val (.int p0), .val (.int p1), .val (.long p2), .second, .val (.long p3), .second, .val (.int p4), .val (.long p5), .second, .val (.int u9), .val (.int u10), .val (.int u11), .val (.int u12), .val (.int u13), .val (.int u14), .val (.int u15), .val (.int u16), .val (.int u17), .val (.int u18), .val (.int u19), .val (.int u20), .unset, .unset, .unset, .unset, .unset, .unset, .unset, .unset, .unset, .unset, .unset, .unset, .unset] []))
    refine own_G.go (fun t_ k_ => XS.iload X0.here hx rfl (hb hby at_197) rfl k_) ?_
    show own_G _ _ _ _ (s₁.setTop (mkF m 199 #[.val (.int p0), .val (.int p1), .val (.long p2), .second, .val (.long p3), .second, .val (.int p4), .val (.long p5), .second, .val (.int u9), .val (.int u10), .val (.int u11), .val (.int u12), .val (.int u13), .val (.int u14), .val (.int u15), .val (.int u16), .val (.int u17), .val (.int u18), .val (.int u19), .val (.int u20), .unset, .unset, .unset, .unset, .unset, .unset, .unset, .unset, .unset, .unset, .unset, .unset, .unset] [(.int p4)]))
    refine own_G.go (fun t_ k_ => XS.bipush X0.here hx rfl (hb hby at_199) k_) ?_
    show own_G _ _ _ _ (s₁.setTop (mkF m 201 #[.val (.int p0), .val (.int p1), .val (.long p2), .second, .val (.long p3), .second, .val (.int p4), .val (.long p5), .second, .val (.int u9), .val (.int u10), .val (.int u11), .val (.int u12), .val (.int u13), .val (.int u14), .val (.int u15), .val (.int u16), .val (.int u17), .val (.int u18), .val (.int u19), .val (.int u20), .unset, .unset, .unset, .unset, .unset, .unset, .unset, .unset, .unset, .unset, .unset, .unset, .unset] [(.int (64 : Int32)), (.int p4)]))
    refine own_G.go (fun t_ k_ => XS.iand X0.here hx rfl (hb hby at_201) rfl k_) ?_
    show own_G _ _ _ _ (s₁.setTop (mkF m 202 #[.val (.int p0), .val (.int p1), .val (.long p2), .second, .val (.long p3), .second, .val (.int p4), .val (.long p5), .second, .val (.int u9), .val (.int u10), .val (.int u11), .val (.int u12), .val (.int u13), .val (.int u14), .val (.int u15), .val (.int u16), .val (.int u17), .val (.int u18), .val (.int u19), .val (.int u20), .unset, .unset, .unset, .unset, .unset, .unset, .unset, .unset, .unset, .unset, .unset, .unset, .unset] [(.int (p4 &&& (64 : Int32)))]))
    by_cases hb202 : (p4 &&& (64 : Int32)) = (0 : Int32)
    · refine own_G.go (fun t_ k_ => XS.ifYes X0.here hx rfl (pc0 := 202) (pc' := 210) rfl (hb hby at_202) rfl ((if0 _ _).trans (teq hb202).1) (by decide) (by decide) k_) ?_
      show own_G _ _ _ _ (s₁.setTop (mkF m 210 #[.val (.int p0), .val (.int p1), .val (.long p2), .second, .val (.long p3), .second, .val (.int p4), .val (.long p5), .second, .val (.int u9), .val (.int u10), .val (.int u11), .val (.int u12), .val (.int u13), .val (.int u14), .val (.int u15), .val (.int u16), .val (.int u17), .val (.int u18), .val (.int u19), .val (.int u20), .unset, .unset, .unset, .unset, .unset, .unset, .unset, .unset, .unset, .unset, .unset, .unset, .unset] []))
      refine own_G.go (fun t_ k_ => XS.lloadN X0.here hx rfl (hb hby at_210) rfl k_) ?_
      show own_G _ _ _ _ (s₁.setTop (mkF m 211 #[.val (.int p0), .val (.int p1), .val (.long p2), .second, .val (.long p3), .second, .val (.int p4), .val (.long p5), .second, .val (.int u9), .val (.int u10), .val (.int u11), .val (.int u12), .val (.int u13), .val (.int u14), .val (.int u15), .val (.int u16), .val (.int u17), .val (.int u18), .val (.int u19), .val (.int u20), .unset, .unset, .unset, .unset, .unset, .unset, .unset, .unset, .unset, .unset, .unset, .unset, .unset] [(.long p2)]))
      exact J211 _ _ _ _ _ _ _ _ _ _ _ _ _ (by first | assumption | exact own_l3 _ | exact own_mask _) (by first | assumption | exact own_l3 _ | exact own_mask _) (by first | assumption | exact own_l3 _ | exact own_mask _) (by first | assumption | exact own_l3 _ | exact own_mask _) (by first | assumption | exact own_l3 _ | exact own_mask _) (by first | assumption | exact own_l3 _ | exact own_mask _) (by first | assumption | exact own_l3 _ | exact own_mask _) (by first | assumption | exact own_l3 _ | exact own_mask _) (by first | assumption | exact own_l3 _ | exact own_mask _) (by first | assumption | exact own_l3 _ | exact own_mask _) (by first | assumption | exact own_l3 _ | exact own_mask _) (by first | assumption | exact own_l3 _ | exact own_mask _)
    · refine own_G.go (fun t_ k_ => XS.ifNo X0.here hx rfl (hb hby at_202) rfl ((if0 _ _).trans (feq hb202).1) k_) ?_
      show own_G _ _ _ _ (s₁.setTop (mkF m 205 #[.val (.int p0), .val (.int p1), .val (.long p2), .second, .val (.long p3), .second, .val (.int p4), .val (.long p5), .second, .val (.int u9), .val (.int u10), .val (.int u11), .val (.int u12), .val (.int u13), .val (.int u14), .val (.int u15), .val (.int u16), .val (.int u17), .val (.int u18), .val (.int u19), .val (.int u20), .unset, .unset, .unset, .unset, .unset, .unset, .unset, .unset, .unset, .unset, .unset, .unset, .unset] []))
      refine own_G.go (fun t_ k_ => XS.lload X0.here hx rfl (hb hby at_205) rfl k_) ?_
      show own_G _ _ _ _ (s₁.setTop (mkF m 207 #[.val (.int p0), .val (.int p1), .val (.long p2), .second, .val (.long p3), .second, .val (.int p4), .val (.long p5), .second, .val (.int u9), .val (.int u10), .val (.int u11), .val (.int u12), .val (.int u13), .val (.int u14), .val (.int u15), .val (.int u16), .val (.int u17), .val (.int u18), .val (.int u19), .val (.int u20), .unset, .unset, .unset, .unset, .unset, .unset, .unset, .unset, .unset, .unset, .unset, .unset, .unset] [(.long p5)]))
      refine own_G.go (fun t_ k_ => XS.goto X0.here hx rfl (pc0 := 207) (pc' := 211) rfl (hb hby at_207) (by decide) (by decide) k_) ?_
      show own_G _ _ _ _ (s₁.setTop (mkF m 211 #[.val (.int p0), .val (.int p1), .val (.long p2), .second, .val (.long p3), .second, .val (.int p4), .val (.long p5), .second, .val (.int u9), .val (.int u10), .val (.int u11), .val (.int u12), .val (.int u13), .val (.int u14), .val (.int u15), .val (.int u16), .val (.int u17), .val (.int u18), .val (.int u19), .val (.int u20), .unset, .unset, .unset, .unset, .unset, .unset, .unset, .unset, .unset, .unset, .unset, .unset, .unset] [(.long p5)]))
      exact J211 _ _ _ _ _ _ _ _ _ _ _ _ _ (by first | assumption | exact own_l3 _ | exact own_mask _) (by first | assumption | exact own_l3 _ | exact own_mask _) (by first | assumption | exact own_l3 _ | exact own_mask _) (by first | assumption | exact own_l3 _ | exact own_mask _) (by first | assumption | exact own_l3 _ | exact own_mask _) (by first | assumption | exact own_l3 _ | exact own_mask _) (by first | assumption | exact own_l3 _ | exact own_mask _) (by first | assumption | exact own_l3 _ | exact own_mask _) (by first | assumption | exact own_l3 _ | exact own_mask _) (by first | assumption | exact own_l3 _ | exact own_mask _) (by first | assumption | exact own_l3 _ | exact own_mask _) (by first | assumption | exact own_l3 _ | exact own_mask _)
  have J170 : ∀ (u9 : Int32) (u10 : Int32) (u11 : Int32) (u12 : Int32) (u13 : Int32) (u14 : Int32) (u15 : Int32) (u16 : Int32) (u17 : Int32) (u18 : Int32) (u19 : Int32) (h9 : own_l u9) (h10 : own_b u10) (h11 : own_b u11) (h12 : own_l u12) (h13 : own_b u13) (h14 : own_b u14) (h15 : own_l u15) (h16 : own_b u16) (h17 : own_b u17) (h18 : own_l u18) (h19 : own_b u19), own_G p.tables e below (fun o t => ∃ v L, o = .returned v ∧ Qlaw n0 v t.heap L ∧ CHr Z own_EL s.vm s.heap t.vm t.heap ∧ ReturnedEndW s o t L room_1.cells room_1.slots) (s₁.setTop (mkF m 170 #[.val (.int p0), .val (.int p1), .val (.long p2), .second, .val (.long p3), .second, .val (.int p4), .val (.long p5), .second, .val (.int u9), .val (.int u10), .val (.int u11), .val (.int u12), .val (.int u13), .val (.int u14), .val (.int u15), .val (.int u16), .val (.int u17), .val (.int u18), .unset, .unset, .unset, .unset, .unset, .unset, .unset, .unset, .unset, .unset, .unset, .unset, .unset, .unset, .unset] [(.int u19)])) := by
    intro u9 u10 u11 u12 u13 u14 u15 u16 u17 u18 u19 h9 h10 h11 h12 h13 h14 h15 h16 h17 h18 h19
    refine own_G.go (fun t_ k_ => XS.istore X0.here hx rfl (hb hby at_170) rfl (l' := #[.val (.int p0), .val (.int p1), .val (.long p2), .second, .val (.long p3), .second, .val (.int p4), .val (.long p5), .second, .val (.int u9), .val (.int u10), .val (.int u11), .val (.int u12), .val (.int u13), .val (.int u14), .val (.int u15), .val (.int u16), .val (.int u17), .val (.int u18), .val (.int u19), .unset, .unset, .unset, .unset, .unset, .unset, .unset, .unset, .unset, .unset, .unset, .unset, .unset, .unset]) rfl k_) ?_
    show own_G _ _ _ _ (s₁.setTop (mkF m 172 #[.val (.int p0), .val (.int p1), .val (.long p2), .second, .val (.long p3), .second, .val (.int p4), .val (.long p5), .second, .val (.int u9), .val (.int u10), .val (.int u11), .val (.int u12), .val (.int u13), .val (.int u14), .val (.int u15), .val (.int u16), .val (.int u17), .val (.int u18), .val (.int u19), .unset, .unset, .unset, .unset, .unset, .unset, .unset, .unset, .unset, .unset, .unset, .unset, .unset, .unset] []))
    refine own_G.go (fun t_ k_ => XS.iload X0.here hx rfl (hb hby at_172) rfl k_) ?_
    show own_G _ _ _ _ (s₁.setTop (mkF m 174 #[.val (.int p0), .val (.int p1), .val (.long p2), .second, .val (.long p3), .second, .val (.int p4), .val (.long p5), .second, .val (.int u9), .val (.int u10), .val (.int u11), .val (.int u12), .val (.int u13), .val (.int u14), .val (.int u15), .val (.int u16), .val (.int u17), .val (.int u18), .val (.int u19), .unset, .unset, .unset, .unset, .unset, .unset, .unset, .unset, .unset, .unset, .unset, .unset, .unset, .unset] [(.int p4)]))
    refine own_G.go (fun t_ k_ => XS.bipush X0.here hx rfl (hb hby at_174) k_) ?_
    show own_G _ _ _ _ (s₁.setTop (mkF m 176 #[.val (.int p0), .val (.int p1), .val (.long p2), .second, .val (.long p3), .second, .val (.int p4), .val (.long p5), .second, .val (.int u9), .val (.int u10), .val (.int u11), .val (.int u12), .val (.int u13), .val (.int u14), .val (.int u15), .val (.int u16), .val (.int u17), .val (.int u18), .val (.int u19), .unset, .unset, .unset, .unset, .unset, .unset, .unset, .unset, .unset, .unset, .unset, .unset, .unset, .unset] [(.int (32 : Int32)), (.int p4)]))
    refine own_G.go (fun t_ k_ => XS.iand X0.here hx rfl (hb hby at_176) rfl k_) ?_
    show own_G _ _ _ _ (s₁.setTop (mkF m 177 #[.val (.int p0), .val (.int p1), .val (.long p2), .second, .val (.long p3), .second, .val (.int p4), .val (.long p5), .second, .val (.int u9), .val (.int u10), .val (.int u11), .val (.int u12), .val (.int u13), .val (.int u14), .val (.int u15), .val (.int u16), .val (.int u17), .val (.int u18), .val (.int u19), .unset, .unset, .unset, .unset, .unset, .unset, .unset, .unset, .unset, .unset, .unset, .unset, .unset, .unset] [(.int (p4 &&& (32 : Int32)))]))
    by_cases hb177 : (p4 &&& (32 : Int32)) = (0 : Int32)
    · refine own_G.go (fun t_ k_ => XS.ifYes X0.here hx rfl (pc0 := 177) (pc' := 193) rfl (hb hby at_177) rfl ((if0 _ _).trans (teq hb177).1) (by decide) (by decide) k_) ?_
      show own_G _ _ _ _ (s₁.setTop (mkF m 193 #[.val (.int p0), .val (.int p1), .val (.long p2), .second, .val (.long p3), .second, .val (.int p4), .val (.long p5), .second, .val (.int u9), .val (.int u10), .val (.int u11), .val (.int u12), .val (.int u13), .val (.int u14), .val (.int u15), .val (.int u16), .val (.int u17), .val (.int u18), .val (.int u19), .unset, .unset, .unset, .unset, .unset, .unset, .unset, .unset, .unset, .unset, .unset, .unset, .unset, .unset] []))
      refine own_G.go (fun t_ k_ => XS.iload X0.here hx rfl (hb hby at_193) rfl k_) ?_
      show own_G _ _ _ _ (s₁.setTop (mkF m 195 #[.val (.int p0), .val (.int p1), .val (.long p2), .second, .val (.long p3), .second, .val (.int p4), .val (.long p5), .second, .val (.int u9), .val (.int u10), .val (.int u11), .val (.int u12), .val (.int u13), .val (.int u14), .val (.int u15), .val (.int u16), .val (.int u17), .val (.int u18), .val (.int u19), .unset, .unset, .unset, .unset, .unset, .unset, .unset, .unset, .unset, .unset, .unset, .unset, .unset, .unset] [(.int u17)]))
      exact J195 _ _ _ _ _ _ _ _ _ _ _ _ (by first | assumption | exact own_l3 _ | exact own_mask _) (by first | assumption | exact own_l3 _ | exact own_mask _) (by first | assumption | exact own_l3 _ | exact own_mask _) (by first | assumption | exact own_l3 _ | exact own_mask _) (by first | assumption | exact own_l3 _ | exact own_mask _) (by first | assumption | exact own_l3 _ | exact own_mask _) (by first | assumption | exact own_l3 _ | exact own_mask _) (by first | assumption | exact own_l3 _ | exact own_mask _) (by first | assumption | exact own_l3 _ | exact own_mask _) (by first | assumption | exact own_l3 _ | exact own_mask _) (by first | assumption | exact own_l3 _ | exact own_mask _) (by first | assumption | exact own_l3 _ | exact own_mask _)
    · refine own_G.go (fun t_ k_ => XS.ifNo X0.here hx rfl (hb hby at_177) rfl ((if0 _ _).trans (feq hb177).1) k_) ?_
      show own_G _ _ _ _ (s₁.setTop (mkF m 180 #[.val (.int p0), .val (.int p1), .val (.long p2), .second, .val (.long p3), .second, .val (.int p4), .val (.long p5), .second, .val (.int u9), .val (.int u10), .val (.int u11), .val (.int u12), .val (.int u13), .val (.int u14), .val (.int u15), .val (.int u16), .val (.int u17), .val (.int u18), .val (.int u19), .unset, .unset, .unset, .unset, .unset, .unset, .unset, .unset, .unset, .unset, .unset, .unset, .unset, .unset] []))
      refine own_G.go (fun t_ k_ => XS.iload X0.here hx rfl (hb hby at_180) rfl k_) ?_
      show own_G _ _ _ _ (s₁.setTop (mkF m 182 #[.val (.int p0), .val (.int p1), .val (.long p2), .second, .val (.long p3), .second, .val (.int p4), .val (.long p5), .second, .val (.int u9), .val (.int u10), .val (.int u11), .val (.int u12), .val (.int u13), .val (.int u14), .val (.int u15), .val (.int u16), .val (.int u17), .val (.int u18), .val (.int u19), .unset, .unset, .unset, .unset, .unset, .unset, .unset, .unset, .unset, .unset, .unset, .unset, .unset, .unset] [(.int p4)]))
      refine own_G.go (fun t_ k_ => XS.bipush X0.here hx rfl (hb hby at_182) k_) ?_
      show own_G _ _ _ _ (s₁.setTop (mkF m 184 #[.val (.int p0), .val (.int p1), .val (.long p2), .second, .val (.long p3), .second, .val (.int p4), .val (.long p5), .second, .val (.int u9), .val (.int u10), .val (.int u11), .val (.int u12), .val (.int u13), .val (.int u14), .val (.int u15), .val (.int u16), .val (.int u17), .val (.int u18), .val (.int u19), .unset, .unset, .unset, .unset, .unset, .unset, .unset, .unset, .unset, .unset, .unset, .unset, .unset, .unset] [(.int (24 : Int32)), (.int p4)]))
      refine own_G.go (fun t_ k_ => XS.iushr X0.here hx rfl (hb hby at_184) rfl k_) ?_
      show own_G _ _ _ _ (s₁.setTop (mkF m 185 #[.val (.int p0), .val (.int p1), .val (.long p2), .second, .val (.long p3), .second, .val (.int p4), .val (.long p5), .second, .val (.int u9), .val (.int u10), .val (.int u11), .val (.int u12), .val (.int u13), .val (.int u14), .val (.int u15), .val (.int u16), .val (.int u17), .val (.int u18), .val (.int u19), .unset, .unset, .unset, .unset, .unset, .unset, .unset, .unset, .unset, .unset, .unset, .unset, .unset, .unset] [(.int (Jvm.Free.XT.ushr p4 (24 : Int32)))]))
      refine own_G.go (fun t_ k_ => XS.sipush X0.here hx rfl (hb hby at_185) k_) ?_
      show own_G _ _ _ _ (s₁.setTop (mkF m 188 #[.val (.int p0), .val (.int p1), .val (.long p2), .second, .val (.long p3), .second, .val (.int p4), .val (.long p5), .second, .val (.int u9), .val (.int u10), .val (.int u11), .val (.int u12), .val (.int u13), .val (.int u14), .val (.int u15), .val (.int u16), .val (.int u17), .val (.int u18), .val (.int u19), .unset, .unset, .unset, .unset, .unset, .unset, .unset, .unset, .unset, .unset, .unset, .unset, .unset, .unset] [(.int (255 : Int32)), (.int (Jvm.Free.XT.ushr p4 (24 : Int32)))]))
      refine own_G.go (fun t_ k_ => XS.iand X0.here hx rfl (hb hby at_188) rfl k_) ?_
      show own_G _ _ _ _ (s₁.setTop (mkF m 189 #[.val (.int p0), .val (.int p1), .val (.long p2), .second, .val (.long p3), .second, .val (.int p4), .val (.long p5), .second, .val (.int u9), .val (.int u10), .val (.int u11), .val (.int u12), .val (.int u13), .val (.int u14), .val (.int u15), .val (.int u16), .val (.int u17), .val (.int u18), .val (.int u19), .unset, .unset, .unset, .unset, .unset, .unset, .unset, .unset, .unset, .unset, .unset, .unset, .unset, .unset] [(.int ((Jvm.Free.XT.ushr p4 (24 : Int32)) &&& (255 : Int32)))]))
      refine own_G.go (fun t_ k_ => XS.i2c X0.here hx rfl (hb hby at_189) rfl k_) ?_
      show own_G _ _ _ _ (s₁.setTop (mkF m 190 #[.val (.int p0), .val (.int p1), .val (.long p2), .second, .val (.long p3), .second, .val (.int p4), .val (.long p5), .second, .val (.int u9), .val (.int u10), .val (.int u11), .val (.int u12), .val (.int u13), .val (.int u14), .val (.int u15), .val (.int u16), .val (.int u17), .val (.int u18), .val (.int u19), .unset, .unset, .unset, .unset, .unset, .unset, .unset, .unset, .unset, .unset, .unset, .unset, .unset, .unset] [(.int (own_c ((Jvm.Free.XT.ushr p4 (24 : Int32)) &&& (255 : Int32))))]))
      refine own_G.go (fun t_ k_ => XS.goto X0.here hx rfl (pc0 := 190) (pc' := 195) rfl (hb hby at_190) (by decide) (by decide) k_) ?_
      show own_G _ _ _ _ (s₁.setTop (mkF m 195 #[.val (.int p0), .val (.int p1), .val (.long p2), .second, .val (.long p3), .second, .val (.int p4), .val (.long p5), .second, .val (.int u9), .val (.int u10), .val (.int u11), .val (.int u12), .val (.int u13), .val (.int u14), .val (.int u15), .val (.int u16), .val (.int u17), .val (.int u18), .val (.int u19), .unset, .unset, .unset, .unset, .unset, .unset, .unset, .unset, .unset, .unset, .unset, .unset, .unset, .unset] [(.int (own_c ((Jvm.Free.XT.ushr p4 (24 : Int32)) &&& (255 : Int32))))]))
      exact J195 _ _ _ _ _ _ _ _ _ _ _ _ (by first | assumption | exact own_l3 _ | exact own_mask _) (by first | assumption | exact own_l3 _ | exact own_mask _) (by first | assumption | exact own_l3 _ | exact own_mask _) (by first | assumption | exact own_l3 _ | exact own_mask _) (by first | assumption | exact own_l3 _ | exact own_mask _) (by first | assumption | exact own_l3 _ | exact own_mask _) (by first | assumption | exact own_l3 _ | exact own_mask _) (by first | assumption | exact own_l3 _ | exact own_mask _) (by first | assumption | exact own_l3 _ | exact own_mask _) (by first | assumption | exact own_l3 _ | exact own_mask _) (by first | assumption | exact own_l3 _ | exact own_mask _) (by first | assumption | exact own_l3 _ | exact own_mask _)
  have J146 : ∀ (u9 : Int32) (u10 : Int32) (u11 : Int32) (u12 : Int32) (u13 : Int32) (u14 : Int32) (u15 : Int32) (u16 : Int32) (u17 : Int32) (u18 : Int32) (h9 : own_l u9) (h10 : own_b u10) (h11 : own_b u11) (h12 : own_l u12) (h13 : own_b u13) (h14 : own_b u14) (h15 : own_l u15) (h16 : own_b u16) (h17 : own_b u17) (h18 : own_l u18), own_G p.tables e below (fun o t => ∃ v L, o = .returned v ∧ Qlaw n0 v t.heap L ∧ CHr Z own_EL s.vm s.heap t.vm t.heap ∧ ReturnedEndW s o t L room_1.cells room_1.slots) (s₁.setTop (mkF m 146 #[.val (.int p0), .val (.int p1), .val (.long p2), .second, .val (.long p3), .second, .val (.int p4), .val (.long p5), .second, .val (.int u9), .val (.int u10), .val (.int u11), .val (.int u12), .val (.int u13), .val (.int u14), .val (.int u15), .val (.int u16), .val (.int u17), .unset, .unset, .unset, .unset, .unset, .unset, .unset, .unset, .unset, .unset, .unset, .unset, .unset, .unset, .unset, .unset] [(.int u18)])) := by
    intro u9 u10 u11 u12 u13 u14 u15 u16 u17 u18 h9 h10 h11 h12 h13 h14 h15 h16 h17 h18
    refine own_G.go (fun t_ k_ => XS.istore X0.here hx rfl (hb hby at_146) rfl (l' := #[.val (.int p0), .val (.int p1), .val (.long p2), .second, .val (.long p3), .second, .val (.int p4), .val (.long p5), .second, .val (.int u9), .val (.int u10), .val (.int u11), .val (.int u12), .val (.int u13), .val (.int u14), .val (.int u15), .val (.int u16), .val (.int u17), .val (.int u18), .unset, .unset, .unset, .unset, .unset, .unset, .unset, .unset, .unset, .unset, .unset, .unset, .unset, .unset, .unset]) rfl k_) ?_
    show own_G _ _ _ _ (s₁.setTop (mkF m 148 #[.val (.int p0), .val (.int p1), .val (.long p2), .second, .val (.long p3), .second, .val (.int p4), .val (.long p5), .second, .val (.int u9), .val (.int u10), .val (.int u11), .val (.int u12), .val (.int u13), .val (.int u14), .val (.int u15), .val (.int u16), .val (.int u17), .val (.int u18), .unset, .unset, .unset, .unset, .unset, .unset, .unset, .unset, .unset, .unset, .unset, .unset, .unset, .unset, .unset] []))
    refine own_G.go (fun t_ k_ => XS.iload X0.here hx rfl (hb hby at_148) rfl k_) ?_
    show own_G _ _ _ _ (s₁.setTop (mkF m 150 #[.val (.int p0), .val (.int p1), .val (.long p2), .second, .val (.long p3), .second, .val (.int p4), .val (.long p5), .second, .val (.int u9), .val (.int u10), .val (.int u11), .val (.int u12), .val (.int u13), .val (.int u14), .val (.int u15), .val (.int u16), .val (.int u17), .val (.int u18), .unset, .unset, .unset, .unset, .unset, .unset, .unset, .unset, .unset, .unset, .unset, .unset, .unset, .unset, .unset] [(.int p4)]))
    refine own_G.go (fun t_ k_ => XS.bipush X0.here hx rfl (hb hby at_150) k_) ?_
    show own_G _ _ _ _ (s₁.setTop (mkF m 152 #[.val (.int p0), .val (.int p1), .val (.long p2), .second, .val (.long p3), .second, .val (.int p4), .val (.long p5), .second, .val (.int u9), .val (.int u10), .val (.int u11), .val (.int u12), .val (.int u13), .val (.int u14), .val (.int u15), .val (.int u16), .val (.int u17), .val (.int u18), .unset, .unset, .unset, .unset, .unset, .unset, .unset, .unset, .unset, .unset, .unset, .unset, .unset, .unset, .unset] [(.int (16 : Int32)), (.int p4)]))
    refine own_G.go (fun t_ k_ => XS.iand X0.here hx rfl (hb hby at_152) rfl k_) ?_
    show own_G _ _ _ _ (s₁.setTop (mkF m 153 #[.val (.int p0), .val (.int p1), .val (.long p2), .second, .val (.long p3), .second, .val (.int p4), .val (.long p5), .second, .val (.int u9), .val (.int u10), .val (.int u11), .val (.int u12), .val (.int u13), .val (.int u14), .val (.int u15), .val (.int u16), .val (.int u17), .val (.int u18), .unset, .unset, .unset, .unset, .unset, .unset, .unset, .unset, .unset, .unset, .unset, .unset, .unset, .unset, .unset] [(.int (p4 &&& (16 : Int32)))]))
    by_cases hb153 : (p4 &&& (16 : Int32)) = (0 : Int32)
    · refine own_G.go (fun t_ k_ => XS.ifYes X0.here hx rfl (pc0 := 153) (pc' := 168) rfl (hb hby at_153) rfl ((if0 _ _).trans (teq hb153).1) (by decide) (by decide) k_) ?_
      show own_G _ _ _ _ (s₁.setTop (mkF m 168 #[.val (.int p0), .val (.int p1), .val (.long p2), .second, .val (.long p3), .second, .val (.int p4), .val (.long p5), .second, .val (.int u9), .val (.int u10), .val (.int u11), .val (.int u12), .val (.int u13), .val (.int u14), .val (.int u15), .val (.int u16), .val (.int u17), .val (.int u18), .unset, .unset, .unset, .unset, .unset, .unset, .unset, .unset, .unset, .unset, .unset, .unset, .unset, .unset, .unset] []))
      refine own_G.go (fun t_ k_ => XS.iload X0.here hx rfl (hb hby at_168) rfl k_) ?_
      show own_G _ _ _ _ (s₁.setTop (mkF m 170 #[.val (.int p0), .val (.int p1), .val (.long p2), .second, .val (.long p3), .second, .val (.int p4), .val (.long p5), .second, .val (.int u9), .val (.int u10), .val (.int u11), .val (.int u12), .val (.int u13), .val (.int u14), .val (.int u15), .val (.int u16), .val (.int u17), .val (.int u18), .unset, .unset, .unset, .unset, .unset, .unset, .unset, .unset, .unset, .unset, .unset, .unset, .unset, .unset, .unset] [(.int u16)]))
      exact J170 _ _ _ _ _ _ _ _ _ _ _ (by first | assumption | exact own_l3 _ | exact own_mask _) (by first | assumption | exact own_l3 _ | exact own_mask _) (by first | assumption | exact own_l3 _ | exact own_mask _) (by first | assumption | exact own_l3 _ | exact own_mask _) (by first | assumption | exact own_l3 _ | exact own_mask _) (by first | assumption | exact own_l3 _ | exact own_mask _) (by first | assumption | exact own_l3 _ | exact own_mask _) (by first | assumption | exact own_l3 _ | exact own_mask _) (by first | assumption | exact own_l3 _ | exact own_mask _) (by first | assumption | exact own_l3 _ | exact own_mask _) (by first | assumption | exact own_l3 _ | exact own_mask _)
    · refine own_G.go (fun t_ k_ => XS.ifNo X0.here hx rfl (hb hby at_153) rfl ((if0 _ _).trans (feq hb153).1) k_) ?_
      show own_G _ _ _ _ (s₁.setTop (mkF m 156 #[.val (.int p0), .val (.int p1), .val (.long p2), .second, .val (.long p3), .second, .val (.int p4), .val (.long p5), .second, .val (.int u9), .val (.int u10), .val (.int u11), .val (.int u12), .val (.int u13), .val (.int u14), .val (.int u15), .val (.int u16), .val (.int u17), .val (.int u18), .unset, .unset, .unset, .unset, .unset, .unset, .unset, .unset, .unset, .unset, .unset, .unset, .unset, .unset, .unset] []))
      refine own_G.go (fun t_ k_ => XS.iloadN X0.here hx rfl (hb hby at_156) rfl k_) ?_
      show own_G _ _ _ _ (s₁.setTop (mkF m 157 #[.val (.int p0), .val (.int p1), .val (.long p2), .second, .val (.long p3), .second, .val (.int p4), .val (.long p5), .second, .val (.int u9), .val (.int u10), .val (.int u11), .val (.int u12), .val (.int u13), .val (.int u14), .val (.int u15), .val (.int u16), .val (.int u17), .val (.int u18), .unset, .unset, .unset, .unset, .unset, .unset, .unset, .unset, .unset, .unset, .unset, .unset, .unset, .unset, .unset] [(.int p1)]))
      refine own_G.go (fun t_ k_ => XS.bipush X0.here hx rfl (hb hby at_157) k_) ?_
      show own_G _ _ _ _ (s₁.setTop (mkF m 159 #[.val (.int p0), .val (.int p1), .val (.long p2), .second, .val (.long p3), .second, .val (.int p4), .val (.long p5), .second, .val (.int u9), .val (.int u10), .val (.int u11), .val (.int u12), .val (.int u13), .val (.int u14), .val (.int u15), .val (.int u16), .val (.int u17), .val (.int u18), .unset, .unset, .unset, .unset, .unset, .unset, .unset, .unset, .unset, .unset, .unset, .unset, .unset, .unset, .unset] [(.int (20 : Int32)), (.int p1)]))
      refine own_G.go (fun t_ k_ => XS.iushr X0.here hx rfl (hb hby at_159) rfl k_) ?_
      show own_G _ _ _ _ (s₁.setTop (mkF m 160 #[.val (.int p0), .val (.int p1), .val (.long p2), .second, .val (.long p3), .second, .val (.int p4), .val (.long p5), .second, .val (.int u9), .val (.int u10), .val (.int u11), .val (.int u12), .val (.int u13), .val (.int u14), .val (.int u15), .val (.int u16), .val (.int u17), .val (.int u18), .unset, .unset, .unset, .unset, .unset, .unset, .unset, .unset, .unset, .unset, .unset, .unset, .unset, .unset, .unset] [(.int (Jvm.Free.XT.ushr p1 (20 : Int32)))]))
      refine own_G.go (fun t_ k_ => XS.sipush X0.here hx rfl (hb hby at_160) k_) ?_
      show own_G _ _ _ _ (s₁.setTop (mkF m 163 #[.val (.int p0), .val (.int p1), .val (.long p2), .second, .val (.long p3), .second, .val (.int p4), .val (.long p5), .second, .val (.int u9), .val (.int u10), .val (.int u11), .val (.int u12), .val (.int u13), .val (.int u14), .val (.int u15), .val (.int u16), .val (.int u17), .val (.int u18), .unset, .unset, .unset, .unset, .unset, .unset, .unset, .unset, .unset, .unset, .unset, .unset, .unset, .unset, .unset] [(.int (255 : Int32)), (.int (Jvm.Free.XT.ushr p1 (20 : Int32)))]))
      refine own_G.go (fun t_ k_ => XS.iand X0.here hx rfl (hb hby at_163) rfl k_) ?_
      show own_G _ _ _ _ (s₁.setTop (mkF m 164 #[.val (.int p0), .val (.int p1), .val (.long p2), .second, .val (.long p3), .second, .val (.int p4), .val (.long p5), .second, .val (.int u9), .val (.int u10), .val (.int u11), .val (.int u12), .val (.int u13), .val (.int u14), .val (.int u15), .val (.int u16), .val (.int u17), .val (.int u18), .unset, .unset, .unset, .unset, .unset, .unset, .unset, .unset, .unset, .unset, .unset, .unset, .unset, .unset, .unset] [(.int ((Jvm.Free.XT.ushr p1 (20 : Int32)) &&& (255 : Int32)))]))
      refine own_G.go (fun t_ k_ => XS.i2c X0.here hx rfl (hb hby at_164) rfl k_) ?_
      show own_G _ _ _ _ (s₁.setTop (mkF m 165 #[.val (.int p0), .val (.int p1), .val (.long p2), .second, .val (.long p3), .second, .val (.int p4), .val (.long p5), .second, .val (.int u9), .val (.int u10), .val (.int u11), .val (.int u12), .val (.int u13), .val (.int u14), .val (.int u15), .val (.int u16), .val (.int u17), .val (.int u18), .unset, .unset, .unset, .unset, .unset, .unset, .unset, .unset, .unset, .unset, .unset, .unset, .unset, .unset, .unset] [(.int (own_c ((Jvm.Free.XT.ushr p1 (20 : Int32)) &&& (255 : Int32))))]))
      refine own_G.go (fun t_ k_ => XS.goto X0.here hx rfl (pc0 := 165) (pc' := 170) rfl (hb hby at_165) (by decide) (by decide) k_) ?_
      show own_G _ _ _ _ (s₁.setTop (mkF m 170 #[.val (.int p0), .val (.int p1), .val (.long p2), .second, .val (.long p3), .second, .val (.int p4), .val (.long p5), .second, .val (.int u9), .val (.int u10), .val (.int u11), .val (.int u12), .val (.int u13), .val (.int u14), .val (.int u15), .val (.int u16), .val (.int u17), .val (.int u18), .unset, .unset, .unset, .unset, .unset, .unset, .unset, .unset, .unset, .unset, .unset, .unset, .unset, .unset, .unset] [(.int (own_c ((Jvm.Free.XT.ushr p1 (20 : Int32)) &&& (255 : Int32))))]))
      exact J170 _ _ _ _ _ _ _ _ _ _ _ (by first | assumption | exact own_l3 _ | exact own_mask _) (by first | assumption | exact own_l3 _ | exact own_mask _) (by first | assumption | exact own_l3 _ | exact own_mask _) (by first | assumption | exact own_l3 _ | exact own_mask _) (by first | assumption | exact own_l3 _ | exact own_mask _) (by first | assumption | exact own_l3 _ | exact own_mask _) (by first | assumption | exact own_l3 _ | exact own_mask _) (by first | assumption | exact own_l3 _ | exact own_mask _) (by first | assumption | exact own_l3 _ | exact own_mask _) (by first | assumption | exact own_l3 _ | exact own_mask _) (by first | assumption | exact own_l3 _ | exact own_mask _)
  have J95 : ∀ (u9 : Int32) (u10 : Int32) (u11 : Int32) (u12 : Int32) (u13 : Int32) (u14 : Int32) (h9 : own_l u9) (h10 : own_b u10) (h11 : own_b u11) (h12 : own_l u12) (h13 : own_b u13) (h14 : own_b u14), own_G p.tables e below (fun o t => ∃ v L, o = .returned v ∧ Qlaw n0 v t.heap L ∧ CHr Z own_EL s.vm s.heap t.vm t.heap ∧ ReturnedEndW s o t L room_1.cells room_1.slots) (s₁.setTop (mkF m 95 #[.val (.int p0), .val (.int p1), .val (.long p2), .second, .val (.long p3), .second, .val (.int p4), .val (.long p5), .second, .val (.int u9), .val (.int u10), .val (.int u11), .val (.int u12), .val (.int u13), .unset, .unset, .unset, .unset, .unset, .unset, .unset, .unset, .unset, .unset, .unset, .unset, .unset, .unset, .unset, .unset, .unset, .unset, .unset, .unset] [(.int u14)])) := by
    intro u9 u10 u11 u12 u13 u14 h9 h10 h11 h12 h13 h14
    refine own_G.go (fun t_ k_ => XS.istore X0.here hx rfl (hb hby at_95) rfl (l' := #[.val (.int p0), .val (.int p1), .val (.long p2), .second, .val (.long p3), .second, .val (.int p4), .val (.long p5), .second, .val (.int u9), .val (.int u10), .val (.int u11), .val (.int u12), .val (.int u13), .val (.int u14), .unset, .unset, .unset, .unset, .unset, .unset, .unset, .unset, .unset, .unset, .unset, .unset, .unset, .unset, .unset, .unset, .unset, .unset, .unset]) rfl k_) ?_
    show own_G _ _ _ _ (s₁.setTop (mkF m 97 #[.val (.int p0), .val (.int p1), .val (.long p2), .second, .val (.long p3), .second, .val (.int p4), .val (.long p5), .second, .val (.int u9), .val (.int u10), .val (.int u11), .val (.int u12), .val (.int u13), .val (.int u14), .unset, .unset, .unset, .unset, .unset, .unset, .unset, .unset, .unset, .unset, .unset, .unset, .unset, .unset, .unset, .unset, .unset, .unset, .unset] []))
    refine own_G.go (fun t_ k_ => XS.iloadN X0.here hx rfl (hb hby at_97) rfl k_) ?_
    show own_G _ _ _ _ (s₁.setTop (mkF m 98 #[.val (.int p0), .val (.int p1), .val (.long p2), .second, .val (.long p3), .second, .val (.int p4), .val (.long p5), .second, .val (.int u9), .val (.int u10), .val (.int u11), .val (.int u12), .val (.int u13), .val (.int u14), .unset, .unset, .unset, .unset, .unset, .unset, .unset, .unset, .unset, .unset, .unset, .unset, .unset, .unset, .unset, .unset, .unset, .unset, .unset] [(.int p1)]))
    refine own_G.go (fun t_ k_ => XS.iconst X0.here hx rfl (hb hby at_98) k_) ?_
    show own_G _ _ _ _ (s₁.setTop (mkF m 99 #[.val (.int p0), .val (.int p1), .val (.long p2), .second, .val (.long p3), .second, .val (.int p4), .val (.long p5), .second, .val (.int u9), .val (.int u10), .val (.int u11), .val (.int u12), .val (.int u13), .val (.int u14), .unset, .unset, .unset, .unset, .unset, .unset, .unset, .unset, .unset, .unset, .unset, .unset, .unset, .unset, .unset, .unset, .unset, .unset, .unset] [(.int (3 : Int32)), (.int p1)]))
    refine own_G.go (fun t_ k_ => XS.iand X0.here hx rfl (hb hby at_99) rfl k_) ?_
    show own_G _ _ _ _ (s₁.setTop (mkF m 100 #[.val (.int p0), .val (.int p1), .val (.long p2), .second, .val (.long p3), .second, .val (.int p4), .val (.long p5), .second, .val (.int u9), .val (.int u10), .val (.int u11), .val (.int u12), .val (.int u13), .val (.int u14), .unset, .unset, .unset, .unset, .unset, .unset, .unset, .unset, .unset, .unset, .unset, .unset, .unset, .unset, .unset, .unset, .unset, .unset, .unset] [(.int (p1 &&& (3 : Int32)))]))
    refine own_G.go (fun t_ k_ => XS.iconst X0.here hx rfl (hb hby at_100) k_) ?_
    show own_G _ _ _ _ (s₁.setTop (mkF m 101 #[.val (.int p0), .val (.int p1), .val (.long p2), .second, .val (.long p3), .second, .val (.int p4), .val (.long p5), .second, .val (.int u9), .val (.int u10), .val (.int u11), .val (.int u12), .val (.int u13), .val (.int u14), .unset, .unset, .unset, .unset, .unset, .unset, .unset, .unset, .unset, .unset, .unset, .unset, .unset, .unset, .unset, .unset, .unset, .unset, .unset] [(.int (3 : Int32)), (.int (p1 &&& (3 : Int32)))]))
    refine own_G.go (fun t_ k_ => iremM X0 hx rfl (hb hby at_101) rfl (by decide) k_) ?_
    show own_G _ _ _ _ (s₁.setTop (mkF m 102 #[.val (.int p0), .val (.int p1), .val (.long p2), .second, .val (.long p3), .second, .val (.int p4), .val (.long p5), .second, .val (.int u9), .val (.int u10), .val (.int u11), .val (.int u12), .val (.int u13), .val (.int u14), .unset, .unset, .unset, .unset, .unset, .unset, .unset, .unset, .unset, .unset, .unset, .unset, .unset, .unset, .unset, .unset, .unset, .unset, .unset] [(.int ((p1 &&& (3 : Int32)) % (3 : Int32)))]))
    refine own_G.go (fun t_ k_ => XS.istore X0.here hx rfl (hb hby at_102) rfl (l' := #[.val (.int p0), .val (.int p1), .val (.long p2), .second, .val (.long p3), .second, .val (.int p4), .val (.long p5), .second, .val (.int u9), .val (.int u10), .val (.int u11), .val (.int u12), .val (.int u13), .val (.int u14), .val (.int ((p1 &&& (3 : Int32)) % (3 : Int32))), .unset, .unset, .unset, .unset, .unset, .unset, .unset, .unset, .unset, .unset, .unset, .unset, .unset, .unset, .unset, .unset, .unset, .unset]) rfl k_) ?_
    show own_G _ _ _ _ (s₁.setTop (mkF m 104 #[.val (.int p0), .val (.int p1), .val (.long p2), .second, .val (.long p3), .second, .val (.int p4), .val (.long p5), .second, .val (.int u9), .val (.int u10), .val (.int u11), .val (.int u12), .val (.int u13), .val (.int u14), .val (.int ((p1 &&& (3 : Int32)) % (3 : Int32))), .unset, .unset, .unset, .unset, .unset, .unset, .unset, .unset, .unset, .unset, .unset, .unset, .unset, .unset, .unset, .unset, .unset, .unset] []))
    refine own_G.go (fun t_ k_ => XS.iloadN X0.here hx rfl (hb hby at_104) rfl k_) ?_
    show own_G _ _ _ _ (s₁.setTop (mkF m 105 #[.val (.int p0), .val (.int p1), .val (.long p2), .second, .val (.long p3), .second, .val (.int p4), .val (.long p5), .second, .val (.int u9), .val (.int u10), .val (.int u11), .val (.int u12), .val (.int u13), .val (.int u14), .val (.int ((p1 &&& (3 : Int32)) % (3 : Int32))), .unset, .unset, .unset, .unset, .unset, .unset, .unset, .unset, .unset, .unset, .unset, .unset, .unset, .unset, .unset, .unset, .unset, .unset] [(.int p1)]))
    refine own_G.go (fun t_ k_ => XS.iconst X0.here hx rfl (hb hby at_105) k_) ?_
    show own_G _ _ _ _ (s₁.setTop (mkF m 106 #[.val (.int p0), .val (.int p1), .val (.long p2), .second, .val (.long p3), .second, .val (.int p4), .val (.long p5), .second, .val (.int u9), .val (.int u10), .val (.int u11), .val (.int u12), .val (.int u13), .val (.int u14), .val (.int ((p1 &&& (3 : Int32)) % (3 : Int32))), .unset, .unset, .unset, .unset, .unset, .unset, .unset, .unset, .unset, .unset, .unset, .unset, .unset, .unset, .unset, .unset, .unset, .unset] [(.int (2 : Int32)), (.int p1)]))
    refine own_G.go (fun t_ k_ => XS.iushr X0.here hx rfl (hb hby at_106) rfl k_) ?_
    show own_G _ _ _ _ (s₁.setTop (mkF m 107 #[.val (.int p0), .val (.int p1), .val (.long p2), .second, .val (.long p3), .second, .val (.int p4), .val (.long p5), .second, .val (.int u9), .val (.int u10), .val (.int u11), .val (.int u12), .val (.int u13), .val (.int u14), .val (.int ((p1 &&& (3 : Int32)) % (3 : Int32))), .unset, .unset, .unset, .unset, .unset, .unset, .unset, .unset, .unset, .unset, .unset, .unset, .unset, .unset, .unset, .unset, .unset, .unset] [(.int (Jvm.Free.XT.ushr p1 (2 : Int32)))]))
    refine own_G.go (fun t_ k_ => XS.sipush X0.here hx rfl (hb hby at_107) k_) ?_
    show own_G _ _ _ _ (s₁.setTop (mkF m 110 #[.val (.int p0), .val (.int p1), .val (.long p2), .second, .val (.long p3), .second, .val (.int p4), .val (.long p5), .second, .val (.int u9), .val (.int u10), .val (.int u11), .val (.int u12), .val (.int u13), .val (.int u14), .val (.int ((p1 &&& (3 : Int32)) % (3 : Int32))), .unset, .unset, .unset, .unset, .unset, .unset, .unset, .unset, .unset, .unset, .unset, .unset, .unset, .unset, .unset, .unset, .unset, .unset] [(.int (255 : Int32)), (.int (Jvm.Free.XT.ushr p1 (2 : Int32)))]))
    refine own_G.go (fun t_ k_ => XS.iand X0.here hx rfl (hb hby at_110) rfl k_) ?_
    show own_G _ _ _ _ (s₁.setTop (mkF m 111 #[.val (.int p0), .val (.int p1), .val (.long p2), .second, .val (.long p3), .second, .val (.int p4), .val (.long p5), .second, .val (.int u9), .val (.int u10), .val (.int u11), .val (.int u12), .val (.int u13), .val (.int u14), .val (.int ((p1 &&& (3 : Int32)) % (3 : Int32))), .unset, .unset, .unset, .unset, .unset, .unset, .unset, .unset, .unset, .unset, .unset, .unset, .unset, .unset, .unset, .unset, .unset, .unset] [(.int ((Jvm.Free.XT.ushr p1 (2 : Int32)) &&& (255 : Int32)))]))
    refine own_G.go (fun t_ k_ => XS.i2c X0.here hx rfl (hb hby at_111) rfl k_) ?_
    show own_G _ _ _ _ (s₁.setTop (mkF m 112 #[.val (.int p0), .val (.int p1), .val (.long p2), .second, .val (.long p3), .second, .val (.int p4), .val (.long p5), .second, .val (.int u9), .val (.int u10), .val (.int u11), .val (.int u12), .val (.int u13), .val (.int u14), .val (.int ((p1 &&& (3 : Int32)) % (3 : Int32))), .unset, .unset, .unset, .unset, .unset, .unset, .unset, .unset, .unset, .unset, .unset, .unset, .unset, .unset, .unset, .unset, .unset, .unset] [(.int (own_c ((Jvm.Free.XT.ushr p1 (2 : Int32)) &&& (255 : Int32))))]))
    refine own_G.go (fun t_ k_ => XS.istore X0.here hx rfl (hb hby at_112) rfl (l' := #[.val (.int p0), .val (.int p1), .val (.long p2), .second, .val (.long p3), .second, .val (.int p4), .val (.long p5), .second, .val (.int u9), .val (.int u10), .val (.int u11), .val (.int u12), .val (.int u13), .val (.int u14), .val (.int ((p1 &&& (3 : Int32)) % (3 : Int32))), .val (.int (own_c ((Jvm.Free.XT.ushr p1 (2 : Int32)) &&& (255 : Int32)))), .unset, .unset, .unset, .unset, .unset, .unset, .unset, .unset, .unset, .unset, .unset, .unset, .unset, .unset, .unset, .unset, .unset]) rfl k_) ?_
    show own_G _ _ _ _ (s₁.setTop (mkF m 114 #[.val (.int p0), .val (.int p1), .val (.long p2), .second, .val (.long p3), .second, .val (.int p4), .val (.long p5), .second, .val (.int u9), .val (.int u10), .val (.int u11), .val (.int u12), .val (.int u13), .val (.int u14), .val (.int ((p1 &&& (3 : Int32)) % (3 : Int32))), .val (.int (own_c ((Jvm.Free.XT.ushr p1 (2 : Int32)) &&& (255 : Int32)))), .unset, .unset, .unset, .unset, .unset, .unset, .unset, .unset, .unset, .unset, .unset, .unset, .unset, .unset, .unset, .unset, .unset] []))
    refine own_G.go (fun t_ k_ => XS.iloadN X0.here hx rfl (hb hby at_114) rfl k_) ?_
    show own_G _ _ _ _ (s₁.setTop (mkF m 115 #[.val (.int p0), .val (.int p1), .val (.long p2), .second, .val (.long p3), .second, .val (.int p4), .val (.long p5), .second, .val (.int u9), .val (.int u10), .val (.int u11), .val (.int u12), .val (.int u13), .val (.int u14), .val (.int ((p1 &&& (3 : Int32)) % (3 : Int32))), .val (.int (own_c ((Jvm.Free.XT.ushr p1 (2 : Int32)) &&& (255 : Int32)))), .unset, .unset, .unset, .unset, .unset, .unset, .unset, .unset, .unset, .unset, .unset, .unset, .unset, .unset, .unset, .unset, .unset] [(.int p1)]))
    refine own_G.go (fun t_ k_ => XS.bipush X0.here hx rfl (hb hby at_115) k_) ?_
    show own_G _ _ _ _ (s₁.setTop (mkF m 117 #[.val (.int p0), .val (.int p1), .val (.long p2), .second, .val (.long p3), .second, .val (.int p4), .val (.long p5), .second, .val (.int u9), .val (.int u10), .val (.int u11), .val (.int u12), .val (.int u13), .val (.int u14), .val (.int ((p1 &&& (3 : Int32)) % (3 : Int32))), .val (.int (own_c ((Jvm.Free.XT.ushr p1 (2 : Int32)) &&& (255 : Int32)))), .unset, .unset, .unset, .unset, .unset, .unset, .unset, .unset, .unset, .unset, .unset, .unset, .unset, .unset, .unset, .unset, .unset] [(.int (10 : Int32)), (.int p1)]))
    refine own_G.go (fun t_ k_ => XS.iushr X0.here hx rfl (hb hby at_117) rfl k_) ?_
    show own_G _ _ _ _ (s₁.setTop (mkF m 118 #[.val (.int p0), .val (.int p1), .val (.long p2), .second, .val (.long p3), .second, .val (.int p4), .val (.long p5), .second, .val (.int u9), .val (.int u10), .val (.int u11), .val (.int u12), .val (.int u13), .val (.int u14), .val (.int ((p1 &&& (3 : Int32)) % (3 : Int32))), .val (.int (own_c ((Jvm.Free.XT.ushr p1 (2 : Int32)) &&& (255 : Int32)))), .unset, .unset, .unset, .unset, .unset, .unset, .unset, .unset, .unset, .unset, .unset, .unset, .unset, .unset, .unset, .unset, .unset] [(.int (Jvm.Free.XT.ushr p1 (10 : Int32)))]))
    refine own_G.go (fun t_ k_ => XS.sipush X0.here hx rfl (hb hby at_118) k_) ?_
    show own_G _ _ _ _ (s₁.setTop (mkF m 121 #[.val (.int p0), .val (.int p1), .val (.long p2), .second, .val (.long p3), .second, .val (.int p4), .val (.long p5), .second, .val (.int u9), .val (.int u10), .val (.int u11), .val (.int u12), .val (.int u13), .val (.int u14), .val (.int ((p1 &&& (3 : Int32)) % (3 : Int32))), .val (.int (own_c ((Jvm.Free.XT.ushr p1 (2 : Int32)) &&& (255 : Int32)))), .unset, .unset, .unset, .unset, .unset, .unset, .unset, .unset, .unset, .unset, .unset, .unset, .unset, .unset, .unset, .unset, .unset] [(.int (255 : Int32)), (.int (Jvm.Free.XT.ushr p1 (10 : Int32)))]))
    refine own_G.go (fun t_ k_ => XS.iand X0.here hx rfl (hb hby at_121) rfl k_) ?_
    show own_G _ _ _ _ (s₁.setTop (mkF m 122 #[.val (.int p0), .val (.int p1), .val (.long p2), .second, .val (.long p3), .second, .val (.int p4), .val (.long p5), .second, .val (.int u9), .val (.int u10), .val (.int u11), .val (.int u12), .val (.int u13), .val (.int u14), .val (.int ((p1 &&& (3 : Int32)) % (3 : Int32))), .val (.int (own_c ((Jvm.Free.XT.ushr p1 (2 : Int32)) &&& (255 : Int32)))), .unset, .unset, .unset, .unset, .unset, .unset, .unset, .unset, .unset, .unset, .unset, .unset, .unset, .unset, .unset, .unset, .unset] [(.int ((Jvm.Free.XT.ushr p1 (10 : Int32)) &&& (255 : Int32)))]))
    refine own_G.go (fun t_ k_ => XS.i2c X0.here hx rfl (hb hby at_122) rfl k_) ?_
    show own_G _ _ _ _ (s₁.setTop (mkF m 123 #[.val (.int p0), .val (.int p1), .val (.long p2), .second, .val (.long p3), .second, .val (.int p4), .val (.long p5), .second, .val (.int u9), .val (.int u10), .val (.int u11), .val (.int u12), .val (.int u13), .val (.int u14), .val (.int ((p1 &&& (3 : Int32)) % (3 : Int32))), .val (.int (own_c ((Jvm.Free.XT.ushr p1 (2 : Int32)) &&& (255 : Int32)))), .unset, .unset, .unset, .unset, .unset, .unset, .unset, .unset, .unset, .unset, .unset, .unset, .unset, .unset, .unset, .unset, .unset] [(.int (own_c ((Jvm.Free.XT.ushr p1 (10 : Int32)) &&& (255 : Int32))))]))
    refine own_G.go (fun t_ k_ => XS.istore X0.here hx rfl (hb hby at_123) rfl (l' := #[.val (.int p0), .val (.int p1), .val (.long p2), .second, .val (.long p3), .second, .val (.int p4), .val (.long p5), .second, .val (.int u9), .val (.int u10), .val (.int u11), .val (.int u12), .val (.int u13), .val (.int u14), .val (.int ((p1 &&& (3 : Int32)) % (3 : Int32))), .val (.int (own_c ((Jvm.Free.XT.ushr p1 (2 : Int32)) &&& (255 : Int32)))), .val (.int (own_c ((Jvm.Free.XT.ushr p1 (10 : Int32)) &&& (255 : Int32)))), .unset, .unset, .unset, .unset, .unset, .unset, .unset, .unset, .unset, .unset, .unset, .unset, .unset, .unset, .unset, .unset]) rfl k_) ?_
    show own_G _ _ _ _ (s₁.setTop (mkF m 125 #[.val (.int p0), .val (.int p1), .val (.long p2), .second, .val (.long p3), .second, .val (.int p4), .val (.long p5), .second, .val (.int u9), .val (.int u10), .val (.int u11), .val (.int u12), .val (.int u13), .val (.int u14), .val (.int ((p1 &&& (3 : Int32)) % (3 : Int32))), .val (.int (own_c ((Jvm.Free.XT.ushr p1 (2 : Int32)) &&& (255 : Int32)))), .val (.int (own_c ((Jvm.Free.XT.ushr p1 (10 : Int32)) &&& (255 : Int32)))), .unset, .unset, .unset, .unset, .unset, .unset, .unset, .unset, .unset, .unset, .unset, .unset, .unset, .unset, .unset, .unset] []))
    refine own_G.go (fun t_ k_ => XS.iload X0.here hx rfl (hb hby at_125) rfl k_) ?_
    show own_G _ _ _ _ (s₁.setTop (mkF m 127 #[.val (.int p0), .val (.int p1), .val (.long p2), .second, .val (.long p3), .second, .val (.int p4), .val (.long p5), .second, .val (.int u9), .val (.int u10), .val (.int u11), .val (.int u12), .val (.int u13), .val (.int u14), .val (.int ((p1 &&& (3 : Int32)) % (3 : Int32))), .val (.int (own_c ((Jvm.Free.XT.ushr p1 (2 : Int32)) &&& (255 : Int32)))), .val (.int (own_c ((Jvm.Free.XT.ushr p1 (10 : Int32)) &&& (255 : Int32)))), .unset, .unset, .unset, .unset, .unset, .unset, .unset, .unset, .unset, .unset, .unset, .unset, .unset, .unset, .unset, .unset] [(.int p4)]))
    refine own_G.go (fun t_ k_ => XS.bipush X0.here hx rfl (hb hby at_127) k_) ?_
    show own_G _ _ _ _ (s₁.setTop (mkF m 129 #[.val (.int p0), .val (.int p1), .val (.long p2), .second, .val (.long p3), .second, .val (.int p4), .val (.long p5), .second, .val (.int u9), .val (.int u10), .val (.int u11), .val (.int u12), .val (.int u13), .val (.int u14), .val (.int ((p1 &&& (3 : Int32)) % (3 : Int32))), .val (.int (own_c ((Jvm.Free.XT.ushr p1 (2 : Int32)) &&& (255 : Int32)))), .val (.int (own_c ((Jvm.Free.XT.ushr p1 (10 : Int32)) &&& (255 : Int32)))), .unset, .unset, .unset, .unset, .unset, .unset, .unset, .unset, .unset, .unset, .unset, .unset, .unset, .unset, .unset, .unset] [(.int (8 : Int32)), (.int p4)]))
    refine own_G.go (fun t_ k_ => XS.iand X0.here hx rfl (hb hby at_129) rfl k_) ?_
    show own_G _ _ _ _ (s₁.setTop (mkF m 130 #[.val (.int p0), .val (.int p1), .val (.long p2), .second, .val (.long p3), .second, .val (.int p4), .val (.long p5), .second, .val (.int u9), .val (.int u10), .val (.int u11), .val (.int u12), .val (.int u13), .val (.int u14), .val (.int ((p1 &&& (3 : Int32)) % (3 : Int32))), .val (.int (own_c ((Jvm.Free.XT.ushr p1 (2 : Int32)) &&& (255 : Int32)))), .val (.int (own_c ((Jvm.Free.XT.ushr p1 (10 : Int32)) &&& (255 : Int32)))), .unset, .unset, .unset, .unset, .unset, .unset, .unset, .unset, .unset, .unset, .unset, .unset, .unset, .unset, .unset, .unset] [(.int (p4 &&& (8 : Int32)))]))
    by_cases hb130 : (p4 &&& (8 : Int32)) = (0 : Int32)
    · refine own_G.go (fun t_ k_ => XS.ifYes X0.here hx rfl (pc0 := 130) (pc' := 144) rfl (hb hby at_130) rfl ((if0 _ _).trans (teq hb130).1) (by decide) (by decide) k_) ?_
      show own_G _ _ _ _ (s₁.setTop (mkF m 144 #[.val (.int p0), .val (.int p1), .val (.long p2), .second, .val (.long p3), .second, .val (.int p4), .val (.long p5), .second, .val (.int u9), .val (.int u10), .val (.int u11), .val (.int u12), .val (.int u13), .val (.int u14), .val (.int ((p1 &&& (3 : Int32)) % (3 : Int32))), .val (.int (own_c ((Jvm.Free.XT.ushr p1 (2 : Int32)) &&& (255 : Int32)))), .val (.int (own_c ((Jvm.Free.XT.ushr p1 (10 : Int32)) &&& (255 : Int32)))), .unset, .unset, .unset, .unset, .unset, .unset, .unset, .unset, .unset, .unset, .unset, .unset, .unset, .unset, .unset, .unset] []))
      refine own_G.go (fun t_ k_ => XS.iload X0.here hx rfl (hb hby at_144) rfl k_) ?_
      show own_G _ _ _ _ (s₁.setTop (mkF m 146 #[.val (.int p0), .val (.int p1), .val (.long p2), .second, .val (.long p3), .second, .val (.int p4), .val (.long p5), .second, .val (.int u9), .val (.int u10), .val (.int u11), .val (.int u12), .val (.int u13), .val (.int u14), .val (.int ((p1 &&& (3 : Int32)) % (3 : Int32))), .val (.int (own_c ((Jvm.Free.XT.ushr p1 (2 : Int32)) &&& (255 : Int32)))), .val (.int (own_c ((Jvm.Free.XT.ushr p1 (10 : Int32)) &&& (255 : Int32)))), .unset, .unset, .unset, .unset, .unset, .unset, .unset, .unset, .unset, .unset, .unset, .unset, .unset, .unset, .unset, .unset] [(.int ((p1 &&& (3 : Int32)) % (3 : Int32)))]))
      exact J146 _ _ _ _ _ _ _ _ _ _ (by first | assumption | exact own_l3 _ | exact own_mask _) (by first | assumption | exact own_l3 _ | exact own_mask _) (by first | assumption | exact own_l3 _ | exact own_mask _) (by first | assumption | exact own_l3 _ | exact own_mask _) (by first | assumption | exact own_l3 _ | exact own_mask _) (by first | assumption | exact own_l3 _ | exact own_mask _) (by first | assumption | exact own_l3 _ | exact own_mask _) (by first | assumption | exact own_l3 _ | exact own_mask _) (by first | assumption | exact own_l3 _ | exact own_mask _) (by first | assumption | exact own_l3 _ | exact own_mask _)
    · refine own_G.go (fun t_ k_ => XS.ifNo X0.here hx rfl (hb hby at_130) rfl ((if0 _ _).trans (feq hb130).1) k_) ?_
      show own_G _ _ _ _ (s₁.setTop (mkF m 133 #[.val (.int p0), .val (.int p1), .val (.long p2), .second, .val (.long p3), .second, .val (.int p4), .val (.long p5), .second, .val (.int u9), .val (.int u10), .val (.int u11), .val (.int u12), .val (.int u13), .val (.int u14), .val (.int ((p1 &&& (3 : Int32)) % (3 : Int32))), .val (.int (own_c ((Jvm.Free.XT.ushr p1 (2 : Int32)) &&& (255 : Int32)))), .val (.int (own_c ((Jvm.Free.XT.ushr p1 (10 : Int32)) &&& (255 : Int32)))), .unset, .unset, .unset, .unset, .unset, .unset, .unset, .unset, .unset, .unset, .unset, .unset, .unset, .unset, .unset, .unset] []))
      refine own_G.go (fun t_ k_ => XS.iloadN X0.here hx rfl (hb hby at_133) rfl k_) ?_
      show own_G _ _ _ _ (s₁.setTop (mkF m 134 #[.val (.int p0), .val (.int p1), .val (.long p2), .second, .val (.long p3), .second, .val (.int p4), .val (.long p5), .second, .val (.int u9), .val (.int u10), .val (.int u11), .val (.int u12), .val (.int u13), .val (.int u14), .val (.int ((p1 &&& (3 : Int32)) % (3 : Int32))), .val (.int (own_c ((Jvm.Free.XT.ushr p1 (2 : Int32)) &&& (255 : Int32)))), .val (.int (own_c ((Jvm.Free.XT.ushr p1 (10 : Int32)) &&& (255 : Int32)))), .unset, .unset, .unset, .unset, .unset, .unset, .unset, .unset, .unset, .unset, .unset, .unset, .unset, .unset, .unset, .unset] [(.int p1)]))
      refine own_G.go (fun t_ k_ => XS.bipush X0.here hx rfl (hb hby at_134) k_) ?_
      show own_G _ _ _ _ (s₁.setTop (mkF m 136 #[.val (.int p0), .val (.int p1), .val (.long p2), .second, .val (.long p3), .second, .val (.int p4), .val (.long p5), .second, .val (.int u9), .val (.int u10), .val (.int u11), .val (.int u12), .val (.int u13), .val (.int u14), .val (.int ((p1 &&& (3 : Int32)) % (3 : Int32))), .val (.int (own_c ((Jvm.Free.XT.ushr p1 (2 : Int32)) &&& (255 : Int32)))), .val (.int (own_c ((Jvm.Free.XT.ushr p1 (10 : Int32)) &&& (255 : Int32)))), .unset, .unset, .unset, .unset, .unset, .unset, .unset, .unset, .unset, .unset, .unset, .unset, .unset, .unset, .unset, .unset] [(.int (18 : Int32)), (.int p1)]))
      refine own_G.go (fun t_ k_ => XS.iushr X0.here hx rfl (hb hby at_136) rfl k_) ?_
      show own_G _ _ _ _ (s₁.setTop (mkF m 137 #[.val (.int p0), .val (.int p1), .val (.long p2), .second, .val (.long p3), .second, .val (.int p4), .val (.long p5), .second, .val (.int u9), .val (.int u10), .val (.int u11), .val (.int u12), .val (.int u13), .val (.int u14), .val (.int ((p1 &&& (3 : Int32)) % (3 : Int32))), .val (.int (own_c ((Jvm.Free.XT.ushr p1 (2 : Int32)) &&& (255 : Int32)))), .val (.int (own_c ((Jvm.Free.XT.ushr p1 (10 : Int32)) &&& (255 : Int32)))), .unset, .unset, .unset, .unset, .unset, .unset, .unset, .unset, .unset, .unset, .unset, .unset, .unset, .unset, .unset, .unset] [(.int (Jvm.Free.XT.ushr p1 (18 : Int32)))]))
      refine own_G.go (fun t_ k_ => XS.iconst X0.here hx rfl (hb hby at_137) k_) ?_
      show own_G _ _ _ _ (s₁.setTop (mkF m 138 #[.val (.int p0), .val (.int p1), .val (.long p2), .second, .val (.long p3), .second, .val (.int p4), .val (.long p5), .second, .val (.int u9), .val (.int u10), .val (.int u11), .val (.int u12), .val (.int u13), .val (.int u14), .val (.int ((p1 &&& (3 : Int32)) % (3 : Int32))), .val (.int (own_c ((Jvm.Free.XT.ushr p1 (2 : Int32)) &&& (255 : Int32)))), .val (.int (own_c ((Jvm.Free.XT.ushr p1 (10 : Int32)) &&& (255 : Int32)))), .unset, .unset, .unset, .unset, .unset, .unset, .unset, .unset, .unset, .unset, .unset, .unset, .unset, .unset, .unset, .unset] [(.int (3 : Int32)), (.int (Jvm.Free.XT.ushr p1 (18 : Int32)))]))
      refine own_G.go (fun t_ k_ => XS.iand X0.here hx rfl (hb hby at_138) rfl k_) ?_
      show own_G _ _ _ _ (s₁.setTop (mkF m 139 #[.val (.int p0), .val (.int p1), .val (.long p2), .second, .val (.long p3), .second, .val (.int p4), .val (.long p5), .second, .val (.int u9), .val (.int u10), .val (.int u11), .val (.int u12), .val (.int u13), .val (.int u14), .val (.int ((p1 &&& (3 : Int32)) % (3 : Int32))), .val (.int (own_c ((Jvm.Free.XT.ushr p1 (2 : Int32)) &&& (255 : Int32)))), .val (.int (own_c ((Jvm.Free.XT.ushr p1 (10 : Int32)) &&& (255 : Int32)))), .unset, .unset, .unset, .unset, .unset, .unset, .unset, .unset, .unset, .unset, .unset, .unset, .unset, .unset, .unset, .unset] [(.int ((Jvm.Free.XT.ushr p1 (18 : Int32)) &&& (3 : Int32)))]))
      refine own_G.go (fun t_ k_ => XS.iconst X0.here hx rfl (hb hby at_139) k_) ?_
      show own_G _ _ _ _ (s₁.setTop (mkF m 140 #[.val (.int p0), .val (.int p1), .val (.long p2), .second, .val (.long p3), .second, .val (.int p4), .val (.long p5), .second, .val (.int u9), .val (.int u10), .val (.int u11), .val (.int u12), .val (.int u13), .val (.int u14), .val (.int ((p1 &&& (3 : Int32)) % (3 : Int32))), .val (.int (own_c ((Jvm.Free.XT.ushr p1 (2 : Int32)) &&& (255 : Int32)))), .val (.int (own_c ((Jvm.Free.XT.ushr p1 (10 : Int32)) &&& (255 : Int32)))), .unset, .unset, .unset, .unset, .unset, .unset, .unset, .unset, .unset, .unset, .unset, .unset, .unset, .unset, .unset, .unset] [(.int (3 : Int32)), (.int ((Jvm.Free.XT.ushr p1 (18 : Int32)) &&& (3 : Int32)))]))
      refine own_G.go (fun t_ k_ => iremM X0 hx rfl (hb hby at_140) rfl (by decide) k_) ?_
      show own_G _ _ _ _ (s₁.setTop (mkF m 141 #[.val (.int p0), .val (.int p1), .val (.long p2), .second, .val (.long p3), .second, .val (.int p4), .val (.long p5), .second, .val (.int u9), .val (.int u10), .val (.int u11), .val (.int u12), .val (.int u13), .val (.int u14), .val (.int ((p1 &&& (3 : Int32)) % (3 : Int32))), .val (.int (own_c ((Jvm.Free.XT.ushr p1 (2 : Int32)) &&& (255 : Int32)))), .val (.int (own_c ((Jvm.Free.XT.ushr p1 (10 : Int32)) &&& (255 : Int32)))), .unset, .unset, .unset, .unset, .unset, .unset, .unset, .unset, .unset, .unset, .unset, .unset, .unset, .unset, .unset, .unset] [(.int (((Jvm.Free.XT.ushr p1 (18 : Int32)) &&& (3 : Int32)) % (3 : Int32)))]))
      refine own_G.go (fun t_ k_ => XS.goto X0.here hx rfl (pc0 := 141) (pc' := 146) rfl (hb hby at_141) (by decide) (by decide) k_) ?_
      show own_G _ _ _ _ (s₁.setTop (mkF m 146 #[.val (.int p0), .val (.int p1), .val (.long p2), .second, .val (.long p3), .second, .val (.int p4), .val (.long p5), .second, .val (.int u9), .val (.int u10), .val (.int u11), .val (.int u12), .val (.int u13), .val (.int u14), .val (.int ((p1 &&& (3 : Int32)) % (3 : Int32))), .val (.int (own_c ((Jvm.Free.XT.ushr p1 (2 : Int32)) &&& (255 : Int32)))), .val (.int (own_c ((Jvm.Free.XT.ushr p1 (10 : Int32)) &&& (255 : Int32)))), .unset, .unset, .unset, .unset, .unset, .unset, .unset, .unset, .unset, .unset, .unset, .unset, .unset, .unset, .unset, .unset] [(.int (((Jvm.Free.XT.ushr p1 (18 : Int32)) &&& (3 : Int32)) % (3 : Int32)))]))
      exact J146 _ _ _ _ _ _ _ _ _ _ (by first | assumption | exact own_l3 _ | exact own_mask _) (by first | assumption | exact own_l3 _ | exact own_mask _) (by first | assumption | exact own_l3 _ | exact own_mask _) (by first | assumption | exact own_l3 _ | exact own_mask _) (by first | assumption | exact own_l3 _ | exact own_mask _) (by first | assumption | exact own_l3 _ | exact own_mask _) (by first | assumption | exact own_l3 _ | exact own_mask _) (by first | assumption | exact own_l3 _ | exact own_mask _) (by first | assumption | exact own_l3 _ | exact own_mask _) (by first | assumption | exact own_l3 _ | exact own_mask _)
  have J71 : ∀ (u9 : Int32) (u10 : Int32) (u11 : Int32) (u12 : Int32) (u13 : Int32) (h9 : own_l u9) (h10 : own_b u10) (h11 : own_b u11) (h12 : own_l u12) (h13 : own_b u13), own_G p.tables e below (fun o t => ∃ v L, o = .returned v ∧ Qlaw n0 v t.heap L ∧ CHr Z own_EL s.vm s.heap t.vm t.heap ∧ ReturnedEndW s o t L room_1.cells room_1.slots) (s₁.setTop (mkF m 71 #[.val (.int p0), .val (.int p1), .val (.long p2), .second, .val (.long p3), .second, .val (.int p4), .val (.long p5), .second, .val (.int u9), .val (.int u10), .val (.int u11), .val (.int u12), .unset, .unset, .unset, .unset, .unset, .unset, .unset, .unset, .unset, .unset, .unset, .unset, .unset, .unset, .unset, .unset, .unset, .unset, .unset, .unset, .unset] [(.int u13)])) := by
    intro u9 u10 u11 u12 u13 h9 h10 h11 h12 h13
    refine own_G.go (fun t_ k_ => XS.istore X0.here hx rfl (hb hby at_71) rfl (l' := #[.val (.int p0), .val (.int p1), .val (.long p2), .second, .val (.long p3), .second, .val (.int p4), .val (.long p5), .second, .val (.int u9), .val (.int u10), .val (.int u11), .val (.int u12), .val (.int u13), .unset, .unset, .unset, .unset, .unset, .unset, .unset, .unset, .unset, .unset, .unset, .unset, .unset, .unset, .unset, .unset, .unset, .unset, .unset, .unset]) rfl k_) ?_
    show own_G _ _ _ _ (s₁.setTop (mkF m 73 #[.val (.int p0), .val (.int p1), .val (.long p2), .second, .val (.long p3), .second, .val (.int p4), .val (.long p5), .second, .val (.int u9), .val (.int u10), .val (.int u11), .val (.int u12), .val (.int u13), .unset, .unset, .unset, .unset, .unset, .unset, .unset, .unset, .unset, .unset, .unset, .unset, .unset, .unset, .unset, .unset, .unset, .unset, .unset, .unset] []))
    refine own_G.go (fun t_ k_ => XS.iload X0.here hx rfl (hb hby at_73) rfl k_) ?_
    show own_G _ _ _ _ (s₁.setTop (mkF m 75 #[.val (.int p0), .val (.int p1), .val (.long p2), .second, .val (.long p3), .second, .val (.int p4), .val (.long p5), .second, .val (.int u9), .val (.int u10), .val (.int u11), .val (.int u12), .val (.int u13), .unset, .unset, .unset, .unset, .unset, .unset, .unset, .unset, .unset, .unset, .unset, .unset, .unset, .unset, .unset, .unset, .unset, .unset, .unset, .unset] [(.int p4)]))
    refine own_G.go (fun t_ k_ => XS.iconst X0.here hx rfl (hb hby at_75) k_) ?_
    show own_G _ _ _ _ (s₁.setTop (mkF m 76 #[.val (.int p0), .val (.int p1), .val (.long p2), .second, .val (.long p3), .second, .val (.int p4), .val (.long p5), .second, .val (.int u9), .val (.int u10), .val (.int u11), .val (.int u12), .val (.int u13), .unset, .unset, .unset, .unset, .unset, .unset, .unset, .unset, .unset, .unset, .unset, .unset, .unset, .unset, .unset, .unset, .unset, .unset, .unset, .unset] [(.int (4 : Int32)), (.int p4)]))
    refine own_G.go (fun t_ k_ => XS.iand X0.here hx rfl (hb hby at_76) rfl k_) ?_
    show own_G _ _ _ _ (s₁.setTop (mkF m 77 #[.val (.int p0), .val (.int p1), .val (.long p2), .second, .val (.long p3), .second, .val (.int p4), .val (.long p5), .second, .val (.int u9), .val (.int u10), .val (.int u11), .val (.int u12), .val (.int u13), .unset, .unset, .unset, .unset, .unset, .unset, .unset, .unset, .unset, .unset, .unset, .unset, .unset, .unset, .unset, .unset, .unset, .unset, .unset, .unset] [(.int (p4 &&& (4 : Int32)))]))
    by_cases hb77 : (p4 &&& (4 : Int32)) = (0 : Int32)
    · refine own_G.go (fun t_ k_ => XS.ifYes X0.here hx rfl (pc0 := 77) (pc' := 93) rfl (hb hby at_77) rfl ((if0 _ _).trans (teq hb77).1) (by decide) (by decide) k_) ?_
      show own_G _ _ _ _ (s₁.setTop (mkF m 93 #[.val (.int p0), .val (.int p1), .val (.long p2), .second, .val (.long p3), .second, .val (.int p4), .val (.long p5), .second, .val (.int u9), .val (.int u10), .val (.int u11), .val (.int u12), .val (.int u13), .unset, .unset, .unset, .unset, .unset, .unset, .unset, .unset, .unset, .unset, .unset, .unset, .unset, .unset, .unset, .unset, .unset, .unset, .unset, .unset] []))
      refine own_G.go (fun t_ k_ => XS.iload X0.here hx rfl (hb hby at_93) rfl k_) ?_
      show own_G _ _ _ _ (s₁.setTop (mkF m 95 #[.val (.int p0), .val (.int p1), .val (.long p2), .second, .val (.long p3), .second, .val (.int p4), .val (.long p5), .second, .val (.int u9), .val (.int u10), .val (.int u11), .val (.int u12), .val (.int u13), .unset, .unset, .unset, .unset, .unset, .unset, .unset, .unset, .unset, .unset, .unset, .unset, .unset, .unset, .unset, .unset, .unset, .unset, .unset, .unset] [(.int u11)]))
      exact J95 _ _ _ _ _ _ (by first | assumption | exact own_l3 _ | exact own_mask _) (by first | assumption | exact own_l3 _ | exact own_mask _) (by first | assumption | exact own_l3 _ | exact own_mask _) (by first | assumption | exact own_l3 _ | exact own_mask _) (by first | assumption | exact own_l3 _ | exact own_mask _) (by first | assumption | exact own_l3 _ | exact own_mask _)
    · refine own_G.go (fun t_ k_ => XS.ifNo X0.here hx rfl (hb hby at_77) rfl ((if0 _ _).trans (feq hb77).1) k_) ?_
      show own_G _ _ _ _ (s₁.setTop (mkF m 80 #[.val (.int p0), .val (.int p1), .val (.long p2), .second, .val (.long p3), .second, .val (.int p4), .val (.long p5), .second, .val (.int u9), .val (.int u10), .val (.int u11), .val (.int u12), .val (.int u13), .unset, .unset, .unset, .unset, .unset, .unset, .unset, .unset, .unset, .unset, .unset, .unset, .unset, .unset, .unset, .unset, .unset, .unset, .unset, .unset] []))
      refine own_G.go (fun t_ k_ => XS.iload X0.here hx rfl (hb hby at_80) rfl k_) ?_
      show own_G _ _ _ _ (s₁.setTop (mkF m 82 #[.val (.int p0), .val (.int p1), .val (.long p2), .second, .val (.long p3), .second, .val (.int p4), .val (.long p5), .second, .val (.int u9), .val (.int u10), .val (.int u11), .val (.int u12), .val (.int u13), .unset, .unset, .unset, .unset, .unset, .unset, .unset, .unset, .unset, .unset, .unset, .unset, .unset, .unset, .unset, .unset, .unset, .unset, .unset, .unset] [(.int p4)]))
      refine own_G.go (fun t_ k_ => XS.bipush X0.here hx rfl (hb hby at_82) k_) ?_
      show own_G _ _ _ _ (s₁.setTop (mkF m 84 #[.val (.int p0), .val (.int p1), .val (.long p2), .second, .val (.long p3), .second, .val (.int p4), .val (.long p5), .second, .val (.int u9), .val (.int u10), .val (.int u11), .val (.int u12), .val (.int u13), .unset, .unset, .unset, .unset, .unset, .unset, .unset, .unset, .unset, .unset, .unset, .unset, .unset, .unset, .unset, .unset, .unset, .unset, .unset, .unset] [(.int (16 : Int32)), (.int p4)]))
      refine own_G.go (fun t_ k_ => XS.iushr X0.here hx rfl (hb hby at_84) rfl k_) ?_
      show own_G _ _ _ _ (s₁.setTop (mkF m 85 #[.val (.int p0), .val (.int p1), .val (.long p2), .second, .val (.long p3), .second, .val (.int p4), .val (.long p5), .second, .val (.int u9), .val (.int u10), .val (.int u11), .val (.int u12), .val (.int u13), .unset, .unset, .unset, .unset, .unset, .unset, .unset, .unset, .unset, .unset, .unset, .unset, .unset, .unset, .unset, .unset, .unset, .unset, .unset, .unset] [(.int (Jvm.Free.XT.ushr p4 (16 : Int32)))]))
      refine own_G.go (fun t_ k_ => XS.sipush X0.here hx rfl (hb hby at_85) k_) ?_
      show own_G _ _ _ _ (s₁.setTop (mkF m 88 #[.val (.int p0), .val (.int p1), .val (.long p2), .second, .val (.long p3), .second, .val (.int p4), .val (.long p5), .second, .val (.int u9), .val (.int u10), .val (.int u11), .val (.int u12), .val (.int u13), .unset, .unset, .unset, .unset, .unset, .unset, .unset, .unset, .unset, .unset, .unset, .unset, .unset, .unset, .unset, .unset, .unset, .unset, .unset, .unset] [(.int (255 : Int32)), (.int (Jvm.Free.XT.ushr p4 (16 : Int32)))]))
      refine own_G.go (fun t_ k_ => XS.iand X0.here hx rfl (hb hby at_88) rfl k_) ?_
      show own_G _ _ _ _ (s₁.setTop (mkF m 89 #[.val (.int p0), .val (.int p1), .val (.long p2), .second, .val (.long p3), .second, .val (.int p4), .val (.long p5), .second, .val (.int u9), .val (.int u10), .val (.int u11), .val (.int u12), .val (.int u13), .unset, .unset, .unset, .unset, .unset, .unset, .unset, .unset, .unset, .unset, .unset, .unset, .unset, .unset, .unset, .unset, .unset, .unset, .unset, .unset] [(.int ((Jvm.Free.XT.ushr p4 (16 : Int32)) &&& (255 : Int32)))]))
      refine own_G.go (fun t_ k_ => XS.i2c X0.here hx rfl (hb hby at_89) rfl k_) ?_
      show own_G _ _ _ _ (s₁.setTop (mkF m 90 #[.val (.int p0), .val (.int p1), .val (.long p2), .second, .val (.long p3), .second, .val (.int p4), .val (.long p5), .second, .val (.int u9), .val (.int u10), .val (.int u11), .val (.int u12), .val (.int u13), .unset, .unset, .unset, .unset, .unset, .unset, .unset, .unset, .unset, .unset, .unset, .unset, .unset, .unset, .unset, .unset, .unset, .unset, .unset, .unset] [(.int (own_c ((Jvm.Free.XT.ushr p4 (16 : Int32)) &&& (255 : Int32))))]))
      refine own_G.go (fun t_ k_ => XS.goto X0.here hx rfl (pc0 := 90) (pc' := 95) rfl (hb hby at_90) (by decide) (by decide) k_) ?_
      show own_G _ _ _ _ (s₁.setTop (mkF m 95 #[.val (.int p0), .val (.int p1), .val (.long p2), .second, .val (.long p3), .second, .val (.int p4), .val (.long p5), .second, .val (.int u9), .val (.int u10), .val (.int u11), .val (.int u12), .val (.int u13), .unset, .unset, .unset, .unset, .unset, .unset, .unset, .unset, .unset, .unset, .unset, .unset, .unset, .unset, .unset, .unset, .unset, .unset, .unset, .unset] [(.int (own_c ((Jvm.Free.XT.ushr p4 (16 : Int32)) &&& (255 : Int32))))]))
      exact J95 _ _ _ _ _ _ (by first | assumption | exact own_l3 _ | exact own_mask _) (by first | assumption | exact own_l3 _ | exact own_mask _) (by first | assumption | exact own_l3 _ | exact own_mask _) (by first | assumption | exact own_l3 _ | exact own_mask _) (by first | assumption | exact own_l3 _ | exact own_mask _) (by first | assumption | exact own_l3 _ | exact own_mask _)
  have J48 : ∀ (u9 : Int32) (u10 : Int32) (u11 : Int32) (u12 : Int32) (h9 : own_l u9) (h10 : own_b u10) (h11 : own_b u11) (h12 : own_l u12), own_G p.tables e below (fun o t => ∃ v L, o = .returned v ∧ Qlaw n0 v t.heap L ∧ CHr Z own_EL s.vm s.heap t.vm t.heap ∧ ReturnedEndW s o t L room_1.cells room_1.slots) (s₁.setTop (mkF m 48 #[.val (.int p0), .val (.int p1), .val (.long p2), .second, .val (.long p3), .second, .val (.int p4), .val (.long p5), .second, .val (.int u9), .val (.int u10), .val (.int u11), .unset, .unset, .unset, .unset, .unset, .unset, .unset, .unset, .unset, .unset, .unset, .unset, .unset, .unset, .unset, .unset, .unset, .unset, .unset, .unset, .unset, .unset] [(.int u12)])) := by
    intro u9 u10 u11 u12 h9 h10 h11 h12
    refine own_G.go (fun t_ k_ => XS.istore X0.here hx rfl (hb hby at_48) rfl (l' := #[.val (.int p0), .val (.int p1), .val (.long p2), .second, .val (.long p3), .second, .val (.int p4), .val (.long p5), .second, .val (.int u9), .val (.int u10), .val (.int u11), .val (.int u12), .unset, .unset, .unset, .unset, .unset, .unset, .unset, .unset, .unset, .unset, .unset, .unset, .unset, .unset, .unset, .unset, .unset, .unset, .unset, .unset, .unset]) rfl k_) ?_
    show own_G _ _ _ _ (s₁.setTop (mkF m 50 #[.val (.int p0), .val (.int p1), .val (.long p2), .second, .val (.long p3), .second, .val (.int p4), .val (.long p5), .second, .val (.int u9), .val (.int u10), .val (.int u11), .val (.int u12), .unset, .unset, .unset, .unset, .unset, .unset, .unset, .unset, .unset, .unset, .unset, .unset, .unset, .unset, .unset, .unset, .unset, .unset, .unset, .unset, .unset] []))
    refine own_G.go (fun t_ k_ => XS.iload X0.here hx rfl (hb hby at_50) rfl k_) ?_
    show own_G _ _ _ _ (s₁.setTop (mkF m 52 #[.val (.int p0), .val (.int p1), .val (.long p2), .second, .val (.long p3), .second, .val (.int p4), .val (.long p5), .second, .val (.int u9), .val (.int u10), .val (.int u11), .val (.int u12), .unset, .unset, .unset, .unset, .unset, .unset, .unset, .unset, .unset, .unset, .unset, .unset, .unset, .unset, .unset, .unset, .unset, .unset, .unset, .unset, .unset] [(.int p4)]))
    refine own_G.go (fun t_ k_ => XS.iconst X0.here hx rfl (hb hby at_52) k_) ?_
    show own_G _ _ _ _ (s₁.setTop (mkF m 53 #[.val (.int p0), .val (.int p1), .val (.long p2), .second, .val (.long p3), .second, .val (.int p4), .val (.long p5), .second, .val (.int u9), .val (.int u10), .val (.int u11), .val (.int u12), .unset, .unset, .unset, .unset, .unset, .unset, .unset, .unset, .unset, .unset, .unset, .unset, .unset, .unset, .unset, .unset, .unset, .unset, .unset, .unset, .unset] [(.int (2 : Int32)), (.int p4)]))
    refine own_G.go (fun t_ k_ => XS.iand X0.here hx rfl (hb hby at_53) rfl k_) ?_
    show own_G _ _ _ _ (s₁.setTop (mkF m 54 #[.val (.int p0), .val (.int p1), .val (.long p2), .second, .val (.long p3), .second, .val (.int p4), .val (.long p5), .second, .val (.int u9), .val (.int u10), .val (.int u11), .val (.int u12), .unset, .unset, .unset, .unset, .unset, .unset, .unset, .unset, .unset, .unset, .unset, .unset, .unset, .unset, .unset, .unset, .unset, .unset, .unset, .unset, .unset] [(.int (p4 &&& (2 : Int32)))]))
    by_cases hb54 : (p4 &&& (2 : Int32)) = (0 : Int32)
    · refine own_G.go (fun t_ k_ => XS.ifYes X0.here hx rfl (pc0 := 54) (pc' := 69) rfl (hb hby at_54) rfl ((if0 _ _).trans (teq hb54).1) (by decide) (by decide) k_) ?_
      show own_G _ _ _ _ (s₁.setTop (mkF m 69 #[.val (.int p0), .val (.int p1), .val (.long p2), .second, .val (.long p3), .second, .val (.int p4), .val (.long p5), .second, .val (.int u9), .val (.int u10), .val (.int u11), .val (.int u12), .unset, .unset, .unset, .unset, .unset, .unset, .unset, .unset, .unset, .unset, .unset, .unset, .unset, .unset, .unset, .unset, .unset, .unset, .unset, .unset, .unset] []))
      refine own_G.go (fun t_ k_ => XS.iload X0.here hx rfl (hb hby at_69) rfl k_) ?_
      show own_G _ _ _ _ (s₁.setTop (mkF m 71 #[.val (.int p0), .val (.int p1), .val (.long p2), .second, .val (.long p3), .second, .val (.int p4), .val (.long p5), .second, .val (.int u9), .val (.int u10), .val (.int u11), .val (.int u12), .unset, .unset, .unset, .unset, .unset, .unset, .unset, .unset, .unset, .unset, .unset, .unset, .unset, .unset, .unset, .unset, .unset, .unset, .unset, .unset, .unset] [(.int u10)]))
      exact J71 _ _ _ _ _ (by first | assumption | exact own_l3 _ | exact own_mask _) (by first | assumption | exact own_l3 _ | exact own_mask _) (by first | assumption | exact own_l3 _ | exact own_mask _) (by first | assumption | exact own_l3 _ | exact own_mask _) (by first | assumption | exact own_l3 _ | exact own_mask _)
    · refine own_G.go (fun t_ k_ => XS.ifNo X0.here hx rfl (hb hby at_54) rfl ((if0 _ _).trans (feq hb54).1) k_) ?_
      show own_G _ _ _ _ (s₁.setTop (mkF m 57 #[.val (.int p0), .val (.int p1), .val (.long p2), .second, .val (.long p3), .second, .val (.int p4), .val (.long p5), .second, .val (.int u9), .val (.int u10), .val (.int u11), .val (.int u12), .unset, .unset, .unset, .unset, .unset, .unset, .unset, .unset, .unset, .unset, .unset, .unset, .unset, .unset, .unset, .unset, .unset, .unset, .unset, .unset, .unset] []))
      refine own_G.go (fun t_ k_ => XS.iloadN X0.here hx rfl (hb hby at_57) rfl k_) ?_
      show own_G _ _ _ _ (s₁.setTop (mkF m 58 #[.val (.int p0), .val (.int p1), .val (.long p2), .second, .val (.long p3), .second, .val (.int p4), .val (.long p5), .second, .val (.int u9), .val (.int u10), .val (.int u11), .val (.int u12), .unset, .unset, .unset, .unset, .unset, .unset, .unset, .unset, .unset, .unset, .unset, .unset, .unset, .unset, .unset, .unset, .unset, .unset, .unset, .unset, .unset] [(.int p0)]))
      refine own_G.go (fun t_ k_ => XS.bipush X0.here hx rfl (hb hby at_58) k_) ?_
      show own_G _ _ _ _ (s₁.setTop (mkF m 60 #[.val (.int p0), .val (.int p1), .val (.long p2), .second, .val (.long p3), .second, .val (.int p4), .val (.long p5), .second, .val (.int u9), .val (.int u10), .val (.int u11), .val (.int u12), .unset, .unset, .unset, .unset, .unset, .unset, .unset, .unset, .unset, .unset, .unset, .unset, .unset, .unset, .unset, .unset, .unset, .unset, .unset, .unset, .unset] [(.int (20 : Int32)), (.int p0)]))
      refine own_G.go (fun t_ k_ => XS.iushr X0.here hx rfl (hb hby at_60) rfl k_) ?_
      show own_G _ _ _ _ (s₁.setTop (mkF m 61 #[.val (.int p0), .val (.int p1), .val (.long p2), .second, .val (.long p3), .second, .val (.int p4), .val (.long p5), .second, .val (.int u9), .val (.int u10), .val (.int u11), .val (.int u12), .unset, .unset, .unset, .unset, .unset, .unset, .unset, .unset, .unset, .unset, .unset, .unset, .unset, .unset, .unset, .unset, .unset, .unset, .unset, .unset, .unset] [(.int (Jvm.Free.XT.ushr p0 (20 : Int32)))]))
      refine own_G.go (fun t_ k_ => XS.sipush X0.here hx rfl (hb hby at_61) k_) ?_
      show own_G _ _ _ _ (s₁.setTop (mkF m 64 #[.val (.int p0), .val (.int p1), .val (.long p2), .second, .val (.long p3), .second, .val (.int p4), .val (.long p5), .second, .val (.int u9), .val (.int u10), .val (.int u11), .val (.int u12), .unset, .unset, .unset, .unset, .unset, .unset, .unset, .unset, .unset, .unset, .unset, .unset, .unset, .unset, .unset, .unset, .unset, .unset, .unset, .unset, .unset] [(.int (255 : Int32)), (.int (Jvm.Free.XT.ushr p0 (20 : Int32)))]))
      refine own_G.go (fun t_ k_ => XS.iand X0.here hx rfl (hb hby at_64) rfl k_) ?_
      show own_G _ _ _ _ (s₁.setTop (mkF m 65 #[.val (.int p0), .val (.int p1), .val (.long p2), .second, .val (.long p3), .second, .val (.int p4), .val (.long p5), .second, .val (.int u9), .val (.int u10), .val (.int u11), .val (.int u12), .unset, .unset, .unset, .unset, .unset, .unset, .unset, .unset, .unset, .unset, .unset, .unset, .unset, .unset, .unset, .unset, .unset, .unset, .unset, .unset, .unset] [(.int ((Jvm.Free.XT.ushr p0 (20 : Int32)) &&& (255 : Int32)))]))
      refine own_G.go (fun t_ k_ => XS.i2c X0.here hx rfl (hb hby at_65) rfl k_) ?_
      show own_G _ _ _ _ (s₁.setTop (mkF m 66 #[.val (.int p0), .val (.int p1), .val (.long p2), .second, .val (.long p3), .second, .val (.int p4), .val (.long p5), .second, .val (.int u9), .val (.int u10), .val (.int u11), .val (.int u12), .unset, .unset, .unset, .unset, .unset, .unset, .unset, .unset, .unset, .unset, .unset, .unset, .unset, .unset, .unset, .unset, .unset, .unset, .unset, .unset, .unset] [(.int (own_c ((Jvm.Free.XT.ushr p0 (20 : Int32)) &&& (255 : Int32))))]))
      refine own_G.go (fun t_ k_ => XS.goto X0.here hx rfl (pc0 := 66) (pc' := 71) rfl (hb hby at_66) (by decide) (by decide) k_) ?_
      show own_G _ _ _ _ (s₁.setTop (mkF m 71 #[.val (.int p0), .val (.int p1), .val (.long p2), .second, .val (.long p3), .second, .val (.int p4), .val (.long p5), .second, .val (.int u9), .val (.int u10), .val (.int u11), .val (.int u12), .unset, .unset, .unset, .unset, .unset, .unset, .unset, .unset, .unset, .unset, .unset, .unset, .unset, .unset, .unset, .unset, .unset, .unset, .unset, .unset, .unset] [(.int (own_c ((Jvm.Free.XT.ushr p0 (20 : Int32)) &&& (255 : Int32))))]))
      exact J71 _ _ _ _ _ (by first | assumption | exact own_l3 _ | exact own_mask _) (by first | assumption | exact own_l3 _ | exact own_mask _) (by first | assumption | exact own_l3 _ | exact own_mask _) (by first | assumption | exact own_l3 _ | exact own_mask _) (by first | assumption | exact own_l3 _ | exact own_mask _)
  refine own_G.go (fun t_ k_ => XS.iloadN X0.here hx rfl (hb hby at_0) rfl k_) ?_
  show own_G _ _ _ _ (s₁.setTop (mkF m 1 #[.val (.int p0), .val (.int p1), .val (.long p2), .second, .val (.long p3), .second, .val (.int p4), .val (.long p5), .second, .unset, .unset, .unset, .unset, .unset, .unset, .unset, .unset, .unset, .unset, .unset, .unset, .unset, .unset, .unset, .unset, .unset, .unset, .unset, .unset, .unset, .unset, .unset, .unset, .unset] [(.int p0)]))
  refine own_G.go (fun t_ k_ => XS.iconst X0.here hx rfl (hb hby at_1) k_) ?_
  show own_G _ _ _ _ (s₁.setTop (mkF m 2 #[.val (.int p0), .val (.int p1), .val (.long p2), .second, .val (.long p3), .second, .val (.int p4), .val (.long p5), .second, .unset, .unset, .unset, .unset, .unset, .unset, .unset, .unset, .unset, .unset, .unset, .unset, .unset, .unset, .unset, .unset, .unset, .unset, .unset, .unset, .unset, .unset, .unset, .unset, .unset] [(.int (3 : Int32)), (.int p0)]))
  refine own_G.go (fun t_ k_ => XS.iand X0.here hx rfl (hb hby at_2) rfl k_) ?_
  show own_G _ _ _ _ (s₁.setTop (mkF m 3 #[.val (.int p0), .val (.int p1), .val (.long p2), .second, .val (.long p3), .second, .val (.int p4), .val (.long p5), .second, .unset, .unset, .unset, .unset, .unset, .unset, .unset, .unset, .unset, .unset, .unset, .unset, .unset, .unset, .unset, .unset, .unset, .unset, .unset, .unset, .unset, .unset, .unset, .unset, .unset] [(.int (p0 &&& (3 : Int32)))]))
  refine own_G.go (fun t_ k_ => XS.iconst X0.here hx rfl (hb hby at_3) k_) ?_
  show own_G _ _ _ _ (s₁.setTop (mkF m 4 #[.val (.int p0), .val (.int p1), .val (.long p2), .second, .val (.long p3), .second, .val (.int p4), .val (.long p5), .second, .unset, .unset, .unset, .unset, .unset, .unset, .unset, .unset, .unset, .unset, .unset, .unset, .unset, .unset, .unset, .unset, .unset, .unset, .unset, .unset, .unset, .unset, .unset, .unset, .unset] [(.int (3 : Int32)), (.int (p0 &&& (3 : Int32)))]))
  refine own_G.go (fun t_ k_ => iremM X0 hx rfl (hb hby at_4) rfl (by decide) k_) ?_
  show own_G _ _ _ _ (s₁.setTop (mkF m 5 #[.val (.int p0), .val (.int p1), .val (.long p2), .second, .val (.long p3), .second, .val (.int p4), .val (.long p5), .second, .unset, .unset, .unset, .unset, .unset, .unset, .unset, .unset, .unset, .unset, .unset, .unset, .unset, .unset, .unset, .unset, .unset, .unset, .unset, .unset, .unset, .unset, .unset, .unset, .unset] [(.int ((p0 &&& (3 : Int32)) % (3 : Int32)))]))
  refine own_G.go (fun t_ k_ => XS.istore X0.here hx rfl (hb hby at_5) rfl (l' := #[.val (.int p0), .val (.int p1), .val (.long p2), .second, .val (.long p3), .second, .val (.int p4), .val (.long p5), .second, .val (.int ((p0 &&& (3 : Int32)) % (3 : Int32))), .unset, .unset, .unset, .unset, .unset, .unset, .unset, .unset, .unset, .unset, .unset, .unset, .unset, .unset, .unset, .unset, .unset, .unset, .unset, .unset, .unset, .unset, .unset, .unset]) rfl k_) ?_
  show own_G _ _ _ _ (s₁.setTop (mkF m 7 #[.val (.int p0), .val (.int p1), .val (.long p2), .second, .val (.long p3), .second, .val (.int p4), .val (.long p5), .second, .val (.int ((p0 &&& (3 : Int32)) % (3 : Int32))), .unset, .unset, .unset, .unset, .unset, .unset, .unset, .unset, .unset, .unset, .unset, .unset, .unset, .unset, .unset, .unset, .unset, .unset, .unset, .unset, .unset, .unset, .unset, .unset] []))
  refine own_G.go (fun t_ k_ => XS.iloadN X0.here hx rfl (hb hby at_7) rfl k_) ?_
  show own_G _ _ _ _ (s₁.setTop (mkF m 8 #[.val (.int p0), .val (.int p1), .val (.long p2), .second, .val (.long p3), .second, .val (.int p4), .val (.long p5), .second, .val (.int ((p0 &&& (3 : Int32)) % (3 : Int32))), .unset, .unset, .unset, .unset, .unset, .unset, .unset, .unset, .unset, .unset, .unset, .unset, .unset, .unset, .unset, .unset, .unset, .unset, .unset, .unset, .unset, .unset, .unset, .unset] [(.int p0)]))
  refine own_G.go (fun t_ k_ => XS.iconst X0.here hx rfl (hb hby at_8) k_) ?_
  show own_G _ _ _ _ (s₁.setTop (mkF m 9 #[.val (.int p0), .val (.int p1), .val (.long p2), .second, .val (.long p3), .second, .val (.int p4), .val (.long p5), .second, .val (.int ((p0 &&& (3 : Int32)) % (3 : Int32))), .unset, .unset, .unset, .unset, .unset, .unset, .unset, .unset, .unset, .unset, .unset, .unset, .unset, .unset, .unset, .unset, .unset, .unset, .unset, .unset, .unset, .unset, .unset, .unset] [(.int (2 : Int32)), (.int p0)]))
  refine own_G.go (fun t_ k_ => XS.iushr X0.here hx rfl (hb hby at_9) rfl k_) ?_
  show own_G _ _ _ _ (s₁.setTop (mkF m 10 #[.val (.int p0), .val (.int p1), .val (.long p2), .second, .val (.long p3), .second, .val (.int p4), .val (.long p5), .second, .val (.int ((p0 &&& (3 : Int32)) % (3 : Int32))), .unset, .unset, .unset, .unset, .unset, .unset, .unset, .unset, .unset, .unset, .unset, .unset, .unset, .unset, .unset, .unset, .unset, .unset, .unset, .unset, .unset, .unset, .unset, .unset] [(.int (Jvm.Free.XT.ushr p0 (2 : Int32)))]))
  refine own_G.go (fun t_ k_ => XS.sipush X0.here hx rfl (hb hby at_10) k_) ?_
  show own_G _ _ _ _ (s₁.setTop (mkF m 13 #[.val (.int p0), .val (.int p1), .val (.long p2), .second, .val (.long p3), .second, .val (.int p4), .val (.long p5), .second, .val (.int ((p0 &&& (3 : Int32)) % (3 : Int32))), .unset, .unset, .unset, .unset, .unset, .unset, .unset, .unset, .unset, .unset, .unset, .unset, .unset, .unset, .unset, .unset, .unset, .unset, .unset, .unset, .unset, .unset, .unset, .unset] [(.int (255 : Int32)), (.int (Jvm.Free.XT.ushr p0 (2 : Int32)))]))
  refine own_G.go (fun t_ k_ => XS.iand X0.here hx rfl (hb hby at_13) rfl k_) ?_
  show own_G _ _ _ _ (s₁.setTop (mkF m 14 #[.val (.int p0), .val (.int p1), .val (.long p2), .second, .val (.long p3), .second, .val (.int p4), .val (.long p5), .second, .val (.int ((p0 &&& (3 : Int32)) % (3 : Int32))), .unset, .unset, .unset, .unset, .unset, .unset, .unset, .unset, .unset, .unset, .unset, .unset, .unset, .unset, .unset, .unset, .unset, .unset, .unset, .unset, .unset, .unset, .unset, .unset] [(.int ((Jvm.Free.XT.ushr p0 (2 : Int32)) &&& (255 : Int32)))]))
  refine own_G.go (fun t_ k_ => XS.i2c X0.here hx rfl (hb hby at_14) rfl k_) ?_
  show own_G _ _ _ _ (s₁.setTop (mkF m 15 #[.val (.int p0), .val (.int p1), .val (.long p2), .second, .val (.long p3), .second, .val (.int p4), .val (.long p5), .second, .val (.int ((p0 &&& (3 : Int32)) % (3 : Int32))), .unset, .unset, .unset, .unset, .unset, .unset, .unset, .unset, .unset, .unset, .unset, .unset, .unset, .unset, .unset, .unset, .unset, .unset, .unset, .unset, .unset, .unset, .unset, .unset] [(.int (own_c ((Jvm.Free.XT.ushr p0 (2 : Int32)) &&& (255 : Int32))))]))
  refine own_G.go (fun t_ k_ => XS.istore X0.here hx rfl (hb hby at_15) rfl (l' := #[.val (.int p0), .val (.int p1), .val (.long p2), .second, .val (.long p3), .second, .val (.int p4), .val (.long p5), .second, .val (.int ((p0 &&& (3 : Int32)) % (3 : Int32))), .val (.int (own_c ((Jvm.Free.XT.ushr p0 (2 : Int32)) &&& (255 : Int32)))), .unset, .unset, .unset, .unset, .unset, .unset, .unset, .unset, .unset, .unset, .unset, .unset, .unset, .unset, .unset, .unset, .unset, .unset, .unset, .unset, .unset, .unset, .unset]) rfl k_) ?_
  show own_G _ _ _ _ (s₁.setTop (mkF m 17 #[.val (.int p0), .val (.int p1), .val (.long p2), .second, .val (.long p3), .second, .val (.int p4), .val (.long p5), .second, .val (.int ((p0 &&& (3 : Int32)) % (3 : Int32))), .val (.int (own_c ((Jvm.Free.XT.ushr p0 (2 : Int32)) &&& (255 : Int32)))), .unset, .unset, .unset, .unset, .unset, .unset, .unset, .unset, .unset, .unset, .unset, .unset, .unset, .unset, .unset, .unset, .unset, .unset, .unset, .unset, .unset, .unset, .unset] []))
  refine own_G.go (fun t_ k_ => XS.iloadN X0.here hx rfl (hb hby at_17) rfl k_) ?_
  show own_G _ _ _ _ (s₁.setTop (mkF m 18 #[.val (.int p0), .val (.int p1), .val (.long p2), .second, .val (.long p3), .second, .val (.int p4), .val (.long p5), .second, .val (.int ((p0 &&& (3 : Int32)) % (3 : Int32))), .val (.int (own_c ((Jvm.Free.XT.ushr p0 (2 : Int32)) &&& (255 : Int32)))), .unset, .unset, .unset, .unset, .unset, .unset, .unset, .unset, .unset, .unset, .unset, .unset, .unset, .unset, .unset, .unset, .unset, .unset, .unset, .unset, .unset, .unset, .unset] [(.int p0)]))
  refine own_G.go (fun t_ k_ => XS.bipush X0.here hx rfl (hb hby at_18) k_) ?_
  show own_G _ _ _ _ (s₁.setTop (mkF m 20 #[.val (.int p0), .val (.int p1), .val (.long p2), .second, .val (.long p3), .second, .val (.int p4), .val (.long p5), .second, .val (.int ((p0 &&& (3 : Int32)) % (3 : Int32))), .val (.int (own_c ((Jvm.Free.XT.ushr p0 (2 : Int32)) &&& (255 : Int32)))), .unset, .unset, .unset, .unset, .unset, .unset, .unset, .unset, .unset, .unset, .unset, .unset, .unset, .unset, .unset, .unset, .unset, .unset, .unset, .unset, .unset, .unset, .unset] [(.int (10 : Int32)), (.int p0)]))
  refine own_G.go (fun t_ k_ => XS.iushr X0.here hx rfl (hb hby at_20) rfl k_) ?_
  show own_G _ _ _ _ (s₁.setTop (mkF m 21 #[.val (.int p0), .val (.int p1), .val (.long p2), .second, .val (.long p3), .second, .val (.int p4), .val (.long p5), .second, .val (.int ((p0 &&& (3 : Int32)) % (3 : Int32))), .val (.int (own_c ((Jvm.Free.XT.ushr p0 (2 : Int32)) &&& (255 : Int32)))), .unset, .unset, .unset, .unset, .unset, .unset, .unset, .unset, .unset, .unset, .unset, .unset, .unset, .unset, .unset, .unset, .unset, .unset, .unset, .unset, .unset, .unset, .unset] [(.int (Jvm.Free.XT.ushr p0 (10 : Int32)))]))
  refine own_G.go (fun t_ k_ => XS.sipush X0.here hx rfl (hb hby at_21) k_) ?_
  show own_G _ _ _ _ (s₁.setTop (mkF m 24 #[.val (.int p0), .val (.int p1), .val (.long p2), .second, .val (.long p3), .second, .val (.int p4), .val (.long p5), .second, .val (.int ((p0 &&& (3 : Int32)) % (3 : Int32))), .val (.int (own_c ((Jvm.Free.XT.ushr p0 (2 : Int32)) &&& (255 : Int32)))), .unset, .unset, .unset, .unset, .unset, .unset, .unset, .unset, .unset, .unset, .unset, .unset, .unset, .unset, .unset, .unset, .unset, .unset, .unset, .unset, .unset, .unset, .unset] [(.int (255 : Int32)), (.int (Jvm.Free.XT.ushr p0 (10 : Int32)))]))
  refine own_G.go (fun t_ k_ => XS.iand X0.here hx rfl (hb hby at_24) rfl k_) ?_
  show own_G _ _ _ _ (s₁.setTop (mkF m 25 #[.val (.int p0), .val (.int p1), .val (.long p2), .second, .val (.long p3), .second, .val (.int p4), .val (.long p5), .second, .val (.int ((p0 &&& (3 : Int32)) % (3 : Int32))), .val (.int (own_c ((Jvm.Free.XT.ushr p0 (2 : Int32)) &&& (255 : Int32)))), .unset, .unset, .unset, .unset, .unset, .unset, .unset, .unset, .unset, .unset, .unset, .unset, .unset, .unset, .unset, .unset, .unset, .unset, .unset, .unset, .unset, .unset, .unset] [(.int ((Jvm.Free.XT.ushr p0 (10 : Int32)) &&& (255 : Int32)))]))
  refine own_G.go (fun t_ k_ => XS.i2c X0.here hx rfl (hb hby at_25) rfl k_) ?_
  show own_G _ _ _ _ (s₁.setTop (mkF m 26 #[.val (.int p0), .val (.int p1), .val (.long p2), .second, .val (.long p3), .second, .val (.int p4), .val (.long p5), .second, .val (.int ((p0 &&& (3 : Int32)) % (3 : Int32))), .val (.int (own_c ((Jvm.Free.XT.ushr p0 (2 : Int32)) &&& (255 : Int32)))), .unset, .unset, .unset, .unset, .unset, .unset, .unset, .unset, .unset, .unset, .unset, .unset, .unset, .unset, .unset, .unset, .unset, .unset, .unset, .unset, .unset, .unset, .unset] [(.int (own_c ((Jvm.Free.XT.ushr p0 (10 : Int32)) &&& (255 : Int32))))]))
  refine own_G.go (fun t_ k_ => XS.istore X0.here hx rfl (hb hby at_26) rfl (l' := #[.val (.int p0), .val (.int p1), .val (.long p2), .second, .val (.long p3), .second, .val (.int p4), .val (.long p5), .second, .val (.int ((p0 &&& (3 : Int32)) % (3 : Int32))), .val (.int (own_c ((Jvm.Free.XT.ushr p0 (2 : Int32)) &&& (255 : Int32)))), .val (.int (own_c ((Jvm.Free.XT.ushr p0 (10 : Int32)) &&& (255 : Int32)))), .unset, .unset, .unset, .unset, .unset, .unset, .unset, .unset, .unset, .unset, .unset, .unset, .unset, .unset, .unset, .unset, .unset, .unset, .unset, .unset, .unset, .unset]) rfl k_) ?_
  show own_G _ _ _ _ (s₁.setTop (mkF m 28 #[.val (.int p0), .val (.int p1), .val (.long p2), .second, .val (.long p3), .second, .val (.int p4), .val (.long p5), .second, .val (.int ((p0 &&& (3 : Int32)) % (3 : Int32))), .val (.int (own_c ((Jvm.Free.XT.ushr p0 (2 : Int32)) &&& (255 : Int32)))), .val (.int (own_c ((Jvm.Free.XT.ushr p0 (10 : Int32)) &&& (255 : Int32)))), .unset, .unset, .unset, .unset, .unset, .unset, .unset, .unset, .unset, .unset, .unset, .unset, .unset, .unset, .unset, .unset, .unset, .unset, .unset, .unset, .unset, .unset] []))
  refine own_G.go (fun t_ k_ => XS.iload X0.here hx rfl (hb hby at_28) rfl k_) ?_
  show own_G _ _ _ _ (s₁.setTop (mkF m 30 #[.val (.int p0), .val (.int p1), .val (.long p2), .second, .val (.long p3), .second, .val (.int p4), .val (.long p5), .second, .val (.int ((p0 &&& (3 : Int32)) % (3 : Int32))), .val (.int (own_c ((Jvm.Free.XT.ushr p0 (2 : Int32)) &&& (255 : Int32)))), .val (.int (own_c ((Jvm.Free.XT.ushr p0 (10 : Int32)) &&& (255 : Int32)))), .unset, .unset, .unset, .unset, .unset, .unset, .unset, .unset, .unset, .unset, .unset, .unset, .unset, .unset, .unset, .unset, .unset, .unset, .unset, .unset, .unset, .unset] [(.int p4)]))
  refine own_G.go (fun t_ k_ => XS.iconst X0.here hx rfl (hb hby at_30) k_) ?_
  show own_G _ _ _ _ (s₁.setTop (mkF m 31 #[.val (.int p0), .val (.int p1), .val (.long p2), .second, .val (.long p3), .second, .val (.int p4), .val (.long p5), .second, .val (.int ((p0 &&& (3 : Int32)) % (3 : Int32))), .val (.int (own_c ((Jvm.Free.XT.ushr p0 (2 : Int32)) &&& (255 : Int32)))), .val (.int (own_c ((Jvm.Free.XT.ushr p0 (10 : Int32)) &&& (255 : Int32)))), .unset, .unset, .unset, .unset, .unset, .unset, .unset, .unset, .unset, .unset, .unset, .unset, .unset, .unset, .unset, .unset, .unset, .unset, .unset, .unset, .unset, .unset] [(.int (1 : Int32)), (.int p4)]))
  refine own_G.go (fun t_ k_ => XS.iand X0.here hx rfl (hb hby at_31) rfl k_) ?_
  show own_G _ _ _ _ (s₁.setTop (mkF m 32 #[.val (.int p0), .val (.int p1), .val (.long p2), .second, .val (.long p3), .second, .val (.int p4), .val (.long p5), .second, .val (.int ((p0 &&& (3 : Int32)) % (3 : Int32))), .val (.int (own_c ((Jvm.Free.XT.ushr p0 (2 : Int32)) &&& (255 : Int32)))), .val (.int (own_c ((Jvm.Free.XT.ushr p0 (10 : Int32)) &&& (255 : Int32)))), .unset, .unset, .unset, .unset, .unset, .unset, .unset, .unset, .unset, .unset, .unset, .unset, .unset, .unset, .unset, .unset, .unset, .unset, .unset, .unset, .unset, .unset] [(.int (p4 &&& (1 : Int32)))]))
  by_cases hb32 : (p4 &&& (1 : Int32)) = (0 : Int32)
  · refine own_G.go (fun t_ k_ => XS.ifYes X0.here hx rfl (pc0 := 32) (pc' := 46) rfl (hb hby at_32) rfl ((if0 _ _).trans (teq hb32).1) (by decide) (by decide) k_) ?_
    show own_G _ _ _ _ (s₁.setTop (mkF m 46 #[.val (.int p0), .val (.int p1), .val (.long p2), .second, .val (.long p3), .second, .val (.int p4), .val (.long p5), .second, .val (.int ((p0 &&& (3 : Int32)) % (3 : Int32))), .val (.int (own_c ((Jvm.Free.XT.ushr p0 (2 : Int32)) &&& (255 : Int32)))), .val (.int (own_c ((Jvm.Free.XT.ushr p0 (10 : Int32)) &&& (255 : Int32)))), .unset, .unset, .unset, .unset, .unset, .unset, .unset, .unset, .unset, .unset, .unset, .unset, .unset, .unset, .unset, .unset, .unset, .unset, .unset, .unset, .unset, .unset] []))
    refine own_G.go (fun t_ k_ => XS.iload X0.here hx rfl (hb hby at_46) rfl k_) ?_
    show own_G _ _ _ _ (s₁.setTop (mkF m 48 #[.val (.int p0), .val (.int p1), .val (.long p2), .second, .val (.long p3), .second, .val (.int p4), .val (.long p5), .second, .val (.int ((p0 &&& (3 : Int32)) % (3 : Int32))), .val (.int (own_c ((Jvm.Free.XT.ushr p0 (2 : Int32)) &&& (255 : Int32)))), .val (.int (own_c ((Jvm.Free.XT.ushr p0 (10 : Int32)) &&& (255 : Int32)))), .unset, .unset, .unset, .unset, .unset, .unset, .unset, .unset, .unset, .unset, .unset, .unset, .unset, .unset, .unset, .unset, .unset, .unset, .unset, .unset, .unset, .unset] [(.int ((p0 &&& (3 : Int32)) % (3 : Int32)))]))
    exact J48 _ _ _ _ (by first | assumption | exact own_l3 _ | exact own_mask _) (by first | assumption | exact own_l3 _ | exact own_mask _) (by first | assumption | exact own_l3 _ | exact own_mask _) (by first | assumption | exact own_l3 _ | exact own_mask _)
  · refine own_G.go (fun t_ k_ => XS.ifNo X0.here hx rfl (hb hby at_32) rfl ((if0 _ _).trans (feq hb32).1) k_) ?_
    show own_G _ _ _ _ (s₁.setTop (mkF m 35 #[.val (.int p0), .val (.int p1), .val (.long p2), .second, .val (.long p3), .second, .val (.int p4), .val (.long p5), .second, .val (.int ((p0 &&& (3 : Int32)) % (3 : Int32))), .val (.int (own_c ((Jvm.Free.XT.ushr p0 (2 : Int32)) &&& (255 : Int32)))), .val (.int (own_c ((Jvm.Free.XT.ushr p0 (10 : Int32)) &&& (255 : Int32)))), .unset, .unset, .unset, .unset, .unset, .unset, .unset, .unset, .unset, .unset, .unset, .unset, .unset, .unset, .unset, .unset, .unset, .unset, .unset, .unset, .unset, .unset] []))
    refine own_G.go (fun t_ k_ => XS.iloadN X0.here hx rfl (hb hby at_35) rfl k_) ?_
    show own_G _ _ _ _ (s₁.setTop (mkF m 36 #[.val (.int p0), .val (.int p1), .val (.long p2), .second, .val (.long p3), .second, .val (.int p4), .val (.long p5), .second, .val (.int ((p0 &&& (3 : Int32)) % (3 : Int32))), .val (.int (own_c ((Jvm.Free.XT.ushr p0 (2 : Int32)) &&& (255 : Int32)))), .val (.int (own_c ((Jvm.Free.XT.ushr p0 (10 : Int32)) &&& (255 : Int32)))), .unset, .unset, .unset, .unset, .unset, .unset, .unset, .unset, .unset, .unset, .unset, .unset, .unset, .unset, .unset, .unset, .unset, .unset, .unset, .unset, .unset, .unset] [(.int p0)]))
    refine own_G.go (fun t_ k_ => XS.bipush X0.here hx rfl (hb hby at_36) k_) ?_
    show own_G _ _ _ _ (s₁.setTop (mkF m 38 #[.val (.int p0), .val (.int p1), .val (.long p2), .second, .val (.long p3), .second, .val (.int p4), .val (.long p5), .second, .val (.int ((p0 &&& (3 : Int32)) % (3 : Int32))), .val (.int (own_c ((Jvm.Free.XT.ushr p0 (2 : Int32)) &&& (255 : Int32)))), .val (.int (own_c ((Jvm.Free.XT.ushr p0 (10 : Int32)) &&& (255 : Int32)))), .unset, .unset, .unset, .unset, .unset, .unset, .unset, .unset, .unset, .unset, .unset, .unset, .unset, .unset, .unset, .unset, .unset, .unset, .unset, .unset, .unset, .unset] [(.int (18 : Int32)), (.int p0)]))
    refine own_G.go (fun t_ k_ => XS.iushr X0.here hx rfl (hb hby at_38) rfl k_) ?_
    show own_G _ _ _ _ (s₁.setTop (mkF m 39 #[.val (.int p0), .val (.int p1), .val (.long p2), .second, .val (.long p3), .second, .val (.int p4), .val (.long p5), .second, .val (.int ((p0 &&& (3 : Int32)) % (3 : Int32))), .val (.int (own_c ((Jvm.Free.XT.ushr p0 (2 : Int32)) &&& (255 : Int32)))), .val (.int (own_c ((Jvm.Free.XT.ushr p0 (10 : Int32)) &&& (255 : Int32)))), .unset, .unset, .unset, .unset, .unset, .unset, .unset, .unset, .unset, .unset, .unset, .unset, .unset, .unset, .unset, .unset, .unset, .unset, .unset, .unset, .unset, .unset] [(.int (Jvm.Free.XT.ushr p0 (18 : Int32)))]))
    refine own_G.go (fun t_ k_ => XS.iconst X0.here hx rfl (hb hby at_39) k_) ?_
    show own_G _ _ _ _ (s₁.setTop (mkF m 40 #[.val (.int p0), .val (.int p1), .val (.long p2), .second, .val (.long p3), .second, .val (.int p4), .val (.long p5), .second, .val (.int ((p0 &&& (3 : Int32)) % (3 : Int32))), .val (.int (own_c ((Jvm.Free.XT.ushr p0 (2 : Int32)) &&& (255 : Int32)))), .val (.int (own_c ((Jvm.Free.XT.ushr p0 (10 : Int32)) &&& (255 : Int32)))), .unset, .unset, .unset, .unset, .unset, .unset, .unset, .unset, .unset, .unset, .unset, .unset, .unset, .unset, .unset, .unset, .unset, .unset, .unset, .unset, .unset, .unset] [(.int (3 : Int32)), (.int (Jvm.Free.XT.ushr p0 (18 : Int32)))]))
    refine own_G.go (fun t_ k_ => XS.iand X0.here hx rfl (hb hby at_40) rfl k_) ?_
    show own_G _ _ _ _ (s₁.setTop (mkF m 41 #[.val (.int p0), .val (.int p1), .val (.long p2), .second, .val (.long p3), .second, .val (.int p4), .val (.long p5), .second, .val (.int ((p0 &&& (3 : Int32)) % (3 : Int32))), .val (.int (own_c ((Jvm.Free.XT.ushr p0 (2 : Int32)) &&& (255 : Int32)))), .val (.int (own_c ((Jvm.Free.XT.ushr p0 (10 : Int32)) &&& (255 : Int32)))), .unset, .unset, .unset, .unset, .unset, .unset, .unset, .unset, .unset, .unset, .unset, .unset, .unset, .unset, .unset, .unset, .unset, .unset, .unset, .unset, .unset, .unset] [(.int ((Jvm.Free.XT.ushr p0 (18 : Int32)) &&& (3 : Int32)))]))
    refine own_G.go (fun t_ k_ => XS.iconst X0.here hx rfl (hb hby at_41) k_) ?_
    show own_G _ _ _ _ (s₁.setTop (mkF m 42 #[.val (.int p0), .val (.int p1), .val (.long p2), .second, .val (.long p3), .second, .val (.int p4), .val (.long p5), .second, .val (.int ((p0 &&& (3 : Int32)) % (3 : Int32))), .val (.int (own_c ((Jvm.Free.XT.ushr p0 (2 : Int32)) &&& (255 : Int32)))), .val (.int (own_c ((Jvm.Free.XT.ushr p0 (10 : Int32)) &&& (255 : Int32)))), .unset, .unset, .unset, .unset, .unset, .unset, .unset, .unset, .unset, .unset, .unset, .unset, .unset, .unset, .unset, .unset, .unset, .unset, .unset, .unset, .unset, .unset] [(.int (3 : Int32)), (.int ((Jvm.Free.XT.ushr p0 (18 : Int32)) &&& (3 : Int32)))]))
    refine own_G.go (fun t_ k_ => iremM X0 hx rfl (hb hby at_42) rfl (by decide) k_) ?_
    show own_G _ _ _ _ (s₁.setTop (mkF m 43 #[.val (.int p0), .val (.int p1), .val (.long p2), .second, .val (.long p3), .second, .val (.int p4), .val (.long p5), .second, .val (.int ((p0 &&& (3 : Int32)) % (3 : Int32))), .val (.int (own_c ((Jvm.Free.XT.ushr p0 (2 : Int32)) &&& (255 : Int32)))), .val (.int (own_c ((Jvm.Free.XT.ushr p0 (10 : Int32)) &&& (255 : Int32)))), .unset, .unset, .unset, .unset, .unset, .unset, .unset, .unset, .unset, .unset, .unset, .unset, .unset, .unset, .unset, .unset, .unset, .unset, .unset, .unset, .unset, .unset] [(.int (((Jvm.Free.XT.ushr p0 (18 : Int32)) &&& (3 : Int32)) % (3 : Int32)))]))
    refine own_G.go (fun t_ k_ => XS.goto X0.here hx rfl (pc0 := 43) (pc' := 48) rfl (hb hby at_43) (by decide) (by decide) k_) ?_
    show own_G _ _ _ _ (s₁.setTop (mkF m 48 #[.val (.int p0), .val (.int p1), .val (.long p2), .second, .val (.long p3), .second, .val (.int p4), .val (.long p5), .second, .val (.int ((p0 &&& (3 : Int32)) % (3 : Int32))), .val (.int (own_c ((Jvm.Free.XT.ushr p0 (2 : Int32)) &&& (255 : Int32)))), .val (.int (own_c ((Jvm.Free.XT.ushr p0 (10 : Int32)) &&& (255 : Int32)))), .unset, .unset, .unset, .unset, .unset, .unset, .unset, .unset, .unset, .unset, .unset, .unset, .unset, .unset, .unset, .unset, .unset, .unset, .unset, .unset, .unset, .unset] [(.int (((Jvm.Free.XT.ushr p0 (18 : Int32)) &&& (3 : Int32)) % (3 : Int32)))]))
    exact J48 _ _ _ _ (by first | assumption | exact own_l3 _ | exact own_mask _) (by first | assumption | exact own_l3 _ | exact own_mask _) (by first | assumption | exact own_l3 _ | exact own_mask _) (by first | assumption | exact own_l3 _ | exact own_mask _)
set_option maxRecDepth 65536 in
set_option maxHeartbeats 40000000 in
theorem comes_1 {Post : Tables → Env → Array Value → State → Outcome → State → Prop} (hpost : ∀ tb e args s v u, (limb_1_1.after args s (.returned v) u = true ∧ limb_1_2.after args s (.returned v) u = true ∧ True) → ReturnedEndW s (.returned v) u (Jvm.fieldLocs frame_1_writes args s ++ Jvm.arrayLocs frame_1_arrays args s ++ Jvm.staticLocs frame_1_statics s) 40 1216 → Post tb e args s (.returned v) u) :
    ArmFor flags0 classFile x code maxLocals ret World_1 tables_1 room_1 Calls_1 rest_1 Pre_1 Post := by
  intro l hfl _ _ p e ha hc hk s m args below hf hA hF happ hP
  obtain ⟨hcalls, hrest, hpre⟩ := hP
  obtain ⟨-, -, -, hnamed, -, -, -, hat⟩ := (Spec.applies_iff hf).mp happ
  obtain ⟨hg, hn⟩ := and_e (Cond.before_iff.mp (show (Jvm.Cond.and given_1 narrow_1).before args s = true from hpre))
  obtain ⟨hcnt, hr_0⟩ := and_e hg
  obtain ⟨ha_0, hr_1⟩ := and_e hr_0
  obtain ⟨ha_1, hr_2⟩ := and_e hr_1
  obtain ⟨ha_2, hr_3⟩ := and_e hr_2
  obtain ⟨ha_3, hr_4⟩ := and_e hr_3
  obtain ⟨ha_4, hr_5⟩ := and_e hr_4
  obtain ⟨w0, w1, w2, w3, w4, w5, rfl⟩ : ∃ w0 w1 w2 w3 w4 w5 : Value, args = #[w0, w1, w2, w3, w4, w5] := by
    have hs : args.size = 6 := by simpa [Cond.value, given_1] using hcnt
    obtain ⟨L⟩ := args
    match L, hs with
    | [w0, w1, w2, w3, w4, w5], _ => exact ⟨w0, w1, w2, w3, w4, w5, rfl⟩
  have hw := fun d (hd : d ∈ tables_1) => atoms_spec (ws := Jvm.Cond.code x code maxLocals ret :: tables_1) hat d (List.mem_cons_of_mem _ hd)
  have hfit : Fit s := fun {y c} hc i hi => by
    obtain ⟨ha, rfl⟩ := Array.getElem?_eq_some_iff.mp hc
    have q := List.all_eq_true.mp ((Array.all_eq_true_iff_forall_mem.mp hF) _ (Array.getElem_mem ha)) i (List.mem_range.mpr hi)
    simpa [Array.getElem?_eq_getElem hi] using q
  obtain ⟨i0, ei0⟩ := is_v ha_0
  obtain rfl : w0 = (.int i0) := Option.some.inj ei0
  obtain ⟨i1, ei1⟩ := is_v ha_1
  obtain rfl : w1 = (.int i1) := Option.some.inj ei1
  obtain ⟨i2, ei2⟩ := isL_v ha_2
  obtain rfl : w2 = (.long i2) := Option.some.inj ei2
  obtain ⟨i3, ei3⟩ := isL_v ha_3
  obtain rfl : w3 = (.long i3) := Option.some.inj ei3
  obtain ⟨i4, ei4⟩ := is_v ha_4
  obtain rfl : w4 = (.int i4) := Option.some.inj ei4
  obtain ⟨i5, ei5⟩ := isL_v hr_5
  obtain rfl : w5 = (.long i5) := Option.some.inj ei5
  obtain ⟨hsets, hown0⟩ := atoms_of _ (rest_1_c_eq ▸ (show rest_1_c.before _ s = true from hrest))
  have n3 := not_v (Cond.before_iff.mp (hsets _ (List.mem_of_getElem? (i := 2) rfl)))
  obtain ⟨zc, ezc⟩ := is_v (Cond.before_iff.mp (hsets _ (List.mem_of_getElem? (i := 1) rfl)))
  have S2 : Sta s s.heap "java/lang/String" "COMPACT_STRINGS" "Z" (.int zc) := Sta.start ezc (Or.inl (hsets _ (List.mem_of_getElem? (i := 0) rfl)))
  have P5 : ¬ (zc = (0 : Int32)) := gotF (Cond.eq_ints ezc (Term.int_eval (0))) n3
  have hcw : Jvm.Lit.compactW.before _ s = true := hsets _ (List.mem_of_getElem? (i := 2) rfl)
  have hCH : CHv s own_EL s.vm s.heap := CHv.start (own_EW hw) (fun q hq => hcalls.1 q (by revert q; decide +kernel)) hcw (hw _ (List.mem_of_getElem? (i := 19) rfl)) (hw _ (List.mem_of_getElem? (i := 6) rfl))
  obtain ⟨n, o, h1, h2, h3, _, L, rfl, ⟨rfl, N⟩, -, hq⟩ := rm_law l s _ hw tables_1 i0 i1 i2 i3 i4 i5 zc s.heap s.heap.size (Nat.le_refl _) S2 P5 (Old.start s) p e ha hc hk s m _ below hf ((Spec.applies_iff_loose hf).mp happ).1 ⟨rfl, State.Warmed39.refl s, rfl, hCH⟩ trivial
  refine ⟨n, _, h1, h2, h3, hpost _ _ _ _ _ _ ⟨Cond.after_iff.mpr rfl, Cond.after_iff.mpr (eq_i res_at (Term.int_eval (1)) rfl), trivial⟩ ⟨hq.1, hq.2.1, hq.2.2.1, (hq.2.2.2.sift fun y hy => Or.inr (N y hy)).mono (by decide) (by decide)⟩⟩
theorem main_1_1 : Claimed_1_1 := comes_1 fun _ _ _ _ _ _ h hF => ⟨h.1, hF⟩
theorem main_1_2 : Claimed_1_2 := comes_1 fun _ _ _ _ _ _ h hF => ⟨h.2.1, hF⟩
end Jvm.Pilot.@@N@@
namespace Jvm.Pilot.@@N@@
open Jvm Jvm.ClassFile Sem Op Lib Jvm.Free Jvm.Stand Jvm.Pilot.@@N@@.Jvm.D
/-! MADE BY PROGRAM (witnessworld.py) out of the Statement's table words and the real class files: 20 classes; the members and pool entries that the words name. The judged class is class 1, her method 3. -/
namespace start1
open Jvm.ClassFile
def u (s : String) : CpInfo := .utf8 (stringToUtf16 s)
/-- a pool by its gaps: so many unusable entries, then the entry; so many at the end -/
def gap : Nat → List CpInfo → List CpInfo
  | 0, r => r
  | n + 1, r => .unusable :: gap n r
def poolList (es : List (Nat × CpInfo)) (last : Nat) : List CpInfo := es.foldr (fun e r => gap e.1 (e.2 :: r)) (gap last [])
def pool (es : List (Nat × CpInfo)) (last : Nat) : Array CpInfo := ⟨poolList es last⟩
def fileOf (pool : Array CpInfo) (this : Nat) (attrs : Array Attribute := #[]) (ms : Array MethodInfo := #[]) (fl : Nat := 33) (sup : Nat := 0) (ifs : Array Nat := #[]) (fds : Array FieldInfo := #[]) : ClassFile where
  minorVersion := 0
  majorVersion := 65
  constantPool := pool
  accessFlags := fl
  thisClass := this
  superClass := sup
  interfaces := ifs
  fields := fds
  methods := ms
  attributes := attrs
def plain (name : String) (sup : Option ClassId) : Class where
  name := name
  kind := .ordinary
  loader := none
  accessFlags := 33
  super := sup
  interfaces := #[]
  cf := none
  fields := #[]
  methods := #[]
  instanceTypes := #[]
  staticTypes := #[]
  resolved := #[]
  callSites := []
  init := .initialized
  statics := none
  mirror := none

def pool0 : Array CpInfo := pool [(5, u "<init>"), (0, u "()V"), (1, .class_ 10), (1, u "java/lang/Object")] 113

def k0c0 : Code := { maxStack := 0, maxLocals := 1, code := object_method_1_code, exceptionTable := #[], attributes := #[] }
def k0m0 : Method := { name := "<init>", desc := "()V", sig := { parameters := [], returnType := none }, accessFlags := 1, code := some k0c0 }
/-- java/lang/Object -/
def k0 : Class := { plain "java/lang/Object" none with
  accessFlags := 33
  interfaces := #[]
  cf := some (fileOf pool0 8 #[] #[{ accessFlags := 1, nameIndex := 5, descriptorIndex := 6, attributes := #[] }] 33 0 #[] #[])
  fields := #[]
  methods := #[k0m0]
  instanceTypes := #[]
  staticTypes := #[]
  resolved := Array.replicate 124 none
  statics := none }

def pool1 : Array CpInfo := pool [(2, .class_ 4), (1, u "java/lang/Object"), (0, u "<init>"), (0, u "()V"), (0, .class_ 8), (0, u "java/lang/String"), (0, .methodref 7 10), (0, .nameAndType 5 11), (0, u "([C)V"), (0, .methodref 13 14), (0, .class_ 15), (0, .nameAndType 16 17), (0, u "com/example/kommit/kommit/EntryEqualsPinLaw"), (0, u "str"), (0, u "(ICC)Ljava/lang/String;"), (0, .class_ 19), (0, u "com/example/kommit/kommit/KeyCounters$Entry"), (0, .methodref 18 21), (0, .nameAndType 5 22), (0, u "(Ljava/lang/String;Ljava/lang/String;JJ)V"), (0, .methodref 18 24), (0, .nameAndType 25 26), (0, u "equals"), (0, u "(Ljava/lang/Object;)Z"), (0, .methodref 13 28), (0, .nameAndType 29 30), (0, u "same"), (0, u "(ICCICC)Z"), (5, u "law"), (0, u "(IIJJIJ)Z")] 6

def k1m0 : Method := { name := "<init>", desc := "()V", sig := { parameters := [], returnType := none }, accessFlags := 1, code := none }
def k1c1 : Code := { maxStack := 3, maxLocals := 4, code := method_2_code, exceptionTable := #[], attributes := #[] }
def k1m1 : Method := { name := "str", desc := "(ICC)Ljava/lang/String;", sig := { parameters := [.int, .char, .char], returnType := some (.object "java/lang/String") }, accessFlags := 10, code := some k1c1 }
def k1c2 : Code := { maxStack := 2, maxLocals := 6, code := method_3_code, exceptionTable := #[], attributes := #[] }
def k1m2 : Method := { name := "same", desc := "(ICCICC)Z", sig := { parameters := [.int, .char, .char, .int, .char, .char], returnType := some .boolean }, accessFlags := 10, code := some k1c2 }
def k1c3 : Code := { maxStack := 8, maxLocals := 34, code := code, exceptionTable := #[], attributes := #[] }
def k1m3 : Method := { name := "law", desc := "(IIJJIJ)Z", sig := { parameters := [.int, .int, .long, .long, .int, .long], returnType := some .boolean }, accessFlags := 9, code := some k1c3 }
/-- com/example/kommit/kommit/EntryEqualsPinLaw -/
def k1 : Class := { plain "com/example/kommit/kommit/EntryEqualsPinLaw" (some 0) with
  accessFlags := 49
  interfaces := #[]
  cf := some (fileOf pool1 13 #[] #[{ accessFlags := 1, nameIndex := 5, descriptorIndex := 6, attributes := #[] }, { accessFlags := 10, nameIndex := 16, descriptorIndex := 17, attributes := #[] }, { accessFlags := 10, nameIndex := 29, descriptorIndex := 30, attributes := #[] }, { accessFlags := 9, nameIndex := 36, descriptorIndex := 37, attributes := #[] }] 49 2 #[] #[])
  fields := #[]
  methods := #[k1m0, k1m1, k1m2, k1m3]
  instanceTypes := #[]
  staticTypes := #[]
  resolved := Array.replicate 44 none
  statics := none }

def pool2 : Array CpInfo := pool [(1, .class_ 2), (0, u "java/io/Serializable"), (0, .class_ 4), (0, u "java/lang/Object")] 2

/-- java/io/Serializable -/
def k2 : Class := { plain "java/io/Serializable" (some 0) with
  accessFlags := 1537
  interfaces := #[]
  cf := some (fileOf pool2 1 #[] #[] 1537 3 #[] #[])
  fields := #[]
  methods := #[]
  instanceTypes := #[]
  staticTypes := #[]
  resolved := Array.replicate 7 none
  statics := none }

def pool3 : Array CpInfo := pool [(1, .class_ 2), (0, u "java/lang/Comparable"), (0, .class_ 4), (0, u "java/lang/Object")] 7

/-- java/lang/Comparable -/
def k3 : Class := { plain "java/lang/Comparable" (some 0) with
  accessFlags := 1537
  interfaces := #[]
  cf := some (fileOf pool3 1 #[] #[] 1537 3 #[] #[])
  fields := #[]
  methods := #[]
  instanceTypes := #[]
  staticTypes := #[]
  resolved := Array.replicate 12 none
  statics := none }

def pool4 : Array CpInfo := pool [(2, .class_ 4), (1, u "java/lang/CharSequence"), (42, .class_ 48), (0, u "java/lang/CharSequence$1CodePointIterator"), (10, .class_ 60), (0, u "java/lang/CharSequence$1CharIterator"), (5, .class_ 67), (0, u "java/lang/Object")] 63

/-- java/lang/CharSequence -/
def k4 : Class := { plain "java/lang/CharSequence" (some 0) with
  accessFlags := 1537
  interfaces := #[]
  cf := some (fileOf pool4 2 #[.nestMembers #[47, 59]] #[] 1537 66 #[] #[])
  fields := #[]
  methods := #[]
  instanceTypes := #[]
  staticTypes := #[]
  resolved := Array.replicate 131 none
  statics := none }

def pool5 : Array CpInfo := pool [(1, .class_ 2), (0, u "java/lang/constant/Constable"), (0, .class_ 4), (0, u "java/lang/Object")] 6

/-- java/lang/constant/Constable -/
def k5 : Class := { plain "java/lang/constant/Constable" (some 0) with
  accessFlags := 1537
  interfaces := #[]
  cf := some (fileOf pool5 1 #[] #[] 1537 3 #[] #[])
  fields := #[]
  methods := #[]
  instanceTypes := #[]
  staticTypes := #[]
  resolved := Array.replicate 11 none
  statics := none }

def pool6 : Array CpInfo := pool [(1, .class_ 2), (0, u "java/lang/constant/ConstantDesc"), (0, .class_ 4), (0, u "java/lang/Object")] 32

/-- java/lang/constant/ConstantDesc -/
def k6 : Class := { plain "java/lang/constant/ConstantDesc" (some 0) with
  accessFlags := 1537
  interfaces := #[]
  cf := some (fileOf pool6 1 #[] #[] 1537 3 #[] #[])
  fields := #[]
  methods := #[]
  instanceTypes := #[]
  staticTypes := #[]
  resolved := Array.replicate 37 none
  statics := none }

def pool7 : Array CpInfo := pool [(1, .methodref 2 3), (0, .class_ 4), (0, .nameAndType 5 6), (0, u "java/lang/Object"), (0, u "<init>"), (0, u "()V"), (0, .string 8), (0, u ""), (0, .fieldref 10 11), (0, .class_ 12), (0, .nameAndType 13 14), (0, u "java/lang/String"), (0, u "value"), (0, u "[B"), (0, .fieldref 10 16), (0, .nameAndType 17 18), (0, u "coder"), (0, u "B"), (2, u "hash"), (0, u "I"), (2, u "hashIsZero"), (0, u "Z"), (0, .methodref 10 28), (0, .nameAndType 5 29), (0, u "([CIILjava/lang/Void;)V"), (8, .fieldref 10 39), (0, .nameAndType 40 26), (0, u "COMPACT_STRINGS"), (1, .class_ 44), (1, u "java/lang/StringUTF16"), (0, u "compress"), (1, .methodref 42 48), (0, .nameAndType 49 50), (0, u "coderFromArrayLen"), (0, u "([BI)B"), (56, .class_ 109), (1, u "java/lang/StringLatin1"), (67, .methodref 42 178), (0, .nameAndType 45 179), (0, u "([CII)[B"), (361, .methodref 107 542), (0, .nameAndType 543 544), (0, u "equals"), (0, u "([B[B)Z"), (28, u "(Ljava/lang/Object;)Z"), (1, .class_ 576), (0, u "java/lang/CharSequence"), (22, u "CASE_INSENSITIVE_ORDER"), (0, u "Ljava/util/Comparator;"), (409, u "([C)V"), (90, u "serialPersistentFields"), (0, u "[Ljava/io/ObjectStreamField;"), (0, .class_ 1104), (0, u "java/lang/String$CaseInsensitiveComparator"), (1, .class_ 1107), (0, u "java/io/Serializable"), (0, .class_ 1109), (0, u "java/lang/Comparable"), (0, .class_ 1111), (0, u "java/lang/constant/Constable"), (0, .class_ 1113), (0, u "java/lang/constant/ConstantDesc"), (2, u "serialVersionUID"), (0, u "J"), (3, u "REPL"), (0, u "C"), (2, u "LATIN1"), (1, u "UTF16")] 323

def k7m0 : Method := { name := "<init>", desc := "()V", sig := { parameters := [], returnType := none }, accessFlags := 1, code := none }
def k7c1 : Code := { maxStack := 5, maxLocals := 2, code := jdk_42_method_3_code, exceptionTable := #[], attributes := #[] }
def k7m1 : Method := { name := "<init>", desc := "([C)V", sig := { parameters := [(.array .char)], returnType := none }, accessFlags := 1, code := some k7c1 }
def k7c2 : Code := { maxStack := 2, maxLocals := 3, code := jdk_42_method_66_code, exceptionTable := #[], attributes := #[] }
def k7m2 : Method := { name := "equals", desc := "(Ljava/lang/Object;)Z", sig := { parameters := [(.object "java/lang/Object")], returnType := some .boolean }, accessFlags := 1, code := some k7c2 }
def k7c3 : Code := { maxStack := 4, maxLocals := 6, code := jdk_42_method_149_code, exceptionTable := #[], attributes := #[] }
def k7m3 : Method := { name := "<init>", desc := "([CIILjava/lang/Void;)V", sig := { parameters := [(.array .char), .int, .int, (.object "java/lang/Void")], returnType := none }, accessFlags := 2, code := some k7c3 }
/-- java/lang/String -/
def k7 : Class := { plain "java/lang/String" (some 0) with
  accessFlags := 49
  interfaces := #[2, 3, 4, 5, 6]
  cf := some (fileOf pool7 10 #[.nestMembers #[1103]] #[{ accessFlags := 1, nameIndex := 5, descriptorIndex := 6, attributes := #[] }, { accessFlags := 1, nameIndex := 5, descriptorIndex := 1010, attributes := #[] }, { accessFlags := 1, nameIndex := 543, descriptorIndex := 573, attributes := #[] }, { accessFlags := 2, nameIndex := 5, descriptorIndex := 29, attributes := #[] }] 49 2 #[1106, 1108, 575, 1110, 1112] #[{ accessFlags := 18, nameIndex := 13, descriptorIndex := 14, attributes := #[] }, { accessFlags := 18, nameIndex := 17, descriptorIndex := 18, attributes := #[] }, { accessFlags := 2, nameIndex := 21, descriptorIndex := 22, attributes := #[] }, { accessFlags := 2, nameIndex := 25, descriptorIndex := 26, attributes := #[] }, { accessFlags := 26, nameIndex := 1116, descriptorIndex := 1117, attributes := #[] }, { accessFlags := 24, nameIndex := 40, descriptorIndex := 26, attributes := #[] }, { accessFlags := 26, nameIndex := 1101, descriptorIndex := 1102, attributes := #[] }, { accessFlags := 26, nameIndex := 1121, descriptorIndex := 1122, attributes := #[] }, { accessFlags := 25, nameIndex := 599, descriptorIndex := 600, attributes := #[] }, { accessFlags := 24, nameIndex := 1125, descriptorIndex := 18, attributes := #[] }, { accessFlags := 24, nameIndex := 1127, descriptorIndex := 18, attributes := #[] }])
  fields := #[{ name := "value", type := (.array .byte), accessFlags := 18, slot := 0, constantValue := 0 }, { name := "coder", type := .byte, accessFlags := 18, slot := 1, constantValue := 0 }, { name := "hash", type := .int, accessFlags := 2, slot := 2, constantValue := 0 }, { name := "hashIsZero", type := .boolean, accessFlags := 2, slot := 3, constantValue := 0 }, { name := "serialVersionUID", type := .long, accessFlags := 26, slot := 0, constantValue := 0 }, { name := "COMPACT_STRINGS", type := .boolean, accessFlags := 24, slot := 1, constantValue := 0 }, { name := "serialPersistentFields", type := (.array (.object "java/io/ObjectStreamField")), accessFlags := 26, slot := 2, constantValue := 0 }, { name := "REPL", type := .char, accessFlags := 26, slot := 3, constantValue := 0 }, { name := "CASE_INSENSITIVE_ORDER", type := (.object "java/util/Comparator"), accessFlags := 25, slot := 4, constantValue := 0 }, { name := "LATIN1", type := .byte, accessFlags := 24, slot := 5, constantValue := 0 }, { name := "UTF16", type := .byte, accessFlags := 24, slot := 6, constantValue := 0 }]
  methods := #[k7m0, k7m1, k7m2, k7m3]
  instanceTypes := #[(.array .byte), .byte, .int, .boolean]
  staticTypes := #[.long, .boolean, (.array (.object "java/io/ObjectStreamField")), .char, (.object "java/util/Comparator"), .byte, .byte]
  resolved := Array.replicate 1451 none
  statics := some 0 }

def pool8 : Array CpInfo := pool [(1, .methodref 2 3), (0, .class_ 4), (0, .nameAndType 5 6), (0, u "java/lang/Object"), (0, u "<init>"), (0, u "()V"), (0, .fieldref 8 9), (0, .class_ 10), (0, .nameAndType 11 12), (0, u "com/example/kommit/kommit/KeyCounters$Entry"), (0, u "kind"), (0, u "Ljava/lang/String;"), (0, .fieldref 8 14), (0, .nameAndType 15 12), (0, u "name"), (0, .fieldref 8 17), (0, .nameAndType 18 19), (0, u "first"), (0, u "J"), (0, .fieldref 8 21), (0, .nameAndType 22 19), (0, u "second"), (0, .methodref 24 25), (0, .class_ 26), (0, .nameAndType 27 28), (0, u "java/lang/String"), (0, u "equals"), (0, u "(Ljava/lang/Object;)Z"), (9, u "(Ljava/lang/String;Ljava/lang/String;JJ)V"), (8, .class_ 48), (0, u "com/example/kommit/kommit/KeyCounters")] 2

def k8c0 : Code := { maxStack := 3, maxLocals := 7, code := prog_11_method_1_code, exceptionTable := #[], attributes := #[] }
def k8m0 : Method := { name := "<init>", desc := "(Ljava/lang/String;Ljava/lang/String;JJ)V", sig := { parameters := [(.object "java/lang/String"), (.object "java/lang/String"), .long, .long], returnType := none }, accessFlags := 0, code := some k8c0 }
def k8c1 : Code := { maxStack := 4, maxLocals := 2, code := prog_11_method_6_code, exceptionTable := #[], attributes := #[] }
def k8m1 : Method := { name := "equals", desc := "(Ljava/lang/Object;)Z", sig := { parameters := [(.object "java/lang/Object")], returnType := some .boolean }, accessFlags := 1, code := some k8c1 }
/-- com/example/kommit/kommit/KeyCounters$Entry -/
def k8 : Class := { plain "com/example/kommit/kommit/KeyCounters$Entry" (some 0) with
  accessFlags := 49
  interfaces := #[]
  cf := some (fileOf pool8 8 #[.nestHost 47] #[{ accessFlags := 0, nameIndex := 5, descriptorIndex := 38, attributes := #[] }, { accessFlags := 1, nameIndex := 27, descriptorIndex := 28, attributes := #[] }] 49 2 #[] #[{ accessFlags := 18, nameIndex := 11, descriptorIndex := 12, attributes := #[] }, { accessFlags := 18, nameIndex := 15, descriptorIndex := 12, attributes := #[] }, { accessFlags := 18, nameIndex := 18, descriptorIndex := 19, attributes := #[] }, { accessFlags := 18, nameIndex := 22, descriptorIndex := 19, attributes := #[] }])
  fields := #[{ name := "kind", type := (.object "java/lang/String"), accessFlags := 18, slot := 0, constantValue := 0 }, { name := "name", type := (.object "java/lang/String"), accessFlags := 18, slot := 1, constantValue := 0 }, { name := "first", type := .long, accessFlags := 18, slot := 2, constantValue := 0 }, { name := "second", type := .long, accessFlags := 18, slot := 3, constantValue := 0 }]
  methods := #[k8m0, k8m1]
  instanceTypes := #[(.object "java/lang/String"), (.object "java/lang/String"), .long, .long]
  staticTypes := #[]
  resolved := Array.replicate 51 none
  statics := none }

def pool9 : Array CpInfo := pool [(4, .class_ 6), (1, u "java/lang/Object"), (0, u "<init>"), (0, u "()V"), (5, .class_ 16), (1, u "java/lang/StringLatin1"), (104, u "$assertionsDisabled"), (0, u "Z"), (98, .class_ 223), (1, u "java/lang/StringLatin1$LinesSpliterator"), (57, u "equals"), (0, u "([B[B)Z"), (107, .class_ 391), (0, u "java/lang/StringLatin1$CharsSpliterator")] 3

def k9m0 : Method := { name := "<init>", desc := "()V", sig := { parameters := [], returnType := none }, accessFlags := 0, code := none }
def k9c1 : Code := { maxStack := 3, maxLocals := 3, code := jdk_43_method_13_code, exceptionTable := #[], attributes := #[] }
def k9m1 : Method := { name := "equals", desc := "([B[B)Z", sig := { parameters := [(.array .byte), (.array .byte)], returnType := some .boolean }, accessFlags := 9, code := some k9c1 }
/-- java/lang/StringLatin1 -/
def k9 : Class := { plain "java/lang/StringLatin1" (some 0) with
  accessFlags := 48
  interfaces := #[]
  cf := some (fileOf pool9 14 #[.nestMembers #[390, 221]] #[{ accessFlags := 0, nameIndex := 7, descriptorIndex := 8, attributes := #[] }, { accessFlags := 9, nameIndex := 281, descriptorIndex := 282, attributes := #[] }] 48 4 #[] #[{ accessFlags := 4120, nameIndex := 121, descriptorIndex := 122, attributes := #[] }])
  fields := #[{ name := "$assertionsDisabled", type := .boolean, accessFlags := 4120, slot := 0, constantValue := 0 }]
  methods := #[k9m0, k9m1]
  instanceTypes := #[]
  staticTypes := #[.boolean]
  resolved := Array.replicate 395 none
  statics := none }

def pool10 : Array CpInfo := pool [(6, .class_ 8), (1, u "java/lang/Object"), (0, u "<init>"), (0, u "()V"), (1, .class_ 14), (1, u "java/lang/StringUTF16"), (31, u "$assertionsDisabled"), (0, u "Z"), (13, u "HI_BYTE_SHIFT"), (0, u "I"), (2, u "LO_BYTE_SHIFT"), (49, .methodref 12 116), (0, .nameAndType 117 118), (0, u "compress"), (0, u "([CI[BII)I"), (3, u "([CII)[B"), (138, u "coderFromArrayLen"), (0, u "([BI)B"), (106, .class_ 371), (1, u "java/lang/StringUTF16$LinesSpliterator"), (58, u "MAX_LENGTH"), (196, .class_ 628), (0, u "java/lang/StringUTF16$CodePointsSpliterator"), (0, .class_ 630), (0, u "java/lang/StringUTF16$CharsSpliterator")] 4

def k10m0 : Method := { name := "<init>", desc := "()V", sig := { parameters := [], returnType := none }, accessFlags := 0, code := none }
def k10c1 : Code := { maxStack := 2, maxLocals := 2, code := jdk_52_method_15_code, exceptionTable := #[], attributes := #[] }
def k10m1 : Method := { name := "coderFromArrayLen", desc := "([BI)B", sig := { parameters := [(.array .byte), .int], returnType := some .byte }, accessFlags := 8, code := some k10c1 }
def k10c2 : Code := { maxStack := 5, maxLocals := 6, code := jdk_52_method_16_code, exceptionTable := #[], attributes := #[] }
def k10m2 : Method := { name := "compress", desc := "([CII)[B", sig := { parameters := [(.array .char), .int, .int], returnType := some (.array .byte) }, accessFlags := 9, code := some k10c2 }
def k10c3 : Code := { maxStack := 3, maxLocals := 7, code := jdk_52_method_21_code, exceptionTable := #[], attributes := #[] }
def k10m3 : Method := { name := "compress", desc := "([CI[BII)I", sig := { parameters := [(.array .char), .int, (.array .byte), .int, .int], returnType := some .int }, accessFlags := 9, code := some k10c3 }
/-- java/lang/StringUTF16 -/
def k10 : Class := { plain "java/lang/StringUTF16" (some 0) with
  accessFlags := 48
  interfaces := #[]
  cf := some (fileOf pool10 12 #[.nestMembers #[627, 629, 369]] #[{ accessFlags := 0, nameIndex := 9, descriptorIndex := 10, attributes := #[] }, { accessFlags := 8, nameIndex := 261, descriptorIndex := 262, attributes := #[] }, { accessFlags := 9, nameIndex := 117, descriptorIndex := 122, attributes := #[] }, { accessFlags := 9, nameIndex := 117, descriptorIndex := 118, attributes := #[] }] 48 6 #[] #[{ accessFlags := 26, nameIndex := 61, descriptorIndex := 62, attributes := #[] }, { accessFlags := 26, nameIndex := 65, descriptorIndex := 62, attributes := #[] }, { accessFlags := 24, nameIndex := 430, descriptorIndex := 62, attributes := #[] }, { accessFlags := 4120, nameIndex := 46, descriptorIndex := 47, attributes := #[] }])
  fields := #[{ name := "HI_BYTE_SHIFT", type := .int, accessFlags := 26, slot := 0, constantValue := 0 }, { name := "LO_BYTE_SHIFT", type := .int, accessFlags := 26, slot := 1, constantValue := 0 }, { name := "MAX_LENGTH", type := .int, accessFlags := 24, slot := 2, constantValue := 0 }, { name := "$assertionsDisabled", type := .boolean, accessFlags := 4120, slot := 3, constantValue := 0 }]
  methods := #[k10m0, k10m1, k10m2, k10m3]
  instanceTypes := #[]
  staticTypes := #[.int, .int, .int, .boolean]
  resolved := Array.replicate 635 none
  statics := none }

def pool11 : Array CpInfo := pool [(2, .class_ 4), (1, u "java/lang/Object"), (0, u "<init>"), (0, u "()V"), (17, .class_ 26), (1, u "jdk/internal/util/Preconditions"), (28, .class_ 56), (0, u "jdk/internal/util/Preconditions$4"), (57, .class_ 115), (0, u "jdk/internal/util/Preconditions$1"), (7, u "SIOOBE_FORMATTER"), (0, u "Ljava/util/function/BiFunction;"), (0, .class_ 126), (0, u "jdk/internal/util/Preconditions$2"), (3, u "AIOOBE_FORMATTER"), (0, .class_ 132), (0, u "jdk/internal/util/Preconditions$3"), (3, u "IOOBE_FORMATTER")] 57

def k11m0 : Method := { name := "<init>", desc := "()V", sig := { parameters := [], returnType := none }, accessFlags := 1, code := none }
/-- jdk/internal/util/Preconditions -/
def k11 : Class := { plain "jdk/internal/util/Preconditions" (some 0) with
  accessFlags := 33
  interfaces := #[]
  cf := some (fileOf pool11 24 #[.nestMembers #[55, 131, 125, 114]] #[{ accessFlags := 1, nameIndex := 5, descriptorIndex := 6, attributes := #[] }] 33 2 #[] #[{ accessFlags := 25, nameIndex := 123, descriptorIndex := 124, attributes := #[] }, { accessFlags := 25, nameIndex := 130, descriptorIndex := 124, attributes := #[] }, { accessFlags := 25, nameIndex := 136, descriptorIndex := 124, attributes := #[] }])
  fields := #[{ name := "SIOOBE_FORMATTER", type := (.object "java/util/function/BiFunction"), accessFlags := 25, slot := 0, constantValue := 0 }, { name := "AIOOBE_FORMATTER", type := (.object "java/util/function/BiFunction"), accessFlags := 25, slot := 1, constantValue := 0 }, { name := "IOOBE_FORMATTER", type := (.object "java/util/function/BiFunction"), accessFlags := 25, slot := 2, constantValue := 0 }]
  methods := #[k11m0]
  instanceTypes := #[]
  staticTypes := #[(.object "java/util/function/BiFunction"), (.object "java/util/function/BiFunction"), (.object "java/util/function/BiFunction")]
  resolved := Array.replicate 194 none
  statics := some 1 }

def pool12 : Array CpInfo := pool [(9, u "<init>"), (6, .class_ 18), (1, u "java/lang/Object"), (0, u "()V"), (1, .class_ 23), (1, u "jdk/internal/util/ArraysSupport"), (0, u "LOG2_ARRAY_LONG_INDEX_SCALE"), (0, u "I"), (2, u "U"), (0, u "Ljdk/internal/misc/Unsafe;"), (8, u "BIG_ENDIAN"), (0, u "Z"), (8, u "LOG2_BYTE_BIT_SIZE"), (4, u "LOG2_ARRAY_INT_INDEX_SCALE"), (54, u "JLA"), (0, u "Ljdk/internal/access/JavaLangAccess;"), (11, u "LOG2_ARRAY_BOOLEAN_INDEX_SCALE"), (9, u "LOG2_ARRAY_BYTE_INDEX_SCALE"), (5, u "LOG2_ARRAY_CHAR_INDEX_SCALE"), (5, u "LOG2_ARRAY_SHORT_INDEX_SCALE"), (18, u "LOG2_ARRAY_FLOAT_INDEX_SCALE"), (24, u "LOG2_ARRAY_DOUBLE_INDEX_SCALE"), (89, u "T_BOOLEAN"), (2, u "T_CHAR"), (1, u "T_FLOAT"), (1, u "T_DOUBLE"), (1, u "T_BYTE"), (1, u "T_SHORT"), (1, u "T_INT"), (1, u "T_LONG"), (1, u "SOFT_MAX_ARRAY_LENGTH")] 83

def k12m0 : Method := { name := "<init>", desc := "()V", sig := { parameters := [], returnType := none }, accessFlags := 2, code := none }
/-- jdk/internal/util/ArraysSupport -/
def k12 : Class := { plain "jdk/internal/util/ArraysSupport" (some 0) with
  accessFlags := 33
  interfaces := #[]
  cf := some (fileOf pool12 21 #[] #[{ accessFlags := 2, nameIndex := 9, descriptorIndex := 19, attributes := #[] }] 33 16 #[] #[{ accessFlags := 24, nameIndex := 28, descriptorIndex := 29, attributes := #[] }, { accessFlags := 26, nameIndex := 38, descriptorIndex := 39, attributes := #[] }, { accessFlags := 25, nameIndex := 121, descriptorIndex := 25, attributes := #[] }, { accessFlags := 25, nameIndex := 131, descriptorIndex := 25, attributes := #[] }, { accessFlags := 25, nameIndex := 137, descriptorIndex := 25, attributes := #[] }, { accessFlags := 25, nameIndex := 143, descriptorIndex := 25, attributes := #[] }, { accessFlags := 25, nameIndex := 53, descriptorIndex := 25, attributes := #[] }, { accessFlags := 25, nameIndex := 24, descriptorIndex := 25, attributes := #[] }, { accessFlags := 25, nameIndex := 162, descriptorIndex := 25, attributes := #[] }, { accessFlags := 25, nameIndex := 187, descriptorIndex := 25, attributes := #[] }, { accessFlags := 26, nameIndex := 48, descriptorIndex := 25, attributes := #[] }, { accessFlags := 25, nameIndex := 277, descriptorIndex := 25, attributes := #[] }, { accessFlags := 25, nameIndex := 280, descriptorIndex := 25, attributes := #[] }, { accessFlags := 25, nameIndex := 282, descriptorIndex := 25, attributes := #[] }, { accessFlags := 25, nameIndex := 284, descriptorIndex := 25, attributes := #[] }, { accessFlags := 25, nameIndex := 286, descriptorIndex := 25, attributes := #[] }, { accessFlags := 25, nameIndex := 288, descriptorIndex := 25, attributes := #[] }, { accessFlags := 25, nameIndex := 290, descriptorIndex := 25, attributes := #[] }, { accessFlags := 25, nameIndex := 292, descriptorIndex := 25, attributes := #[] }, { accessFlags := 26, nameIndex := 108, descriptorIndex := 109, attributes := #[] }, { accessFlags := 25, nameIndex := 294, descriptorIndex := 25, attributes := #[] }])
  fields := #[{ name := "U", type := (.object "jdk/internal/misc/Unsafe"), accessFlags := 24, slot := 0, constantValue := 0 }, { name := "BIG_ENDIAN", type := .boolean, accessFlags := 26, slot := 1, constantValue := 0 }, { name := "LOG2_ARRAY_BOOLEAN_INDEX_SCALE", type := .int, accessFlags := 25, slot := 2, constantValue := 0 }, { name := "LOG2_ARRAY_BYTE_INDEX_SCALE", type := .int, accessFlags := 25, slot := 3, constantValue := 0 }, { name := "LOG2_ARRAY_CHAR_INDEX_SCALE", type := .int, accessFlags := 25, slot := 4, constantValue := 0 }, { name := "LOG2_ARRAY_SHORT_INDEX_SCALE", type := .int, accessFlags := 25, slot := 5, constantValue := 0 }, { name := "LOG2_ARRAY_INT_INDEX_SCALE", type := .int, accessFlags := 25, slot := 6, constantValue := 0 }, { name := "LOG2_ARRAY_LONG_INDEX_SCALE", type := .int, accessFlags := 25, slot := 7, constantValue := 0 }, { name := "LOG2_ARRAY_FLOAT_INDEX_SCALE", type := .int, accessFlags := 25, slot := 8, constantValue := 0 }, { name := "LOG2_ARRAY_DOUBLE_INDEX_SCALE", type := .int, accessFlags := 25, slot := 9, constantValue := 0 }, { name := "LOG2_BYTE_BIT_SIZE", type := .int, accessFlags := 26, slot := 10, constantValue := 0 }, { name := "T_BOOLEAN", type := .int, accessFlags := 25, slot := 11, constantValue := 0 }, { name := "T_CHAR", type := .int, accessFlags := 25, slot := 12, constantValue := 0 }, { name := "T_FLOAT", type := .int, accessFlags := 25, slot := 13, constantValue := 0 }, { name := "T_DOUBLE", type := .int, accessFlags := 25, slot := 14, constantValue := 0 }, { name := "T_BYTE", type := .int, accessFlags := 25, slot := 15, constantValue := 0 }, { name := "T_SHORT", type := .int, accessFlags := 25, slot := 16, constantValue := 0 }, { name := "T_INT", type := .int, accessFlags := 25, slot := 17, constantValue := 0 }, { name := "T_LONG", type := .int, accessFlags := 25, slot := 18, constantValue := 0 }, { name := "JLA", type := (.object "jdk/internal/access/JavaLangAccess"), accessFlags := 26, slot := 19, constantValue := 0 }, { name := "SOFT_MAX_ARRAY_LENGTH", type := .int, accessFlags := 25, slot := 20, constantValue := 0 }]
  methods := #[k12m0]
  instanceTypes := #[]
  staticTypes := #[(.object "jdk/internal/misc/Unsafe"), .boolean, .int, .int, .int, .int, .int, .int, .int, .int, .int, .int, .int, .int, .int, .int, .int, .int, .int, (.object "jdk/internal/access/JavaLangAccess"), .int]
  resolved := Array.replicate 378 none
  statics := none }

def pool13 : Array CpInfo := pool [(1, u "java/lang/Cloneable"), (0, .class_ 1), (0, u "java/lang/Object"), (0, .class_ 3)] 3

/-- java/lang/Cloneable -/
def k13 : Class := { plain "java/lang/Cloneable" (some 0) with
  accessFlags := 1537
  interfaces := #[]
  cf := some (fileOf pool13 2 #[] #[] 1537 4 #[] #[])
  fields := #[]
  methods := #[]
  instanceTypes := #[]
  staticTypes := #[]
  resolved := Array.replicate 8 none
  statics := none }

/-- the primitive byte -/
def k14 : Class := { plain "byte" none with kind := .primitive 'B', accessFlags := 0x411 }
/-- [B -/
def k15 : Class := { plain "[B" (some 0) with kind := .array 14 .byte, interfaces := #[13, 2], accessFlags := 1041 }

/-- the primitive char -/
def k16 : Class := { plain "char" none with kind := .primitive 'C', accessFlags := 0x411 }
/-- [C -/
def k17 : Class := { plain "[C" (some 0) with kind := .array 16 .char, interfaces := #[13, 2], accessFlags := 1041 }

/-- the primitive int -/
def k18 : Class := { plain "int" none with kind := .primitive 'I', accessFlags := 0x411 }
/-- [I -/
def k19 : Class := { plain "[I" (some 0) with kind := .array 18 .int, interfaces := #[13, 2], accessFlags := 1041 }

def heap : Heap := #[{ cls := 7, slots := #[.long 0, .int 1, .null, .int 0, .null, .int 0, .int 0], vm := .statics 7 },
  { cls := 11, slots := #[.null, .null, .null], vm := .statics 11 }]
def classes : Array Class := #[k0, k1, k2, k3, k4, k5, k6, k7, k8, k9, k10, k11, k12, k13, k14, k15, k16, k17, k18, k19]
def interned : List (Array UInt16 × Addr) := []
def slotsUsed : Nat := 10
def theMethod : MethodId := ⟨1, 3⟩
def args0 : Array Value := #[.int 5, .int 7, .long 3, .long 1, .int 2, .long 9]
def aboutOver (below : List Frame) : State where
  vm := { classes := classes, interned := interned.toArray }
  heap := heap
  slotsUsed := slotsUsed
  threads := #[{ frames := .invoking theMethod args0 :: below }]
def below0 : List Frame := [.native { method := ⟨0, 0⟩, args := #[] }]
def about1 : State := aboutOver below0
def p0 : Program := .bare "" "" ""
def e0 : Env := launch0.env 0 0 0
theorem w_frames : about1.frames = Frame.invoking theMethod args0 :: below0 := rfl
set_option maxRecDepth 65536 in
theorem w_args : argsFit about1.vm theMethod args0 = true := by decide +kernel
set_option maxRecDepth 65536 in
theorem w_heap : heapFits about1 = true := by decide +kernel
set_option maxRecDepth 65536 in
theorem w_runnable : about1.curStatus? = some .runnable := by decide +kernel
set_option maxRecDepth 65536 in
theorem w_alone : about1.alone = true := by decide +kernel
set_option maxRecDepth 65536 in
theorem w_named : about1.methodNamed? x = some theMethod := by decide +kernel
set_option maxRecDepth 65536 in
theorem w_hears : about1.hears theMethod below0 = true := by decide +kernel
set_option maxRecDepth 65536 in
theorem w_ripe : about1.ripe theMethod args0 below0 = true := by decide +kernel
theorem w_running : about1.status = .running := rfl
set_option maxRecDepth 65536 in
theorem w_room : about1.hasRoom e0.platform room_1 = true :=
  launch0.hasRoom_least _ room_1 (by decide +kernel) (by decide +kernel) (by decide +kernel) (by decide +kernel) (by decide +kernel) (by decide +kernel)
theorem allAtoms_all (ts : List Jvm.Cond) (a : Array Jvm.Value) (st : Jvm.State) : (allAtoms ts).before a st = ts.all (fun c => c.before a st) := by
  induction ts with
  | nil => rfl
  | cons c t ih =>
    show (Jvm.Cond.and c (allAtoms t)).before a st = _
    rw [Jvm.Cond.before_and, ih, List.all_cons]
def words1 : List Jvm.Cond := Jvm.Cond.code x code maxLocals ret :: tables_1
/-- a 'code' word, met by the world's own term for the bytes: nothing is compared byte by byte -/
theorem code_word {y : MethodName} {bytes : ByteArray} {mx : Nat} {rt : Option FieldType} {a : Array Value} {s : State} {m : MethodId} {meth : Method} {c : Code} (h1 : s.methodNamed? y = some m) (h2 : s.vm.method? m = some meth) (h3 : meth.code = some c) (h4 : c.code = bytes)
    (h5 : (c.maxLocals == mx && c.exceptionTable.isEmpty && decide (c.maxStack ≤ mostOperands) && decide (meth.sig.returnType = rt) && !meth.locks && decide (parseMethodDescriptor y.desc = some meth.sig)) = true) : (Jvm.Cond.code y bytes mx rt).before a s = true := by
  simp only [Bool.and_eq_true, beq_iff_eq, Bool.not_eq_true', decide_eq_true_eq] at h5
  obtain ⟨⟨⟨⟨⟨g1, g2⟩, g3⟩, g4⟩, g5⟩, g6⟩ := h5
  simp [Cond.before, Cond.holds, Cond.value, h1, h2, h3, h4, g1, g2, g3, g4, g5, g6]
def isCode : Jvm.Cond → Bool
  | .code _ _ _ _ => true
  | _ => false
theorem all_split {L : List Jvm.Cond} {P : Jvm.Cond → Bool} (h1 : L.all (fun c => isCode c || P c) = true) (h2 : ∀ c ∈ L.filter isCode, P c = true) : L.all P = true := by
  refine List.all_eq_true.mpr fun c hc => ?_
  have h := List.all_eq_true.mp h1 c hc
  rcases Bool.eq_false_or_eq_true (isCode c) with hi | hi
  · exact h2 c (List.mem_filter.mpr ⟨hc, hi⟩)
  · simpa [hi] using h
set_option maxRecDepth 65536 in
theorem w_c0 : (Jvm.Cond.code x code maxLocals ret).before args0 about1 = true := code_word (m := ⟨1, 3⟩) (meth := k1m3) (c := k1c3) (by decide +kernel) rfl rfl rfl (by decide +kernel)
set_option maxRecDepth 65536 in
theorem w_c1 : (Jvm.Cond.code ({ cls := "com/example/kommit/kommit/EntryEqualsPinLaw", name := "str", desc := "(ICC)Ljava/lang/String;" } : Jvm.MethodName) method_2_code (4 : Nat) (Option.some (Jvm.ClassFile.FieldType.object "java/lang/String"))).before args0 about1 = true := code_word (m := ⟨1, 1⟩) (meth := k1m1) (c := k1c1) (by decide +kernel) rfl rfl rfl (by decide +kernel)
set_option maxRecDepth 65536 in
theorem w_c2 : (Jvm.Cond.code ({ cls := "java/lang/String", name := "<init>", desc := "([C)V" } : Jvm.MethodName) jdk_42_method_3_code (2 : Nat) (Option.none : Option Jvm.ClassFile.FieldType)).before args0 about1 = true := code_word (m := ⟨7, 1⟩) (meth := k7m1) (c := k7c1) (by decide +kernel) rfl rfl rfl (by decide +kernel)
set_option maxRecDepth 65536 in
theorem w_c3 : (Jvm.Cond.code ({ cls := "java/lang/String", name := "<init>", desc := "([CIILjava/lang/Void;)V" } : Jvm.MethodName) jdk_42_method_149_code (6 : Nat) (Option.none : Option Jvm.ClassFile.FieldType)).before args0 about1 = true := code_word (m := ⟨7, 3⟩) (meth := k7m3) (c := k7c3) (by decide +kernel) rfl rfl rfl (by decide +kernel)
set_option maxRecDepth 65536 in
theorem w_c4 : (Jvm.Cond.code ({ cls := "java/lang/Object", name := "<init>", desc := "()V" } : Jvm.MethodName) object_method_1_code (1 : Nat) (Option.none : Option Jvm.ClassFile.FieldType)).before args0 about1 = true := code_word (m := ⟨0, 0⟩) (meth := k0m0) (c := k0c0) (by decide +kernel) rfl rfl rfl (by decide +kernel)
set_option maxRecDepth 65536 in
theorem w_c5 : (Jvm.Cond.code ({ cls := "com/example/kommit/kommit/KeyCounters$Entry", name := "<init>", desc := "(Ljava/lang/String;Ljava/lang/String;JJ)V" } : Jvm.MethodName) prog_11_method_1_code (7 : Nat) (Option.none : Option Jvm.ClassFile.FieldType)).before args0 about1 = true := code_word (m := ⟨8, 0⟩) (meth := k8m0) (c := k8c0) (by decide +kernel) rfl rfl rfl (by decide +kernel)
set_option maxRecDepth 65536 in
theorem w_c6 : (Jvm.Cond.code ({ cls := "com/example/kommit/kommit/EntryEqualsPinLaw", name := "same", desc := "(ICCICC)Z" } : Jvm.MethodName) method_3_code (6 : Nat) (Option.some Jvm.ClassFile.FieldType.boolean)).before args0 about1 = true := code_word (m := ⟨1, 2⟩) (meth := k1m2) (c := k1c2) (by decide +kernel) rfl rfl rfl (by decide +kernel)
set_option maxRecDepth 65536 in
theorem w_c7 : (Jvm.Cond.code ({ cls := "com/example/kommit/kommit/KeyCounters$Entry", name := "equals", desc := "(Ljava/lang/Object;)Z" } : Jvm.MethodName) prog_11_method_6_code (2 : Nat) (Option.some Jvm.ClassFile.FieldType.boolean)).before args0 about1 = true := code_word (m := ⟨8, 1⟩) (meth := k8m1) (c := k8c1) (by decide +kernel) rfl rfl rfl (by decide +kernel)
set_option maxRecDepth 65536 in
theorem w_c8 : (Jvm.Cond.code ({ cls := "java/lang/String", name := "equals", desc := "(Ljava/lang/Object;)Z" } : Jvm.MethodName) jdk_42_method_66_code (3 : Nat) (Option.some Jvm.ClassFile.FieldType.boolean)).before args0 about1 = true := code_word (m := ⟨7, 2⟩) (meth := k7m2) (c := k7c2) (by decide +kernel) rfl rfl rfl (by decide +kernel)
set_option maxRecDepth 65536 in
theorem w_c9 : (Jvm.Cond.code ({ cls := "java/lang/StringLatin1", name := "equals", desc := "([B[B)Z" } : Jvm.MethodName) jdk_43_method_13_code (3 : Nat) (Option.some Jvm.ClassFile.FieldType.boolean)).before args0 about1 = true := code_word (m := ⟨9, 1⟩) (meth := k9m1) (c := k9c1) (by decide +kernel) rfl rfl rfl (by decide +kernel)
set_option maxRecDepth 65536 in
theorem w_c10 : (Jvm.Cond.code ({ cls := "java/lang/StringUTF16", name := "compress", desc := "([CII)[B" } : Jvm.MethodName) jdk_52_method_16_code (6 : Nat) (Option.some (Jvm.ClassFile.FieldType.array Jvm.ClassFile.FieldType.byte))).before args0 about1 = true := code_word (m := ⟨10, 2⟩) (meth := k10m2) (c := k10c2) (by decide +kernel) rfl rfl rfl (by decide +kernel)
set_option maxRecDepth 65536 in
theorem w_c11 : (Jvm.Cond.code ({ cls := "java/lang/StringUTF16", name := "compress", desc := "([CI[BII)I" } : Jvm.MethodName) jdk_52_method_21_code (7 : Nat) (Option.some Jvm.ClassFile.FieldType.int)).before args0 about1 = true := code_word (m := ⟨10, 3⟩) (meth := k10m3) (c := k10c3) (by decide +kernel) rfl rfl rfl (by decide +kernel)
set_option maxRecDepth 65536 in
theorem w_c12 : (Jvm.Cond.code ({ cls := "java/lang/StringUTF16", name := "coderFromArrayLen", desc := "([BI)B" } : Jvm.MethodName) jdk_52_method_15_code (2 : Nat) (Option.some Jvm.ClassFile.FieldType.byte)).before args0 about1 = true := code_word (m := ⟨10, 1⟩) (meth := k10m1) (c := k10c1) (by decide +kernel) rfl rfl rfl (by decide +kernel)
def codes1 : List Jvm.Cond := [Jvm.Cond.code x code maxLocals ret, Jvm.Cond.code ({ cls := "com/example/kommit/kommit/EntryEqualsPinLaw", name := "str", desc := "(ICC)Ljava/lang/String;" } : Jvm.MethodName) method_2_code (4 : Nat) (Option.some (Jvm.ClassFile.FieldType.object "java/lang/String")), Jvm.Cond.code ({ cls := "java/lang/String", name := "<init>", desc := "([C)V" } : Jvm.MethodName) jdk_42_method_3_code (2 : Nat) (Option.none : Option Jvm.ClassFile.FieldType), Jvm.Cond.code ({ cls := "java/lang/String", name := "<init>", desc := "([CIILjava/lang/Void;)V" } : Jvm.MethodName) jdk_42_method_149_code (6 : Nat) (Option.none : Option Jvm.ClassFile.FieldType), Jvm.Cond.code ({ cls := "java/lang/Object", name := "<init>", desc := "()V" } : Jvm.MethodName) object_method_1_code (1 : Nat) (Option.none : Option Jvm.ClassFile.FieldType), Jvm.Cond.code ({ cls := "com/example/kommit/kommit/KeyCounters$Entry", name := "<init>", desc := "(Ljava/lang/String;Ljava/lang/String;JJ)V" } : Jvm.MethodName) prog_11_method_1_code (7 : Nat) (Option.none : Option Jvm.ClassFile.FieldType), Jvm.Cond.code ({ cls := "com/example/kommit/kommit/EntryEqualsPinLaw", name := "same", desc := "(ICCICC)Z" } : Jvm.MethodName) method_3_code (6 : Nat) (Option.some Jvm.ClassFile.FieldType.boolean), Jvm.Cond.code ({ cls := "com/example/kommit/kommit/KeyCounters$Entry", name := "equals", desc := "(Ljava/lang/Object;)Z" } : Jvm.MethodName) prog_11_method_6_code (2 : Nat) (Option.some Jvm.ClassFile.FieldType.boolean), Jvm.Cond.code ({ cls := "java/lang/String", name := "equals", desc := "(Ljava/lang/Object;)Z" } : Jvm.MethodName) jdk_42_method_66_code (3 : Nat) (Option.some Jvm.ClassFile.FieldType.boolean), Jvm.Cond.code ({ cls := "java/lang/StringLatin1", name := "equals", desc := "([B[B)Z" } : Jvm.MethodName) jdk_43_method_13_code (3 : Nat) (Option.some Jvm.ClassFile.FieldType.boolean), Jvm.Cond.code ({ cls := "java/lang/StringUTF16", name := "compress", desc := "([CII)[B" } : Jvm.MethodName) jdk_52_method_16_code (6 : Nat) (Option.some (Jvm.ClassFile.FieldType.array Jvm.ClassFile.FieldType.byte)), Jvm.Cond.code ({ cls := "java/lang/StringUTF16", name := "compress", desc := "([CI[BII)I" } : Jvm.MethodName) jdk_52_method_21_code (7 : Nat) (Option.some Jvm.ClassFile.FieldType.int), Jvm.Cond.code ({ cls := "java/lang/StringUTF16", name := "coderFromArrayLen", desc := "([BI)B" } : Jvm.MethodName) jdk_52_method_15_code (2 : Nat) (Option.some Jvm.ClassFile.FieldType.byte)]
set_option maxRecDepth 65536 in
theorem codes_eq : words1.filter isCode = codes1 := rfl
theorem w_codes : ∀ c ∈ words1.filter isCode, c.before args0 about1 = true := by
  rw [codes_eq]
  intro c hc
  simp only [codes1, List.mem_cons, List.not_mem_nil, or_false] at hc
  rcases hc with rfl | rfl | rfl | rfl | rfl | rfl | rfl | rfl | rfl | rfl | rfl | rfl | rfl
  · exact w_c0
  · exact w_c1
  · exact w_c2
  · exact w_c3
  · exact w_c4
  · exact w_c5
  · exact w_c6
  · exact w_c7
  · exact w_c8
  · exact w_c9
  · exact w_c10
  · exact w_c11
  · exact w_c12
set_option maxRecDepth 65536 in
theorem w_t1 : (words1.take 24).all (fun c => isCode c || c.before args0 about1) = true := by decide +kernel
set_option maxRecDepth 65536 in
theorem w_t2 : ((words1.drop 24).take 24).all (fun c => isCode c || c.before args0 about1) = true := by decide +kernel
set_option maxRecDepth 65536 in
theorem w_t3 : (((words1.drop 24).drop 24).take 24).all (fun c => isCode c || c.before args0 about1) = true := by decide +kernel
set_option maxRecDepth 65536 in
theorem w_t4 : (((words1.drop 24).drop 24).drop 24).all (fun c => isCode c || c.before args0 about1) = true := by decide +kernel
theorem w_tables : (allAtoms (Jvm.Cond.code x code maxLocals ret :: tables_1)).before args0 about1 = true := by
  rw [allAtoms_all]
  show words1.all (fun c => c.before args0 about1) = true
  refine all_split ?_ w_codes
  rw [← List.take_append_drop 24 words1, List.all_append, w_t1, ← List.take_append_drop 24 (words1.drop 24), List.all_append, w_t2, ← List.take_append_drop 24 ((words1.drop 24).drop 24), List.all_append, w_t3, w_t4]
  rfl
set_option maxRecDepth 65536 in
theorem w_rest : rest_1_c.before args0 about1 = true := by decide +kernel
set_option maxRecDepth 65536 in
theorem w_case : (Jvm.Cond.and given_1 narrow_1).before args0 about1 = true := by decide +kernel
set_option maxRecDepth 65536 in
theorem w_consts : constsHeld consts_1 about1 := Jvm.Lit.constsHeldB_iff.mp (by decide +kernel)
theorem w_applies : (headSpec (Jvm.Cond.code x code maxLocals ret :: tables_1) room_1).applies x e0.platform about1 = true :=
  (Spec.applies_iff w_frames).mpr ⟨w_running, w_runnable, w_alone, w_named, w_hears, w_ripe, w_room, w_tables⟩
theorem atStart : AtStart classFile x code maxLocals ret World_1 tables_1 room_1 Calls_1 rest_1 Pre_1 launch0 p0 e0 about1 theMethod args0 below0 :=
  ⟨lists_1, trivial, launch0.admits_env _ _ _, launch0.least_env, fairChoices_fair.cas, fairChoices_fair.clock, w_frames, w_args, w_heap, w_applies, ⟨w_consts, trivial⟩, w_rest, w_case⟩
end start1
theorem witness_1 : WitnessClaimed_1 := ⟨start1.p0, start1.e0, start1.about1, start1.theMethod, start1.args0, start1.below0, start1.atStart⟩
end Jvm.Pilot.@@N@@
