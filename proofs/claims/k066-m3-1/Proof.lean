import JvmDerived
import JvmDerived.Pilot.@@N@@Statement
import JvmDerived.Pilot.@@N@@Code
set_option linter.unusedVariables false
set_option linter.unusedSimpArgs false
/- laws to paste: Road.backV (cut by pick.py; bodies as the Statement names them) -/
namespace Jvm.Pilot.@@N@@
namespace StrChars
open Jvm Sem ClassFile Op Lib Jvm.Stand Jvm.Free.XT Jvm.Free.ALB Jvm.Free.JM Jvm.Free
open Jvm.Lib.Cold (StaticIs)
/-- a char array whose places are chars -/
def Ch (a : Addr) (A : Cell) (U : State) : Prop := Arr .char a A U ∧ Typed .char A
theorem Ch.mv {a : Addr} {A : Cell} {U U' : State} (h : Ch a A U) (hal : U.vm.Alike U'.vm) (hh : U'.heap = U.heap) : Ch a A U' := ⟨h.1.mv hal hh, h.2⟩
theorem Ch.keep {a : Addr} {A : Cell} {U U' : State} (h : Ch a A U) (hal : U.vm.Alike U'.vm) (hk : U'.heap[a]? = some A) : Ch a A U' := ⟨h.1.keep hal hk, h.2⟩
/-- what place i of a char[]'s cell holds -/
def cv (A : Cell) (i : Nat) : Int32 := match A.slots[i]? with | some (.int x) => x | _ => 0
theorem Ch.get {a : Addr} {A : Cell} {U : State} (h : Ch a A U) {i : Nat} (hi : i < A.slots.size) : A.slots[i]? = some (.int (cv A i)) := by
  have e := Array.getElem?_eq_getElem hi
  have f := h.2 i _ e
  unfold cv; rw [e]
  generalize A.slots[i] = v at f
  cases v <;> simp [fits] at f ⊢
/-- the byte that i2b leaves of a char -/
def lo8 (x : Int32) : Int32 := x.toInt8.toInt32
theorem fits_lo8 (y : Int32) : fits .byte (.int (lo8 y)) = true := by
  have h1 := y.toInt8.le_toInt
  have h2 := y.toInt8.toInt_lt
  simp only [lo8, fits, Bool.and_eq_true, decide_eq_true_eq, Int32.le_iff_toInt_le, Int8.toInt_toInt32, show (-128 : Int32).toInt = -128 from by decide, show (127 : Int32).toInt = 127 from by decide]
  omega
/-- A' is A but that each place j of lo .. hi - 1 holds f j -/
def Laid (A A' : Cell) (lo hi : Nat) (f : Nat → Value) : Prop := A'.cls = A.cls ∧ A'.vm = A.vm ∧ A'.slots.size = A.slots.size ∧ ∀ i, A'.slots[i]? = if lo ≤ i ∧ i < hi then some (f i) else A.slots[i]?
theorem Laid.zero (A : Cell) (lo : Nat) (f : Nat → Value) : Laid A A lo (lo + 0) f := ⟨rfl, rfl, rfl, fun i => by rw [if_neg (by omega)]⟩
theorem Laid.step {A Ak : Cell} {lo k : Nat} {f : Nat → Value} {v : Value} (h : Laid A Ak lo k f) (hlo : lo ≤ k) (hk : k < Ak.slots.size) (hv : v = f k) : Laid A (Ak.setSlot k v) lo (k + 1) f := by
  refine ⟨h.1, h.2.1, by simpa [Cell.setSlot] using h.2.2.1, fun i => ?_⟩
  by_cases e : k = i
  · subst e; rw [Cell.slots_setSlot_self v hk, if_pos (by omega), hv]
  · rw [Cell.slots_setSlot_ne v e, h.2.2.2 i]
    by_cases q : lo ≤ i ∧ i < k
    · rw [if_pos q, if_pos (by omega)]
    · rw [if_neg q, if_neg (by omega)]
def U16 : String := "java/lang/StringUTF16"
namespace Cmp5
def yN : MethodName := ⟨"java/lang/StringUTF16", "compress", "([CI[BII)I"⟩
abbrev yB : ByteArray := jdk_52_method_21_code
theorem d0 : decode yB 0 = .ok (.iconst 0, 1) := by decide +kernel
theorem d1 : decode yB 1 = .ok (.istore 5, 2) := by decide +kernel
theorem d3 : decode yB 3 = .ok (.iload 5, 2) := by decide +kernel
theorem d5 : decode yB 5 = .ok (.iload 4, 2) := by decide +kernel
theorem d7 : decode yB 7 = .ok (.if_icmp (.ge) 37, 3) := by decide +kernel
theorem d10 : decode yB 10 = .ok (.aload_n 0, 1) := by decide +kernel
theorem d11 : decode yB 11 = .ok (.iload_n 1, 1) := by decide +kernel
theorem d12 : decode yB 12 = .ok (.caload, 1) := by decide +kernel
theorem d13 : decode yB 13 = .ok (.istore 6, 2) := by decide +kernel
theorem d15 : decode yB 15 = .ok (.iload 6, 2) := by decide +kernel
theorem d17 : decode yB 17 = .ok (.sipush 255, 3) := by decide +kernel
theorem d20 : decode yB 20 = .ok (.if_icmp (.le) 6, 3) := by decide +kernel
theorem d26 : decode yB 26 = .ok (.aload_n 2, 1) := by decide +kernel
theorem d27 : decode yB 27 = .ok (.iload_n 3, 1) := by decide +kernel
theorem d28 : decode yB 28 = .ok (.iload 6, 2) := by decide +kernel
theorem d30 : decode yB 30 = .ok (.i2b, 1) := by decide +kernel
theorem d31 : decode yB 31 = .ok (.bastore, 1) := by decide +kernel
theorem d32 : decode yB 32 = .ok (.iinc 1 1, 3) := by decide +kernel
theorem d35 : decode yB 35 = .ok (.iinc 3 1, 3) := by decide +kernel
theorem d38 : decode yB 38 = .ok (.iinc 5 1, 3) := by decide +kernel
theorem d41 : decode yB 41 = .ok (.goto (-38), 3) := by decide +kernel
theorem d44 : decode yB 44 = .ok (.iload 4, 2) := by decide +kernel
theorem d46 : decode yB 46 = .ok (.ireturn, 1) := by decide +kernel
def site : List Cond := []
def tab : Cond := tabOf yN yB 7 (some .int) site
def P (b : Addr) (A : Cell) (d : Addr) (B : Cell) (o q len : Nat) (args : Array Value) (s : State) : Prop := args = #[.ref b, .int (Int32.ofNat o), .ref d, .int (Int32.ofNat q), .int (Int32.ofNat len)] ∧ Ch b A s ∧ Arr .byte d B s ∧ b ≠ d ∧ o + len ≤ A.slots.size ∧ q + len ≤ B.slots.size ∧ ∀ i, i < len → ¬ 255 < cv A (o + i)
def E (b : Addr) (A : Cell) (d : Addr) (B : Cell) (o q len : Nat) (r : Option Value) (s u : State) : Prop := r = some (.int (Int32.ofNat len)) ∧ ∃ B', Put d B' s u ∧ Laid B B' q (q + len) (fun j => Value.int (lo8 (cv A (o + (j - q)))))
/-- no char of the range above 255: len; the places written hold each char's low byte -/
theorem law (l : Launch) (b : Addr) (A : Cell) (d : Addr) (B : Cell) (o q len : Nat) : Law l yN 5 5 0 0 yB 7 (some .int) site (P b A d B o q len) (E b A d B o q len) (copyLocs d q len) 0 0 := by
  refine Law.of_walk (plainFor_of_name (by decide +kernel)) (by decide +kernel) (by decide +kernel) (by decide) (fun _ _ h => by rw [h.1]; rfl) (fun _ U U' hal hh h => ⟨h.1, h.2.1.mv hal hh, h.2.2.1.mv hal hh, h.2.2.2⟩) (fun r U U' V V' h1 hal h2 h => ⟨h.1, h.2.elim fun B' q => ⟨B', q.1.mv h1 h2, q.2⟩⟩) ?_
  intro p e s m args below meth c s₁ X0 hexec hbytes hml hret hlk hnm hown hh0 W hP
  obtain ⟨rfl, hA, hB, hne, l1, l2, hp⟩ := hP
  have c1 : Steps p.tables e below (s₁.setTop (entryFrame m #[.ref b, .int (Int32.ofNat o), .ref d, .int (Int32.ofNat q), .int (Int32.ofNat len)] 7)) (s₁.setTop (mkF m 0 #[.val (.ref b), .val (.int (Int32.ofNat o)), .val (.ref d), .val (.int (Int32.ofNat q)), .val (.int (Int32.ofNat len)), .unset, .unset] [])) := entry rfl
  have hA0 := hA.1.mv X0.warmed.alike hh0
  have hB0 := hB.mv X0.warmed.alike hh0
  have a31 := hA.1.2.2.2
  have c2 : Steps p.tables e below (s₁.setTop (entryFrame m #[.ref b, .int (Int32.ofNat o), .ref d, .int (Int32.ofNat q), .int (Int32.ofNat len)] 7)) (s₁.setTop (mkF m 3 #[.val (.ref b), .val (.int (Int32.ofNat o)), .val (.ref d), .val (.int (Int32.ofNat q)), .val (.int (Int32.ofNat len)), .val (.int 0), .unset] [])) := c1.trans (by
    refine iconstV X0.here hexec rfl 0 (hb hbytes d0) (by decide) ?_
    refine XS.istore X0.here hexec rfl (hb hbytes d1) rfl rfl ?_
    exact Steps.refl _)
  have loop : ∀ (r i : Nat), i + r = len → ∀ (z : Slot), (z = .unset ∨ ∃ w, z = .val w ∧ w.category = 1) → ∀ (Tl : State) (Bk : Cell), Stand p l e { frames := 0, locals := 0, cells := 0, slots := 0 } s m #[.ref b, .int (Int32.ofNat o), .ref d, .int (Int32.ofNat q), .int (Int32.ofNat len)] below meth c Tl ([] ++ copyLocs d q i) 0 0 → Put d Bk s₁ Tl → Laid B Bk q (q + i) (fun j => Value.int (lo8 (cv A (o + (j - q))))) →
      Steps p.tables e below (s₁.setTop (entryFrame m #[.ref b, .int (Int32.ofNat o), .ref d, .int (Int32.ofNat q), .int (Int32.ofNat len)] 7)) (Tl.setTop (mkF m 3 #[.val (.ref b), .val (.int (Int32.ofNat (o + i))), .val (.ref d), .val (.int (Int32.ofNat (q + i))), .val (.int (Int32.ofNat len)), .val (.int (Int32.ofNat i)), z] [])) → ∃ (T' : State) (B' : Cell) (z' : Slot), Stand p l e { frames := 0, locals := 0, cells := 0, slots := 0 } s m #[.ref b, .int (Int32.ofNat o), .ref d, .int (Int32.ofNat q), .int (Int32.ofNat len)] below meth c T' ([] ++ copyLocs d q len) 0 0 ∧ Put d B' s₁ T' ∧ Laid B B' q (q + len) (fun j => Value.int (lo8 (cv A (o + (j - q))))) ∧
      Steps p.tables e below (s₁.setTop (entryFrame m #[.ref b, .int (Int32.ofNat o), .ref d, .int (Int32.ofNat q), .int (Int32.ofNat len)] 7)) (T'.setTop (mkF m 3 #[.val (.ref b), .val (.int (Int32.ofNat (o + len))), .val (.ref d), .val (.int (Int32.ofNat (q + len))), .val (.int (Int32.ofNat len)), .val (.int (Int32.ofNat len)), z'] [])) := by
    intro r
    induction r with
    | zero =>
      intro i hi z hz Tl Bk Xl pl fl cl
      have hil : i = len := by omega
      rw [hil] at Xl fl cl
      exact ⟨Tl, Bk, z, Xl, pl, fl, cl⟩
    | succ r ih =>
      intro i hi z hz Tl Bk Xl pl fl cl
      have all := X0.warmed.alike.symm.trans Xl.warmed.alike
      have hAl := hA0.keep all (pl.other hne hA0.1)
      have hBk := hB0.like all pl.1 fl.1 fl.2.1 fl.2.2.1
      have hlt : q + i < Bk.slots.size := by rw [fl.2.2.1]; omega
      have c3 : Steps p.tables e below (s₁.setTop (entryFrame m #[.ref b, .int (Int32.ofNat o), .ref d, .int (Int32.ofNat q), .int (Int32.ofNat len)] 7)) (Tl.setTop (mkF m 12 #[.val (.ref b), .val (.int (Int32.ofNat (o + i))), .val (.ref d), .val (.int (Int32.ofNat (q + i))), .val (.int (Int32.ofNat len)), .val (.int (Int32.ofNat i)), z] [.int (Int32.ofNat (o + i)), .ref b])) := cl.trans (by
        refine XS.iload Xl.here hexec rfl (hb hbytes d3) rfl ?_
        refine XS.iload Xl.here hexec rfl (hb hbytes d5) rfl ?_
        refine XS.icmpNo Xl.here hexec rfl (hb hbytes d7) rfl (ii_ge_f (lt32 (by omega) (by omega))) ?_
        refine XS.aloadN Xl.here hexec rfl (hb hbytes d10) rfl rfl ?_
        refine XS.iloadN Xl.here hexec rfl (hb hbytes d11) rfl ?_
        exact Steps.refl _)
      have c4 : Steps p.tables e below (s₁.setTop (entryFrame m #[.ref b, .int (Int32.ofNat o), .ref d, .int (Int32.ofNat q), .int (Int32.ofNat len)] 7)) (Tl.setTop (mkF m 13 #[.val (.ref b), .val (.int (Int32.ofNat (o + i))), .val (.ref d), .val (.int (Int32.ofNat (q + i))), .val (.int (Int32.ofNat len)), .val (.int (Int32.ofNat i)), z] [.int (cv A (o + i))])) := c3.trans (by
        refine Xl.aget hexec hAl rfl (hA.get (i := o + i) (by omega)) rfl rfl (hb hbytes d12) ?_
        exact Steps.refl _)
      have c5 : Steps p.tables e below (s₁.setTop (entryFrame m #[.ref b, .int (Int32.ofNat o), .ref d, .int (Int32.ofNat q), .int (Int32.ofNat len)] 7)) (Tl.setTop (mkF m 15 #[.val (.ref b), .val (.int (Int32.ofNat (o + i))), .val (.ref d), .val (.int (Int32.ofNat (q + i))), .val (.int (Int32.ofNat len)), .val (.int (Int32.ofNat i)), .val (.int (cv A (o + i)))] [])) := c4.trans (by
        refine XS.istoreS Xl.here hexec rfl (hb hbytes d13) rfl rfl hz ?_
        exact Steps.refl _)
      have c6 : Steps p.tables e below (s₁.setTop (entryFrame m #[.ref b, .int (Int32.ofNat o), .ref d, .int (Int32.ofNat q), .int (Int32.ofNat len)] 7)) (Tl.setTop (mkF m 31 #[.val (.ref b), .val (.int (Int32.ofNat (o + i))), .val (.ref d), .val (.int (Int32.ofNat (q + i))), .val (.int (Int32.ofNat len)), .val (.int (Int32.ofNat i)), .val (.int (cv A (o + i)))] [.int (lo8 (cv A (o + i))), .int (Int32.ofNat (q + i)), .ref d])) := c5.trans (by
        refine XS.iload Xl.here hexec rfl (hb hbytes d15) rfl ?_
        refine sipushV Xl.here hexec rfl 255 (hb hbytes d17) (by decide) ?_
        refine XS.icmpYes Xl.here hexec rfl (pc0 := 20) rfl (hb hbytes d20) rfl (ii_le_t (hp i (by omega))) (by decide) rfl ?_
        refine XS.aloadN Xl.here hexec rfl (hb hbytes d26) rfl rfl ?_
        refine XS.iloadN Xl.here hexec rfl (hb hbytes d27) rfl ?_
        refine XS.iload Xl.here hexec rfl (hb hbytes d28) rfl ?_
        refine i2b Xl.here hexec rfl (hb hbytes d30) rfl ?_
        exact Steps.refl _)
      obtain ⟨T7, X7, p7, st7⟩ := Xl.aput hexec hBk rfl hlt rfl (fits_lo8 (cv A (o + i))) (g := (mkF m 31 #[.val (.ref b), .val (.int (Int32.ofNat (o + i))), .val (.ref d), .val (.int (Int32.ofNat (q + i))), .val (.int (Int32.ofNat len)), .val (.int (Int32.ofNat i)), .val (.int (cv A (o + i)))] [.int (lo8 (cv A (o + i))), .int (Int32.ofNat (q + i)), .ref d])) rfl (rest := []) rfl (hb hbytes d31)
      have c8 : Steps p.tables e below (s₁.setTop (entryFrame m #[.ref b, .int (Int32.ofNat o), .ref d, .int (Int32.ofNat q), .int (Int32.ofNat len)] 7)) (T7.setTop (mkF m 32 #[.val (.ref b), .val (.int (Int32.ofNat (o + i))), .val (.ref d), .val (.int (Int32.ofNat (q + i))), .val (.int (Int32.ofNat len)), .val (.int (Int32.ofNat i)), .val (.int (cv A (o + i)))] [])) := c6.trans (st7 _ (Steps.refl _))
      have c9 : Steps p.tables e below (s₁.setTop (entryFrame m #[.ref b, .int (Int32.ofNat o), .ref d, .int (Int32.ofNat q), .int (Int32.ofNat len)] 7)) (T7.setTop (mkF m 3 #[.val (.ref b), .val (.int (Int32.ofNat (o + i) + 1)), .val (.ref d), .val (.int (Int32.ofNat (q + i) + 1)), .val (.int (Int32.ofNat len)), .val (.int (Int32.ofNat i + 1)), .val (.int (cv A (o + i)))] [])) := c8.trans (by
        refine iincV X7.here hexec rfl 1 (hb hbytes d32) (by decide) rfl rfl ?_
        refine iincV X7.here hexec rfl 1 (hb hbytes d35) (by decide) rfl rfl ?_
        refine iincV X7.here hexec rfl 1 (hb hbytes d38) (by decide) rfl rfl ?_
        refine XS.goto X7.here hexec rfl (pc0 := 41) rfl (hb hbytes d41) (by decide) rfl ?_
        exact Steps.refl _)
      have c10 : Steps p.tables e below (s₁.setTop (entryFrame m #[.ref b, .int (Int32.ofNat o), .ref d, .int (Int32.ofNat q), .int (Int32.ofNat len)] 7)) (T7.setTop (mkF m 3 #[.val (.ref b), .val (.int (Int32.ofNat (o + (i + 1)))), .val (.ref d), .val (.int (Int32.ofNat (q + (i + 1)))), .val (.int (Int32.ofNat len)), .val (.int (Int32.ofNat (i + 1))), .val (.int (cv A (o + i)))] [])) := by
        have := c9
        rw [succ32, succ32, succ32] at this
        exact this
      exact ih (i + 1) (by omega) _ (Or.inr ⟨_, rfl, rfl⟩) T7 _ (by rw [copyLocs_step, ← List.append_assoc]; exact X7) (pl.trans p7) (fl.step (by omega) hlt (by simp)) c10
  obtain ⟨T9, B9, z9, X9, p9, f9, g9⟩ := loop len 0 (by omega) .unset (Or.inl rfl) s₁ B (by simpa [copyLocs] using X0) ⟨hB0.1, fun _ _ => rfl, rfl⟩ (Laid.zero _ _ _) c2
  have c11 : Steps p.tables e below (s₁.setTop (entryFrame m #[.ref b, .int (Int32.ofNat o), .ref d, .int (Int32.ofNat q), .int (Int32.ofNat len)] 7)) (T9.setTop (mkF m 46 #[.val (.ref b), .val (.int (Int32.ofNat (o + len))), .val (.ref d), .val (.int (Int32.ofNat (q + len))), .val (.int (Int32.ofNat len)), .val (.int (Int32.ofNat len)), z9] [.int (Int32.ofNat len)])) := g9.trans (by
    refine XS.iload X9.here hexec rfl (hb hbytes d3) rfl ?_
    refine XS.iload X9.here hexec rfl (hb hbytes d5) rfl ?_
    refine XS.icmpYes X9.here hexec rfl (pc0 := 7) rfl (hb hbytes d7) rfl (ii_ge_t (nlt32 (by omega) (Nat.le_refl _))) (by decide) rfl ?_
    refine XS.iload X9.here hexec rfl (hb hbytes d44) rfl ?_
    exact Steps.refl _)
  exact ⟨T9, some (.int (Int32.ofNat len)), _, _, _, X9, by simp, rfl, rfl, (fun h => by cases h), ⟨rfl, B9, p9.from hh0, f9⟩, fun fs hl => c11.trans (X9.ireturnOut hexec hret rfl (Or.inl rfl) (hb hbytes d46) hl)⟩
end Cmp5
namespace Cmp3
def yN : MethodName := ⟨"java/lang/StringUTF16", "compress", "([CII)[B"⟩
abbrev yB : ByteArray := jdk_52_method_16_code
theorem d0 : decode yB 0 = .ok (.iload_n 2, 1) := by decide +kernel
theorem d1 : decode yB 1 = .ok (.newarray .byte, 2) := by decide +kernel
theorem d3 : decode yB 3 = .ok (.astore_n 3, 1) := by decide +kernel
theorem d4 : decode yB 4 = .ok (.aload_n 0, 1) := by decide +kernel
theorem d5 : decode yB 5 = .ok (.iload_n 1, 1) := by decide +kernel
theorem d6 : decode yB 6 = .ok (.aload_n 3, 1) := by decide +kernel
theorem d7 : decode yB 7 = .ok (.iconst 0, 1) := by decide +kernel
theorem d8 : decode yB 8 = .ok (.iload_n 2, 1) := by decide +kernel
theorem d9 : decode yB 9 = .ok (.invokestatic 115, 3) := by decide +kernel
theorem d12 : decode yB 12 = .ok (.istore 4, 2) := by decide +kernel
theorem d14 : decode yB 14 = .ok (.iload 4, 2) := by decide +kernel
theorem d16 : decode yB 16 = .ok (.iload_n 2, 1) := by decide +kernel
theorem d17 : decode yB 17 = .ok (.if_icmp (.eq) 40, 3) := by decide +kernel
theorem d57 : decode yB 57 = .ok (.aload_n 3, 1) := by decide +kernel
theorem d58 : decode yB 58 = .ok (.areturn, 1) := by decide +kernel
def site : List Cond := [.arrayClass .byte, Cmp5.tab] ++ staticW U16 115 Cmp5.yN
def tab : Cond := tabOf yN yB 6 (some (.array .byte)) site
def P (b : Addr) (A : Cell) (o len : Nat) (args : Array Value) (s : State) : Prop := args = #[.ref b, .int (Int32.ofNat o), .int (Int32.ofNat len)] ∧ Ch b A s ∧ o + len ≤ A.slots.size ∧ len ≤ 536870912 ∧ ∀ i, i < len → ¬ 255 < cv A (o + i)
def E (b : Addr) (A : Cell) (o len : Nat) (r : Option Value) (s u : State) : Prop := NewArr .byte "[B" len (fun j => .int (lo8 (cv A (o + j)))) r s u ∧ u.heap.size = s.heap.size + 1
/-- no char of the range above 255: a new byte[] of their low bytes -/
theorem law (l : Launch) (b : Addr) (A : Cell) (o len : Nat) : Law l yN 3 3 1 18 yB 6 (some (.array .byte)) site (P b A o len) (E b A o len) [] 1 len := by
  refine Law.of_walk (plainFor_of_name (by decide +kernel)) (by decide +kernel) (by decide +kernel) (by decide) (fun _ _ h => by rw [h.1]; rfl) (fun _ U U' hal hh h => ⟨h.1, h.2.1.mv hal hh, h.2.2⟩) (fun r U U' V V' h1 hal h2 h => ⟨NewArr.mv r U U' V V' h1 hal h2 h.1, by rw [h1, h2]; exact h.2⟩) ?_
  intro p e s m args below meth c s₁ X0 hexec hbytes hml hret hlk hnm hown hh0 W hP
  obtain ⟨rfl, hA, l1, l2, hp⟩ := hP
  have a31 := hA.1.2.2.2
  have c1 : Steps p.tables e below (s₁.setTop (entryFrame m #[.ref b, .int (Int32.ofNat o), .int (Int32.ofNat len)] 6)) (s₁.setTop (mkF m 0 #[.val (.ref b), .val (.int (Int32.ofNat o)), .val (.int (Int32.ofNat len)), .unset, .unset, .unset] [])) := entry rfl
  have c2 : Steps p.tables e below (s₁.setTop (entryFrame m #[.ref b, .int (Int32.ofNat o), .int (Int32.ofNat len)] 6)) (s₁.setTop (mkF m 1 #[.val (.ref b), .val (.int (Int32.ofNat o)), .val (.int (Int32.ofNat len)), .unset, .unset, .unset] [.int (Int32.ofNat len)])) := c1.trans (by
    refine XS.iloadN X0.here hexec rfl (hb hbytes d0) rfl ?_
    exact Steps.refl _)
  obtain ⟨T3, B3, X3, ba3, bs3, bv3, bh3, bf3, st3⟩ := X0.anew hexec (atype := .byte) (wk W (.arrayClass .byte)) rfl (by show len * 1 ≤ _; omega) (by omega) (g := (mkF m 1 #[.val (.ref b), .val (.int (Int32.ofNat o)), .val (.int (Int32.ofNat len)), .unset, .unset, .unset] [.int (Int32.ofNat len)])) rfl (hb hbytes d1) (rest := []) rfl (Nat.le_refl _) (by show 0 + len ≤ len; omega)
  rw [hh0] at ba3 st3
  have kp3 : XT.Kept s T3 := (XT.Kept.of_eq hh0).push bh3
  have hA3 := hA.keep X3.warmed.alike (kp3 _ _ hA.1.1)
  have hne : b ≠ s.heap.size := hA.1.ne
  have c4 : Steps p.tables e below (s₁.setTop (entryFrame m #[.ref b, .int (Int32.ofNat o), .int (Int32.ofNat len)] 6)) (T3.setTop (mkF m 3 #[.val (.ref b), .val (.int (Int32.ofNat o)), .val (.int (Int32.ofNat len)), .unset, .unset, .unset] [.ref s.heap.size])) := c2.trans (st3 _ (Steps.refl _))
  have c5 : Steps p.tables e below (s₁.setTop (entryFrame m #[.ref b, .int (Int32.ofNat o), .int (Int32.ofNat len)] 6)) (T3.setTop (mkF m 9 #[.val (.ref b), .val (.int (Int32.ofNat o)), .val (.int (Int32.ofNat len)), .val (.ref s.heap.size), .unset, .unset] [.int (Int32.ofNat len), .int 0, .ref s.heap.size, .int (Int32.ofNat o), .ref b])) := c4.trans (by
    refine XS.astoreN X3.here hexec rfl (hb hbytes d3) rfl rfl rfl ?_
    refine XS.aloadN X3.here hexec rfl (hb hbytes d4) rfl rfl ?_
    refine XS.iloadN X3.here hexec rfl (hb hbytes d5) rfl ?_
    refine XS.aloadN X3.here hexec rfl (hb hbytes d6) rfl rfl ?_
    refine iconstV X3.here hexec rfl 0 (hb hbytes d7) (by decide) ?_
    refine XS.iloadN X3.here hexec rfl (hb hbytes d8) rfl ?_
    exact Steps.refl _)
  obtain ⟨v6, T6, X6, E6, g6⟩ := X3.callS hexec (Cmp5.law l b A s.heap.size B3 o 0 len) hown (wks W (staticW U16 115 Cmp5.yN)) (wk W Cmp5.tab) (W := 0) (Nat.le_of_ble_eq_true rfl) (Nat.le_of_ble_eq_true rfl) (Nat.le_refl _) (by show 0 + len + 0 ≤ len; omega) (g := (mkF m 9 #[.val (.ref b), .val (.int (Int32.ofNat o)), .val (.int (Int32.ofNat len)), .val (.ref s.heap.size), .unset, .unset] [.int (Int32.ofNat len), .int (Int32.ofNat 0), .ref s.heap.size, .int (Int32.ofNat o), .ref b])) rfl (by rw [hml]; rfl) c5 (argsL := [.ref b, .int (Int32.ofNat o), .ref s.heap.size, .int (Int32.ofNat 0), .int (Int32.ofNat len)]) (rest := []) rfl rfl (by show 2 * 0 + 0 ≤ _; decide) (hb hbytes d9) (⟨rfl, hA3, ba3, hne, l1, by rw [bs3]; simp, hp⟩)
  obtain ⟨rfl, B6, p6, f6⟩ := E6
  have c7 : Steps p.tables e below (s₁.setTop (entryFrame m #[.ref b, .int (Int32.ofNat o), .int (Int32.ofNat len)] 6)) (T6.setTop (mkF m 12 #[.val (.ref b), .val (.int (Int32.ofNat o)), .val (.int (Int32.ofNat len)), .val (.ref s.heap.size), .unset, .unset] [.int (Int32.ofNat len)])) := g6
  have c8 : Steps p.tables e below (s₁.setTop (entryFrame m #[.ref b, .int (Int32.ofNat o), .int (Int32.ofNat len)] 6)) (T6.setTop (mkF m 58 #[.val (.ref b), .val (.int (Int32.ofNat o)), .val (.int (Int32.ofNat len)), .val (.ref s.heap.size), .val (.int (Int32.ofNat len)), .unset] [.ref s.heap.size])) := c7.trans (by
    refine XS.istore X6.here hexec rfl (hb hbytes d12) rfl rfl ?_
    refine XS.iload X6.here hexec rfl (hb hbytes d14) rfl ?_
    refine XS.iloadN X6.here hexec rfl (hb hbytes d16) rfl ?_
    refine XS.icmpYes X6.here hexec rfl (pc0 := 17) rfl (hb hbytes d17) rfl (ii_eq_t rfl) (by decide) rfl ?_
    refine XS.aloadN X6.here hexec rfl (hb hbytes d57) rfl rfl ?_
    exact Steps.refl _)
  have X8 := X6.wide (L' := []) (cells' := 1) (slots' := len) (fun x hx hlt => by
    simp only [List.nil_append, copyLocs, List.mem_map, List.mem_range] at hx
    obtain ⟨i, -, rfl⟩ := hx
    exact absurd hlt (Nat.lt_irrefl _)) (Nat.le_refl _) (by omega)
  exact ⟨T6, some (.ref s.heap.size), _, _, _, X8, rfl, rfl, rfl, (fun h => by cases h), ⟨⟨rfl, B6, ba3.like (X3.warmed.alike.symm.trans X6.warmed.alike) p6.1 f6.1 f6.2.1 f6.2.2.1, f6.2.1.trans bv3, by rw [X6.warmed.alike.findClass, f6.1]; exact bf3, by rw [f6.2.2.1, bs3]; simp, fun j hj => by rw [f6.2.2.2 j, if_pos (by omega)]; rfl, kp3.put p6 (Nat.le_refl _)⟩, by rw [p6.2.2, bh3, hh0]; simp⟩, fun fs hl => c8.trans (X8.areturnOut hexec rfl hret rfl (hb hbytes d58) hl)⟩
end Cmp3
namespace CodL
def yN : MethodName := ⟨"java/lang/StringUTF16", "coderFromArrayLen", "([BI)B"⟩
abbrev yB : ByteArray := jdk_52_method_15_code
theorem d0 : decode yB 0 = .ok (.iload_n 1, 1) := by decide +kernel
theorem d1 : decode yB 1 = .ok (.aload_n 0, 1) := by decide +kernel
theorem d2 : decode yB 2 = .ok (.arraylength, 1) := by decide +kernel
theorem d3 : decode yB 3 = .ok (.isub, 1) := by decide +kernel
theorem d4 : decode yB 4 = .ok (.bipush 31, 2) := by decide +kernel
theorem d6 : decode yB 6 = .ok (.iushr, 1) := by decide +kernel
theorem d7 : decode yB 7 = .ok (.i2b, 1) := by decide +kernel
theorem d8 : decode yB 8 = .ok (.ireturn, 1) := by decide +kernel
def site : List Cond := []
def tab : Cond := tabOf yN yB 2 (some .byte) site
def P (d : Addr) (B : Cell) (args : Array Value) (s : State) : Prop := args = #[.ref d, .int (Int32.ofNat B.slots.size)] ∧ Arr .byte d B s
def E (r : Option Value) (s u : State) : Prop := XT.PureE (some (.int 0)) r s u
/-- an array as long as the number of chars: LATIN1 -/
theorem law (l : Launch) (d : Addr) (B : Cell) : Law l yN 2 2 0 0 yB 2 (some .byte) site (P d B) E [] 0 0 := by
  refine Law.of_walk (plainFor_of_name (by decide +kernel)) (by decide +kernel) (by decide +kernel) (by decide) (fun _ _ h => by rw [h.1]; rfl) (fun _ U U' hal hh h => ⟨h.1, h.2.mv hal hh⟩) (fun r U U' V V' h1 hal h2 h => XT.PureE.mv r U U' V V' h1 hal h2 h) ?_
  intro p e s m args below meth c s₁ X0 hexec hbytes hml hret hlk hnm hown hh0 W hP
  obtain ⟨rfl, hB⟩ := hP
  have hB0 := hB.mv X0.warmed.alike hh0
  have c1 : Steps p.tables e below (s₁.setTop (entryFrame m #[.ref d, .int (Int32.ofNat B.slots.size)] 2)) (s₁.setTop (mkF m 0 #[.val (.ref d), .val (.int (Int32.ofNat B.slots.size))] [])) := entry rfl
  have c2 : Steps p.tables e below (s₁.setTop (entryFrame m #[.ref d, .int (Int32.ofNat B.slots.size)] 2)) (s₁.setTop (mkF m 2 #[.val (.ref d), .val (.int (Int32.ofNat B.slots.size))] [.ref d, .int (Int32.ofNat B.slots.size)])) := c1.trans (by
    refine XS.iloadN X0.here hexec rfl (hb hbytes d0) rfl ?_
    refine XS.aloadN X0.here hexec rfl (hb hbytes d1) rfl rfl ?_
    exact Steps.refl _)
  have c3 : Steps p.tables e below (s₁.setTop (entryFrame m #[.ref d, .int (Int32.ofNat B.slots.size)] 2)) (s₁.setTop (mkF m 8 #[.val (.ref d), .val (.int (Int32.ofNat B.slots.size))] [.int (lo8 (ushr (Int32.ofNat B.slots.size - Int32.ofNat B.slots.size) 31))])) := c2.trans (by
    refine X0.alen hexec hB0 rfl rfl (hb hbytes d2) ?_
    refine XS.isub X0.here hexec rfl (hb hbytes d3) rfl ?_
    refine bipushV X0.here hexec rfl 31 (hb hbytes d4) (by decide) ?_
    refine iushr X0.here hexec rfl (hb hbytes d6) rfl ?_
    refine i2b X0.here hexec rfl (hb hbytes d7) rfl ?_
    exact Steps.refl _)
  have e0 : lo8 (ushr (Int32.ofNat B.slots.size - Int32.ofNat B.slots.size) 31) = 0 := by rw [Int32.sub_self]; decide
  rw [e0] at c3
  exact ⟨s₁, some (.int 0), _, _, _, X0, rfl, rfl, rfl, (fun h => by cases h), ⟨rfl, hh0⟩, fun fs hl => c3.trans (X0.ireturnOut hexec hret rfl (Or.inr (Or.inr (Or.inl rfl))) (hb hbytes d8) hl)⟩
end CodL
/-- the String at a is Latin-1 over a new byte[] (the heap's one new cell): the low bytes of the len chars of A from o on; every cell but a is kept -/
def Got (a : Addr) (D : Cell) (fV fC : Field) (A : Cell) (o len : Nat) (r : Option Value) (s u : State) : Prop := r = none ∧ ∃ D' V : Cell, Blank "java/lang/String" a D' u ∧ Same D D' [fV.slot, fC.slot] ∧ D'.slots[fV.slot]? = some (.ref s.heap.size) ∧ D'.slots[fC.slot]? = some (.int 0) ∧ Arr .byte s.heap.size V u ∧ V.vm = .none ∧ u.vm.findClass "[B" = some V.cls ∧ V.slots.size = len ∧ (∀ j, j < len → V.slots[j]? = some (.int (lo8 (cv A (o + j))))) ∧ (∀ (y : Addr) (c : Cell), y ≠ a → s.heap[y]? = some c → u.heap[y]? = some c) ∧ u.heap.size = s.heap.size + 1
theorem Got.mv {a : Addr} {D A : Cell} {fV fC : Field} {o len : Nat} : ∀ r (U U' V V' : State), U'.heap = U.heap → V.vm.Alike V'.vm → V'.heap = V.heap → Got a D fV fC A o len r U V → Got a D fV fC A o len r U' V' :=
  fun r U U' V V' h1 hal h2 ⟨e0, D', X, a1, a2, a3, a4, a5, a6, a7, a8, a9, a10, a11⟩ => ⟨e0, D', X, a1.mv hal h2, a2, by rw [h1]; exact a3, a4, by rw [h1]; exact a5.mv hal h2, a6, by rw [hal.findClass]; exact a7, a8, a9, by rw [h1, h2]; exact a10, by rw [h1, h2]; exact a11⟩
namespace New4
def yN : MethodName := ⟨"java/lang/String", "<init>", "([CIILjava/lang/Void;)V"⟩
abbrev yB : ByteArray := jdk_42_method_149_code
theorem d0 : decode yB 0 = .ok (.aload_n 0, 1) := by decide +kernel
theorem d1 : decode yB 1 = .ok (.invokespecial 1, 3) := by decide +kernel
theorem d4 : decode yB 4 = .ok (.iload_n 3, 1) := by decide +kernel
theorem d5 : decode yB 5 = .ok (.ifCond (.ne) 22, 3) := by decide +kernel
theorem d27 : decode yB 27 = .ok (.getstatic 38, 3) := by decide +kernel
theorem d30 : decode yB 30 = .ok (.ifCond (.eq) 28, 3) := by decide +kernel
theorem d33 : decode yB 33 = .ok (.aload_n 1, 1) := by decide +kernel
theorem d34 : decode yB 34 = .ok (.iload_n 2, 1) := by decide +kernel
theorem d35 : decode yB 35 = .ok (.iload_n 3, 1) := by decide +kernel
theorem d36 : decode yB 36 = .ok (.invokestatic 177, 3) := by decide +kernel
theorem d39 : decode yB 39 = .ok (.astore 5, 2) := by decide +kernel
theorem d41 : decode yB 41 = .ok (.aload_n 0, 1) := by decide +kernel
theorem d42 : decode yB 42 = .ok (.aload 5, 2) := by decide +kernel
theorem d44 : decode yB 44 = .ok (.iload_n 3, 1) := by decide +kernel
theorem d45 : decode yB 45 = .ok (.invokestatic 47, 3) := by decide +kernel
theorem d48 : decode yB 48 = .ok (.putfield 15, 3) := by decide +kernel
theorem d51 : decode yB 51 = .ok (.aload_n 0, 1) := by decide +kernel
theorem d52 : decode yB 52 = .ok (.aload 5, 2) := by decide +kernel
theorem d54 : decode yB 54 = .ok (.putfield 9, 3) := by decide +kernel
theorem d57 : decode yB 57 = .ok (.return_, 1) := by decide +kernel
def site : List Cond := [.fieldLink "java/lang/String" 38 "java/lang/String" "COMPACT_STRINGS" "Z", Cmp3.tab, CodL.tab, .laysFinal "java/lang/String" "java/lang/String" "value" "[B", .fieldLink "java/lang/String" 9 "java/lang/String" "value" "[B", .laysFinal "java/lang/String" "java/lang/String" "coder" "B", .fieldLink "java/lang/String" 15 "java/lang/String" "coder" "B"] ++ objW "java/lang/String" 1 ++ staticW "java/lang/String" 177 Cmp3.yN ++ staticW "java/lang/String" 47 CodL.yN
def tab : Cond := tabOf yN yB 6 none site
def P (a : Addr) (D : Cell) (fV fC : Field) (b : Addr) (A : Cell) (z : Int32) (o len : Nat) (args : Array Value) (s : State) : Prop := args = #[.ref a, .ref b, .int (Int32.ofNat o), .int (Int32.ofNat len), .null] ∧ Blank "java/lang/String" a D s ∧ Found "java/lang/String" "value" "[B" fV s ∧ Found "java/lang/String" "coder" "B" fC s ∧ Ch b A s ∧ StaticIs s "java/lang/String" "COMPACT_STRINGS" "Z" (.int z) ∧ ¬ z = 0 ∧ 0 < len ∧ o + len ≤ A.slots.size ∧ len ≤ 536870912 ∧ ∀ i, i < len → ¬ 255 < cv A (o + i)
def E (a : Addr) (D : Cell) (fV fC : Field) (A : Cell) (o len : Nat) (r : Option Value) (s u : State) : Prop := Got a D fV fC A o len r s u
/-- len > 0, no char of the range above 255: a Latin-1 String of their low bytes -/
theorem law (l : Launch) (a : Addr) (D : Cell) (fV fC : Field) (b : Addr) (A : Cell) (z : Int32) (o len : Nat) : Law l yN 5 4 2 35 yB 6 none site (P a D fV fC b A z o len) (E a D fV fC A o len) [⟨a, fC.slot⟩, ⟨a, fV.slot⟩] 1 len := by
  refine Law.of_walk (plainFor_of_name (by decide +kernel)) (by decide +kernel) (by decide +kernel) (by decide) (fun _ _ h => by rw [h.1]; rfl) (fun _ U U' hal hh h => ⟨h.1, h.2.1.mv hal hh, h.2.2.1.al hal, h.2.2.2.1.al hal, h.2.2.2.2.1.mv hal hh, h.2.2.2.2.2.1.there hal hh, h.2.2.2.2.2.2⟩) (fun r U U' V V' h1 hal h2 h => Got.mv r U U' V V' h1 hal h2 h) ?_
  intro p e s m args below meth c s₁ X0 hexec hbytes hml hret hlk hnm hown hh0 W hP
  obtain ⟨rfl, hB, f1, f2, hA, s1, hz, l0, l1, l2, hp⟩ := hP
  have a31 := hA.1.2.2.2
  have c1 : Steps p.tables e below (s₁.setTop (entryFrame m #[.ref a, .ref b, .int (Int32.ofNat o), .int (Int32.ofNat len), .null] 6)) (s₁.setTop (mkF m 0 #[.val (.ref a), .val (.ref b), .val (.int (Int32.ofNat o)), .val (.int (Int32.ofNat len)), .val .null, .unset] [])) := entry rfl
  have c2 : Steps p.tables e below (s₁.setTop (entryFrame m #[.ref a, .ref b, .int (Int32.ofNat o), .int (Int32.ofNat len), .null] 6)) (s₁.setTop (mkF m 1 #[.val (.ref a), .val (.ref b), .val (.int (Int32.ofNat o)), .val (.int (Int32.ofNat len)), .val .null, .unset] [.ref a])) := c1.trans (by
    refine XS.aloadN X0.here hexec rfl (hb hbytes d0) rfl rfl ?_
    exact Steps.refl _)
  obtain ⟨T3, X3, q3, st3⟩ := X0.oinit hexec hown (wks W (objW "java/lang/String" 1)) (g := (mkF m 1 #[.val (.ref a), .val (.ref b), .val (.int (Int32.ofNat o)), .val (.int (Int32.ofNat len)), .val .null, .unset] [.ref a])) rfl (by rw [hml]; rfl) (rest := []) rfl (hb hbytes d1) (W := 0) (by show 2 * 0 + 0 ≤ _; decide) (Nat.le_of_ble_eq_true rfl) (Nat.le_of_ble_eq_true rfl)
  have hh3 := q3.trans hh0
  have c4 : Steps p.tables e below (s₁.setTop (entryFrame m #[.ref a, .ref b, .int (Int32.ofNat o), .int (Int32.ofNat len), .null] 6)) (T3.setTop (mkF m 27 #[.val (.ref a), .val (.ref b), .val (.int (Int32.ofNat o)), .val (.int (Int32.ofNat len)), .val .null, .unset] [])) := (c2.trans (st3 _ (Steps.refl _))).trans (by
    refine XS.iloadN X3.here hexec rfl (hb hbytes d4) rfl ?_
    refine XS.ifYes X3.here hexec rfl (pc0 := 5) rfl (hb hbytes d5) rfl (i0_ne_t (nz32 (by omega) l0)) (by decide) rfl ?_
    exact Steps.refl _)
  obtain ⟨T5, X5, q5, st5⟩ := X3.sget hexec hown (wk W (.fieldLink "java/lang/String" 38 "java/lang/String" "COMPACT_STRINGS" "Z")) s1 (fun _ _ h => by rw [hh3]; exact h) (g := (mkF m 27 #[.val (.ref a), .val (.ref b), .val (.int (Int32.ofNat o)), .val (.int (Int32.ofNat len)), .val .null, .unset] [])) rfl (hb hbytes d27)
  have hh5 := q5.trans hh3
  have c6 : Steps p.tables e below (s₁.setTop (entryFrame m #[.ref a, .ref b, .int (Int32.ofNat o), .int (Int32.ofNat len), .null] 6)) (T5.setTop (mkF m 30 #[.val (.ref a), .val (.ref b), .val (.int (Int32.ofNat o)), .val (.int (Int32.ofNat len)), .val .null, .unset] [.int z])) := c4.trans (st5 _ (Steps.refl _))
  have c7 : Steps p.tables e below (s₁.setTop (entryFrame m #[.ref a, .ref b, .int (Int32.ofNat o), .int (Int32.ofNat len), .null] 6)) (T5.setTop (mkF m 36 #[.val (.ref a), .val (.ref b), .val (.int (Int32.ofNat o)), .val (.int (Int32.ofNat len)), .val .null, .unset] [.int (Int32.ofNat len), .int (Int32.ofNat o), .ref b])) := c6.trans (by
    refine XS.ifNo X5.here hexec rfl (hb hbytes d30) rfl (i0_eq_f hz) ?_
    refine XS.aloadN X5.here hexec rfl (hb hbytes d33) rfl rfl ?_
    refine XS.iloadN X5.here hexec rfl (hb hbytes d34) rfl ?_
    refine XS.iloadN X5.here hexec rfl (hb hbytes d35) rfl ?_
    exact Steps.refl _)
  obtain ⟨v8, T8, X8, E8, g8⟩ := X5.callS hexec (Cmp3.law l b A o len) hown (wks W (staticW "java/lang/String" 177 Cmp3.yN)) (wk W Cmp3.tab) (W := 0) (Nat.le_of_ble_eq_true rfl) (Nat.le_of_ble_eq_true rfl) (Nat.le_refl _) (by show 0 + len ≤ len; omega) (g := (mkF m 36 #[.val (.ref a), .val (.ref b), .val (.int (Int32.ofNat o)), .val (.int (Int32.ofNat len)), .val .null, .unset] [.int (Int32.ofNat len), .int (Int32.ofNat o), .ref b])) rfl (by rw [hml]; rfl) c7 (argsL := [.ref b, .int (Int32.ofNat o), .int (Int32.ofNat len)]) (rest := []) rfl rfl (by show 2 * 0 + 0 ≤ _; decide) (hb hbytes d36) (⟨rfl, hA.mv X5.warmed.alike hh5, l1, l2, hp⟩)
  obtain ⟨e8, z8⟩ := E8
  obtain ⟨rfl, N, n1, n2, n3, n4, n5, n6⟩ := NewArr.mv _ T5 s _ _ hh5.symm (Vm.Alike.refl _) rfl e8
  rw [hh5] at z8
  have hB1 := hB.keep X8.warmed.alike (n6 _ _ hB.1)
  have hne : s.heap.size ≠ a := (Nat.ne_of_lt (Array.getElem?_eq_some_iff.mp hB.1).1).symm
  have c9 : Steps p.tables e below (s₁.setTop (entryFrame m #[.ref a, .ref b, .int (Int32.ofNat o), .int (Int32.ofNat len), .null] 6)) (T8.setTop (mkF m 39 #[.val (.ref a), .val (.ref b), .val (.int (Int32.ofNat o)), .val (.int (Int32.ofNat len)), .val .null, .unset] [.ref s.heap.size])) := g8
  have c10 : Steps p.tables e below (s₁.setTop (entryFrame m #[.ref a, .ref b, .int (Int32.ofNat o), .int (Int32.ofNat len), .null] 6)) (T8.setTop (mkF m 45 #[.val (.ref a), .val (.ref b), .val (.int (Int32.ofNat o)), .val (.int (Int32.ofNat len)), .val .null, .val (.ref s.heap.size)] [.int (Int32.ofNat N.slots.size), .ref s.heap.size, .ref a])) := by
    have hc : Steps p.tables e below (s₁.setTop (entryFrame m #[.ref a, .ref b, .int (Int32.ofNat o), .int (Int32.ofNat len), .null] 6)) (T8.setTop (mkF m 45 #[.val (.ref a), .val (.ref b), .val (.int (Int32.ofNat o)), .val (.int (Int32.ofNat len)), .val .null, .val (.ref s.heap.size)] [.int (Int32.ofNat len), .ref s.heap.size, .ref a])) := c9.trans (by
      refine XS.astore X8.here hexec rfl (hb hbytes d39) rfl rfl rfl ?_
      refine XS.aloadN X8.here hexec rfl (hb hbytes d41) rfl rfl ?_
      refine XS.aload X8.here hexec rfl (hb hbytes d42) rfl rfl ?_
      refine XS.iloadN X8.here hexec rfl (hb hbytes d44) rfl ?_
      exact Steps.refl _)
    rw [n4]; exact hc
  obtain ⟨v11, T11, X11, E11, g11⟩ := X8.callS hexec (CodL.law l s.heap.size N) hown (wks W (staticW "java/lang/String" 47 CodL.yN)) (wk W CodL.tab) (W := 1) (Nat.le_of_ble_eq_true rfl) (Nat.le_of_ble_eq_true rfl) (Nat.le_refl _) (by show 0 + len + 0 ≤ len; omega) (g := (mkF m 45 #[.val (.ref a), .val (.ref b), .val (.int (Int32.ofNat o)), .val (.int (Int32.ofNat len)), .val .null, .val (.ref s.heap.size)] [.int (Int32.ofNat N.slots.size), .ref s.heap.size, .ref a])) rfl (by rw [hml]; rfl) c10 (argsL := [.ref s.heap.size, .int (Int32.ofNat N.slots.size)]) (rest := [.ref a]) rfl rfl (by show 2 * 0 + (1 + 0) ≤ _; decide) (hb hbytes d45) (⟨rfl, n1⟩)
  obtain ⟨rfl, q11⟩ := E11
  have hB11 := hB1.mv (X8.warmed.alike.symm.trans X11.warmed.alike) q11
  have c12 : Steps p.tables e below (s₁.setTop (entryFrame m #[.ref a, .ref b, .int (Int32.ofNat o), .int (Int32.ofNat len), .null] 6)) (T11.setTop (mkF m 48 #[.val (.ref a), .val (.ref b), .val (.int (Int32.ofNat o)), .val (.int (Int32.ofNat len)), .val .null, .val (.ref s.heap.size)] [.int 0, .ref a])) := g11
  obtain ⟨T13, X13, p13, bl13, sl13, st13⟩ := X11.finit hexec hown (wk W (.fieldLink "java/lang/String" 15 "java/lang/String" "coder" "B")) (Or.inr ⟨_, (wk W (.laysFinal "java/lang/String" "java/lang/String" "coder" "B"))⟩) (Or.inl ⟨rfl, hnm⟩) f2 (Or.inl rfl) hB11 (t := .byte) (by decide +kernel) rfl (g := (mkF m 48 #[.val (.ref a), .val (.ref b), .val (.int (Int32.ofNat o)), .val (.int (Int32.ofNat len)), .val .null, .val (.ref s.heap.size)] [.int 0, .ref a])) rfl (rest := []) rfl (hb hbytes d48)
  have c14 : Steps p.tables e below (s₁.setTop (entryFrame m #[.ref a, .ref b, .int (Int32.ofNat o), .int (Int32.ofNat len), .null] 6)) (T13.setTop (mkF m 54 #[.val (.ref a), .val (.ref b), .val (.int (Int32.ofNat o)), .val (.int (Int32.ofNat len)), .val .null, .val (.ref s.heap.size)] [.ref s.heap.size, .ref a])) := (c12.trans (st13 _ (Steps.refl _))).trans (by
    refine XS.aloadN X13.here hexec rfl (hb hbytes d51) rfl rfl ?_
    refine XS.aload X13.here hexec rfl (hb hbytes d52) rfl rfl ?_
    exact Steps.refl _)
  obtain ⟨T15, X15, p15, bl15, sl15, st15⟩ := X13.finit hexec hown (wk W (.fieldLink "java/lang/String" 9 "java/lang/String" "value" "[B")) (Or.inr ⟨_, (wk W (.laysFinal "java/lang/String" "java/lang/String" "value" "[B"))⟩) (Or.inl ⟨rfl, hnm⟩) f1 (Or.inl rfl) bl13 (t := (.array .byte)) (by decide +kernel) rfl (g := (mkF m 54 #[.val (.ref a), .val (.ref b), .val (.int (Int32.ofNat o)), .val (.int (Int32.ofNat len)), .val .null, .val (.ref s.heap.size)] [.ref s.heap.size, .ref a])) rfl (rest := []) rfl (hb hbytes d54)
  have c16 : Steps p.tables e below (s₁.setTop (entryFrame m #[.ref a, .ref b, .int (Int32.ofNat o), .int (Int32.ofNat len), .null] 6)) (T15.setTop (mkF m 57 #[.val (.ref a), .val (.ref b), .val (.int (Int32.ofNat o)), .val (.int (Int32.ofNat len)), .val .null, .val (.ref s.heap.size)] [])) := c14.trans (st15 _ (Steps.refl _))
  have ap := apart (Or.inr ⟨_, (wk W (.laysFinal "java/lang/String" "java/lang/String" "value" "[B"))⟩) (Or.inr ⟨_, (wk W (.laysFinal "java/lang/String" "java/lang/String" "coder" "B"))⟩) f1 f2 (t₁ := .array .byte) (t₂ := .byte) (by decide +kernel) (by decide +kernel) (by decide)
  have al := X8.warmed.alike.symm.trans X15.warmed.alike
  have n7 : T11.heap[s.heap.size]? = some N := by rw [q11]; exact n1.1
  exact ⟨T15, none, _, _, _, X15, by simp, rfl, by omega, (fun _ => rfl), ⟨rfl, _, N, bl15, ((Same.refl D _).set _ (by simp)).set _ (by simp), sl15, (Cell.slots_setSlot_ne _ ap).trans sl13, n1.keep al (p15.other hne (p13.other hne n7)), n2, by rw [al.findClass]; exact n3, n4, n5, fun y c h1 h2 => p15.other h1 (p13.other h1 (by rw [q11]; exact n6 y c h2)), by rw [p15.2.2, p13.2.2, q11]; exact z8⟩, fun fs hl => c16.trans (X15.returnOut hexec hret (hb hbytes d57) hl)⟩
end New4
namespace New1
def yN : MethodName := ⟨"java/lang/String", "<init>", "([C)V"⟩
abbrev yB : ByteArray := jdk_42_method_3_code
theorem d0 : decode yB 0 = .ok (.aload_n 0, 1) := by decide +kernel
theorem d1 : decode yB 1 = .ok (.aload_n 1, 1) := by decide +kernel
theorem d2 : decode yB 2 = .ok (.iconst 0, 1) := by decide +kernel
theorem d3 : decode yB 3 = .ok (.aload_n 1, 1) := by decide +kernel
theorem d4 : decode yB 4 = .ok (.arraylength, 1) := by decide +kernel
theorem d5 : decode yB 5 = .ok (.aconst_null, 1) := by decide +kernel
theorem d6 : decode yB 6 = .ok (.invokespecial 27, 3) := by decide +kernel
theorem d9 : decode yB 9 = .ok (.return_, 1) := by decide +kernel
def site : List Cond := [New4.tab] ++ initW "java/lang/String" 27 New4.yN
def tab : Cond := tabOf yN yB 2 none site
def P (a : Addr) (D : Cell) (fV fC : Field) (b : Addr) (A : Cell) (z : Int32) (args : Array Value) (s : State) : Prop := args = #[.ref a, .ref b] ∧ Blank "java/lang/String" a D s ∧ Found "java/lang/String" "value" "[B" fV s ∧ Found "java/lang/String" "coder" "B" fC s ∧ Ch b A s ∧ StaticIs s "java/lang/String" "COMPACT_STRINGS" "Z" (.int z) ∧ ¬ z = 0 ∧ 0 < A.slots.size ∧ A.slots.size ≤ 536870912 ∧ ∀ i, i < A.slots.size → ¬ 255 < cv A i
def E (a : Addr) (D : Cell) (fV fC : Field) (A : Cell) (r : Option Value) (s u : State) : Prop := Got a D fV fC A 0 A.slots.size r s u
/-- new String(chars), not empty, no char above 255: a Latin-1 String of their low bytes -/
theorem law (l : Launch) (a : Addr) (D : Cell) (fV fC : Field) (b : Addr) (A : Cell) (z : Int32) : Law l yN 2 1 3 52 yB 2 none site (P a D fV fC b A z) (E a D fV fC A) [⟨a, fC.slot⟩, ⟨a, fV.slot⟩] 1 A.slots.size := by
  refine Law.of_walk (plainFor_of_name (by decide +kernel)) (by decide +kernel) (by decide +kernel) (by decide) (fun _ _ h => by rw [h.1]; rfl) (fun _ U U' hal hh h => ⟨h.1, h.2.1.mv hal hh, h.2.2.1.al hal, h.2.2.2.1.al hal, h.2.2.2.2.1.mv hal hh, h.2.2.2.2.2.1.there hal hh, h.2.2.2.2.2.2⟩) (fun r U U' V V' h1 hal h2 h => Got.mv r U U' V V' h1 hal h2 h) ?_
  intro p e s m args below meth c s₁ X0 hexec hbytes hml hret hlk hnm hown hh0 W hP
  obtain ⟨rfl, hB, f1, f2, hA, s1, hz, l0, l2, hp⟩ := hP
  have c1 : Steps p.tables e below (s₁.setTop (entryFrame m #[.ref a, .ref b] 2)) (s₁.setTop (mkF m 0 #[.val (.ref a), .val (.ref b)] [])) := entry rfl
  have c2 : Steps p.tables e below (s₁.setTop (entryFrame m #[.ref a, .ref b] 2)) (s₁.setTop (mkF m 6 #[.val (.ref a), .val (.ref b)] [.null, .int (Int32.ofNat A.slots.size), .int 0, .ref b, .ref a])) := c1.trans (by
    refine XS.aloadN X0.here hexec rfl (hb hbytes d0) rfl rfl ?_
    refine XS.aloadN X0.here hexec rfl (hb hbytes d1) rfl rfl ?_
    refine iconstV X0.here hexec rfl 0 (hb hbytes d2) (by decide) ?_
    refine XS.aloadN X0.here hexec rfl (hb hbytes d3) rfl rfl ?_
    refine X0.alen hexec (hA.1.mv X0.warmed.alike hh0) rfl rfl (hb hbytes d4) ?_
    refine XS.aconstNull X0.here hexec rfl (hb hbytes d5) ?_
    exact Steps.refl _)
  obtain ⟨v3, T3, X3, E3, g3⟩ := X0.callN hexec (New4.law l a D fV fC b A z 0 A.slots.size) rfl hown (wks W (initW "java/lang/String" 27 New4.yN)) (W New4.tab (by simp only [site, List.mem_cons, List.mem_append, true_or, or_true])) (W := 0) (Nat.le_of_ble_eq_true rfl) (Nat.le_of_ble_eq_true rfl) (Nat.le_refl _) (by show 0 + A.slots.size ≤ A.slots.size; omega) (g := (mkF m 6 #[.val (.ref a), .val (.ref b)] [.null, .int (Int32.ofNat A.slots.size), .int (Int32.ofNat 0), .ref b, .ref a])) rfl (by rw [hml]; rfl) c2 (argsL := [.ref b, .int (Int32.ofNat 0), .int (Int32.ofNat A.slots.size), .null]) (rest := []) rfl rfl (by show 2 * 0 + 0 ≤ _; decide) (hb hbytes d6) (⟨rfl, hB.mv X0.warmed.alike hh0, f1.al X0.warmed.alike, f2.al X0.warmed.alike, hA.mv X0.warmed.alike hh0, s1.there X0.warmed.alike hh0, hz, l0, by omega, l2, fun i hi => by rw [Nat.zero_add]; exact hp i hi⟩)
  have e0 := Got.mv _ s₁ s _ _ hh0.symm (Vm.Alike.refl _) rfl E3
  obtain rfl := e0.1
  have c4 : Steps p.tables e below (s₁.setTop (entryFrame m #[.ref a, .ref b] 2)) (T3.setTop (mkF m 9 #[.val (.ref a), .val (.ref b)] [])) := g3
  exact ⟨T3, none, _, _, _, X3, by simp, rfl, by omega, (fun _ => rfl), e0, fun fs hl => c4.trans (X3.returnOut hexec hret (hb hbytes d9) hl)⟩
theorem pays {l : Launch} {R : Room} {p : Program} {e : Env} {below : List Frame} {s : State} {sargs : Array Value} {len W : Nat} (a : Addr) (D : Cell) (fV fC : Field) (b : Addr) (A : Cell) (z : Int32) (htab : tab.before sargs s = true) (hfr : 4 ≤ R.frames) (hlo : W + 65 ≤ R.locals) :
    Back l R p e below s sargs yN len W (fun A₁ a₁ => A₁.cells + 1 ≤ R.cells ∧ A₁.slots + A.slots.size ≤ R.slots ∧ P a D fV fC b A z a₁ A₁.U) (fun A₁ _ v₁ B₁ => E a D fV fC A v₁ A₁.U B₁.U ∧ B₁.locs = A₁.locs ++ [⟨a, fC.slot⟩, ⟨a, fV.slot⟩] ∧ B₁.cells = A₁.cells + 1 ∧ B₁.slots = A₁.slots + A.slots.size) :=
  (law l a D fV fC b A z).pays htab hfr (by omega)
end New1
end StrChars
namespace StrChars.Road
open Jvm Sem ClassFile Op Lib Jvm.Stand Jvm.Free Jvm.Free.XT
open Jvm.Lib.Cold (StaticIs)
abbrev ST : String := "java/lang/String"
/-- every table word that New1's law asks, flat -/
abbrev words : List Jvm.Cond := [.code New1.yN New1.yB 2 none, .initialized ST, .methodLink ST 27 New4.yN, .instanceMethod New4.yN,
  .code New4.yN New4.yB 6 none, .fieldLink ST 38 ST "COMPACT_STRINGS" "Z", .laysFinal ST ST "value" "[B", .fieldLink ST 9 ST "value" "[B", .laysFinal ST ST "coder" "B", .fieldLink ST 15 ST "coder" "B",
  .methodLink ST 1 Lib.objectInit, .instanceMethod Lib.objectInit, .code Lib.objectInit ⟨#[0xb1]⟩ 1 none, .methodLink ST 177 Cmp3.yN, .static Cmp3.yN, .methodLink ST 47 CodL.yN, .static CodL.yN,
  .code Cmp3.yN Cmp3.yB 6 (some (.array .byte)), .initialized U16, .arrayClass .byte, .methodLink U16 115 Cmp5.yN, .static Cmp5.yN, .code Cmp5.yN Cmp5.yB 7 (some .int), .code CodL.yN CodL.yB 2 (some .byte)]
theorem tab_of {a : Array Value} {s : State} (h : ∀ w ∈ words, w.before a s = true) : New1.tab.before a s = true := by
  have h5 : Cmp5.tab.before a s = true := unparts (wk h (.code Cmp5.yN Cmp5.yB 7 (some .int))) (wks h (.initialized Cmp5.yN.cls :: Cmp5.site))
  have hc : CodL.tab.before a s = true := unparts (wk h (.code CodL.yN CodL.yB 2 (some .byte))) (wks h (.initialized CodL.yN.cls :: CodL.site))
  have q5 : ∀ w ∈ Cmp5.tab :: words, w.before a s = true := fun w hw => (List.mem_cons.mp hw).elim (fun e => e ▸ h5) (h w)
  have h3 : Cmp3.tab.before a s = true := unparts (wk q5 (.code Cmp3.yN Cmp3.yB 6 (some (.array .byte)))) (wks q5 (.initialized Cmp3.yN.cls :: Cmp3.site))
  have q3 : ∀ w ∈ Cmp3.tab :: CodL.tab :: words, w.before a s = true := fun w hw => (List.mem_cons.mp hw).elim (fun e => e ▸ h3) fun hw => (List.mem_cons.mp hw).elim (fun e => e ▸ hc) (h w)
  have h4 : New4.tab.before a s = true := unparts (wk q3 (.code New4.yN New4.yB 6 none)) (wks q3 (.initialized New4.yN.cls :: New4.site))
  have q4 : ∀ w ∈ New4.tab :: words, w.before a s = true := fun w hw => (List.mem_cons.mp hw).elim (fun e => e ▸ h4) (h w)
  exact unparts (wk q4 (.code New1.yN New1.yB 2 none)) (wks q4 (.initialized New1.yN.cls :: New1.site))
/-- the words ride from the start Z to the walk's own state -/
theorem moved {Z s : State} {a0 args : Array Value} (hZ : Z.Warmed39 s.vm) (hw : ∀ d ∈ words, d.before a0 Z = true) : ∀ d ∈ words, d.before args s = true := fun d hd => by
  have q := hw d hd
  have t : ∀ d ∈ words, d = .arrayClass .byte ∨ (d.onTables && d.keepsFace) = true := by decide +kernel
  rcases t d hd with rfl | t
  · exact RoadKit.mvA hZ q
  · exact RoadKit.mv hZ q t
/-- WHAT COMES BACK, over the tables of the start Z: h the heap at the call, h' behind it -/
def Q (Z : State) (x : Addr) (A : Cell) (h : Heap) (v : Option Value) (h' : Heap) (L : List Loc) : Prop := v = none ∧ (∀ y ∈ L, y.base = x) ∧ RoadKit.Keep h h' [x] ∧ h'.size = h.size + 1 ∧ RoadKit.Exa Z h' x ST ∧ RoadKit.Fld Z h' x ST "value" "[B" (.ref h.size) ∧ RoadKit.Fld Z h' x ST "coder" "B" (.int 0) ∧
  (∃ V : Cell, RoadKit.Arr Z h' h.size V .byte ∧ V.vm = .none ∧ Z.vm.findClass "[B" = some V.cls ∧ V.slots.size = A.slots.size ∧ ∀ j, j < A.slots.size → V.slots[j]? = some (.int (lo8 (cv A j)))) ∧
  ∀ (O n d : String) (w : Value), RoadKit.Fld Z h x O n d w → RoadKit.slotOf Z O n d ≠ RoadKit.slotOf Z ST "value" "[B" → RoadKit.slotOf Z O n d ≠ RoadKit.slotOf Z ST "coder" "B" → RoadKit.Fld Z h' x O n d w
/-- **new String(chars) AT A CALL, IN THE ROAD'S FORM**: for specialBack behind newO: x the fresh String, b the char[] with the cell A -/
theorem back {p : Program} {l : Launch} {e : Env} {R : Room} {s : State} {args : Array Value} {below : List Frame} {len W : Nat} {Z : State} {a0 : Array Value} {h : Heap} (hZ : Z.Warmed39 s.vm) (hw : ∀ d ∈ words, d.before a0 Z = true) {kI : Nat} (wi : (Jvm.Cond.instantiable ST kI).before a0 Z = true)
    {x b : Addr} {A : Cell} {z : Int32} {v0 c0 : Value} (E : RoadKit.Exa Z h x ST) (V : RoadKit.Fld Z h x ST "value" "[B" v0) (C : RoadKit.Fld Z h x ST "coder" "B" c0) (K : RoadKit.Arr Z h b A .char) (hty : Typed .char A) (S : RoadKit.Sta Z h ST "COMPACT_STRINGS" "Z" (.int z)) (hz : ¬ z = 0)
    (l0 : 0 < A.slots.size) (l2 : A.slots.size ≤ 536870912) (hp : ∀ i, i < A.slots.size → ¬ 255 < cv A i) (hfr : 4 ≤ R.frames) (hlo : W + 65 ≤ R.locals) :
    Back l R p e below s args New1.yN len W (fun P a => a = #[.ref x, .ref b] ∧ P.U.heap = h ∧ P.cells + 1 ≤ R.cells ∧ P.slots + A.slots.size ≤ R.slots)
      (fun P _ v B => ∃ L, Q Z x A h v B.U.heap L ∧ B.locs = P.locs ++ L ∧ B.cells = P.cells + 1 ∧ B.slots = P.slots + A.slots.size) := by
  intro m meth c P g ig mk a X hg hsize hdg hW hn hp'
  obtain ⟨rfl, rfl, r1, r2⟩ := hp'
  have al : Z.vm.Alike P.U.vm := hZ.alike.trans X.warmed.alike
  obtain ⟨D, cfV, kV, iV, fV, hD, gV, stV, knV, obV, asV, slV⟩ := id V
  obtain ⟨D', cfC, kC, iC, fC, hD', gC, stC, -, -, asC, slC⟩ := id C
  cases hD.symm.trans hD'
  obtain ⟨D2, kD, e1, e2, e3, e4, e5⟩ := id E
  cases hD.symm.trans e1
  obtain ⟨c2, k2, i1, i2, i3, -⟩ := Cond.instantiable_spec wi
  cases e2.symm.trans i1
  cases e3.symm.trans i2
  obtain ⟨kU, u1, u2⟩ := al.2.2 _ _ e3
  have hB : Blank ST x D P.U := ⟨hD, ⟨knV, fun q hq => by rw [hq] at obV; cases obV⟩, by rw [al.findClass]; exact e2, kU, u1, by rw [u2]; exact i3, by rw [u2]; exact e5 i3⟩
  have F1 : Found ST "value" "[B" fV P.U := ⟨SBG.found_only al ⟨cfV, kV, iV, gV⟩, stV⟩
  have F2 : Found ST "coder" "B" fC P.U := ⟨SBG.found_only al ⟨cfC, kC, iC, gC⟩, stC⟩
  have hA : Ch b A P.U := ⟨⟨K.1, State.isArrayOf_alike al K.2.1, K.2.2, by omega⟩, hty⟩
  have hS : StaticIs P.U ST "COMPACT_STRINGS" "Z" (.int z) := by
    obtain ⟨cfS, iS, kS, fS, st, cS, t1, t2, t3, t4, t5, t6, t7⟩ := S
    exact StaticIs.there (s := { Z with heap := P.U.heap }) ⟨cfS, iS, kS, fS, st, cS, t1, t2, t3, t4, t5, (fun q => by rw [q] at t6; cases t6), t7⟩ al rfl
  obtain ⟨v, B, X', ⟨⟨hv, E', V', q1, q2, q3, q4, q5, q6, q7, q8, q9, q10, q11⟩, hl, hc, hs⟩, st⟩ := New1.pays x D fV fC b A z (tab_of (moved hZ hw)) hfr hlo m meth c P g ig mk _ X hg hsize hdg hW hn ⟨r1, r2, rfl, hB, F1, F2, hA, hS, hz, l0, l2, hp⟩
  have al' : Z.vm.Alike B.U.vm := hZ.alike.trans X'.warmed.alike
  have hsz : E'.slots.size = D.slots.size := by
    obtain ⟨-, -, -, kB, w1, w2, w3⟩ := q1
    obtain ⟨kB', y1, y2⟩ := al'.2.2 _ _ e3
    rw [q2.2.1] at w1
    cases w1.symm.trans y1
    rw [w3, e5 i3, y2]
  refine ⟨v, B, X', ⟨_, ⟨hv, ?_, ⟨by omega, fun y cy hy hn' => q10 y cy (by simpa using hn') hy, fun y cy hy => ?_⟩, q11, ⟨E', _, q1.1, by rw [q2.2.1]; exact e2, by rw [q2.2.1]; exact e3, by rw [q2.1]; exact obV, fun _ => by rw [hsz]; exact e5 i3⟩,
    ⟨E', cfV, kV, iV, fV, q1.1, gV, stV, by rw [q2.1]; exact knV, by rw [q2.1]; exact obV, by rw [q2.2.1]; exact asV, q3⟩, ⟨E', cfC, kC, iC, fC, q1.1, gC, stC, by rw [q2.1]; exact knV, by rw [q2.1]; exact obV, by rw [q2.2.1]; exact asC, q4⟩,
    ⟨V', ⟨q5.1, State.isArrayOf_alike al'.symm q5.2.1, q5.2.2.1⟩, q6, by rw [← al'.findClass]; exact q7, q8, fun j hj => by have := q9 j hj; rwa [Nat.zero_add] at this⟩, fun O n d w F n1 n2 => ?_⟩, hl, hc, hs⟩, st⟩
  · intro y hy
    simp only [List.mem_cons, List.not_mem_nil, or_false] at hy
    rcases hy with rfl | rfl <;> rfl
  · by_cases q : y = x
    · subst q
      cases hD.symm.trans hy
      exact ⟨E', q1.1, q2.2.1, q2.1, hsz⟩
    · exact ⟨cy, q10 y cy q hy, rfl, rfl, rfl⟩
  · obtain ⟨D3, cf, k, i, f, g1, g2, g3, g4, g5, g6, g7⟩ := F
    cases hD.symm.trans g1
    simp only [RoadKit.slotOf, g2, gV, gC, Option.map_some, Option.getD_some] at n1 n2
    exact ⟨E', cf, k, i, f, q1.1, g2, g3, by rw [q2.1]; exact g4, by rw [q2.1]; exact g5, by rw [q2.2.1]; exact g6, by rw [q2.2.2 f.slot (by simp [n1, n2])]; exact g7⟩
end StrChars.Road
namespace StrChars.Road
open Jvm Sem ClassFile Op Lib Jvm.Stand Jvm.Free Jvm.Free.XT
/-- WHAT COMES BACK, the byte[] as a list of values -/
def QA (Z : State) (x : Addr) (zn : Int32) (cs : List Int32) (h : Heap) (v : Option Value) (h' : Heap) (L : List Loc) : Prop := v = none ∧ (∀ y ∈ L, y.base = x) ∧ RoadKit.Keep h h' [x] ∧ h'.size = h.size + 1 ∧ RoadKit.Exa Z h' x ST ∧ RoadKit.Fld Z h' x ST "value" "[B" (.ref h.size) ∧ RoadKit.Fld Z h' x ST "coder" "B" (.int 0) ∧
  (∃ kb, Z.vm.findClass "[B" = some kb ∧ RoadKit.Arv Z h' h.size kb .byte zn (cs.map fun c => .int (lo8 c)) (.int 0)) ∧
  ∀ (O n d : String) (w : Value), RoadKit.Fld Z h x O n d w → RoadKit.slotOf Z O n d ≠ RoadKit.slotOf Z ST "value" "[B" → RoadKit.slotOf Z O n d ≠ RoadKit.slotOf Z ST "coder" "B" → RoadKit.Fld Z h' x O n d w
/-- **new String(chars) AT A CALL, THE ARRAYS AS LISTS**: the char[] at b holds cs, not empty, no char above 255 -/
theorem backArv {p : Program} {l : Launch} {e : Env} {R : Room} {s : State} {args : Array Value} {below : List Frame} {len W : Nat} {Z : State} {a0 : Array Value} {h : Heap} (hZ : Z.Warmed39 s.vm) (hw : ∀ d ∈ words, d.before a0 Z = true) {kI : Nat} (wi : (Jvm.Cond.instantiable ST kI).before a0 Z = true)
    {x b : Addr} {k : ClassId} {zn z : Int32} {cs : List Int32} {dv v0 c0 : Value} (E : RoadKit.Exa Z h x ST) (V : RoadKit.Fld Z h x ST "value" "[B" v0) (C : RoadKit.Fld Z h x ST "coder" "B" c0) (K : RoadKit.Arv Z h b k .char zn (cs.map Value.int) dv) (S : RoadKit.Sta Z h ST "COMPACT_STRINGS" "Z" (.int z)) (hz : ¬ z = 0)
    (hlen : zn.toNatClampNeg = cs.length) (h0 : 0 < cs.length) (hbig : cs.length ≤ 536870912) (hall : ∀ c ∈ cs, ¬ 255 < c) (hfr : 4 ≤ R.frames) (hlo : W + 65 ≤ R.locals) :
    Back l R p e below s args New1.yN len W (fun P a => a = #[.ref x, .ref b] ∧ P.U.heap = h ∧ P.cells + 1 ≤ R.cells ∧ P.slots + cs.length ≤ R.slots)
      (fun P _ v B => ∃ L, QA Z x zn cs h v B.U.heap L ∧ B.locs = P.locs ++ L ∧ B.cells = P.cells + 1 ∧ B.slots = P.slots + cs.length) := by
  obtain ⟨A, K1, K2, K3, K4, K5, K6⟩ := K
  have e : A.slots.size = cs.length := K3.trans hlen
  have hat : ∀ (i : Nat) (hi : i < cs.length), A.slots[i]? = some (.int cs[i]) := fun i hi => by rw [K5 i (by omega)]; simp [List.getD_eq_getElem?_getD, hi]
  have hcv : ∀ (i : Nat) (hi : i < cs.length), cv A i = cs[i] := fun i hi => by unfold cv; rw [hat i hi]
  have hty : Typed .char A := fun i v hv => by
    have hi : i < A.slots.size := (Array.getElem?_eq_some_iff.mp hv).1
    have q := K5 i hi
    rw [hv] at q
    rw [Option.some.inj q]
    exact K6 i hi
  refine Back.mono (back hZ hw wi E V C K1 hty S hz (by omega) (by omega) (fun i hi => by rw [hcv i (by omega)]; exact hall _ (List.getElem_mem _)) hfr hlo) (fun P a hp => ⟨hp.1, hp.2.1, hp.2.2.1, by rw [e]; exact hp.2.2.2⟩) (fun P a v B hp hq => ?_)
  obtain ⟨L, ⟨q1, q2, q3, q4, q5, q6, q7, ⟨V', v1, v2, v3, v4, v5⟩, q9⟩, hl, hc, hs⟩ := hq
  refine ⟨L, ⟨q1, q2, q3, q4, q5, q6, q7, ⟨V'.cls, v3, V', v1, rfl, by rw [v4, e, hlen], K4, fun i hi => ?_, fun i hi => ?_⟩, q9⟩, hl, hc, by rw [hs, e]⟩
  · have hi' : i < cs.length := by omega
    rw [v5 i (by omega), hcv i hi']; simp [List.getD_eq_getElem?_getD, hi']
  · have hi' : i < cs.length := by omega
    simp only [List.getD_eq_getElem?_getD, List.getElem?_map, List.getElem?_eq_getElem hi', Option.map_some, Option.getD_some]
    exact fits_lo8 _
end StrChars.Road
namespace StrChars.Road
open Jvm Sem ClassFile Op Lib Jvm.Stand Jvm.Free Jvm.Free.XT
/-- WHAT COMES BACK, in the writer's own shape -/
def QV (Z : State) (x : Addr) (N : Int32) (bs : List Int32) (h : Heap) (n0 : Nat) (v : Option Value) (h' : Heap) (L : List Loc) : Prop := v = none ∧ RoadKit.Fr n0 L ∧ RoadKit.Keep h h' [x] ∧ RoadKit.Exa Z h' x ST ∧ RoadKit.Fld Z h' x ST "coder" "B" (.int 0) ∧
  ∃ (t : Addr) (kb : ClassId), n0 ≤ t ∧ h.size ≤ t ∧ ¬ t = x ∧ RoadKit.Fld Z h' x ST "value" "[B" (.ref t) ∧ RoadKit.Arv Z h' t kb .byte N (bs.map Value.int) (.int 0)
/-- **new String(chars) AT A CALL, FOR THE WRITER**: a char[] of n known ints, each 0 to 255 -/
theorem backV {p : Program} {l : Launch} {e : Env} {R : Room} {s : State} {args : Array Value} {below : List Frame} {len W : Nat} {Z : State} {a0 : Array Value} {h : Heap} (hZ : Z.Warmed39 s.vm) (hw : ∀ d ∈ words, d.before a0 Z = true) {kI : Nat} (wi : (Jvm.Cond.instantiable ST kI).before a0 Z = true)
    {x b : Addr} {kC : ClassId} {cs bs : List Int32} {d v0 c0 : Value} {z N : Int32} {n n0 : Nat} (hx0 : n0 ≤ x) (hh0 : n0 ≤ h.size) (E : RoadKit.Exa Z h x ST) (V : RoadKit.Fld Z h x ST "value" "[B" v0) (C : RoadKit.Fld Z h x ST "coder" "B" c0) (K : RoadKit.Arv Z h b kC .char N (cs.map Value.int) d) (S : RoadKit.Sta Z h ST "COMPACT_STRINGS" "Z" (.int z)) (hz : ¬ z = 0)
    (hn : cs.length = n) (hN : N = Int32.ofNat n) (l0 : 0 < n) (l2 : n ≤ 4000) (hp : ∀ c ∈ cs, ¬ c < 0 ∧ ¬ (255 : Int32) < c) (hb : bs = cs.map (fun c => c.toInt8.toInt32)) (hfr : 4 ≤ R.frames) (hlo : W + 65 ≤ R.locals) :
    Back l R p e below s args (⟨"java/lang/String", "<init>", "([C)V"⟩ : MethodName) len W (fun P a => a = #[.ref x, .ref b] ∧ P.U.heap = h ∧ P.cells + 1 ≤ R.cells ∧ P.slots + n ≤ R.slots)
      (fun P _ v B => ∃ L, QV Z x N bs h n0 v B.U.heap L ∧ B.locs = P.locs ++ L ∧ B.cells = P.cells + 1 ∧ B.slots = P.slots + n) := by
  subst hn hN hb
  refine Back.mono (backArv hZ hw wi E V C K S hz (n32 (by omega)) l0 (by omega) (fun c hc => (hp c hc).2) hfr hlo) (fun P a hp => hp) (fun P a v B hp hq => ?_)
  obtain ⟨L, ⟨q1, q2, q3, q4, q5, q6, q7, ⟨kb, v1, v2⟩, q9⟩, hl, hc, hs⟩ := hq
  exact ⟨L, ⟨q1, fun y hy => by rw [q2 y hy]; exact hx0, q3, q5, q7, h.size, kb, hh0, Nat.le_refl _, Nat.ne_of_gt E.lt, q6, by rw [List.map_map]; exact v2⟩, hl, hc, hs⟩
end StrChars.Road
end Jvm.Pilot.@@N@@

namespace Jvm.OwnKit
open Sem ClassFile Op Lib Jvm.Stand Jvm.Free Jvm.LawKit Jvm.RoadKit
section Own
variable {p : Program} {l : Launch} {e : Env} {R : Room} {s : State} {m : MethodId} {args : Array Value} {below : List Frame} {meth : Method} {c : Code} {T : State} {locs : List Loc} {cells slots : Nat} {Z : State} {a0 : Array Value} {h : Heap}
/-- from S the run comes to an end that F admits -/
def W (p : Program) (e : Env) (below : List Frame) (F : Outcome → State → Prop) (S : State) : Prop := ∃ s₂ o, Steps p.tables e below S s₂ ∧ s₂.status = .running ∧ Ended s₂ below o ∧ F o s₂
def Fin (s : State) (Q : Option Value → Heap → List Loc → Prop) (rc rs : Nat) (o : Outcome) (U : State) : Prop := ∃ v L, o = .returned v ∧ Q v U.heap L ∧ FrameEnd s o U L rc rs
theorem W.go {F : Outcome → State → Prop} {S S' : State} (st : ∀ t, Steps p.tables e below S' t → Steps p.tables e below S t) (k : W p e below F S') : W p e below F S := by
  obtain ⟨s2, o, h1, h2⟩ := k; exact ⟨s2, o, st _ h1, h2⟩
theorem W.via {F : Outcome → State → Prop} {S S' : State} (st : Steps p.tables e below S S') (k : W p e below F S') : W p e below F S := by
  obtain ⟨s2, o, h1, h2⟩ := k; exact ⟨s2, o, st.trans h1, h2⟩
/-- a contract: called with these arguments, over this heap, the body returns and leaves what Q says -/
def Ctr (l : Launch) (Z : State) (y : MethodName) (bytes : ByteArray) (maxL : Nat) (ret : Option FieldType) (rm : Room) (as' : Array Value) (h0 : Heap) (Q : Option Value → Heap → List Loc → Prop) : Prop :=
  ∀ ws : List Jvm.Cond, MetFree l y (head1 (Jvm.Cond.code y bytes maxL ret :: ws) rm) (fun a U => a = as' ∧ Z.Warmed39 U.vm ∧ U.heap = h0) (fun _ _ _ _ _ => True) (fun _ U o U' => Fin U Q rm.cells rm.slots o U')
theorem Ctr.body {y : MethodName} {bytes : ByteArray} {maxL : Nat} {ret : Option FieldType} {rm : Room} {as' : Array Value} {h0 : Heap} {Q : Option Value → Heap → List Loc → Prop} {fr : MethodId → JFrame} (hpl : plainFor y = true) (hef : ∀ m, entryFrame m as' maxL = fr m)
    (body : ∀ (p : Program) (e : Env) (s : State) (m : MethodId) (below : List Frame) (meth : Method) (c : Code) (s₁ : State), p.tables.exec = Jvm.exec → c.code = bytes → c.maxLocals = maxL → Z.Warmed39 s.vm → s.vm.findClass y.cls = some m.cls → meth.name = y.name → meth.sig.returnType = ret → meth.locks = false →
      Stand p l e rm s m as' below meth c s₁ [] 0 0 → s₁.heap = h0 → W p e below (Fin s Q rm.cells rm.slots) (s₁.setTop (fr m))) : Ctr l Z y bytes maxL ret rm as' h0 Q := by
  intro ws
  refine MetFree.of_bodySF hpl hisR ?_
  intro p e s m args below meth c s₁ Bd hml0 hP hK
  obtain ⟨rfl, hZ, hh⟩ := hP
  have r := body p e s m below meth c s₁ Bd.exec Bd.bytes hml0 hZ (findClass_of_methodNamed Bd.named) (name_of_methodNamed Bd.named Bd.method).1 Bd.returns Bd.notSynchronized (Stand.of_body Bd) (by rw [← hh, Bd.state]; rfl)
  rw [← hef] at r
  exact r
theorem W.retB (X : Stand p l e R s m args below meth c T locs cells slots) (hx : p.tables.exec = Jvm.exec) (hlk : meth.locks = false) {t : FieldType} (hret : meth.sig.returnType = some t) (ht : t = .boolean ∨ t = .byte ∨ t = .char ∨ t = .short) {pc : Nat} {Ls : Array Slot} {z : Int32} {rest : List Value} (hd : decode c.code pc = .ok (.ireturn, 1))
    {Q : Option Value → Heap → List Loc → Prop} {rc rs : Nat} (hc : cells ≤ rc) (hs : slots ≤ rs) (eT : T.heap = h) (hQ : Q (some (.int (nar t z))) h locs) : W p e below (Fin s Q rc rs) (T.setTop (mkF m pc Ls (.int z :: rest))) := by
  obtain ⟨fs, hr, hrun, hended, hW, hsame⟩ := X.leave (v := some (.int (nar t z))) (fun h => by rw [hret] at h; cases h) hlk
  subst eT
  exact ⟨_, _, retN X hx hret ht hd hr, hrun, hended, _, _, rfl, hQ, ⟨_, rfl⟩, hW, hsame.mono hc hs⟩
theorem W.retI (X : Stand p l e R s m args below meth c T locs cells slots) (hx : p.tables.exec = Jvm.exec) (hlk : meth.locks = false) (hret : meth.sig.returnType = some .int) {pc : Nat} {Ls : Array Slot} {z : Int32} {rest : List Value} (hd : decode c.code pc = .ok (.ireturn, 1))
    {Q : Option Value → Heap → List Loc → Prop} {rc rs : Nat} (hc : cells ≤ rc) (hs : slots ≤ rs) (eT : T.heap = h) (hQ : Q (some (.int z)) h locs) : W p e below (Fin s Q rc rs) (T.setTop (mkF m pc Ls (.int z :: rest))) := by
  obtain ⟨fs, hr, hrun, hended, hW, hsame⟩ := X.leave (v := some (.int z)) (fun h => by rw [hret] at h; cases h) hlk
  subst eT
  refine ⟨_, _, ?_, hrun, hended, _, _, rfl, hQ, ⟨_, rfl⟩, hW, hsame.mono hc hs⟩
  have hm' : T.vm.method? m = some meth := X.method'
  have hn : narrow .int (.int z) = .int z := rfl
  show Steps p.tables e below (T.setTop { method := m, pc := pc, locals := Ls, stack := _ :: rest, locked := none }) _
  jvm_step X.here [X.here.top, hx, hd, hm', hret, hn]
  first | (intro acts; rw [hr _ acts rfl rfl rfl]) | rw [hr _ _ rfl rfl rfl]
  exact Steps.refl _
theorem W.retL (X : Stand p l e R s m args below meth c T locs cells slots) (hx : p.tables.exec = Jvm.exec) (hlk : meth.locks = false) (hret : meth.sig.returnType = some .long) {pc : Nat} {Ls : Array Slot} {z : Int64} {rest : List Value} (hd : decode c.code pc = .ok (.lreturn, 1))
    {Q : Option Value → Heap → List Loc → Prop} {rc rs : Nat} (hc : cells ≤ rc) (hs : slots ≤ rs) (eT : T.heap = h) (hQ : Q (some (.long z)) h locs) : W p e below (Fin s Q rc rs) (T.setTop (mkF m pc Ls (.long z :: rest))) := by
  obtain ⟨fs, hr, hrun, hended, hW, hsame⟩ := X.leave (v := some (.long z)) (fun h => by rw [hret] at h; cases h) hlk
  subst eT
  refine ⟨_, _, ?_, hrun, hended, _, _, rfl, hQ, ⟨_, rfl⟩, hW, hsame.mono hc hs⟩
  have hm' : T.vm.method? m = some meth := X.method'
  have hn : narrow .long (.long z) = .long z := rfl
  show Steps p.tables e below (T.setTop { method := m, pc := pc, locals := Ls, stack := _ :: rest, locked := none }) _
  jvm_step X.here [X.here.top, hx, hd, hm', hret, hn]
  first | (intro acts; rw [hr _ acts rfl rfl rfl]) | rw [hr _ _ rfl rfl rfl]
  exact Steps.refl _
theorem W.retA (X : Stand p l e R s m args below meth c T locs cells slots) (hx : p.tables.exec = Jvm.exec) (hlk : meth.locks = false) {t : FieldType} (hret : meth.sig.returnType = some t) (ht : t.isReference = true) {pc : Nat} {Ls : Array Slot} {w : Value} (hw : w.isRef = true) {rest : List Value} (hd : decode c.code pc = .ok (.areturn, 1))
    {Q : Option Value → Heap → List Loc → Prop} {rc rs : Nat} (hc : cells ≤ rc) (hs : slots ≤ rs) (eT : T.heap = h) (hQ : Q (some w) h locs) : W p e below (Fin s Q rc rs) (T.setTop (mkF m pc Ls (w :: rest))) := by
  obtain ⟨fs, hr, hrun, hended, hW, hsame⟩ := X.leave (v := some w) (fun h => by rw [hret] at h; cases h) hlk
  subst eT
  refine ⟨_, _, ?_, hrun, hended, _, _, rfl, hQ, ⟨_, rfl⟩, hW, hsame.mono hc hs⟩
  have hm' : T.vm.method? m = some meth := X.method'
  rcases ref_cases hw with rfl | ⟨z, rfl⟩
  all_goals
    show Steps p.tables e below (T.setTop { method := m, pc := pc, locals := Ls, stack := _ :: rest, locked := none }) _
    jvm_step X.here [X.here.top, hx, hd, hm', hret, ht, Value.isRef]
    first | (intro acts; rw [hr _ acts rfl rfl rfl]) | rw [hr _ _ rfl rfl rfl]
    exact Steps.refl _
theorem W.retV (X : Stand p l e R s m args below meth c T locs cells slots) (hx : p.tables.exec = Jvm.exec) (hlk : meth.locks = false) (hret : meth.sig.returnType = none) {pc : Nat} {Ls : Array Slot} (hd : decode c.code pc = .ok (.return_, 1))
    {Q : Option Value → Heap → List Loc → Prop} {rc rs : Nat} (hc : cells ≤ rc) (hs : slots ≤ rs) (eT : T.heap = h) (hQ : Q none h locs) : W p e below (Fin s Q rc rs) (T.setTop (mkF m pc Ls [])) := by
  obtain ⟨fs, hr, hrun, hended, hW, hsame⟩ := X.leave (v := none) (fun _ => rfl) hlk
  subst eT
  exact ⟨_, _, X.returnOut hx hret hd hr, hrun, hended, _, _, rfl, hQ, ⟨_, rfl⟩, hW, hsame.mono hc hs⟩
section Calls
variable {y y0 : MethodName} {bytes : ByteArray} {maxL W0 : Nat} {ret : Option FieldType} {rm : Room} {as' : Array Value} {Q : Option Value → Heap → List Loc → Prop} {own : String} {index : Nat} {sig : MethodDescriptor} {g : JFrame} {argsL rest : List Value} {F : Outcome → State → Prop}
theorem Ctr.back {len : Nat} (hM : Ctr l Z y bytes maxL ret rm as' h Q) (hZ : Z.Warmed39 s.vm) (wc : (Jvm.Cond.code y bytes maxL ret).before a0 Z = true) (wz : (Jvm.Cond.initialized y.cls).before a0 Z = true) (hf : rm.frames + 1 ≤ R.frames) (hl : W0 + (maxL + 11) + rm.locals ≤ R.locals) :
    Back l R p e below s args y len W0 (fun A a => a = as' ∧ A.U.heap = h ∧ A.cells + rm.cells ≤ R.cells ∧ A.slots + rm.slots ≤ R.slots)
      (fun A _ v B => ∃ L, Q v B.U.heap L ∧ B.locs = A.locs ++ L ∧ B.cells = A.cells + rm.cells ∧ B.slots = A.slots + rm.slots) := backOf (hM []) hZ wc wz hf hl
/-- a static call by its contract -/
theorem W.callS (X : Stand p l e R s m args below meth c T locs cells slots) (hx : p.tables.exec = Jvm.exec) (hZ : Z.Warmed39 s.vm) (hown : s.vm.findClass own = some m.cls) (hml : g.locals.size = c.maxLocals)
    (w1 : (Jvm.Cond.methodLink own index y).before a0 Z = true) (w2 : (Jvm.Cond.static y).before a0 Z = true) (w3 : (Jvm.Cond.initialized y.cls).before a0 Z = true) (w4 : (Jvm.Cond.code y bytes maxL ret).before a0 Z = true) (eT : T.heap = h)
    (hM : Ctr l Z y bytes maxL ret rm as' h Q) (hy : y.cls ≠ "java/lang/invoke/MethodHandle" ∧ y.cls ≠ "java/lang/invoke/VarHandle") (pd : parseMethodDescriptor y.desc = some sig) (hg : g.method = m) (has : argsL.toArray = as') (hlen : argsL.length = sig.parameters.length)
    (hst : g.stack = argsL.reverse ++ rest) (hd : decode c.code g.pc = .ok (.invokestatic index, 3)) (hW : 2 * g.monitorRoom + (rest.map fun v => v.category).sum = W0) (hf : rm.frames + 1 ≤ R.frames) (hl : W0 + (maxL + 11) + rm.locals ≤ R.locals) (hc : cells + rm.cells ≤ R.cells) (hs : slots + rm.slots ≤ R.slots)
    (k : ∀ v T' h' L, Stand p l e R s m args below meth c T' (locs ++ L) (cells + rm.cells) (slots + rm.slots) → T'.heap = h' → Q v h' L → W p e below F (T'.setTop { g with pc := g.pc + 3, stack := v.toList ++ rest })) : W p e below F (T.setTop g) := by
  obtain ⟨v, _, ⟨T', L', k', n'⟩, -, X', ⟨L, hQ, e1, e2, e3⟩, st⟩ := Jvm.LawKit.callS X hx hown (mvT hZ w1) (mvT hZ w2) (mvT hZ w3) (mvT hZ w4) hy (hM.back hZ w4 w3 hf hl) hg hml (argsL := argsL) (rest := rest) (fun sg q => by cases pd.symm.trans q; exact hlen) hst (Nat.le_of_eq hW) hd (fun _ _ => ⟨has, eT, hc, hs⟩)
  dsimp only [Pt.U, Pt.locs, Pt.cells, Pt.slots] at X' e1 e2 e3 hQ st
  subst e1 e2 e3
  exact W.go st (k v T' _ L X' rfl hQ)
/-- a constructor, whoever pays it -/
theorem W.callIK {kc ks : Nat} (X : Stand p l e R s m args below meth c T locs cells slots) (hx : p.tables.exec = Jvm.exec) (hZ : Z.Warmed39 s.vm) (hown : s.vm.findClass own = some m.cls) (hml : g.locals.size = c.maxLocals)
    (w1 : (Jvm.Cond.methodLink own index y).before a0 Z = true) (w2 : (Jvm.Cond.instanceMethod y).before a0 Z = true) (w4 : (Jvm.Cond.code y bytes maxL none).before a0 Z = true) (eT : T.heap = h)
    (hK : Back l R p e below s args y 3 W0 (fun A a => a = as' ∧ A.U.heap = h ∧ A.cells + kc ≤ R.cells ∧ A.slots + ks ≤ R.slots) (fun A _ v B => ∃ L, Q v B.U.heap L ∧ B.locs = A.locs ++ L ∧ B.cells = A.cells + kc ∧ B.slots = A.slots + ks)) (hn : y.name = "<init>") (hy : y.cls ≠ "java/lang/invoke/MethodHandle" ∧ y.cls ≠ "java/lang/invoke/VarHandle") (pd : parseMethodDescriptor y.desc = some sig) (hg : g.method = m) {b : Addr} (has : (Value.ref b :: argsL).toArray = as') (hlen : argsL.length = sig.parameters.length)
    (hst : g.stack = argsL.reverse ++ .ref b :: rest) (hd : decode c.code g.pc = .ok (.invokespecial index, 3)) (hW : 2 * g.monitorRoom + (rest.map fun v => v.category).sum = W0) (hc : cells + kc ≤ R.cells) (hs : slots + ks ≤ R.slots)
    (k : ∀ v T' h' L, Stand p l e R s m args below meth c T' (locs ++ L) (cells + kc) (slots + ks) → T'.heap = h' → Q v h' L → W p e below F (T'.setTop { g with pc := g.pc + 3, stack := v.toList ++ rest })) : W p e below F (T.setTop g) := by
  obtain ⟨v, _, ⟨T', L', k', n'⟩, -, X', ⟨L, hQ, e1, e2, e3⟩, st⟩ := X.specialBack hx hn hown (mvT hZ w1) (mvT hZ w2) (mvT hZ w4) hy hK hg hml (Steps.refl _) (a := b) (argsL := argsL) (rest := rest) (fun sg q => by cases pd.symm.trans q; exact hlen) hst (Nat.le_of_eq hW) hd (fun _ _ => ⟨has, eT, hc, hs⟩)
  dsimp only [Pt.U, Pt.locs, Pt.cells, Pt.slots] at X' e1 e2 e3 hQ st
  subst e1 e2 e3
  exact W.via st (k v T' _ L X' rfl hQ)
/-- a constructor by its contract -/
theorem W.callI (X : Stand p l e R s m args below meth c T locs cells slots) (hx : p.tables.exec = Jvm.exec) (hZ : Z.Warmed39 s.vm) (hown : s.vm.findClass own = some m.cls) (hml : g.locals.size = c.maxLocals)
    (w1 : (Jvm.Cond.methodLink own index y).before a0 Z = true) (w2 : (Jvm.Cond.instanceMethod y).before a0 Z = true) (w3 : (Jvm.Cond.initialized y.cls).before a0 Z = true) (w4 : (Jvm.Cond.code y bytes maxL none).before a0 Z = true) (eT : T.heap = h)
    (hM : Ctr l Z y bytes maxL none rm as' h Q) (hn : y.name = "<init>") (hy : y.cls ≠ "java/lang/invoke/MethodHandle" ∧ y.cls ≠ "java/lang/invoke/VarHandle") (pd : parseMethodDescriptor y.desc = some sig) (hg : g.method = m) {b : Addr} (has : (Value.ref b :: argsL).toArray = as') (hlen : argsL.length = sig.parameters.length)
    (hst : g.stack = argsL.reverse ++ .ref b :: rest) (hd : decode c.code g.pc = .ok (.invokespecial index, 3)) (hW : 2 * g.monitorRoom + (rest.map fun v => v.category).sum = W0) (hf : rm.frames + 1 ≤ R.frames) (hl : W0 + (maxL + 11) + rm.locals ≤ R.locals) (hc : cells + rm.cells ≤ R.cells) (hs : slots + rm.slots ≤ R.slots)
    (k : ∀ v T' h' L, Stand p l e R s m args below meth c T' (locs ++ L) (cells + rm.cells) (slots + rm.slots) → T'.heap = h' → Q v h' L → W p e below F (T'.setTop { g with pc := g.pc + 3, stack := v.toList ++ rest })) : W p e below F (T.setTop g) := by
  obtain ⟨v, _, ⟨T', L', k', n'⟩, -, X', ⟨L, hQ, e1, e2, e3⟩, st⟩ := X.specialBack hx hn hown (mvT hZ w1) (mvT hZ w2) (mvT hZ w4) hy (hM.back hZ w4 w3 hf hl) hg hml (Steps.refl _) (a := b) (argsL := argsL) (rest := rest) (fun sg q => by cases pd.symm.trans q; exact hlen) hst (Nat.le_of_eq hW) hd (fun _ _ => ⟨has, eT, hc, hs⟩)
  dsimp only [Pt.U, Pt.locs, Pt.cells, Pt.slots] at X' e1 e2 e3 hQ st
  subst e1 e2 e3
  exact W.via st (k v T' _ L X' rfl hQ)
/-- an instance method, whoever pays it -/
theorem W.callVK {kc ks : Nat} {C : String} (X : Stand p l e R s m args below meth c T locs cells slots) (hx : p.tables.exec = Jvm.exec) (hZ : Z.Warmed39 s.vm) (hown : s.vm.findClass own = some m.cls) (hml : g.locals.size = c.maxLocals)
    (w1 : (Jvm.Cond.methodLink own index y0).before a0 Z = true) (w5 : (Jvm.Cond.declares y0).before a0 Z = true) (w6 : (Jvm.Cond.selects C y0 y).before a0 Z = true) (w2 : (Jvm.Cond.instanceMethod y).before a0 Z = true) (eT : T.heap = h)
    (hK : Back l R p e below s args y 3 W0 (fun A a => a = as' ∧ A.U.heap = h ∧ A.cells + kc ≤ R.cells ∧ A.slots + ks ≤ R.slots) (fun A _ v B => ∃ L, Q v B.U.heap L ∧ B.locs = A.locs ++ L ∧ B.cells = A.cells + kc ∧ B.slots = A.slots + ks)) (hnf : NotFace s y0) (hy : y0.cls ≠ "java/lang/invoke/MethodHandle" ∧ y0.cls ≠ "java/lang/invoke/VarHandle") (pd : parseMethodDescriptor y0.desc = some sig) (hg : g.method = m) {b : Addr} (E : Exa Z h b C) (has : (Value.ref b :: argsL).toArray = as') (hlen : argsL.length = sig.parameters.length)
    (hst : g.stack = argsL.reverse ++ .ref b :: rest) (hd : decode c.code g.pc = .ok (.invokevirtual index, 3)) (hW : 2 * g.monitorRoom + (rest.map fun v => v.category).sum = W0) (hc : cells + kc ≤ R.cells) (hs : slots + ks ≤ R.slots)
    (k : ∀ v T' h' L, Stand p l e R s m args below meth c T' (locs ++ L) (cells + kc) (slots + ks) → T'.heap = h' → Q v h' L → W p e below F (T'.setTop { g with pc := g.pc + 3, stack := v.toList ++ rest })) : W p e below F (T.setTop g) := by
  obtain ⟨cq, kq, qa, qb, qc⟩ := isOf hZ eT E
  obtain ⟨v, _, ⟨T', L', k', n'⟩, -, X', ⟨L, hQ, e1, e2, e3⟩, st⟩ := X.virtualBack hx hown (mvT hZ w1) (mvT hZ w5) hnf (mvT hZ w6) (mvT hZ w2) hy hK qa qc hg hml (Steps.refl _) (argsL := argsL) (rest := rest) (fun sg q => by cases pd.symm.trans q; exact hlen) hst (Nat.le_of_eq hW) hd (fun _ _ => ⟨has, eT, hc, hs⟩)
  dsimp only [Pt.U, Pt.locs, Pt.cells, Pt.slots] at X' e1 e2 e3 hQ st
  subst e1 e2 e3
  exact W.via st (k v T' _ L X' rfl hQ)
/-- an instance method by its contract -/
theorem W.callV {C : String} (X : Stand p l e R s m args below meth c T locs cells slots) (hx : p.tables.exec = Jvm.exec) (hZ : Z.Warmed39 s.vm) (hown : s.vm.findClass own = some m.cls) (hml : g.locals.size = c.maxLocals)
    (w1 : (Jvm.Cond.methodLink own index y0).before a0 Z = true) (w5 : (Jvm.Cond.declares y0).before a0 Z = true) (w6 : (Jvm.Cond.selects C y0 y).before a0 Z = true) (w2 : (Jvm.Cond.instanceMethod y).before a0 Z = true) (w3 : (Jvm.Cond.initialized y.cls).before a0 Z = true) (w4 : (Jvm.Cond.code y bytes maxL ret).before a0 Z = true) (eT : T.heap = h)
    (hM : Ctr l Z y bytes maxL ret rm as' h Q) (hnf : NotFace s y0) (hy : y0.cls ≠ "java/lang/invoke/MethodHandle" ∧ y0.cls ≠ "java/lang/invoke/VarHandle") (pd : parseMethodDescriptor y0.desc = some sig) (hg : g.method = m) {b : Addr} (E : Exa Z h b C) (has : (Value.ref b :: argsL).toArray = as') (hlen : argsL.length = sig.parameters.length)
    (hst : g.stack = argsL.reverse ++ .ref b :: rest) (hd : decode c.code g.pc = .ok (.invokevirtual index, 3)) (hW : 2 * g.monitorRoom + (rest.map fun v => v.category).sum = W0) (hf : rm.frames + 1 ≤ R.frames) (hl : W0 + (maxL + 11) + rm.locals ≤ R.locals) (hc : cells + rm.cells ≤ R.cells) (hs : slots + rm.slots ≤ R.slots)
    (k : ∀ v T' h' L, Stand p l e R s m args below meth c T' (locs ++ L) (cells + rm.cells) (slots + rm.slots) → T'.heap = h' → Q v h' L → W p e below F (T'.setTop { g with pc := g.pc + 3, stack := v.toList ++ rest })) : W p e below F (T.setTop g) := by
  obtain ⟨cq, kq, qa, qb, qc⟩ := isOf hZ eT E
  obtain ⟨v, _, ⟨T', L', k', n'⟩, -, X', ⟨L, hQ, e1, e2, e3⟩, st⟩ := X.virtualBack hx hown (mvT hZ w1) (mvT hZ w5) hnf (mvT hZ w6) (mvT hZ w2) hy (hM.back hZ w4 w3 hf hl) qa qc hg hml (Steps.refl _) (argsL := argsL) (rest := rest) (fun sg q => by cases pd.symm.trans q; exact hlen) hst (Nat.le_of_eq hW) hd (fun _ _ => ⟨has, eT, hc, hs⟩)
  dsimp only [Pt.U, Pt.locs, Pt.cells, Pt.slots] at X' e1 e2 e3 hQ st
  subst e1 e2 e3
  exact W.via st (k v T' _ L X' rfl hQ)
/-- the same, the method declared further up -/
theorem W.callU {C owner : String} (X : Stand p l e R s m args below meth c T locs cells slots) (hx : p.tables.exec = Jvm.exec) (hZ : Z.Warmed39 s.vm) (hown : s.vm.findClass own = some m.cls) (hml : g.locals.size = c.maxLocals)
    (w1 : (Jvm.Cond.methodLink own index y0).before a0 Z = true) (w7 : (Jvm.Cond.sameMethod y0.cls owner y0.name y0.desc).before a0 Z = true) (w5 : (Jvm.Cond.declares ⟨owner, y0.name, y0.desc⟩).before a0 Z = true) (w6 : (Jvm.Cond.selects C y0 y).before a0 Z = true) (w2 : (Jvm.Cond.instanceMethod y).before a0 Z = true) (w3 : (Jvm.Cond.initialized y.cls).before a0 Z = true) (w4 : (Jvm.Cond.code y bytes maxL ret).before a0 Z = true) (eT : T.heap = h)
    (hM : Ctr l Z y bytes maxL ret rm as' h Q) (hy : owner ≠ "java/lang/invoke/MethodHandle" ∧ owner ≠ "java/lang/invoke/VarHandle") (pd : parseMethodDescriptor y0.desc = some sig) (hg : g.method = m) {b : Addr} (E : Exa Z h b C) (has : (Value.ref b :: argsL).toArray = as') (hlen : argsL.length = sig.parameters.length)
    (hst : g.stack = argsL.reverse ++ .ref b :: rest) (hd : decode c.code g.pc = .ok (.invokevirtual index, 3)) (hW : 2 * g.monitorRoom + (rest.map fun v => v.category).sum = W0) (hf : rm.frames + 1 ≤ R.frames) (hl : W0 + (maxL + 11) + rm.locals ≤ R.locals) (hc : cells + rm.cells ≤ R.cells) (hs : slots + rm.slots ≤ R.slots)
    (k : ∀ v T' h' L, Stand p l e R s m args below meth c T' (locs ++ L) (cells + rm.cells) (slots + rm.slots) → T'.heap = h' → Q v h' L → W p e below F (T'.setTop { g with pc := g.pc + 3, stack := v.toList ++ rest })) : W p e below F (T.setTop g) := by
  obtain ⟨cq, kq, qa, qb, qc⟩ := isOf hZ eT E
  obtain ⟨v, _, ⟨T', L', k', n'⟩, -, X', ⟨L, hQ, e1, e2, e3⟩, st⟩ := X.virtualBackUp hx hown (mvT hZ w1) (mvT hZ w7) (mvT hZ w5) hy (mvT hZ w6) (mvT hZ w2) (hM.back hZ w4 w3 hf hl) qa qc hg hml (Steps.refl _) (argsL := argsL) (rest := rest) (fun sg q => by cases pd.symm.trans q; exact hlen) hst (Nat.le_of_eq hW) hd (fun _ _ => ⟨has, eT, hc, hs⟩)
  dsimp only [Pt.U, Pt.locs, Pt.cells, Pt.slots] at X' e1 e2 e3 hQ st
  subst e1 e2 e3
  exact W.via st (k v T' _ L X' rfl hQ)
/-- a method that lands in a default of an interface -/
theorem W.callD {C owner : String} (X : Stand p l e R s m args below meth c T locs cells slots) (hx : p.tables.exec = Jvm.exec) (hZ : Z.Warmed39 s.vm) (hown : s.vm.findClass own = some m.cls) (hml : g.locals.size = c.maxLocals)
    (w1 : (Jvm.Cond.methodLink own index y0).before a0 Z = true) (w7 : (Jvm.Cond.sameMethod y0.cls owner y0.name y0.desc).before a0 Z = true) (w5 : (Jvm.Cond.declares ⟨owner, y0.name, y0.desc⟩).before a0 Z = true) (w6 : (Jvm.Cond.landsInDefault C y0 y).before a0 Z = true) (w2 : (Jvm.Cond.instanceMethod y).before a0 Z = true) (w3 : (Jvm.Cond.initialized y.cls).before a0 Z = true) (w4 : (Jvm.Cond.code y bytes maxL ret).before a0 Z = true) (eT : T.heap = h)
    (hM : Ctr l Z y bytes maxL ret rm as' h Q) (hy : owner ≠ "java/lang/invoke/MethodHandle" ∧ owner ≠ "java/lang/invoke/VarHandle") (pd : parseMethodDescriptor y0.desc = some sig) (hg : g.method = m) {b : Addr} (E : Exa Z h b C) (has : (Value.ref b :: argsL).toArray = as') (hlen : argsL.length = sig.parameters.length)
    (hst : g.stack = argsL.reverse ++ .ref b :: rest) (hd : decode c.code g.pc = .ok (.invokevirtual index, 3)) (hW : 2 * g.monitorRoom + (rest.map fun v => v.category).sum = W0) (hf : rm.frames + 1 ≤ R.frames) (hl : W0 + (maxL + 11) + rm.locals ≤ R.locals) (hc : cells + rm.cells ≤ R.cells) (hs : slots + rm.slots ≤ R.slots)
    (k : ∀ v T' h' L, Stand p l e R s m args below meth c T' (locs ++ L) (cells + rm.cells) (slots + rm.slots) → T'.heap = h' → Q v h' L → W p e below F (T'.setTop { g with pc := g.pc + 3, stack := v.toList ++ rest })) : W p e below F (T.setTop g) := by
  obtain ⟨cq, kq, qa, qb, qc⟩ := isOf hZ eT E
  obtain ⟨v, _, ⟨T', L', k', n'⟩, -, X', ⟨L, hQ, e1, e2, e3⟩, st⟩ := X.virtualBackUpD hx hown (mvT hZ w1) (mvT hZ w7) (mvT hZ w5) hy (mvD hZ w6) (mvT hZ w2) (hM.back hZ w4 w3 hf hl) qa qc hg hml (Steps.refl _) (argsL := argsL) (rest := rest) (fun sg q => by cases pd.symm.trans q; exact hlen) hst (Nat.le_of_eq hW) hd (fun _ _ => ⟨has, eT, hc, hs⟩)
  dsimp only [Pt.U, Pt.locs, Pt.cells, Pt.slots] at X' e1 e2 e3 hQ st
  subst e1 e2 e3
  exact W.via st (k v T' _ L X' rfl hQ)
/-- a call through an interface -/
theorem W.callF {C : String} {count : Nat} (X : Stand p l e R s m args below meth c T locs cells slots) (hx : p.tables.exec = Jvm.exec) (hZ : Z.Warmed39 s.vm) (hown : s.vm.findClass own = some m.cls) (hml : g.locals.size = c.maxLocals)
    (w1 : (Jvm.Cond.methodLink own index y0).before a0 Z = true) (w5 : (Jvm.Cond.declares y0).before a0 Z = true) (w7 : (Jvm.Cond.interfaceMethod y0.cls y0.cls y0.name y0.desc).before args s = true) (w6 : (Jvm.Cond.selects C y0 y).before a0 Z = true) (w2 : (Jvm.Cond.instanceMethod y).before a0 Z = true) (w8 : (Jvm.Cond.publicMethod y).before a0 Z = true) (w9 : (Jvm.Cond.unhidden C y0.name y0.desc).before a0 Z = true) (w10 : (Jvm.Cond.castable C y0.cls).before a0 Z = true) (w3 : (Jvm.Cond.initialized y.cls).before a0 Z = true) (w4 : (Jvm.Cond.code y bytes maxL ret).before a0 Z = true) (eT : T.heap = h)
    (hM : Ctr l Z y bytes maxL ret rm as' h Q) (hy : y0.cls ≠ "java/lang/invoke/MethodHandle" ∧ y0.cls ≠ "java/lang/invoke/VarHandle") (pd : parseMethodDescriptor y0.desc = some sig) (hg : g.method = m) {b : Addr} (E : Exa Z h b C) (has : (Value.ref b :: argsL).toArray = as') (hlen : argsL.length = sig.parameters.length)
    (hst : g.stack = argsL.reverse ++ .ref b :: rest) (hd : decode c.code g.pc = .ok (.invokeinterface index count, 5)) (hW : 2 * g.monitorRoom + (rest.map fun v => v.category).sum = W0) (hf : rm.frames + 1 ≤ R.frames) (hl : W0 + (maxL + 11) + rm.locals ≤ R.locals) (hc : cells + rm.cells ≤ R.cells) (hs : slots + rm.slots ≤ R.slots)
    (k : ∀ v T' h' L, Stand p l e R s m args below meth c T' (locs ++ L) (cells + rm.cells) (slots + rm.slots) → T'.heap = h' → Q v h' L → W p e below F (T'.setTop { g with pc := g.pc + 5, stack := v.toList ++ rest })) : W p e below F (T.setTop g) := by
  obtain ⟨cq, kq, qa, qb, qc⟩ := isOf hZ eT E
  obtain ⟨v, _, ⟨T', L', k', n'⟩, -, X', ⟨L, hQ, e1, e2, e3⟩, st⟩ := X.interfaceBack hx hown (mvT hZ w1) (mvT hZ w5) w7 (mvT hZ w6) (mvT hZ w2) (mvT hZ w8) (mvT hZ w9) (mvT hZ w10) hy (hM.back hZ w4 w3 hf hl) qa qb qc hg hml (Steps.refl _) (argsL := argsL) (rest := rest) (fun sg q => by cases pd.symm.trans q; exact hlen) hst (Nat.le_of_eq hW) hd (fun _ _ => ⟨has, eT, hc, hs⟩)
  dsimp only [Pt.U, Pt.locs, Pt.cells, Pt.slots] at X' e1 e2 e3 hQ st
  subst e1 e2 e3
  exact W.via st (k v T' _ L X' rfl hQ)
/-- super.m(..) -/
theorem W.callSup {K : String} (X : Stand p l e R s m args below meth c T locs cells slots) (hx : p.tables.exec = Jvm.exec) (hZ : Z.Warmed39 s.vm) (hown : s.vm.findClass own = some m.cls) (hml : g.locals.size = c.maxLocals)
    (w1 : (Jvm.Cond.methodLink own index y).before a0 Z = true) (w5 : (Jvm.Cond.sameMethod y.cls y.cls y.name y.desc).before a0 Z = true) (w2 : (Jvm.Cond.instanceMethod y).before a0 Z = true) (w6 : (Jvm.Cond.superclass own y.cls).before a0 Z = true) (w3 : (Jvm.Cond.initialized y.cls).before a0 Z = true) (w4 : (Jvm.Cond.code y bytes maxL ret).before a0 Z = true) (eT : T.heap = h)
    (hM : Ctr l Z y bytes maxL ret rm as' h Q) (hn : y.name ≠ "<init>") (pd : parseMethodDescriptor y.desc = some sig) (hg : g.method = m) {b : Addr} (E : Exa Z h b K) (has : (Value.ref b :: argsL).toArray = as') (hlen : argsL.length = sig.parameters.length)
    (hst : g.stack = argsL.reverse ++ .ref b :: rest) (hd : decode c.code g.pc = .ok (.invokespecial index, 3)) (hW : 2 * g.monitorRoom + (rest.map fun v => v.category).sum = W0) (hf : rm.frames + 1 ≤ R.frames) (hl : W0 + (maxL + 11) + rm.locals ≤ R.locals) (hc : cells + rm.cells ≤ R.cells) (hs : slots + rm.slots ≤ R.slots)
    (k : ∀ v T' h' L, Stand p l e R s m args below meth c T' (locs ++ L) (cells + rm.cells) (slots + rm.slots) → T'.heap = h' → Q v h' L → W p e below F (T'.setTop { g with pc := g.pc + 3, stack := v.toList ++ rest })) : W p e below F (T.setTop g) := by
  obtain ⟨v, _, ⟨T', L', k', n'⟩, -, X', ⟨L, hQ, e1, e2, e3⟩, st⟩ := superBack X hx hZ hown w1 w5 w2 w6 hn (hM.back hZ w4 w3 hf hl) eT (Ins.self E) hg hml w4 (argsL := argsL) (rest := rest) (fun sg q => by cases pd.symm.trans q; exact hlen) hst (Nat.le_of_eq hW) hd (fun _ _ => ⟨has, eT, hc, hs⟩)
  dsimp only [Pt.U, Pt.locs, Pt.cells, Pt.slots] at X' e1 e2 e3 hQ st
  subst e1 e2 e3
  exact W.via st (k v T' _ L X' rfl hQ)
theorem nfOf {C : String} {x z : MethodName} (w6 : (Jvm.Cond.selects C x z).before args s = true) (hz : z.cls = y.cls) : NotFace s y := fun r0 h0 => by
  obtain ⟨c1, r1, m1, -, -, hm, -, kP, hkP, hni⟩ := Cond.selects_spec w6
  have hc := findClass_of_methodNamed h0
  have hc2 := findClass_of_methodNamed hm
  rw [hz] at hc2
  have q : r0.cls = m1.cls := Option.some.inj (hc.symm.trans hc2)
  exact ⟨kP, by rw [q]; exact hkP, hni⟩
/-- a class that declares a method finds it; that she is no interface is read off a 'selects' word that ends in her -/
theorem sameDecl {C : String} {x z : MethodName} (w5 : (Jvm.Cond.declares y).before a0 Z = true) (w6 : (Jvm.Cond.selects C x z).before a0 Z = true) (hz : z.cls = y.cls) (hy : y.cls ≠ "java/lang/invoke/MethodHandle" ∧ y.cls ≠ "java/lang/invoke/VarHandle") : (Jvm.Cond.sameMethod y.cls y.cls y.name y.desc).before a0 Z = true := by
  obtain ⟨r0, r, hn, hrm, -, -⟩ := Cond.declares_spec w5
  have hf : Z.methodFound? y.cls y.name y.desc = some r0 := State.methodFound?_of_named hn hy
  have hc := findClass_of_methodNamed hn
  obtain ⟨c1, r1, m1, -, -, hm, -, kP, hkP, hni⟩ := Cond.selects_spec w6
  have hc2 := findClass_of_methodNamed hm
  rw [hz] at hc2
  have q : r0.cls = m1.cls := Option.some.inj (hc.symm.trans hc2)
  have hn' : Z.methodNamed? ⟨y.cls, y.name, y.desc⟩ = some r0 := hn
  have hk : Z.vm.classes[r0.cls]? = some kP := by rw [q]; exact hkP
  simp [Jvm.Cond.before, Jvm.Cond.holds, Jvm.Cond.value, hc, hf, hn', hk, hni]
/-- a private method by its contract -/
theorem W.callP (X : Stand p l e R s m args below meth c T locs cells slots) (hx : p.tables.exec = Jvm.exec) (hZ : Z.Warmed39 s.vm) (hown : s.vm.findClass own = some m.cls) (hml : g.locals.size = c.maxLocals)
    (w1 : (Jvm.Cond.methodLink own index y).before a0 Z = true) (w5 : (Jvm.Cond.privateMethod y).before a0 Z = true) (w6 : (Jvm.Cond.selects y.cls y y).before args s = true) (w2 : (Jvm.Cond.instanceMethod y).before a0 Z = true) (w3 : (Jvm.Cond.initialized y.cls).before a0 Z = true) (w4 : (Jvm.Cond.code y bytes maxL ret).before a0 Z = true) (eT : T.heap = h)
    (hM : Ctr l Z y bytes maxL ret rm as' h Q) (hy : y.cls ≠ "java/lang/invoke/MethodHandle" ∧ y.cls ≠ "java/lang/invoke/VarHandle") (pd : parseMethodDescriptor y.desc = some sig) (hg : g.method = m) {b : Addr} {C : String} (E : Exa Z h b C) (has : (Value.ref b :: argsL).toArray = as') (hlen : argsL.length = sig.parameters.length)
    (hst : g.stack = argsL.reverse ++ .ref b :: rest) (hd : decode c.code g.pc = .ok (.invokevirtual index, 3)) (hW : 2 * g.monitorRoom + (rest.map fun v => v.category).sum = W0) (hf : rm.frames + 1 ≤ R.frames) (hl : W0 + (maxL + 11) + rm.locals ≤ R.locals) (hc : cells + rm.cells ≤ R.cells) (hs : slots + rm.slots ≤ R.slots)
    (k : ∀ v T' h' L, Stand p l e R s m args below meth c T' (locs ++ L) (cells + rm.cells) (slots + rm.slots) → T'.heap = h' → Q v h' L → W p e below F (T'.setTop { g with pc := g.pc + 3, stack := v.toList ++ rest })) : W p e below F (T.setTop g) := by
  obtain ⟨cq, q1, q2⟩ := E.cell
  obtain ⟨v, _, ⟨T', L', k', n'⟩, -, X', ⟨L, hQ, e1, e2, e3⟩, st⟩ := X.privateBack hx hown (mvT hZ w1) (mvT hZ w2) w6 (Cond.privateMethod_at (mvP hZ w5 (args := #[]))) (mvT hZ w4) hy (hM.back hZ w4 w3 hf hl) hg hml (Steps.refl _) (a := b) (by rw [eT]; exact q1) q2 (argsL := argsL) (rest := rest) (fun sg q => by cases pd.symm.trans q; exact hlen) hst (Nat.le_of_eq hW) hd (fun _ _ => ⟨has, eT, hc, hs⟩)
  dsimp only [Pt.U, Pt.locs, Pt.cells, Pt.slots] at X' e1 e2 e3 hQ st
  subst e1 e2 e3
  exact W.via st (k v T' _ L X' rfl hQ)
/-- 'selects' of a private method -/
theorem selPriv {n : Nat} (hZ : Z.Warmed39 s.vm) (wi : (Jvm.Cond.instantiable y.cls n).before a0 Z = true) (w5 : (Jvm.Cond.privateMethod y).before a0 Z = true) (w2 : (Jvm.Cond.instanceMethod y).before a0 Z = true) (hy : y.cls ≠ "java/lang/invoke/MethodHandle" ∧ y.cls ≠ "java/lang/invoke/VarHandle") : (Jvm.Cond.selects y.cls y y).before args s = true := by
  obtain ⟨c2, k2, i1, i2, -, i4, -⟩ := Cond.instantiable_spec (mvT (args := args) hZ wi)
  exact selects_self_of_private i1 i2 (Bool.or_eq_false_iff.mp i4).1 (Cond.privateMethod_at (mvP hZ w5 (args := #[]))) (mvT hZ w2) hy
end Calls
theorem Sta.keep {h' : Heap} {C n d : String} {v : Value} {ws : List Addr} (F : Sta Z h C n d v) (K : Keep h h' ws) (hw : ∀ x ∈ ws, ∀ cell : Cell, h[x]? = some cell → cell.vm.isStatics = false) : Sta Z h' C n d v := by
  obtain ⟨cf, i, k, f, st, cell, h1, h2, h3, h4, h5, h6, h7⟩ := F
  refine ⟨cf, i, k, f, st, cell, h1, h2, h3, h4, K.2.1 st cell h5 fun hm => ?_, h6, h7⟩
  rw [hw st hm cell h5] at h6; cases h6
theorem eqI_v {t : Term} {k : Int32} {first : State} {o : Option Outcome} {idx : List Nat} (hk : (Jvm.Cond.eq t (.int k)).value args first o s idx = some true) : t.eval args first o idx s = some (.int k) := by
  simp only [Jvm.Cond.value, Term.eval] at hk
  cases ht : t.eval args first o idx s with
  | none => simp [ht] at hk
  | some x => cases x <;> simp [ht] at hk ⊢; exact hk
theorem lenI_v {t : Term} {a : Addr} {cl : Cell} {ty : FieldType} {k : Int32} (A : Arr s s.heap a cl ty) (ev : t.eval args s none [] s = some (.ref a)) (hk : (Jvm.Cond.eq (.length t) (.int k)).value args s none s [] = some true) : cl.slots.size < 2 ^ 31 ∧ cl.slots.size.toInt32 = k := by
  have q := eqI_v hk
  have r : s.arrayAt? a = some cl := A.fin (Vm.Alike.refl _)
  simp only [Term.eval, ev, r, Option.bind_eq_bind, Option.bind_some] at q
  split at q
  · rename_i z; cases q; exact ⟨z, rfl⟩
  · cases q
theorem rngM (x n : Int32) (hn : 0 < n.toInt) : 0 ≤ ((x &&& 2147483647) % n).toInt ∧ ((x &&& 2147483647) % n).toInt < n.toInt := by
  have q := c_mask x 2147483647 31 (by decide) (by decide)
  have q0 : 0 ≤ (x &&& 2147483647).toInt := by rw [q]; exact Int.emod_nonneg _ (by decide)
  have r := (c_iremV (x &&& 2147483647) n).1 q0 hn
  exact ⟨r.1, r.2.1⟩
end Own
end Jvm.OwnKit
namespace Jvm.Pilot.@@N@@
open Jvm Jvm.ClassFile Sem Op Lib Jvm.Free Jvm.Stand Jvm.LawKit Jvm.RoadKit Bundle Jvm.OwnKit Jvm.Pilot.@@N@@.Jvm.D
theorem own_ws : ∀ d ∈ StrChars.Road.words, d ∈ tables_1 := by decide +kernel
theorem own_c255 (x : Int32) : ¬ nar .char ((x &&& (255 : Int32)).toUInt32.toUInt16.toUInt32.toInt32) < 0 ∧ ¬ (255 : Int32) < nar .char ((x &&& (255 : Int32)).toUInt32.toUInt16.toUInt32.toInt32) := by
  rw [show nar .char ((x &&& (255 : Int32)).toUInt32.toUInt16.toUInt32.toInt32) = x &&& 255 from by simp only [nar, i2c_mask]]
  have q := c_mask x 255 8 (by decide) (by decide)
  simp only [Int32.lt_iff_toInt_lt, Int32.reduceToInt]
  omega
theorem own_shr0 (n : Int32) : (n >>> ((0 : Int32) &&& 31)) = n := by
  have q := c_ishr n 0 0 (by decide)
  exact Int32.toInt_inj.mp (by rw [q]; simp)
theorem own_shl0 (n : Int32) : (n <<< ((0 : Int32) &&& 31)) = n := by
  rw [show ((0 : Int32) &&& 31) = 0 from by decide]; simp
theorem own_lo255 (x : Int32) : nar .char ((x &&& (255 : Int32)).toUInt32.toUInt16.toUInt32.toInt32) = x &&& 255 := by simp only [nar, i2c_mask]
theorem own_lo8 (c : Int32) (h : ¬ c < 0 ∧ ¬ (255 : Int32) < c) : (c.toInt8.toInt32 &&& 255) = c := by
  have q := c_mask (c.toInt8.toInt32) 255 8 (by decide) (by decide)
  have r := (c_i2b c).1
  have e0 : (0 : Int32).toInt = 0 := rfl
  have e1 : (255 : Int32).toInt = 255 := rfl
  rw [Int32.lt_iff_toInt_lt, Int32.lt_iff_toInt_lt, e0, e1] at h
  exact Int32.toInt_inj.mp (by rw [q]; omega)
def own_ok (c : Int32) : Prop := (¬ c < 65 ∧ ¬ (90 : Int32) < c) ∨ (¬ c < 97 ∧ ¬ (122 : Int32) < c) ∨ (¬ c < 48 ∧ ¬ (57 : Int32) < c) ∨ c = 95 ∨ c = 45 ∨ c = 46
theorem own_ok_lat {c : Int32} (h : own_ok c) : ¬ c < 0 ∧ ¬ (255 : Int32) < c := by
  simp only [own_ok, Int32.lt_iff_toInt_lt, ← Int32.toInt_inj, Int32.reduceToInt] at *
  omega
theorem own_pick (i : Int32) (k : Int32) (lo hi : Int32) (h : ¬ i < lo ∧ i < hi) (hl : 0 ≤ lo.toInt ∧ hi.toInt ≤ 100) (hk : 0 ≤ k.toInt ∧ k.toInt ≤ 100) : (nar .char ((k + (i - lo)).toUInt32.toUInt16.toUInt32.toInt32)).toInt = k.toInt + i.toInt - lo.toInt := by
  have q1 := c_iadd k (i - lo)
  have q2 := c_isub i lo
  have r1 := rng32 (k + (i - lo))
  have r2 := rng32 (i - lo)
  have q3 := c_i2c (k + (i - lo))
  have q4 := c_i2c ((k + (i - lo)).toUInt32.toUInt16.toUInt32.toInt32)
  rw [Int32.lt_iff_toInt_lt, Int32.lt_iff_toInt_lt] at h
  show ((((k + (i - lo)).toUInt32.toUInt16.toUInt32.toInt32)).toUInt32.toUInt16.toUInt32.toInt32).toInt = _
  omega
theorem own_pick0 (i : Int32) (h : ¬ i < 0 ∧ i < 26) : (nar .char (((65 : Int32) + i).toUInt32.toUInt16.toUInt32.toInt32)).toInt = 65 + i.toInt := by
  have q1 := c_iadd 65 i
  have r1 := rng32 (65 + i)
  have q3 := c_i2c (65 + i)
  have q4 := c_i2c (((65 : Int32) + i).toUInt32.toUInt16.toUInt32.toInt32)
  have e0 : (0 : Int32).toInt = 0 := rfl
  have e1 : (26 : Int32).toInt = 26 := rfl
  have e2 : (65 : Int32).toInt = 65 := rfl
  rw [Int32.lt_iff_toInt_lt, Int32.lt_iff_toInt_lt] at h
  show (((((65 : Int32) + i).toUInt32.toUInt16.toUInt32.toInt32)).toUInt32.toUInt16.toUInt32.toInt32).toInt = _
  omega
theorem d1_0 : decode method_2_code 0 = .ok (.iload_n 0, 1) := by decide +kernel
theorem d1_1 : decode method_2_code 1 = .ok (.ldc 7, 2) := by decide +kernel
theorem d1_3 : decode method_2_code 3 = .ok (.iand, 1) := by decide +kernel
theorem d1_4 : decode method_2_code 4 = .ok (.bipush 65, 2) := by decide +kernel
theorem d1_6 : decode method_2_code 6 = .ok (.irem, 1) := by decide +kernel
theorem d1_7 : decode method_2_code 7 = .ok (.istore_n 1, 1) := by decide +kernel
theorem d1_8 : decode method_2_code 8 = .ok (.iload_n 1, 1) := by decide +kernel
theorem d1_9 : decode method_2_code 9 = .ok (.bipush 26, 2) := by decide +kernel
theorem d1_11 : decode method_2_code 11 = .ok (.if_icmp .ge 9, 3) := by decide +kernel
theorem d1_14 : decode method_2_code 14 = .ok (.bipush 65, 2) := by decide +kernel
theorem d1_16 : decode method_2_code 16 = .ok (.iload_n 1, 1) := by decide +kernel
theorem d1_17 : decode method_2_code 17 = .ok (.iadd, 1) := by decide +kernel
theorem d1_18 : decode method_2_code 18 = .ok (.i2c, 1) := by decide +kernel
theorem d1_19 : decode method_2_code 19 = .ok (.ireturn, 1) := by decide +kernel
theorem d1_20 : decode method_2_code 20 = .ok (.iload_n 1, 1) := by decide +kernel
theorem d1_21 : decode method_2_code 21 = .ok (.bipush 52, 2) := by decide +kernel
theorem d1_23 : decode method_2_code 23 = .ok (.if_icmp .ge 12, 3) := by decide +kernel
theorem d1_26 : decode method_2_code 26 = .ok (.bipush 97, 2) := by decide +kernel
theorem d1_28 : decode method_2_code 28 = .ok (.iload_n 1, 1) := by decide +kernel
theorem d1_29 : decode method_2_code 29 = .ok (.bipush 26, 2) := by decide +kernel
theorem d1_31 : decode method_2_code 31 = .ok (.isub, 1) := by decide +kernel
theorem d1_32 : decode method_2_code 32 = .ok (.iadd, 1) := by decide +kernel
theorem d1_33 : decode method_2_code 33 = .ok (.i2c, 1) := by decide +kernel
theorem d1_34 : decode method_2_code 34 = .ok (.ireturn, 1) := by decide +kernel
theorem d1_35 : decode method_2_code 35 = .ok (.iload_n 1, 1) := by decide +kernel
theorem d1_36 : decode method_2_code 36 = .ok (.bipush 62, 2) := by decide +kernel
theorem d1_38 : decode method_2_code 38 = .ok (.if_icmp .ge 12, 3) := by decide +kernel
theorem d1_41 : decode method_2_code 41 = .ok (.bipush 48, 2) := by decide +kernel
theorem d1_43 : decode method_2_code 43 = .ok (.iload_n 1, 1) := by decide +kernel
theorem d1_44 : decode method_2_code 44 = .ok (.bipush 52, 2) := by decide +kernel
theorem d1_46 : decode method_2_code 46 = .ok (.isub, 1) := by decide +kernel
theorem d1_47 : decode method_2_code 47 = .ok (.iadd, 1) := by decide +kernel
theorem d1_48 : decode method_2_code 48 = .ok (.i2c, 1) := by decide +kernel
theorem d1_49 : decode method_2_code 49 = .ok (.ireturn, 1) := by decide +kernel
theorem d1_50 : decode method_2_code 50 = .ok (.iload_n 1, 1) := by decide +kernel
theorem d1_51 : decode method_2_code 51 = .ok (.bipush 62, 2) := by decide +kernel
theorem d1_53 : decode method_2_code 53 = .ok (.if_icmp .ne 6, 3) := by decide +kernel
theorem d1_56 : decode method_2_code 56 = .ok (.bipush 95, 2) := by decide +kernel
theorem d1_58 : decode method_2_code 58 = .ok (.ireturn, 1) := by decide +kernel
theorem d1_59 : decode method_2_code 59 = .ok (.iload_n 1, 1) := by decide +kernel
theorem d1_60 : decode method_2_code 60 = .ok (.bipush 63, 2) := by decide +kernel
theorem d1_62 : decode method_2_code 62 = .ok (.if_icmp .ne 6, 3) := by decide +kernel
theorem d1_65 : decode method_2_code 65 = .ok (.bipush 45, 2) := by decide +kernel
theorem d1_67 : decode method_2_code 67 = .ok (.ireturn, 1) := by decide +kernel
theorem d1_68 : decode method_2_code 68 = .ok (.bipush 46, 2) := by decide +kernel
theorem d1_70 : decode method_2_code 70 = .ok (.ireturn, 1) := by decide +kernel
theorem pn_com_example_trajectory_anonymizer_trajectoryanonymizer_model_PointCheckNamePinLaw : plainName "com/example/trajectory_anonymizer/trajectoryanonymizer/model/PointCheckNamePinLaw" = true := by first | (simp [plainName, overriddenIn]; done) | decide +kernel
def Q_rm1 (Z : State) (p0 : Int32) (h0 : Heap) (n0 : Nat) (v : Option Value) (h : Heap) (L : List Loc) : Prop := ∃ c : Int32, v = some (.int c) ∧ own_ok c ∧ Fr n0 L ∧ h = h0
set_option maxRecDepth 65536 in
set_option maxHeartbeats 40000000 in
theorem rm1 (l : Launch) (Z : State) (a0 : Array Value) (hw : ∀ d ∈ tables_1, d.before a0 Z = true) (p0 : Int32) (h0 : Heap) (n0 : Nat) (Z0 : n0 ≤ h0.size) :
    Ctr l Z (⟨"com/example/trajectory_anonymizer/trajectoryanonymizer/model/PointCheckNamePinLaw", "pick", "(I)C"⟩ : MethodName) method_2_code 2 (some .char) ({ frames := 0, cells := 0, slots := 0, locals := 0 } : Room) #[(.int p0)] h0 (Q_rm1 Z p0 h0 n0) := by
  refine Ctr.body (fr := fun m => mkF m 0 #[.val (.int p0), .unset] []) (plainFor_of_name pn_com_example_trajectory_anonymizer_trajectoryanonymizer_model_PointCheckNamePinLaw) (fun m => by first | (simp [entryFrame, mkF, argsToLocals, Value.category]; done) | rfl) fun p e s m below meth c s₁ hx hby hml hZ hown hnm hret hlk X0 e0 => ?_
  have N0 := Fr.nil n0
  have hown : s.vm.findClass "com/example/trajectory_anonymizer/trajectoryanonymizer/model/PointCheckNamePinLaw" = some m.cls := hown
  show W p e below _ (s₁.setTop (mkF m 0 #[.val (.int p0), .unset] []))
  refine W.go (fun _ hr => XS.iloadN X0.here hx rfl (hb hby d1_0) rfl hr) ?_
  show W p e below _ (s₁.setTop (mkF m 1 #[.val (.int p0), .unset] [(.int p0)]))
  refine W.go (X0.ldcInt hx hown (mvT hZ (hw _ (List.mem_of_getElem? (i := 4) rfl))) (g := (mkF m 1 #[.val (.int p0), .unset] [(.int p0)])) rfl (hb hby d1_1)) ?_
  show W p e below _ (s₁.setTop (mkF m 3 #[.val (.int p0), .unset] [(.int (2147483647 : Int32)), (.int p0)]))
  refine W.go (fun _ hr => XS.iand X0.here hx rfl (hb hby d1_3) rfl hr) ?_
  show W p e below _ (s₁.setTop (mkF m 4 #[.val (.int p0), .unset] [(.int (p0 &&& (2147483647 : Int32)))]))
  refine W.go (fun _ hr => XS.bipush X0.here hx rfl (hb hby d1_4) hr) ?_
  show W p e below _ (s₁.setTop (mkF m 6 #[.val (.int p0), .unset] [(.int (65 : Int32)), (.int (p0 &&& (2147483647 : Int32)))]))
  refine W.go (fun _ hr => iremM X0 hx rfl (hb hby d1_6) rfl (by decide) hr) ?_
  show W p e below _ (s₁.setTop (mkF m 7 #[.val (.int p0), .unset] [(.int ((p0 &&& (2147483647 : Int32)) % (65 : Int32)))]))
  generalize e_i : ((p0 &&& (2147483647 : Int32)) % (65 : Int32)) = i
  have hi : 0 ≤ i.toInt ∧ i.toInt < 65 := by
    have q := rngM p0 65 (by decide)
    rw [e_i] at q
    exact q
  refine W.go (fun _ hr => XS.istoreN X0.here hx rfl (hb hby d1_7) rfl (l' := #[.val (.int p0), .val (.int i)]) rfl hr) ?_
  show W p e below _ (s₁.setTop (mkF m 8 #[.val (.int p0), .val (.int i)] []))
  refine W.go (fun _ hr => XS.iloadN X0.here hx rfl (hb hby d1_8) rfl hr) ?_
  show W p e below _ (s₁.setTop (mkF m 9 #[.val (.int p0), .val (.int i)] [(.int i)]))
  refine W.go (fun _ hr => XS.bipush X0.here hx rfl (hb hby d1_9) hr) ?_
  show W p e below _ (s₁.setTop (mkF m 11 #[.val (.int p0), .val (.int i)] [(.int (26 : Int32)), (.int i)]))
  by_cases hc11_1 : i < (26 : Int32)
  · refine W.go (fun _ hr => XS.icmpNo X0.here hx rfl (hb hby d1_11) rfl (tlt hc11_1).2.1 hr) ?_
    show W p e below _ (s₁.setTop (mkF m 14 #[.val (.int p0), .val (.int i)] []))
    refine W.go (fun _ hr => XS.bipush X0.here hx rfl (hb hby d1_14) hr) ?_
    show W p e below _ (s₁.setTop (mkF m 16 #[.val (.int p0), .val (.int i)] [(.int (65 : Int32))]))
    refine W.go (fun _ hr => XS.iloadN X0.here hx rfl (hb hby d1_16) rfl hr) ?_
    show W p e below _ (s₁.setTop (mkF m 17 #[.val (.int p0), .val (.int i)] [(.int i), (.int (65 : Int32))]))
    refine W.go (fun _ hr => XS.iadd X0.here hx rfl (hb hby d1_17) rfl hr) ?_
    show W p e below _ (s₁.setTop (mkF m 18 #[.val (.int p0), .val (.int i)] [(.int ((65 : Int32) + i))]))
    refine W.go (fun _ hr => XS.i2c X0.here hx rfl (hb hby d1_18) rfl hr) ?_
    show W p e below _ (s₁.setTop (mkF m 19 #[.val (.int p0), .val (.int i)] [(.int (((65 : Int32) + i).toUInt32.toUInt16.toUInt32.toInt32))]))
    refine W.retB X0 hx hlk (t := .char) hret (by simp) (hb hby d1_19) (by decide) (by decide) e0 ⟨_, rfl, ?_, N0, rfl⟩
    have q := own_pick0 i ⟨by rw [Int32.lt_iff_toInt_lt]; have e0 : (0 : Int32).toInt = 0 := rfl; omega, hc11_1⟩
    simp only [own_ok, Int32.lt_iff_toInt_lt, ← Int32.toInt_inj, Int32.reduceToInt] at *
    omega
  · refine W.go (fun _ hr => XS.icmpYes X0.here hx rfl (pc0 := 11) (pc' := 20) rfl (hb hby d1_11) rfl (flt hc11_1).2.1 (by decide) (by decide) hr) ?_
    show W p e below _ (s₁.setTop (mkF m 20 #[.val (.int p0), .val (.int i)] []))
    refine W.go (fun _ hr => XS.iloadN X0.here hx rfl (hb hby d1_20) rfl hr) ?_
    show W p e below _ (s₁.setTop (mkF m 21 #[.val (.int p0), .val (.int i)] [(.int i)]))
    refine W.go (fun _ hr => XS.bipush X0.here hx rfl (hb hby d1_21) hr) ?_
    show W p e below _ (s₁.setTop (mkF m 23 #[.val (.int p0), .val (.int i)] [(.int (52 : Int32)), (.int i)]))
    by_cases hc23_2 : i < (52 : Int32)
    · refine W.go (fun _ hr => XS.icmpNo X0.here hx rfl (hb hby d1_23) rfl (tlt hc23_2).2.1 hr) ?_
      show W p e below _ (s₁.setTop (mkF m 26 #[.val (.int p0), .val (.int i)] []))
      refine W.go (fun _ hr => XS.bipush X0.here hx rfl (hb hby d1_26) hr) ?_
      show W p e below _ (s₁.setTop (mkF m 28 #[.val (.int p0), .val (.int i)] [(.int (97 : Int32))]))
      refine W.go (fun _ hr => XS.iloadN X0.here hx rfl (hb hby d1_28) rfl hr) ?_
      show W p e below _ (s₁.setTop (mkF m 29 #[.val (.int p0), .val (.int i)] [(.int i), (.int (97 : Int32))]))
      refine W.go (fun _ hr => XS.bipush X0.here hx rfl (hb hby d1_29) hr) ?_
      show W p e below _ (s₁.setTop (mkF m 31 #[.val (.int p0), .val (.int i)] [(.int (26 : Int32)), (.int i), (.int (97 : Int32))]))
      refine W.go (fun _ hr => XS.isub X0.here hx rfl (hb hby d1_31) rfl hr) ?_
      show W p e below _ (s₁.setTop (mkF m 32 #[.val (.int p0), .val (.int i)] [(.int (i - (26 : Int32))), (.int (97 : Int32))]))
      refine W.go (fun _ hr => XS.iadd X0.here hx rfl (hb hby d1_32) rfl hr) ?_
      show W p e below _ (s₁.setTop (mkF m 33 #[.val (.int p0), .val (.int i)] [(.int ((97 : Int32) + (i - (26 : Int32))))]))
      refine W.go (fun _ hr => XS.i2c X0.here hx rfl (hb hby d1_33) rfl hr) ?_
      show W p e below _ (s₁.setTop (mkF m 34 #[.val (.int p0), .val (.int i)] [(.int (((97 : Int32) + (i - (26 : Int32))).toUInt32.toUInt16.toUInt32.toInt32))]))
      refine W.retB X0 hx hlk (t := .char) hret (by simp) (hb hby d1_34) (by decide) (by decide) e0 ⟨_, rfl, ?_, N0, rfl⟩
      have q := own_pick i 97 26 52 ⟨hc11_1, hc23_2⟩ (by decide) (by decide)
      simp only [own_ok, Int32.lt_iff_toInt_lt, ← Int32.toInt_inj, Int32.reduceToInt] at *
      omega
    · refine W.go (fun _ hr => XS.icmpYes X0.here hx rfl (pc0 := 23) (pc' := 35) rfl (hb hby d1_23) rfl (flt hc23_2).2.1 (by decide) (by decide) hr) ?_
      show W p e below _ (s₁.setTop (mkF m 35 #[.val (.int p0), .val (.int i)] []))
      refine W.go (fun _ hr => XS.iloadN X0.here hx rfl (hb hby d1_35) rfl hr) ?_
      show W p e below _ (s₁.setTop (mkF m 36 #[.val (.int p0), .val (.int i)] [(.int i)]))
      refine W.go (fun _ hr => XS.bipush X0.here hx rfl (hb hby d1_36) hr) ?_
      show W p e below _ (s₁.setTop (mkF m 38 #[.val (.int p0), .val (.int i)] [(.int (62 : Int32)), (.int i)]))
      by_cases hc38_3 : i < (62 : Int32)
      · refine W.go (fun _ hr => XS.icmpNo X0.here hx rfl (hb hby d1_38) rfl (tlt hc38_3).2.1 hr) ?_
        show W p e below _ (s₁.setTop (mkF m 41 #[.val (.int p0), .val (.int i)] []))
        refine W.go (fun _ hr => XS.bipush X0.here hx rfl (hb hby d1_41) hr) ?_
        show W p e below _ (s₁.setTop (mkF m 43 #[.val (.int p0), .val (.int i)] [(.int (48 : Int32))]))
        refine W.go (fun _ hr => XS.iloadN X0.here hx rfl (hb hby d1_43) rfl hr) ?_
        show W p e below _ (s₁.setTop (mkF m 44 #[.val (.int p0), .val (.int i)] [(.int i), (.int (48 : Int32))]))
        refine W.go (fun _ hr => XS.bipush X0.here hx rfl (hb hby d1_44) hr) ?_
        show W p e below _ (s₁.setTop (mkF m 46 #[.val (.int p0), .val (.int i)] [(.int (52 : Int32)), (.int i), (.int (48 : Int32))]))
        refine W.go (fun _ hr => XS.isub X0.here hx rfl (hb hby d1_46) rfl hr) ?_
        show W p e below _ (s₁.setTop (mkF m 47 #[.val (.int p0), .val (.int i)] [(.int (i - (52 : Int32))), (.int (48 : Int32))]))
        refine W.go (fun _ hr => XS.iadd X0.here hx rfl (hb hby d1_47) rfl hr) ?_
        show W p e below _ (s₁.setTop (mkF m 48 #[.val (.int p0), .val (.int i)] [(.int ((48 : Int32) + (i - (52 : Int32))))]))
        refine W.go (fun _ hr => XS.i2c X0.here hx rfl (hb hby d1_48) rfl hr) ?_
        show W p e below _ (s₁.setTop (mkF m 49 #[.val (.int p0), .val (.int i)] [(.int (((48 : Int32) + (i - (52 : Int32))).toUInt32.toUInt16.toUInt32.toInt32))]))
        refine W.retB X0 hx hlk (t := .char) hret (by simp) (hb hby d1_49) (by decide) (by decide) e0 ⟨_, rfl, ?_, N0, rfl⟩
        have q := own_pick i 48 52 62 ⟨hc23_2, hc38_3⟩ (by decide) (by decide)
        simp only [own_ok, Int32.lt_iff_toInt_lt, ← Int32.toInt_inj, Int32.reduceToInt] at *
        omega
      · refine W.go (fun _ hr => XS.icmpYes X0.here hx rfl (pc0 := 38) (pc' := 50) rfl (hb hby d1_38) rfl (flt hc38_3).2.1 (by decide) (by decide) hr) ?_
        show W p e below _ (s₁.setTop (mkF m 50 #[.val (.int p0), .val (.int i)] []))
        refine W.go (fun _ hr => XS.iloadN X0.here hx rfl (hb hby d1_50) rfl hr) ?_
        show W p e below _ (s₁.setTop (mkF m 51 #[.val (.int p0), .val (.int i)] [(.int i)]))
        refine W.go (fun _ hr => XS.bipush X0.here hx rfl (hb hby d1_51) hr) ?_
        show W p e below _ (s₁.setTop (mkF m 53 #[.val (.int p0), .val (.int i)] [(.int (62 : Int32)), (.int i)]))
        by_cases hc53_4 : i = (62 : Int32)
        · refine W.go (fun _ hr => XS.icmpNo X0.here hx rfl (hb hby d1_53) rfl (teq hc53_4).2 hr) ?_
          show W p e below _ (s₁.setTop (mkF m 56 #[.val (.int p0), .val (.int i)] []))
          refine W.go (fun _ hr => XS.bipush X0.here hx rfl (hb hby d1_56) hr) ?_
          show W p e below _ (s₁.setTop (mkF m 58 #[.val (.int p0), .val (.int i)] [(.int (95 : Int32))]))
          refine W.retB X0 hx hlk (t := .char) hret (by simp) (hb hby d1_58) (by decide) (by decide) e0 ⟨_, rfl, ?_, N0, rfl⟩
          exact (show own_ok (95 : Int32) by simp [own_ok])
        · refine W.go (fun _ hr => XS.icmpYes X0.here hx rfl (pc0 := 53) (pc' := 59) rfl (hb hby d1_53) rfl (feq hc53_4).2 (by decide) (by decide) hr) ?_
          show W p e below _ (s₁.setTop (mkF m 59 #[.val (.int p0), .val (.int i)] []))
          refine W.go (fun _ hr => XS.iloadN X0.here hx rfl (hb hby d1_59) rfl hr) ?_
          show W p e below _ (s₁.setTop (mkF m 60 #[.val (.int p0), .val (.int i)] [(.int i)]))
          refine W.go (fun _ hr => XS.bipush X0.here hx rfl (hb hby d1_60) hr) ?_
          show W p e below _ (s₁.setTop (mkF m 62 #[.val (.int p0), .val (.int i)] [(.int (63 : Int32)), (.int i)]))
          by_cases hc62_5 : i = (63 : Int32)
          · refine W.go (fun _ hr => XS.icmpNo X0.here hx rfl (hb hby d1_62) rfl (teq hc62_5).2 hr) ?_
            show W p e below _ (s₁.setTop (mkF m 65 #[.val (.int p0), .val (.int i)] []))
            refine W.go (fun _ hr => XS.bipush X0.here hx rfl (hb hby d1_65) hr) ?_
            show W p e below _ (s₁.setTop (mkF m 67 #[.val (.int p0), .val (.int i)] [(.int (45 : Int32))]))
            refine W.retB X0 hx hlk (t := .char) hret (by simp) (hb hby d1_67) (by decide) (by decide) e0 ⟨_, rfl, ?_, N0, rfl⟩
            exact (show own_ok (45 : Int32) by simp [own_ok])
          · refine W.go (fun _ hr => XS.icmpYes X0.here hx rfl (pc0 := 62) (pc' := 68) rfl (hb hby d1_62) rfl (feq hc62_5).2 (by decide) (by decide) hr) ?_
            show W p e below _ (s₁.setTop (mkF m 68 #[.val (.int p0), .val (.int i)] []))
            refine W.go (fun _ hr => XS.bipush X0.here hx rfl (hb hby d1_68) hr) ?_
            show W p e below _ (s₁.setTop (mkF m 70 #[.val (.int p0), .val (.int i)] [(.int (46 : Int32))]))
            refine W.retB X0 hx hlk (t := .char) hret (by simp) (hb hby d1_70) (by decide) (by decide) e0 ⟨_, rfl, ?_, N0, rfl⟩
            exact (show own_ok (46 : Int32) by simp [own_ok])
theorem d11_0 : decode jdk_42_method_152_code 0 = .ok (.getstatic 38, 3) := by decide +kernel
theorem d11_3 : decode jdk_42_method_152_code 3 = .ok (.ifCond .eq 10, 3) := by decide +kernel
theorem d11_6 : decode jdk_42_method_152_code 6 = .ok (.aload_n 0, 1) := by decide +kernel
theorem d11_7 : decode jdk_42_method_152_code 7 = .ok (.getfield 15, 3) := by decide +kernel
theorem d11_10 : decode jdk_42_method_152_code 10 = .ok (.goto 4, 3) := by decide +kernel
theorem d11_14 : decode jdk_42_method_152_code 14 = .ok (.ireturn, 1) := by decide +kernel
theorem pn_java_lang_String : plainName "java/lang/String" = true := by first | (simp [plainName, overriddenIn]; done) | decide +kernel
def Q_rm11 (Z : State) (r0 : Addr) (zCS : Int32) (h0 : Heap) (n0 : Nat) (v : Option Value) (h : Heap) (L : List Loc) : Prop := v = some (.int (0 : Int32)) ∧ Fr n0 L ∧ h = h0
set_option maxRecDepth 65536 in
set_option maxHeartbeats 40000000 in
theorem rm11 (l : Launch) (Z : State) (a0 : Array Value) (hw : ∀ d ∈ tables_1, d.before a0 Z = true) (r0 : Addr) (zCS : Int32) (h0 : Heap) (n0 : Nat) (Z0 : n0 ≤ h0.size) (F_coder_r0 : Fld Z h0 r0 "java/lang/String" "coder" "B" (.int (0 : Int32))) (S_COMPACT_STRINGS : Sta Z h0 "java/lang/String" "COMPACT_STRINGS" "Z" (.int zCS)) (hCS : ¬ zCS = 0) :
    Ctr l Z (⟨"java/lang/String", "coder", "()B"⟩ : MethodName) jdk_42_method_152_code 1 (some .byte) ({ frames := 0, cells := 0, slots := 0, locals := 0 } : Room) #[(.ref r0)] h0 (Q_rm11 Z r0 zCS h0 n0) := by
  refine Ctr.body (fr := fun m => mkF m 0 #[.val (.ref r0)] []) (plainFor_of_name pn_java_lang_String) (fun m => by first | (simp [entryFrame, mkF, argsToLocals, Value.category]; done) | rfl) fun p e s m below meth c s₁ hx hby hml hZ hown hnm hret hlk X0 e0 => ?_
  have N0 := Fr.nil n0
  have hown : s.vm.findClass "java/lang/String" = some m.cls := hown
  show W p e below _ (s₁.setTop (mkF m 0 #[.val (.ref r0)] []))
  obtain ⟨T1, X1, e1, st1⟩ := getS2 X0 hx hZ hown (host := "") (Or.inl (hw _ (List.mem_of_getElem? (i := 19) rfl))) Via.refl e0 S_COMPACT_STRINGS (g := (mkF m 0 #[.val (.ref r0)] [])) rfl (hb hby d11_0)
  refine W.go st1 ?_
  show W p e below _ (T1.setTop (mkF m 3 #[.val (.ref r0)] [(.int zCS)]))
  refine W.go (fun _ hr => XS.ifNo X1.here hx rfl (hb hby d11_3) rfl ((if0 _ _).trans (feq hCS).1) hr) ?_
  show W p e below _ (T1.setTop (mkF m 6 #[.val (.ref r0)] []))
  refine W.go (fun _ hr => XS.aloadN X1.here hx rfl (hb hby d11_6) rfl rfl hr) ?_
  show W p e below _ (T1.setTop (mkF m 7 #[.val (.ref r0)] [(.ref r0)]))
  obtain ⟨T2, X2, e2, st2⟩ := getF X1 hx hZ hown (host := "") (Or.inl (hw _ (List.mem_of_getElem? (i := 31) rfl))) Via.refl e1 F_coder_r0 (g := (mkF m 7 #[.val (.ref r0)] [(.ref r0)])) rfl rfl (hb hby d11_7)
  refine W.go st2 ?_
  show W p e below _ (T2.setTop (mkF m 10 #[.val (.ref r0)] [(.int (0 : Int32))]))
  refine W.go (fun _ hr => XS.goto X2.here hx rfl (pc0 := 10) (pc' := 14) rfl (hb hby d11_10) (by decide) (by decide) hr) ?_
  show W p e below _ (T2.setTop (mkF m 14 #[.val (.ref r0)] [(.int (0 : Int32))]))
  exact W.retB X2 hx hlk (t := .byte) hret (by simp) (hb hby d11_14) (by decide) (by decide) e2 ⟨rfl, N0, rfl⟩
theorem d10_0 : decode jdk_42_method_54_code 0 = .ok (.aload_n 0, 1) := by decide +kernel
theorem d10_1 : decode jdk_42_method_54_code 1 = .ok (.getfield 9, 3) := by decide +kernel
theorem d10_4 : decode jdk_42_method_54_code 4 = .ok (.arraylength, 1) := by decide +kernel
theorem d10_5 : decode jdk_42_method_54_code 5 = .ok (.aload_n 0, 1) := by decide +kernel
theorem d10_6 : decode jdk_42_method_54_code 6 = .ok (.invokevirtual 335, 3) := by decide +kernel
theorem pd_59 : parseMethodDescriptor "()B" = some ⟨[], some .byte⟩ := by decide +kernel
theorem d10_9 : decode jdk_42_method_54_code 9 = .ok (.ishr, 1) := by decide +kernel
theorem d10_10 : decode jdk_42_method_54_code 10 = .ok (.ireturn, 1) := by decide +kernel
def Q_rm10 (Z : State) (r0 : Addr) (t : Addr) (kt : ClassId) (nt : Int32) (vs : List Value) (dv : Value) (zCS : Int32) (h0 : Heap) (n0 : Nat) (v : Option Value) (h : Heap) (L : List Loc) : Prop := v = some (.int nt) ∧ Fr n0 L ∧ h = h0
set_option maxRecDepth 65536 in
set_option maxHeartbeats 40000000 in
theorem rm10 (l : Launch) (Z : State) (a0 : Array Value) (hw : ∀ d ∈ tables_1, d.before a0 Z = true) (r0 : Addr) (t : Addr) (kt : ClassId) (nt : Int32) (vs : List Value) (dv : Value) (zCS : Int32) (h0 : Heap) (n0 : Nat) (Z0 : n0 ≤ h0.size) (E_r0 : Exa Z h0 r0 "java/lang/String") (F_value_r0 : Fld Z h0 r0 "java/lang/String" "value" "[B" (.ref t)) (F_coder_r0 : Fld Z h0 r0 "java/lang/String" "coder" "B" (.int (0 : Int32))) (V_t : Arv Z h0 t kt .byte nt vs dv) (S_COMPACT_STRINGS : Sta Z h0 "java/lang/String" "COMPACT_STRINGS" "Z" (.int zCS)) (hCS : ¬ zCS = 0) :
    Ctr l Z (⟨"java/lang/String", "length", "()I"⟩ : MethodName) jdk_42_method_54_code 1 (some .int) ({ frames := 1, cells := 0, slots := 0, locals := 13 } : Room) #[(.ref r0)] h0 (Q_rm10 Z r0 t kt nt vs dv zCS h0 n0) := by
  refine Ctr.body (fr := fun m => mkF m 0 #[.val (.ref r0)] []) (plainFor_of_name pn_java_lang_String) (fun m => by first | (simp [entryFrame, mkF, argsToLocals, Value.category]; done) | rfl) fun p e s m below meth c s₁ hx hby hml hZ hown hnm hret hlk X0 e0 => ?_
  have N0 := Fr.nil n0
  have hown : s.vm.findClass "java/lang/String" = some m.cls := hown
  show W p e below _ (s₁.setTop (mkF m 0 #[.val (.ref r0)] []))
  refine W.go (fun _ hr => XS.aloadN X0.here hx rfl (hb hby d10_0) rfl rfl hr) ?_
  show W p e below _ (s₁.setTop (mkF m 1 #[.val (.ref r0)] [(.ref r0)]))
  obtain ⟨T1, X1, e1, st1⟩ := getF X0 hx hZ hown (host := "") (Or.inl (hw _ (List.mem_of_getElem? (i := 33) rfl))) Via.refl e0 F_value_r0 (g := (mkF m 1 #[.val (.ref r0)] [(.ref r0)])) rfl rfl (hb hby d10_1)
  refine W.go st1 ?_
  show W p e below _ (T1.setTop (mkF m 4 #[.val (.ref r0)] [(.ref t)]))
  obtain ⟨cl2, Ar2, q2, S2, Nn2, H2, G2⟩ := id V_t
  refine W.go (X1.arraylength hx (by rw [e1]; exact Ar2.1) (State.isArrayOf_alike hZ.alike Ar2.2.1) (g := (mkF m 4 #[.val (.ref r0)] [(.ref t)])) rfl rfl (hb hby d10_4)) ?_
  rw [len_of S2 Nn2]
  show W p e below _ (T1.setTop (mkF m 5 #[.val (.ref r0)] [(.int nt)]))
  refine W.go (fun _ hr => XS.aloadN X1.here hx rfl (hb hby d10_5) rfl rfl hr) ?_
  show W p e below _ (T1.setTop (mkF m 6 #[.val (.ref r0)] [(.ref r0), (.int nt)]))
  refine W.callV X1 hx hZ hown (g := (mkF m 6 #[.val (.ref r0)] [(.ref r0), (.int nt)])) (by rw [hml]; rfl) (hw _ (List.mem_of_getElem? (i := 49) rfl)) (hw _ (List.mem_of_getElem? (i := 50) rfl)) (hw _ (List.mem_of_getElem? (i := 52) rfl)) (hw _ (List.mem_of_getElem? (i := 51) rfl)) (hw _ (List.mem_of_getElem? (i := 8) rfl)) (hw _ (List.mem_of_getElem? (i := 53) rfl)) e1 (rm11 l Z a0 hw r0 zCS h0 n0 Z0 F_coder_r0 S_COMPACT_STRINGS hCS) (notFace_of_selects (args := #[]) (mvT hZ (hw _ (List.mem_of_getElem? (i := 52) rfl)))) (by decide) pd_59 rfl E_r0 (argsL := []) (rest := [(.int nt)]) rfl rfl rfl (hb hby d10_6) (W0 := 1) rfl (by decide) (by decide) (by decide) (by decide) (fun v3 T3 h3 L3 X3 e3 hQ3 => ?_)
  obtain ⟨rfl, N3q, hh3⟩ := hQ3
  obtain rfl := hh3.symm
  have N3 := Fr.app N0 N3q
  show W p e below _ (T3.setTop (mkF m 9 #[.val (.ref r0)] [(.int (0 : Int32)), (.int nt)]))
  refine W.go (fun _ hr => XS.ishr X3.here hx rfl (hb hby d10_9) rfl hr) ?_
  show W p e below _ (T3.setTop (mkF m 10 #[.val (.ref r0)] [(.int (nt >>> ((0 : Int32) &&& 31)))]))
  rw [own_shr0]
  show W p e below _ (T3.setTop (mkF m 10 #[.val (.ref r0)] [(.int nt)]))
  exact W.retI X3 hx hlk hret (hb hby d10_10) (by decide) (by decide) e3 ⟨rfl, N3, rfl⟩
theorem d9_0 : decode jdk_42_method_55_code 0 = .ok (.aload_n 0, 1) := by decide +kernel
theorem d9_1 : decode jdk_42_method_55_code 1 = .ok (.getfield 9, 3) := by decide +kernel
theorem d9_4 : decode jdk_42_method_55_code 4 = .ok (.arraylength, 1) := by decide +kernel
theorem d9_5 : decode jdk_42_method_55_code 5 = .ok (.ifCond .ne 7, 3) := by decide +kernel
theorem d9_8 : decode jdk_42_method_55_code 8 = .ok (.iconst 1, 1) := by decide +kernel
theorem d9_9 : decode jdk_42_method_55_code 9 = .ok (.goto 4, 3) := by decide +kernel
theorem d9_13 : decode jdk_42_method_55_code 13 = .ok (.ireturn, 1) := by decide +kernel
theorem d9_12 : decode jdk_42_method_55_code 12 = .ok (.iconst 0, 1) := by decide +kernel
def Q_rm9 (Z : State) (r0 : Addr) (t : Addr) (kt : ClassId) (nt : Int32) (vs : List Value) (dv : Value) (z : Int32) (h0 : Heap) (n0 : Nat) (v : Option Value) (h : Heap) (L : List Loc) : Prop := v = some (.int z) ∧ Fr n0 L ∧ h = h0
set_option maxRecDepth 65536 in
set_option maxHeartbeats 40000000 in
theorem rm9 (l : Launch) (Z : State) (a0 : Array Value) (hw : ∀ d ∈ tables_1, d.before a0 Z = true) (r0 : Addr) (t : Addr) (kt : ClassId) (nt : Int32) (vs : List Value) (dv : Value) (z : Int32) (h0 : Heap) (n0 : Nat) (Z0 : n0 ≤ h0.size) (F_value_r0 : Fld Z h0 r0 "java/lang/String" "value" "[B" (.ref t)) (V_t : Arv Z h0 t kt .byte nt vs dv) (hz : z = if nt = 0 then (1 : Int32) else 0) :
    Ctr l Z (⟨"java/lang/String", "isEmpty", "()Z"⟩ : MethodName) jdk_42_method_55_code 1 (some .boolean) ({ frames := 0, cells := 0, slots := 0, locals := 0 } : Room) #[(.ref r0)] h0 (Q_rm9 Z r0 t kt nt vs dv z h0 n0) := by
  refine Ctr.body (fr := fun m => mkF m 0 #[.val (.ref r0)] []) (plainFor_of_name pn_java_lang_String) (fun m => by first | (simp [entryFrame, mkF, argsToLocals, Value.category]; done) | rfl) fun p e s m below meth c s₁ hx hby hml hZ hown hnm hret hlk X0 e0 => ?_
  have N0 := Fr.nil n0
  have hown : s.vm.findClass "java/lang/String" = some m.cls := hown
  show W p e below _ (s₁.setTop (mkF m 0 #[.val (.ref r0)] []))
  refine W.go (fun _ hr => XS.aloadN X0.here hx rfl (hb hby d9_0) rfl rfl hr) ?_
  show W p e below _ (s₁.setTop (mkF m 1 #[.val (.ref r0)] [(.ref r0)]))
  obtain ⟨T1, X1, e1, st1⟩ := getF X0 hx hZ hown (host := "") (Or.inl (hw _ (List.mem_of_getElem? (i := 33) rfl))) Via.refl e0 F_value_r0 (g := (mkF m 1 #[.val (.ref r0)] [(.ref r0)])) rfl rfl (hb hby d9_1)
  refine W.go st1 ?_
  show W p e below _ (T1.setTop (mkF m 4 #[.val (.ref r0)] [(.ref t)]))
  obtain ⟨cl2, Ar2, q2, S2, Nn2, H2, G2⟩ := id V_t
  refine W.go (X1.arraylength hx (by rw [e1]; exact Ar2.1) (State.isArrayOf_alike hZ.alike Ar2.2.1) (g := (mkF m 4 #[.val (.ref r0)] [(.ref t)])) rfl rfl (hb hby d9_4)) ?_
  rw [len_of S2 Nn2]
  show W p e below _ (T1.setTop (mkF m 5 #[.val (.ref r0)] [(.int nt)]))
  by_cases hc5_3 : nt = (0 : Int32)
  · refine W.go (fun _ hr => XS.ifNo X1.here hx rfl (hb hby d9_5) rfl ((if0 _ _).trans (teq hc5_3).2) hr) ?_
    show W p e below _ (T1.setTop (mkF m 8 #[.val (.ref r0)] []))
    refine W.go (fun _ hr => XS.iconst X1.here hx rfl (hb hby d9_8) hr) ?_
    show W p e below _ (T1.setTop (mkF m 9 #[.val (.ref r0)] [(.int (1 : Int32))]))
    refine W.go (fun _ hr => XS.goto X1.here hx rfl (pc0 := 9) (pc' := 13) rfl (hb hby d9_9) (by decide) (by decide) hr) ?_
    show W p e below _ (T1.setTop (mkF m 13 #[.val (.ref r0)] [(.int (1 : Int32))]))
    exact W.retB X1 hx hlk (t := .boolean) hret (by simp) (hb hby d9_13) (by decide) (by decide) e1 ⟨by rw [hz]; simp [*, nar], N0, rfl⟩
  · refine W.go (fun _ hr => XS.ifYes X1.here hx rfl (pc0 := 5) (pc' := 12) rfl (hb hby d9_5) rfl ((if0 _ _).trans (feq hc5_3).2) (by decide) (by decide) hr) ?_
    show W p e below _ (T1.setTop (mkF m 12 #[.val (.ref r0)] []))
    refine W.go (fun _ hr => XS.iconst X1.here hx rfl (hb hby d9_12) hr) ?_
    show W p e below _ (T1.setTop (mkF m 13 #[.val (.ref r0)] [(.int (0 : Int32))]))
    exact W.retB X1 hx hlk (t := .boolean) hret (by simp) (hb hby d9_13) (by decide) (by decide) e1 ⟨by rw [hz]; simp [*, nar], N0, rfl⟩
theorem d16_0 : decode jdk_41_method_11_code 0 = .ok (.iload_n 0, 1) := by decide +kernel
theorem d16_1 : decode jdk_41_method_11_code 1 = .ok (.ifCond .lt 8, 3) := by decide +kernel
theorem d16_4 : decode jdk_41_method_11_code 4 = .ok (.iload_n 0, 1) := by decide +kernel
theorem d16_5 : decode jdk_41_method_11_code 5 = .ok (.iload_n 1, 1) := by decide +kernel
theorem d16_6 : decode jdk_41_method_11_code 6 = .ok (.if_icmp .lt 10, 3) := by decide +kernel
theorem d16_16 : decode jdk_41_method_11_code 16 = .ok (.iload_n 0, 1) := by decide +kernel
theorem d16_17 : decode jdk_41_method_11_code 17 = .ok (.ireturn, 1) := by decide +kernel
theorem pn_jdk_internal_util_Preconditions : plainName "jdk/internal/util/Preconditions" = true := by first | (simp [plainName, overriddenIn]; done) | decide +kernel
def Q_rm16 (Z : State) (p0 : Int32) (p1 : Int32) (wSF : Value) (h0 : Heap) (n0 : Nat) (v : Option Value) (h : Heap) (L : List Loc) : Prop := v = some (.int p0) ∧ Fr n0 L ∧ h = h0
set_option maxRecDepth 65536 in
set_option maxHeartbeats 40000000 in
theorem rm16 (l : Launch) (Z : State) (a0 : Array Value) (hw : ∀ d ∈ tables_1, d.before a0 Z = true) (p0 : Int32) (p1 : Int32) (wSF : Value) (h0 : Heap) (n0 : Nat) (Z0 : n0 ≤ h0.size) (hi : ¬ p0 < 0 ∧ p0 < p1) (hSF : wSF.isRef = true) :
    Ctr l Z (⟨"jdk/internal/util/Preconditions", "checkIndex", "(IILjava/util/function/BiFunction;)I"⟩ : MethodName) jdk_41_method_11_code 3 (some .int) ({ frames := 0, cells := 0, slots := 0, locals := 0 } : Room) #[(.int p0), (.int p1), wSF] h0 (Q_rm16 Z p0 p1 wSF h0 n0) := by
  refine Ctr.body (fr := fun m => mkF m 0 #[.val (.int p0), .val (.int p1), .val wSF] []) (plainFor_of_name pn_jdk_internal_util_Preconditions) (fun m => by rcases ref_cases hSF with rfl | ⟨z, rfl⟩ <;> first | (simp [entryFrame, mkF, argsToLocals, Value.category]; done) | rfl) fun p e s m below meth c s₁ hx hby hml hZ hown hnm hret hlk X0 e0 => ?_
  have N0 := Fr.nil n0
  have hown : s.vm.findClass "jdk/internal/util/Preconditions" = some m.cls := hown
  show W p e below _ (s₁.setTop (mkF m 0 #[.val (.int p0), .val (.int p1), .val wSF] []))
  refine W.go (fun _ hr => XS.iloadN X0.here hx rfl (hb hby d16_0) rfl hr) ?_
  show W p e below _ (s₁.setTop (mkF m 1 #[.val (.int p0), .val (.int p1), .val wSF] [(.int p0)]))
  refine W.go (fun _ hr => XS.ifNo X0.here hx rfl (hb hby d16_1) rfl ((if0 _ _).trans (flt (hi.1 : ¬ (p0 < (0 : Int32)))).1) hr) ?_
  show W p e below _ (s₁.setTop (mkF m 4 #[.val (.int p0), .val (.int p1), .val wSF] []))
  refine W.go (fun _ hr => XS.iloadN X0.here hx rfl (hb hby d16_4) rfl hr) ?_
  show W p e below _ (s₁.setTop (mkF m 5 #[.val (.int p0), .val (.int p1), .val wSF] [(.int p0)]))
  refine W.go (fun _ hr => XS.iloadN X0.here hx rfl (hb hby d16_5) rfl hr) ?_
  show W p e below _ (s₁.setTop (mkF m 6 #[.val (.int p0), .val (.int p1), .val wSF] [(.int p1), (.int p0)]))
  refine W.go (fun _ hr => XS.icmpYes X0.here hx rfl (pc0 := 6) (pc' := 16) rfl (hb hby d16_6) rfl (tlt (hi.2 : (p0 < p1))).1 (by decide) (by decide) hr) ?_
  show W p e below _ (s₁.setTop (mkF m 16 #[.val (.int p0), .val (.int p1), .val wSF] []))
  refine W.go (fun _ hr => XS.iloadN X0.here hx rfl (hb hby d16_16) rfl hr) ?_
  show W p e below _ (s₁.setTop (mkF m 17 #[.val (.int p0), .val (.int p1), .val wSF] [(.int p0)]))
  exact W.retI X0 hx hlk hret (hb hby d16_17) (by decide) (by decide) e0 ⟨rfl, N0, rfl⟩
theorem d15_0 : decode jdk_42_method_155_code 0 = .ok (.iload_n 0, 1) := by decide +kernel
theorem d15_1 : decode jdk_42_method_155_code 1 = .ok (.iload_n 1, 1) := by decide +kernel
theorem d15_2 : decode jdk_42_method_155_code 2 = .ok (.getstatic 1053, 3) := by decide +kernel
theorem d15_5 : decode jdk_42_method_155_code 5 = .ok (.invokestatic 1059, 3) := by decide +kernel
theorem pd_82 : parseMethodDescriptor "(IILjava/util/function/BiFunction;)I" = some ⟨[.int, .int, (.object "java/util/function/BiFunction")], some .int⟩ := by decide +kernel
theorem d15_8 : decode jdk_42_method_155_code 8 = .ok (.pop, 1) := by decide +kernel
theorem d15_9 : decode jdk_42_method_155_code 9 = .ok (.return_, 1) := by decide +kernel
def Q_rm15 (Z : State) (p0 : Int32) (p1 : Int32) (wSF : Value) (h0 : Heap) (n0 : Nat) (v : Option Value) (h : Heap) (L : List Loc) : Prop := v = none ∧ Fr n0 L ∧ h = h0
set_option maxRecDepth 65536 in
set_option maxHeartbeats 40000000 in
theorem rm15 (l : Launch) (Z : State) (a0 : Array Value) (hw : ∀ d ∈ tables_1, d.before a0 Z = true) (p0 : Int32) (p1 : Int32) (wSF : Value) (h0 : Heap) (n0 : Nat) (Z0 : n0 ≤ h0.size) (hi : ¬ p0 < 0 ∧ p0 < p1) (S_SIOOBE_FORMATTER : Sta Z h0 "jdk/internal/util/Preconditions" "SIOOBE_FORMATTER" "Ljava/util/function/BiFunction;" wSF) (hSF : wSF.isRef = true) :
    Ctr l Z (⟨"java/lang/String", "checkIndex", "(II)V"⟩ : MethodName) jdk_42_method_155_code 2 none ({ frames := 1, cells := 0, slots := 0, locals := 14 } : Room) #[(.int p0), (.int p1)] h0 (Q_rm15 Z p0 p1 wSF h0 n0) := by
  refine Ctr.body (fr := fun m => mkF m 0 #[.val (.int p0), .val (.int p1)] []) (plainFor_of_name pn_java_lang_String) (fun m => by first | (simp [entryFrame, mkF, argsToLocals, Value.category]; done) | rfl) fun p e s m below meth c s₁ hx hby hml hZ hown hnm hret hlk X0 e0 => ?_
  have N0 := Fr.nil n0
  have hown : s.vm.findClass "java/lang/String" = some m.cls := hown
  show W p e below _ (s₁.setTop (mkF m 0 #[.val (.int p0), .val (.int p1)] []))
  refine W.go (fun _ hr => XS.iloadN X0.here hx rfl (hb hby d15_0) rfl hr) ?_
  show W p e below _ (s₁.setTop (mkF m 1 #[.val (.int p0), .val (.int p1)] [(.int p0)]))
  refine W.go (fun _ hr => XS.iloadN X0.here hx rfl (hb hby d15_1) rfl hr) ?_
  show W p e below _ (s₁.setTop (mkF m 2 #[.val (.int p0), .val (.int p1)] [(.int p1), (.int p0)]))
  obtain ⟨T1, X1, e1, st1⟩ := getS2 X0 hx hZ hown (host := "") (Or.inl (hw _ (List.mem_of_getElem? (i := 71) rfl))) Via.refl e0 S_SIOOBE_FORMATTER (g := (mkF m 2 #[.val (.int p0), .val (.int p1)] [(.int p1), (.int p0)])) rfl (hb hby d15_2)
  refine W.go st1 ?_
  show W p e below _ (T1.setTop (mkF m 5 #[.val (.int p0), .val (.int p1)] [wSF, (.int p1), (.int p0)]))
  refine W.callS X1 hx hZ hown (g := (mkF m 5 #[.val (.int p0), .val (.int p1)] [wSF, (.int p1), (.int p0)])) (by rw [hml]; rfl) (hw _ (List.mem_of_getElem? (i := 73) rfl)) (hw _ (List.mem_of_getElem? (i := 74) rfl)) (hw _ (List.mem_of_getElem? (i := 72) rfl)) (hw _ (List.mem_of_getElem? (i := 75) rfl)) e1 (rm16 l Z a0 hw p0 p1 wSF h0 n0 Z0 hi hSF) (by decide) pd_82 rfl (argsL := [(.int p0), (.int p1), wSF]) (rest := []) rfl rfl rfl (hb hby d15_5) (W0 := 0) rfl (by decide) (by decide) (by decide) (by decide) (fun v2 T2 h2 L2 X2 e2 hQ2 => ?_)
  obtain ⟨rfl, N2q, hh2⟩ := hQ2
  obtain rfl := hh2.symm
  have N2 := Fr.app N0 N2q
  show W p e below _ (T2.setTop (mkF m 8 #[.val (.int p0), .val (.int p1)] [(.int p0)]))
  refine W.go (fun _ hr => XS.pop X2.here hx rfl (hb hby d15_8) rfl rfl hr) ?_
  show W p e below _ (T2.setTop (mkF m 9 #[.val (.int p0), .val (.int p1)] []))
  exact W.retV X2 hx hlk hret (hb hby d15_9) (by decide) (by decide) e2 ⟨rfl, N2, rfl⟩
theorem d13_0 : decode jdk_42_method_154_code 0 = .ok (.getstatic 38, 3) := by decide +kernel
theorem d13_3 : decode jdk_42_method_154_code 3 = .ok (.ifCond .eq 14, 3) := by decide +kernel
theorem d13_6 : decode jdk_42_method_154_code 6 = .ok (.aload_n 0, 1) := by decide +kernel
theorem d13_7 : decode jdk_42_method_154_code 7 = .ok (.getfield 15, 3) := by decide +kernel
theorem d13_10 : decode jdk_42_method_154_code 10 = .ok (.ifCond .ne 7, 3) := by decide +kernel
theorem d13_13 : decode jdk_42_method_154_code 13 = .ok (.iconst 1, 1) := by decide +kernel
theorem d13_14 : decode jdk_42_method_154_code 14 = .ok (.goto 4, 3) := by decide +kernel
theorem d13_18 : decode jdk_42_method_154_code 18 = .ok (.ireturn, 1) := by decide +kernel
def Q_rm13 (Z : State) (r0 : Addr) (zCS : Int32) (h0 : Heap) (n0 : Nat) (v : Option Value) (h : Heap) (L : List Loc) : Prop := v = some (.int (1 : Int32)) ∧ Fr n0 L ∧ h = h0
set_option maxRecDepth 65536 in
set_option maxHeartbeats 40000000 in
theorem rm13 (l : Launch) (Z : State) (a0 : Array Value) (hw : ∀ d ∈ tables_1, d.before a0 Z = true) (r0 : Addr) (zCS : Int32) (h0 : Heap) (n0 : Nat) (Z0 : n0 ≤ h0.size) (F_coder_r0 : Fld Z h0 r0 "java/lang/String" "coder" "B" (.int (0 : Int32))) (S_COMPACT_STRINGS : Sta Z h0 "java/lang/String" "COMPACT_STRINGS" "Z" (.int zCS)) (hCS : ¬ zCS = 0) :
    Ctr l Z (⟨"java/lang/String", "isLatin1", "()Z"⟩ : MethodName) jdk_42_method_154_code 1 (some .boolean) ({ frames := 0, cells := 0, slots := 0, locals := 0 } : Room) #[(.ref r0)] h0 (Q_rm13 Z r0 zCS h0 n0) := by
  refine Ctr.body (fr := fun m => mkF m 0 #[.val (.ref r0)] []) (plainFor_of_name pn_java_lang_String) (fun m => by first | (simp [entryFrame, mkF, argsToLocals, Value.category]; done) | rfl) fun p e s m below meth c s₁ hx hby hml hZ hown hnm hret hlk X0 e0 => ?_
  have N0 := Fr.nil n0
  have hown : s.vm.findClass "java/lang/String" = some m.cls := hown
  show W p e below _ (s₁.setTop (mkF m 0 #[.val (.ref r0)] []))
  obtain ⟨T1, X1, e1, st1⟩ := getS2 X0 hx hZ hown (host := "") (Or.inl (hw _ (List.mem_of_getElem? (i := 19) rfl))) Via.refl e0 S_COMPACT_STRINGS (g := (mkF m 0 #[.val (.ref r0)] [])) rfl (hb hby d13_0)
  refine W.go st1 ?_
  show W p e below _ (T1.setTop (mkF m 3 #[.val (.ref r0)] [(.int zCS)]))
  refine W.go (fun _ hr => XS.ifNo X1.here hx rfl (hb hby d13_3) rfl ((if0 _ _).trans (feq hCS).1) hr) ?_
  show W p e below _ (T1.setTop (mkF m 6 #[.val (.ref r0)] []))
  refine W.go (fun _ hr => XS.aloadN X1.here hx rfl (hb hby d13_6) rfl rfl hr) ?_
  show W p e below _ (T1.setTop (mkF m 7 #[.val (.ref r0)] [(.ref r0)]))
  obtain ⟨T2, X2, e2, st2⟩ := getF X1 hx hZ hown (host := "") (Or.inl (hw _ (List.mem_of_getElem? (i := 31) rfl))) Via.refl e1 F_coder_r0 (g := (mkF m 7 #[.val (.ref r0)] [(.ref r0)])) rfl rfl (hb hby d13_7)
  refine W.go st2 ?_
  show W p e below _ (T2.setTop (mkF m 10 #[.val (.ref r0)] [(.int (0 : Int32))]))
  refine W.go (fun _ hr => XS.ifNo X2.here hx rfl (hb hby d13_10) rfl ((if0 _ _).trans (teq (by decide : ((0 : Int32) = (0 : Int32)))).2) hr) ?_
  show W p e below _ (T2.setTop (mkF m 13 #[.val (.ref r0)] []))
  refine W.go (fun _ hr => XS.iconst X2.here hx rfl (hb hby d13_13) hr) ?_
  show W p e below _ (T2.setTop (mkF m 14 #[.val (.ref r0)] [(.int (1 : Int32))]))
  refine W.go (fun _ hr => XS.goto X2.here hx rfl (pc0 := 14) (pc' := 18) rfl (hb hby d13_14) (by decide) (by decide) hr) ?_
  show W p e below _ (T2.setTop (mkF m 18 #[.val (.ref r0)] [(.int (1 : Int32))]))
  exact W.retB X2 hx hlk (t := .boolean) hret (by simp) (hb hby d13_18) (by decide) (by decide) e2 ⟨rfl, N0, rfl⟩
theorem d14_0 : decode jdk_43_method_2_code 0 = .ok (.iload_n 1, 1) := by decide +kernel
theorem d14_1 : decode jdk_43_method_2_code 1 = .ok (.aload_n 0, 1) := by decide +kernel
theorem d14_2 : decode jdk_43_method_2_code 2 = .ok (.arraylength, 1) := by decide +kernel
theorem d14_3 : decode jdk_43_method_2_code 3 = .ok (.invokestatic 9, 3) := by decide +kernel
theorem pd_97 : parseMethodDescriptor "(II)V" = some ⟨[.int, .int], none⟩ := by decide +kernel
theorem d14_6 : decode jdk_43_method_2_code 6 = .ok (.aload_n 0, 1) := by decide +kernel
theorem d14_7 : decode jdk_43_method_2_code 7 = .ok (.iload_n 1, 1) := by decide +kernel
theorem d14_8 : decode jdk_43_method_2_code 8 = .ok (.baload, 1) := by decide +kernel
theorem d14_9 : decode jdk_43_method_2_code 9 = .ok (.sipush 255, 3) := by decide +kernel
theorem d14_12 : decode jdk_43_method_2_code 12 = .ok (.iand, 1) := by decide +kernel
theorem d14_13 : decode jdk_43_method_2_code 13 = .ok (.i2c, 1) := by decide +kernel
theorem d14_14 : decode jdk_43_method_2_code 14 = .ok (.ireturn, 1) := by decide +kernel
theorem pn_java_lang_StringLatin1 : plainName "java/lang/StringLatin1" = true := by first | (simp [plainName, overriddenIn]; done) | decide +kernel
def Q_rm14 (Z : State) (r0 : Addr) (p1 : Int32) (kt : ClassId) (nt : Int32) (vs : List Value) (dv : Value) (x : Int32) (wSF : Value) (h0 : Heap) (n0 : Nat) (v : Option Value) (h : Heap) (L : List Loc) : Prop := v = some (.int (x &&& 255)) ∧ Fr n0 L ∧ h = h0
set_option maxRecDepth 65536 in
set_option maxHeartbeats 40000000 in
theorem rm14 (l : Launch) (Z : State) (a0 : Array Value) (hw : ∀ d ∈ tables_1, d.before a0 Z = true) (r0 : Addr) (p1 : Int32) (kt : ClassId) (nt : Int32) (vs : List Value) (dv : Value) (x : Int32) (wSF : Value) (h0 : Heap) (n0 : Nat) (Z0 : n0 ≤ h0.size) (V_r0 : Arv Z h0 r0 kt .byte nt vs dv) (hi : ¬ p1 < 0 ∧ p1 < nt) (hel : vs.getD p1.toNatClampNeg dv = .int x) (S_SIOOBE_FORMATTER : Sta Z h0 "jdk/internal/util/Preconditions" "SIOOBE_FORMATTER" "Ljava/util/function/BiFunction;" wSF) (hSF : wSF.isRef = true) :
    Ctr l Z (⟨"java/lang/StringLatin1", "charAt", "([BI)C"⟩ : MethodName) jdk_43_method_2_code 2 (some .char) ({ frames := 2, cells := 0, slots := 0, locals := 27 } : Room) #[(.ref r0), (.int p1)] h0 (Q_rm14 Z r0 p1 kt nt vs dv x wSF h0 n0) := by
  refine Ctr.body (fr := fun m => mkF m 0 #[.val (.ref r0), .val (.int p1)] []) (plainFor_of_name pn_java_lang_StringLatin1) (fun m => by first | (simp [entryFrame, mkF, argsToLocals, Value.category]; done) | rfl) fun p e s m below meth c s₁ hx hby hml hZ hown hnm hret hlk X0 e0 => ?_
  have N0 := Fr.nil n0
  have hown : s.vm.findClass "java/lang/StringLatin1" = some m.cls := hown
  show W p e below _ (s₁.setTop (mkF m 0 #[.val (.ref r0), .val (.int p1)] []))
  refine W.go (fun _ hr => XS.iloadN X0.here hx rfl (hb hby d14_0) rfl hr) ?_
  show W p e below _ (s₁.setTop (mkF m 1 #[.val (.ref r0), .val (.int p1)] [(.int p1)]))
  refine W.go (fun _ hr => XS.aloadN X0.here hx rfl (hb hby d14_1) rfl rfl hr) ?_
  show W p e below _ (s₁.setTop (mkF m 2 #[.val (.ref r0), .val (.int p1)] [(.ref r0), (.int p1)]))
  obtain ⟨cl1, Ar1, q1, S1, Nn1, H1, G1⟩ := id V_r0
  refine W.go (X0.arraylength hx (by rw [e0]; exact Ar1.1) (State.isArrayOf_alike hZ.alike Ar1.2.1) (g := (mkF m 2 #[.val (.ref r0), .val (.int p1)] [(.ref r0), (.int p1)])) rfl rfl (hb hby d14_2)) ?_
  rw [len_of S1 Nn1]
  show W p e below _ (s₁.setTop (mkF m 3 #[.val (.ref r0), .val (.int p1)] [(.int nt), (.int p1)]))
  refine W.callS X0 hx hZ hown (g := (mkF m 3 #[.val (.ref r0), .val (.int p1)] [(.int nt), (.int p1)])) (by rw [hml]; rfl) (hw _ (List.mem_of_getElem? (i := 68) rfl)) (hw _ (List.mem_of_getElem? (i := 69) rfl)) (hw _ (List.mem_of_getElem? (i := 8) rfl)) (hw _ (List.mem_of_getElem? (i := 70) rfl)) e0 (rm15 l Z a0 hw p1 nt wSF h0 n0 Z0 hi S_SIOOBE_FORMATTER hSF) (by decide) pd_97 rfl (argsL := [(.int p1), (.int nt)]) (rest := []) rfl rfl rfl (hb hby d14_3) (W0 := 0) rfl (by decide) (by decide) (by decide) (by decide) (fun v2 T2 h2 L2 X2 e2 hQ2 => ?_)
  obtain ⟨rfl, N2q, hh2⟩ := hQ2
  obtain rfl := hh2.symm
  have N2 := Fr.app N0 N2q
  show W p e below _ (T2.setTop (mkF m 6 #[.val (.ref r0), .val (.int p1)] []))
  refine W.go (fun _ hr => XS.aloadN X2.here hx rfl (hb hby d14_6) rfl rfl hr) ?_
  show W p e below _ (T2.setTop (mkF m 7 #[.val (.ref r0), .val (.int p1)] [(.ref r0)]))
  refine W.go (fun _ hr => XS.iloadN X2.here hx rfl (hb hby d14_7) rfl hr) ?_
  show W p e below _ (T2.setTop (mkF m 8 #[.val (.ref r0), .val (.int p1)] [(.int p1), (.ref r0)]))
  obtain ⟨cl3, Ar3, q3, S3, Nn3, H3, G3⟩ := id V_r0
  have hin3 : ¬ (p1 < 0 ∨ cl3.slots.size ≤ (p1).toNatClampNeg) := inb_of S3 hi
  have hat3 : cl3.slots[(p1).toNatClampNeg]? = some (.int x) := H3.at hin3 hel
  refine W.go (X2.baloadBytes hx (j := p1) (v := (.int x)) (by rw [e2]; exact Ar3.1) (State.isArrayOf_alike hZ.alike Ar3.2.1) Ar3.2.2 hin3 hat3 (g := (mkF m 8 #[.val (.ref r0), .val (.int p1)] [(.int p1), (.ref r0)])) rfl rfl (hb hby d14_8)) ?_
  show W p e below _ (T2.setTop (mkF m 9 #[.val (.ref r0), .val (.int p1)] [(.int x)]))
  refine W.go (fun _ hr => XS.sipush X2.here hx rfl (hb hby d14_9) hr) ?_
  show W p e below _ (T2.setTop (mkF m 12 #[.val (.ref r0), .val (.int p1)] [(.int (255 : Int32)), (.int x)]))
  refine W.go (fun _ hr => XS.iand X2.here hx rfl (hb hby d14_12) rfl hr) ?_
  show W p e below _ (T2.setTop (mkF m 13 #[.val (.ref r0), .val (.int p1)] [(.int (x &&& (255 : Int32)))]))
  refine W.go (fun _ hr => XS.i2c X2.here hx rfl (hb hby d14_13) rfl hr) ?_
  show W p e below _ (T2.setTop (mkF m 14 #[.val (.ref r0), .val (.int p1)] [(.int ((x &&& (255 : Int32)).toUInt32.toUInt16.toUInt32.toInt32))]))
  exact W.retB X2 hx hlk (t := .char) hret (by simp) (hb hby d14_14) (by decide) (by decide) e2 ⟨by rw [own_lo255], N2, rfl⟩
theorem own_nar255 (x : Int32) : nar .char (x &&& 255) = x &&& 255 := by rw [show (x &&& 255) = (x &&& 255).toUInt32.toUInt16.toUInt32.toInt32 from (i2c_mask x).symm]; rw [show nar .char ((x &&& 255).toUInt32.toUInt16.toUInt32.toInt32) = x &&& 255 from own_lo255 x]; exact (i2c_mask x).symm
theorem d12_0 : decode jdk_42_method_56_code 0 = .ok (.aload_n 0, 1) := by decide +kernel
theorem d12_1 : decode jdk_42_method_56_code 1 = .ok (.invokevirtual 492, 3) := by decide +kernel
theorem pd_108 : parseMethodDescriptor "()Z" = some ⟨[], some .boolean⟩ := by decide +kernel
theorem d12_4 : decode jdk_42_method_56_code 4 = .ok (.ifCond .eq 12, 3) := by decide +kernel
theorem d12_7 : decode jdk_42_method_56_code 7 = .ok (.aload_n 0, 1) := by decide +kernel
theorem d12_8 : decode jdk_42_method_56_code 8 = .ok (.getfield 9, 3) := by decide +kernel
theorem d12_11 : decode jdk_42_method_56_code 11 = .ok (.iload_n 1, 1) := by decide +kernel
theorem d12_12 : decode jdk_42_method_56_code 12 = .ok (.invokestatic 495, 3) := by decide +kernel
theorem pd_114 : parseMethodDescriptor "([BI)C" = some ⟨[(.array .byte), .int], some .char⟩ := by decide +kernel
theorem d12_15 : decode jdk_42_method_56_code 15 = .ok (.ireturn, 1) := by decide +kernel
def Q_rm12 (Z : State) (r0 : Addr) (p1 : Int32) (t : Addr) (kt : ClassId) (nt : Int32) (vs : List Value) (dv : Value) (x : Int32) (zCS : Int32) (wSF : Value) (h0 : Heap) (n0 : Nat) (v : Option Value) (h : Heap) (L : List Loc) : Prop := v = some (.int (x &&& 255)) ∧ Fr n0 L ∧ h = h0
set_option maxRecDepth 65536 in
set_option maxHeartbeats 40000000 in
theorem rm12 (l : Launch) (Z : State) (a0 : Array Value) (hw : ∀ d ∈ tables_1, d.before a0 Z = true) (r0 : Addr) (p1 : Int32) (t : Addr) (kt : ClassId) (nt : Int32) (vs : List Value) (dv : Value) (x : Int32) (zCS : Int32) (wSF : Value) (h0 : Heap) (n0 : Nat) (Z0 : n0 ≤ h0.size) (E_r0 : Exa Z h0 r0 "java/lang/String") (F_value_r0 : Fld Z h0 r0 "java/lang/String" "value" "[B" (.ref t)) (F_coder_r0 : Fld Z h0 r0 "java/lang/String" "coder" "B" (.int (0 : Int32))) (V_t : Arv Z h0 t kt .byte nt vs dv) (hi : ¬ p1 < 0 ∧ p1 < nt) (hel : vs.getD p1.toNatClampNeg dv = .int x) (S_COMPACT_STRINGS : Sta Z h0 "java/lang/String" "COMPACT_STRINGS" "Z" (.int zCS)) (hCS : ¬ zCS = 0) (S_SIOOBE_FORMATTER : Sta Z h0 "jdk/internal/util/Preconditions" "SIOOBE_FORMATTER" "Ljava/util/function/BiFunction;" wSF) (hSF : wSF.isRef = true) :
    Ctr l Z (⟨"java/lang/String", "charAt", "(I)C"⟩ : MethodName) jdk_42_method_56_code 2 (some .char) ({ frames := 3, cells := 0, slots := 0, locals := 40 } : Room) #[(.ref r0), (.int p1)] h0 (Q_rm12 Z r0 p1 t kt nt vs dv x zCS wSF h0 n0) := by
  refine Ctr.body (fr := fun m => mkF m 0 #[.val (.ref r0), .val (.int p1)] []) (plainFor_of_name pn_java_lang_String) (fun m => by first | (simp [entryFrame, mkF, argsToLocals, Value.category]; done) | rfl) fun p e s m below meth c s₁ hx hby hml hZ hown hnm hret hlk X0 e0 => ?_
  have N0 := Fr.nil n0
  have hown : s.vm.findClass "java/lang/String" = some m.cls := hown
  show W p e below _ (s₁.setTop (mkF m 0 #[.val (.ref r0), .val (.int p1)] []))
  refine W.go (fun _ hr => XS.aloadN X0.here hx rfl (hb hby d12_0) rfl rfl hr) ?_
  show W p e below _ (s₁.setTop (mkF m 1 #[.val (.ref r0), .val (.int p1)] [(.ref r0)]))
  refine W.callV X0 hx hZ hown (g := (mkF m 1 #[.val (.ref r0), .val (.int p1)] [(.ref r0)])) (by rw [hml]; rfl) (hw _ (List.mem_of_getElem? (i := 59) rfl)) (hw _ (List.mem_of_getElem? (i := 60) rfl)) (hw _ (List.mem_of_getElem? (i := 62) rfl)) (hw _ (List.mem_of_getElem? (i := 61) rfl)) (hw _ (List.mem_of_getElem? (i := 8) rfl)) (hw _ (List.mem_of_getElem? (i := 63) rfl)) e0 (rm13 l Z a0 hw r0 zCS h0 n0 Z0 F_coder_r0 S_COMPACT_STRINGS hCS) (notFace_of_selects (args := #[]) (mvT hZ (hw _ (List.mem_of_getElem? (i := 62) rfl)))) (by decide) pd_108 rfl E_r0 (argsL := []) (rest := []) rfl rfl rfl (hb hby d12_1) (W0 := 0) rfl (by decide) (by decide) (by decide) (by decide) (fun v1 T1 h1 L1 X1 e1 hQ1 => ?_)
  obtain ⟨rfl, N1q, hh1⟩ := hQ1
  obtain rfl := hh1.symm
  have N1 := Fr.app N0 N1q
  show W p e below _ (T1.setTop (mkF m 4 #[.val (.ref r0), .val (.int p1)] [(.int (1 : Int32))]))
  refine W.go (fun _ hr => XS.ifNo X1.here hx rfl (hb hby d12_4) rfl ((if0 _ _).trans (feq (by decide : ¬ ((1 : Int32) = (0 : Int32)))).1) hr) ?_
  show W p e below _ (T1.setTop (mkF m 7 #[.val (.ref r0), .val (.int p1)] []))
  refine W.go (fun _ hr => XS.aloadN X1.here hx rfl (hb hby d12_7) rfl rfl hr) ?_
  show W p e below _ (T1.setTop (mkF m 8 #[.val (.ref r0), .val (.int p1)] [(.ref r0)]))
  obtain ⟨T2, X2, e2, st2⟩ := getF X1 hx hZ hown (host := "") (Or.inl (hw _ (List.mem_of_getElem? (i := 33) rfl))) Via.refl e1 F_value_r0 (g := (mkF m 8 #[.val (.ref r0), .val (.int p1)] [(.ref r0)])) rfl rfl (hb hby d12_8)
  refine W.go st2 ?_
  show W p e below _ (T2.setTop (mkF m 11 #[.val (.ref r0), .val (.int p1)] [(.ref t)]))
  refine W.go (fun _ hr => XS.iloadN X2.here hx rfl (hb hby d12_11) rfl hr) ?_
  show W p e below _ (T2.setTop (mkF m 12 #[.val (.ref r0), .val (.int p1)] [(.int p1), (.ref t)]))
  refine W.callS X2 hx hZ hown (g := (mkF m 12 #[.val (.ref r0), .val (.int p1)] [(.int p1), (.ref t)])) (by rw [hml]; rfl) (hw _ (List.mem_of_getElem? (i := 64) rfl)) (hw _ (List.mem_of_getElem? (i := 65) rfl)) (hw _ (List.mem_of_getElem? (i := 66) rfl)) (hw _ (List.mem_of_getElem? (i := 67) rfl)) e2 (rm14 l Z a0 hw t p1 kt nt vs dv x wSF h0 n0 Z0 V_t hi hel S_SIOOBE_FORMATTER hSF) (by decide) pd_114 rfl (argsL := [(.ref t), (.int p1)]) (rest := []) rfl rfl rfl (hb hby d12_12) (W0 := 0) rfl (by decide) (by decide) (by decide) (by decide) (fun v3 T3 h3 L3 X3 e3 hQ3 => ?_)
  obtain ⟨rfl, N3q, hh3⟩ := hQ3
  obtain rfl := hh3.symm
  have N3 := Fr.app N1 N3q
  show W p e below _ (T3.setTop (mkF m 15 #[.val (.ref r0), .val (.int p1)] [(.int (x &&& 255))]))
  exact W.retB X3 hx hlk (t := .char) hret (by simp) (hb hby d12_15) (by decide) (by decide) e3 ⟨by rw [own_nar255], N3, rfl⟩
theorem d8_0 : decode prog_31_method_7_code 0 = .ok (.aload_n 0, 1) := by decide +kernel
theorem d8_1 : decode prog_31_method_7_code 1 = .ok (.invokevirtual 47, 3) := by decide +kernel
theorem d8_4 : decode prog_31_method_7_code 4 = .ok (.ifCond .ne 12, 3) := by decide +kernel
theorem d8_7 : decode prog_31_method_7_code 7 = .ok (.aload_n 0, 1) := by decide +kernel
theorem d8_8 : decode prog_31_method_7_code 8 = .ok (.invokevirtual 51, 3) := by decide +kernel
theorem pd_121 : parseMethodDescriptor "()I" = some ⟨[], some .int⟩ := by decide +kernel
theorem d8_11 : decode prog_31_method_7_code 11 = .ok (.bipush 64, 2) := by decide +kernel
theorem d8_13 : decode prog_31_method_7_code 13 = .ok (.if_icmp .le 13, 3) := by decide +kernel
theorem d8_26 : decode prog_31_method_7_code 26 = .ok (.iconst 0, 1) := by decide +kernel
theorem d8_27 : decode prog_31_method_7_code 27 = .ok (.istore_n 1, 1) := by decide +kernel
theorem d8_28 : decode prog_31_method_7_code 28 = .ok (.iload_n 1, 1) := by decide +kernel
theorem d8_29 : decode prog_31_method_7_code 29 = .ok (.aload_n 0, 1) := by decide +kernel
theorem d8_30 : decode prog_31_method_7_code 30 = .ok (.invokevirtual 51, 3) := by decide +kernel
theorem d8_33 : decode prog_31_method_7_code 33 = .ok (.if_icmp .ge 89, 3) := by decide +kernel
theorem d8_122 : decode prog_31_method_7_code 122 = .ok (.return_, 1) := by decide +kernel
theorem d8_36 : decode prog_31_method_7_code 36 = .ok (.aload_n 0, 1) := by decide +kernel
theorem d8_37 : decode prog_31_method_7_code 37 = .ok (.iload_n 1, 1) := by decide +kernel
theorem d8_38 : decode prog_31_method_7_code 38 = .ok (.invokevirtual 55, 3) := by decide +kernel
theorem pd_134 : parseMethodDescriptor "(I)C" = some ⟨[.int], some .char⟩ := by decide +kernel
theorem d8_41 : decode prog_31_method_7_code 41 = .ok (.istore_n 2, 1) := by decide +kernel
theorem d8_42 : decode prog_31_method_7_code 42 = .ok (.iload_n 2, 1) := by decide +kernel
theorem d8_43 : decode prog_31_method_7_code 43 = .ok (.bipush 65, 2) := by decide +kernel
theorem d8_45 : decode prog_31_method_7_code 45 = .ok (.if_icmp .lt 9, 3) := by decide +kernel
theorem d8_54 : decode prog_31_method_7_code 54 = .ok (.iload_n 2, 1) := by decide +kernel
theorem d8_55 : decode prog_31_method_7_code 55 = .ok (.bipush 97, 2) := by decide +kernel
theorem d8_57 : decode prog_31_method_7_code 57 = .ok (.if_icmp .lt 9, 3) := by decide +kernel
theorem d8_66 : decode prog_31_method_7_code 66 = .ok (.iload_n 2, 1) := by decide +kernel
theorem d8_67 : decode prog_31_method_7_code 67 = .ok (.bipush 48, 2) := by decide +kernel
theorem d8_69 : decode prog_31_method_7_code 69 = .ok (.if_icmp .lt 9, 3) := by decide +kernel
theorem d8_78 : decode prog_31_method_7_code 78 = .ok (.iload_n 2, 1) := by decide +kernel
theorem d8_79 : decode prog_31_method_7_code 79 = .ok (.bipush 95, 2) := by decide +kernel
theorem d8_81 : decode prog_31_method_7_code 81 = .ok (.if_icmp .eq 15, 3) := by decide +kernel
theorem d8_96 : decode prog_31_method_7_code 96 = .ok (.iconst 1, 1) := by decide +kernel
theorem d8_97 : decode prog_31_method_7_code 97 = .ok (.goto 4, 3) := by decide +kernel
theorem d8_101 : decode prog_31_method_7_code 101 = .ok (.istore_n 3, 1) := by decide +kernel
theorem d8_102 : decode prog_31_method_7_code 102 = .ok (.iload_n 3, 1) := by decide +kernel
theorem d8_103 : decode prog_31_method_7_code 103 = .ok (.ifCond .ne 13, 3) := by decide +kernel
theorem d8_116 : decode prog_31_method_7_code 116 = .ok (.iinc 1 1, 3) := by decide +kernel
theorem d8_119 : decode prog_31_method_7_code 119 = .ok (.goto (-91), 3) := by decide +kernel
theorem d8_84 : decode prog_31_method_7_code 84 = .ok (.iload_n 2, 1) := by decide +kernel
theorem d8_85 : decode prog_31_method_7_code 85 = .ok (.bipush 45, 2) := by decide +kernel
theorem d8_87 : decode prog_31_method_7_code 87 = .ok (.if_icmp .eq 9, 3) := by decide +kernel
theorem d8_90 : decode prog_31_method_7_code 90 = .ok (.iload_n 2, 1) := by decide +kernel
theorem d8_91 : decode prog_31_method_7_code 91 = .ok (.bipush 46, 2) := by decide +kernel
theorem d8_93 : decode prog_31_method_7_code 93 = .ok (.if_icmp .ne 7, 3) := by decide +kernel
theorem d8_72 : decode prog_31_method_7_code 72 = .ok (.iload_n 2, 1) := by decide +kernel
theorem d8_73 : decode prog_31_method_7_code 73 = .ok (.bipush 57, 2) := by decide +kernel
theorem d8_75 : decode prog_31_method_7_code 75 = .ok (.if_icmp .le 21, 3) := by decide +kernel
theorem d8_60 : decode prog_31_method_7_code 60 = .ok (.iload_n 2, 1) := by decide +kernel
theorem d8_61 : decode prog_31_method_7_code 61 = .ok (.bipush 122, 2) := by decide +kernel
theorem d8_63 : decode prog_31_method_7_code 63 = .ok (.if_icmp .le 33, 3) := by decide +kernel
theorem d8_48 : decode prog_31_method_7_code 48 = .ok (.iload_n 2, 1) := by decide +kernel
theorem d8_49 : decode prog_31_method_7_code 49 = .ok (.bipush 90, 2) := by decide +kernel
theorem d8_51 : decode prog_31_method_7_code 51 = .ok (.if_icmp .le 45, 3) := by decide +kernel
theorem pn_com_example_trajectory_anonymizer_trajectoryanonymizer_model_Point : plainName "com/example/trajectory_anonymizer/trajectoryanonymizer/model/Point" = true := by first | (simp [plainName, overriddenIn]; done) | decide +kernel
def Q_rm8 (Z : State) (r0 : Addr) (t : Addr) (kt : ClassId) (nt : Int32) (vs : List Value) (dv : Value) (zCS : Int32) (wSF : Value) (h0 : Heap) (n0 : Nat) (v : Option Value) (h : Heap) (L : List Loc) : Prop := v = none ∧ Fr n0 L ∧ h = h0
set_option maxRecDepth 65536 in
set_option maxHeartbeats 40000000 in
theorem rm8 (l : Launch) (Z : State) (a0 : Array Value) (hw : ∀ d ∈ tables_1, d.before a0 Z = true) (r0 : Addr) (t : Addr) (kt : ClassId) (nt : Int32) (vs : List Value) (dv : Value) (zCS : Int32) (wSF : Value) (h0 : Heap) (n0 : Nat) (Z0 : n0 ≤ h0.size) (E_r0 : Exa Z h0 r0 "java/lang/String") (F_value_r0 : Fld Z h0 r0 "java/lang/String" "value" "[B" (.ref t)) (F_coder_r0 : Fld Z h0 r0 "java/lang/String" "coder" "B" (.int (0 : Int32))) (V_t : Arv Z h0 t kt .byte nt vs dv) (S_COMPACT_STRINGS : Sta Z h0 "java/lang/String" "COMPACT_STRINGS" "Z" (.int zCS)) (hCS : ¬ zCS = 0) (S_SIOOBE_FORMATTER : Sta Z h0 "jdk/internal/util/Preconditions" "SIOOBE_FORMATTER" "Ljava/util/function/BiFunction;" wSF) (hSF : wSF.isRef = true) (hn : 1 ≤ nt.toInt ∧ nt.toInt ≤ 64) (hall : ∀ j : Int32, ¬ j < 0 ∧ j < nt → ∃ x, vs.getD j.toNatClampNeg dv = .int x ∧ own_ok (x &&& 255)) :
    Ctr l Z (⟨"com/example/trajectory_anonymizer/trajectoryanonymizer/model/Point", "checkName", "(Ljava/lang/String;)V"⟩ : MethodName) prog_31_method_7_code 4 none ({ frames := 4, cells := 0, slots := 0, locals := 53 } : Room) #[(.ref r0)] h0 (Q_rm8 Z r0 t kt nt vs dv zCS wSF h0 n0) := by
  refine Ctr.body (fr := fun m => mkF m 0 #[.val (.ref r0), .unset, .unset, .unset] []) (plainFor_of_name pn_com_example_trajectory_anonymizer_trajectoryanonymizer_model_Point) (fun m => by first | (simp [entryFrame, mkF, argsToLocals, Value.category]; done) | rfl) fun p e s m below meth c s₁ hx hby hml hZ hown hnm hret hlk X0 e0 => ?_
  have N0 := Fr.nil n0
  have hown : s.vm.findClass "com/example/trajectory_anonymizer/trajectoryanonymizer/model/Point" = some m.cls := hown
  show W p e below _ (s₁.setTop (mkF m 0 #[.val (.ref r0), .unset, .unset, .unset] []))
  refine W.go (fun _ hr => XS.aloadN X0.here hx rfl (hb hby d8_0) rfl rfl hr) ?_
  show W p e below _ (s₁.setTop (mkF m 1 #[.val (.ref r0), .unset, .unset, .unset] [(.ref r0)]))
  refine W.callV X0 hx hZ hown (g := (mkF m 1 #[.val (.ref r0), .unset, .unset, .unset] [(.ref r0)])) (by rw [hml]; rfl) (hw _ (List.mem_of_getElem? (i := 39) rfl)) (hw _ (List.mem_of_getElem? (i := 40) rfl)) (hw _ (List.mem_of_getElem? (i := 42) rfl)) (hw _ (List.mem_of_getElem? (i := 41) rfl)) (hw _ (List.mem_of_getElem? (i := 8) rfl)) (hw _ (List.mem_of_getElem? (i := 43) rfl)) e0 (rm9 l Z a0 hw r0 t kt nt vs dv (0 : Int32) h0 n0 Z0 F_value_r0 V_t (by rw [if_neg]; intro q; rw [q] at hn; exact absurd hn.1 (by decide))) (notFace_of_selects (args := #[]) (mvT hZ (hw _ (List.mem_of_getElem? (i := 42) rfl)))) (by decide) pd_108 rfl E_r0 (argsL := []) (rest := []) rfl rfl rfl (hb hby d8_1) (W0 := 0) rfl (by decide) (by decide) (by decide) (by decide) (fun v1 T1 h1 L1 X1 e1 hQ1 => ?_)
  obtain ⟨rfl, N1q, hh1⟩ := hQ1
  obtain rfl := hh1.symm
  have N1 := Fr.app N0 N1q
  show W p e below _ (T1.setTop (mkF m 4 #[.val (.ref r0), .unset, .unset, .unset] [(.int (0 : Int32))]))
  refine W.go (fun _ hr => XS.ifNo X1.here hx rfl (hb hby d8_4) rfl ((if0 _ _).trans (teq (by decide : ((0 : Int32) = (0 : Int32)))).2) hr) ?_
  show W p e below _ (T1.setTop (mkF m 7 #[.val (.ref r0), .unset, .unset, .unset] []))
  refine W.go (fun _ hr => XS.aloadN X1.here hx rfl (hb hby d8_7) rfl rfl hr) ?_
  show W p e below _ (T1.setTop (mkF m 8 #[.val (.ref r0), .unset, .unset, .unset] [(.ref r0)]))
  refine W.callV X1 hx hZ hown (g := (mkF m 8 #[.val (.ref r0), .unset, .unset, .unset] [(.ref r0)])) (by rw [hml]; rfl) (hw _ (List.mem_of_getElem? (i := 44) rfl)) (hw _ (List.mem_of_getElem? (i := 45) rfl)) (hw _ (List.mem_of_getElem? (i := 47) rfl)) (hw _ (List.mem_of_getElem? (i := 46) rfl)) (hw _ (List.mem_of_getElem? (i := 8) rfl)) (hw _ (List.mem_of_getElem? (i := 48) rfl)) e1 (rm10 l Z a0 hw r0 t kt nt vs dv zCS h0 n0 Z0 E_r0 F_value_r0 F_coder_r0 V_t S_COMPACT_STRINGS hCS) (notFace_of_selects (args := #[]) (mvT hZ (hw _ (List.mem_of_getElem? (i := 47) rfl)))) (by decide) pd_121 rfl E_r0 (argsL := []) (rest := []) rfl rfl rfl (hb hby d8_8) (W0 := 0) rfl (by decide) (by decide) (by decide) (by decide) (fun v2 T2 h2 L2 X2 e2 hQ2 => ?_)
  obtain ⟨rfl, N2q, hh2⟩ := hQ2
  obtain rfl := hh2.symm
  have N2 := Fr.app N1 N2q
  show W p e below _ (T2.setTop (mkF m 11 #[.val (.ref r0), .unset, .unset, .unset] [(.int nt)]))
  refine W.go (fun _ hr => XS.bipush X2.here hx rfl (hb hby d8_11) hr) ?_
  show W p e below _ (T2.setTop (mkF m 13 #[.val (.ref r0), .unset, .unset, .unset] [(.int (64 : Int32)), (.int nt)]))
  refine W.go (fun _ hr => XS.icmpYes X2.here hx rfl (pc0 := 13) (pc' := 26) rfl (hb hby d8_13) rfl (flt ((by rw [Int32.lt_iff_toInt_lt]; have e0 : (64 : Int32).toInt = 64 := rfl; omega) : ¬ ((64 : Int32) < nt))).2.2.2 (by decide) (by decide) hr) ?_
  show W p e below _ (T2.setTop (mkF m 26 #[.val (.ref r0), .unset, .unset, .unset] []))
  refine W.go (fun _ hr => XS.iconst X2.here hx rfl (hb hby d8_26) hr) ?_
  show W p e below _ (T2.setTop (mkF m 27 #[.val (.ref r0), .unset, .unset, .unset] [(.int (0 : Int32))]))
  refine W.go (fun _ hr => XS.istoreN X2.here hx rfl (hb hby d8_27) rfl (l' := #[.val (.ref r0), .val (.int (0 : Int32)), .unset, .unset]) rfl hr) ?_
  show W p e below _ (T2.setTop (mkF m 28 #[.val (.ref r0), .val (.int (0 : Int32)), .unset, .unset] []))
  have loop : ∀ (k : Nat) (T : State) (i : Int32) (s2 s3 : Slot) (locs : List Loc), Stand p l e ({ frames := 4, cells := 0, slots := 0, locals := 53 } : Room) s m #[(.ref r0)] below meth c T locs 0 0 → T.heap = h0 → Fr n0 locs → One s2 → One s3 → 0 ≤ i.toInt → i.toInt + k = nt.toInt →
      W p e below (Fin s (Q_rm8 Z r0 t kt nt vs dv zCS wSF h0 n0) ({ frames := 4, cells := 0, slots := 0, locals := 53 } : Room).cells ({ frames := 4, cells := 0, slots := 0, locals := 53 } : Room).slots) (T.setTop (mkF m 28 #[.val (.ref r0), .val (.int i), s2, s3] [])) := by
    intro k
    induction k with
    | zero =>
      intro T i s2 s3 locs X0 e0 N0 o2 o3 hi0 hik
      show W p e below _ (T.setTop (mkF m 28 #[.val (.ref r0), .val (.int i), s2, s3] []))
      refine W.go (fun _ hr => XS.iloadN X0.here hx rfl (hb hby d8_28) rfl hr) ?_
      show W p e below _ (T.setTop (mkF m 29 #[.val (.ref r0), .val (.int i), s2, s3] [(.int i)]))
      refine W.go (fun _ hr => XS.aloadN X0.here hx rfl (hb hby d8_29) rfl rfl hr) ?_
      show W p e below _ (T.setTop (mkF m 30 #[.val (.ref r0), .val (.int i), s2, s3] [(.ref r0), (.int i)]))
      refine W.callV X0 hx hZ hown (g := (mkF m 30 #[.val (.ref r0), .val (.int i), s2, s3] [(.ref r0), (.int i)])) (by rw [hml]; rfl) (hw _ (List.mem_of_getElem? (i := 44) rfl)) (hw _ (List.mem_of_getElem? (i := 45) rfl)) (hw _ (List.mem_of_getElem? (i := 47) rfl)) (hw _ (List.mem_of_getElem? (i := 46) rfl)) (hw _ (List.mem_of_getElem? (i := 8) rfl)) (hw _ (List.mem_of_getElem? (i := 48) rfl)) e0 (rm10 l Z a0 hw r0 t kt nt vs dv zCS h0 n0 Z0 E_r0 F_value_r0 F_coder_r0 V_t S_COMPACT_STRINGS hCS) (notFace_of_selects (args := #[]) (mvT hZ (hw _ (List.mem_of_getElem? (i := 47) rfl)))) (by decide) pd_121 rfl E_r0 (argsL := []) (rest := [(.int i)]) rfl rfl rfl (hb hby d8_30) (W0 := 1) rfl (by decide) (by decide) (by decide) (by decide) (fun v3 T3 h3 L3 X3 e3 hQ3 => ?_)
      obtain ⟨rfl, N3q, hh3⟩ := hQ3
      obtain rfl := hh3.symm
      have N3 := Fr.app N0 N3q
      show W p e below _ (T3.setTop (mkF m 33 #[.val (.ref r0), .val (.int i), s2, s3] [(.int nt), (.int i)]))
      refine W.go (fun _ hr => XS.icmpYes X3.here hx rfl (pc0 := 33) (pc' := 122) rfl (hb hby d8_33) rfl (flt ((by rw [Int32.lt_iff_toInt_lt]; omega) : ¬ (i < nt))).2.1 (by decide) (by decide) hr) ?_
      show W p e below _ (T3.setTop (mkF m 122 #[.val (.ref r0), .val (.int i), s2, s3] []))
      exact W.retV X3 hx hlk hret (hb hby d8_122) (by decide) (by decide) e3 ⟨rfl, N3, rfl⟩
    | succ k ih =>
      intro T i s2 s3 locs X0 e0 N0 o2 o3 hi0 hik
      have hi1 : ¬ i < 0 ∧ i < nt := by
        simp only [Int32.lt_iff_toInt_lt, Int32.reduceToInt]; omega
      obtain ⟨x, hel, hok⟩ := hall i hi1
      show W p e below _ (T.setTop (mkF m 28 #[.val (.ref r0), .val (.int i), s2, s3] []))
      refine W.go (fun _ hr => XS.iloadN X0.here hx rfl (hb hby d8_28) rfl hr) ?_
      show W p e below _ (T.setTop (mkF m 29 #[.val (.ref r0), .val (.int i), s2, s3] [(.int i)]))
      refine W.go (fun _ hr => XS.aloadN X0.here hx rfl (hb hby d8_29) rfl rfl hr) ?_
      show W p e below _ (T.setTop (mkF m 30 #[.val (.ref r0), .val (.int i), s2, s3] [(.ref r0), (.int i)]))
      refine W.callV X0 hx hZ hown (g := (mkF m 30 #[.val (.ref r0), .val (.int i), s2, s3] [(.ref r0), (.int i)])) (by rw [hml]; rfl) (hw _ (List.mem_of_getElem? (i := 44) rfl)) (hw _ (List.mem_of_getElem? (i := 45) rfl)) (hw _ (List.mem_of_getElem? (i := 47) rfl)) (hw _ (List.mem_of_getElem? (i := 46) rfl)) (hw _ (List.mem_of_getElem? (i := 8) rfl)) (hw _ (List.mem_of_getElem? (i := 48) rfl)) e0 (rm10 l Z a0 hw r0 t kt nt vs dv zCS h0 n0 Z0 E_r0 F_value_r0 F_coder_r0 V_t S_COMPACT_STRINGS hCS) (notFace_of_selects (args := #[]) (mvT hZ (hw _ (List.mem_of_getElem? (i := 47) rfl)))) (by decide) pd_121 rfl E_r0 (argsL := []) (rest := [(.int i)]) rfl rfl rfl (hb hby d8_30) (W0 := 1) rfl (by decide) (by decide) (by decide) (by decide) (fun v4 T4 h4 L4 X4 e4 hQ4 => ?_)
      obtain ⟨rfl, N4q, hh4⟩ := hQ4
      obtain rfl := hh4.symm
      have N4 := Fr.app N0 N4q
      show W p e below _ (T4.setTop (mkF m 33 #[.val (.ref r0), .val (.int i), s2, s3] [(.int nt), (.int i)]))
      refine W.go (fun _ hr => XS.icmpNo X4.here hx rfl (hb hby d8_33) rfl (tlt ((by rw [Int32.lt_iff_toInt_lt]; omega) : (i < nt))).2.1 hr) ?_
      show W p e below _ (T4.setTop (mkF m 36 #[.val (.ref r0), .val (.int i), s2, s3] []))
      refine W.go (fun _ hr => XS.aloadN X4.here hx rfl (hb hby d8_36) rfl rfl hr) ?_
      show W p e below _ (T4.setTop (mkF m 37 #[.val (.ref r0), .val (.int i), s2, s3] [(.ref r0)]))
      refine W.go (fun _ hr => XS.iloadN X4.here hx rfl (hb hby d8_37) rfl hr) ?_
      show W p e below _ (T4.setTop (mkF m 38 #[.val (.ref r0), .val (.int i), s2, s3] [(.int i), (.ref r0)]))
      refine W.callV X4 hx hZ hown (g := (mkF m 38 #[.val (.ref r0), .val (.int i), s2, s3] [(.int i), (.ref r0)])) (by rw [hml]; rfl) (hw _ (List.mem_of_getElem? (i := 54) rfl)) (hw _ (List.mem_of_getElem? (i := 55) rfl)) (hw _ (List.mem_of_getElem? (i := 57) rfl)) (hw _ (List.mem_of_getElem? (i := 56) rfl)) (hw _ (List.mem_of_getElem? (i := 8) rfl)) (hw _ (List.mem_of_getElem? (i := 58) rfl)) e4 (rm12 l Z a0 hw r0 i t kt nt vs dv x zCS wSF h0 n0 Z0 E_r0 F_value_r0 F_coder_r0 V_t hi1 hel S_COMPACT_STRINGS hCS S_SIOOBE_FORMATTER hSF) (notFace_of_selects (args := #[]) (mvT hZ (hw _ (List.mem_of_getElem? (i := 57) rfl)))) (by decide) pd_134 rfl E_r0 (argsL := [(.int i)]) (rest := []) rfl rfl rfl (hb hby d8_38) (W0 := 0) rfl (by decide) (by decide) (by decide) (by decide) (fun v5 T5 h5 L5 X5 e5 hQ5 => ?_)
      obtain ⟨rfl, N5q, hh5⟩ := hQ5
      obtain rfl := hh5.symm
      have N5 := Fr.app N4 N5q
      show W p e below _ (T5.setTop (mkF m 41 #[.val (.ref r0), .val (.int i), s2, s3] [(.int (x &&& 255))]))
      generalize e_ch : (x &&& 255) = ch
      rw [e_ch] at hok
      refine W.go (fun _ hr => XS.istoreNS X5.here hx rfl (hb hby d8_41) rfl rfl o2 hr) ?_
      show W p e below _ (T5.setTop (mkF m 42 #[.val (.ref r0), .val (.int i), .val (.int ch), s3] []))
      refine W.go (fun _ hr => XS.iloadN X5.here hx rfl (hb hby d8_42) rfl hr) ?_
      show W p e below _ (T5.setTop (mkF m 43 #[.val (.ref r0), .val (.int i), .val (.int ch), s3] [(.int ch)]))
      refine W.go (fun _ hr => XS.bipush X5.here hx rfl (hb hby d8_43) hr) ?_
      show W p e below _ (T5.setTop (mkF m 45 #[.val (.ref r0), .val (.int i), .val (.int ch), s3] [(.int (65 : Int32)), (.int ch)]))
      by_cases hc45_6 : ch < (65 : Int32)
      · refine W.go (fun _ hr => XS.icmpYes X5.here hx rfl (pc0 := 45) (pc' := 54) rfl (hb hby d8_45) rfl (tlt hc45_6).1 (by decide) (by decide) hr) ?_
        show W p e below _ (T5.setTop (mkF m 54 #[.val (.ref r0), .val (.int i), .val (.int ch), s3] []))
        refine W.go (fun _ hr => XS.iloadN X5.here hx rfl (hb hby d8_54) rfl hr) ?_
        show W p e below _ (T5.setTop (mkF m 55 #[.val (.ref r0), .val (.int i), .val (.int ch), s3] [(.int ch)]))
        refine W.go (fun _ hr => XS.bipush X5.here hx rfl (hb hby d8_55) hr) ?_
        show W p e below _ (T5.setTop (mkF m 57 #[.val (.ref r0), .val (.int i), .val (.int ch), s3] [(.int (97 : Int32)), (.int ch)]))
        by_cases hc57_7 : ch < (97 : Int32)
        · refine W.go (fun _ hr => XS.icmpYes X5.here hx rfl (pc0 := 57) (pc' := 66) rfl (hb hby d8_57) rfl (tlt hc57_7).1 (by decide) (by decide) hr) ?_
          show W p e below _ (T5.setTop (mkF m 66 #[.val (.ref r0), .val (.int i), .val (.int ch), s3] []))
          refine W.go (fun _ hr => XS.iloadN X5.here hx rfl (hb hby d8_66) rfl hr) ?_
          show W p e below _ (T5.setTop (mkF m 67 #[.val (.ref r0), .val (.int i), .val (.int ch), s3] [(.int ch)]))
          refine W.go (fun _ hr => XS.bipush X5.here hx rfl (hb hby d8_67) hr) ?_
          show W p e below _ (T5.setTop (mkF m 69 #[.val (.ref r0), .val (.int i), .val (.int ch), s3] [(.int (48 : Int32)), (.int ch)]))
          by_cases hc69_8 : ch < (48 : Int32)
          · refine W.go (fun _ hr => XS.icmpYes X5.here hx rfl (pc0 := 69) (pc' := 78) rfl (hb hby d8_69) rfl (tlt hc69_8).1 (by decide) (by decide) hr) ?_
            show W p e below _ (T5.setTop (mkF m 78 #[.val (.ref r0), .val (.int i), .val (.int ch), s3] []))
            refine W.go (fun _ hr => XS.iloadN X5.here hx rfl (hb hby d8_78) rfl hr) ?_
            show W p e below _ (T5.setTop (mkF m 79 #[.val (.ref r0), .val (.int i), .val (.int ch), s3] [(.int ch)]))
            refine W.go (fun _ hr => XS.bipush X5.here hx rfl (hb hby d8_79) hr) ?_
            show W p e below _ (T5.setTop (mkF m 81 #[.val (.ref r0), .val (.int i), .val (.int ch), s3] [(.int (95 : Int32)), (.int ch)]))
            by_cases hc81_9 : ch = (95 : Int32)
            · refine W.go (fun _ hr => XS.icmpYes X5.here hx rfl (pc0 := 81) (pc' := 96) rfl (hb hby d8_81) rfl (teq hc81_9).1 (by decide) (by decide) hr) ?_
              show W p e below _ (T5.setTop (mkF m 96 #[.val (.ref r0), .val (.int i), .val (.int ch), s3] []))
              refine W.go (fun _ hr => XS.iconst X5.here hx rfl (hb hby d8_96) hr) ?_
              show W p e below _ (T5.setTop (mkF m 97 #[.val (.ref r0), .val (.int i), .val (.int ch), s3] [(.int (1 : Int32))]))
              refine W.go (fun _ hr => XS.goto X5.here hx rfl (pc0 := 97) (pc' := 101) rfl (hb hby d8_97) (by decide) (by decide) hr) ?_
              show W p e below _ (T5.setTop (mkF m 101 #[.val (.ref r0), .val (.int i), .val (.int ch), s3] [(.int (1 : Int32))]))
              refine W.go (fun _ hr => XS.istoreNS X5.here hx rfl (hb hby d8_101) rfl rfl o3 hr) ?_
              show W p e below _ (T5.setTop (mkF m 102 #[.val (.ref r0), .val (.int i), .val (.int ch), .val (.int (1 : Int32))] []))
              refine W.go (fun _ hr => XS.iloadN X5.here hx rfl (hb hby d8_102) rfl hr) ?_
              show W p e below _ (T5.setTop (mkF m 103 #[.val (.ref r0), .val (.int i), .val (.int ch), .val (.int (1 : Int32))] [(.int (1 : Int32))]))
              refine W.go (fun _ hr => XS.ifYes X5.here hx rfl (pc0 := 103) (pc' := 116) rfl (hb hby d8_103) rfl ((if0 _ _).trans (feq (by decide : ¬ ((1 : Int32) = (0 : Int32)))).2) (by decide) (by decide) hr) ?_
              show W p e below _ (T5.setTop (mkF m 116 #[.val (.ref r0), .val (.int i), .val (.int ch), .val (.int (1 : Int32))] []))
              have ei : (i + (1 : Int32)).toInt = i.toInt + 1 := by
                have c1 := c_iadd i 1
                have r1 := rng32 (i + 1)
                have r2 := rng32 nt
                have e1 : (1 : Int32).toInt = 1 := rfl
                omega
              refine W.go (fun _ hr => XS.iinc X5.here hx rfl (hb hby d8_116) rfl (l' := #[.val (.ref r0), .val (.int (i + (1 : Int32))), .val (.int ch), .val (.int (1 : Int32))]) rfl hr) ?_
              show W p e below _ (T5.setTop (mkF m 119 #[.val (.ref r0), .val (.int (i + (1 : Int32))), .val (.int ch), .val (.int (1 : Int32))] []))
              refine W.go (fun _ hr => XS.goto X5.here hx rfl (pc0 := 119) (pc' := 28) rfl (hb hby d8_119) (by decide) (by decide) hr) ?_
              show W p e below _ (T5.setTop (mkF m 28 #[.val (.ref r0), .val (.int (i + (1 : Int32))), .val (.int ch), .val (.int (1 : Int32))] []))
              exact ih T5 (i + (1 : Int32)) _ _ _ X5 e5 N5 (One.val rfl) (One.val rfl) (by omega) (by omega)
            · refine W.go (fun _ hr => XS.icmpNo X5.here hx rfl (hb hby d8_81) rfl (feq hc81_9).1 hr) ?_
              show W p e below _ (T5.setTop (mkF m 84 #[.val (.ref r0), .val (.int i), .val (.int ch), s3] []))
              refine W.go (fun _ hr => XS.iloadN X5.here hx rfl (hb hby d8_84) rfl hr) ?_
              show W p e below _ (T5.setTop (mkF m 85 #[.val (.ref r0), .val (.int i), .val (.int ch), s3] [(.int ch)]))
              refine W.go (fun _ hr => XS.bipush X5.here hx rfl (hb hby d8_85) hr) ?_
              show W p e below _ (T5.setTop (mkF m 87 #[.val (.ref r0), .val (.int i), .val (.int ch), s3] [(.int (45 : Int32)), (.int ch)]))
              by_cases hc87_10 : ch = (45 : Int32)
              · refine W.go (fun _ hr => XS.icmpYes X5.here hx rfl (pc0 := 87) (pc' := 96) rfl (hb hby d8_87) rfl (teq hc87_10).1 (by decide) (by decide) hr) ?_
                show W p e below _ (T5.setTop (mkF m 96 #[.val (.ref r0), .val (.int i), .val (.int ch), s3] []))
                refine W.go (fun _ hr => XS.iconst X5.here hx rfl (hb hby d8_96) hr) ?_
                show W p e below _ (T5.setTop (mkF m 97 #[.val (.ref r0), .val (.int i), .val (.int ch), s3] [(.int (1 : Int32))]))
                refine W.go (fun _ hr => XS.goto X5.here hx rfl (pc0 := 97) (pc' := 101) rfl (hb hby d8_97) (by decide) (by decide) hr) ?_
                show W p e below _ (T5.setTop (mkF m 101 #[.val (.ref r0), .val (.int i), .val (.int ch), s3] [(.int (1 : Int32))]))
                refine W.go (fun _ hr => XS.istoreNS X5.here hx rfl (hb hby d8_101) rfl rfl o3 hr) ?_
                show W p e below _ (T5.setTop (mkF m 102 #[.val (.ref r0), .val (.int i), .val (.int ch), .val (.int (1 : Int32))] []))
                refine W.go (fun _ hr => XS.iloadN X5.here hx rfl (hb hby d8_102) rfl hr) ?_
                show W p e below _ (T5.setTop (mkF m 103 #[.val (.ref r0), .val (.int i), .val (.int ch), .val (.int (1 : Int32))] [(.int (1 : Int32))]))
                refine W.go (fun _ hr => XS.ifYes X5.here hx rfl (pc0 := 103) (pc' := 116) rfl (hb hby d8_103) rfl ((if0 _ _).trans (feq (by decide : ¬ ((1 : Int32) = (0 : Int32)))).2) (by decide) (by decide) hr) ?_
                show W p e below _ (T5.setTop (mkF m 116 #[.val (.ref r0), .val (.int i), .val (.int ch), .val (.int (1 : Int32))] []))
                have ei : (i + (1 : Int32)).toInt = i.toInt + 1 := by
                  have c1 := c_iadd i 1
                  have r1 := rng32 (i + 1)
                  have r2 := rng32 nt
                  have e1 : (1 : Int32).toInt = 1 := rfl
                  omega
                refine W.go (fun _ hr => XS.iinc X5.here hx rfl (hb hby d8_116) rfl (l' := #[.val (.ref r0), .val (.int (i + (1 : Int32))), .val (.int ch), .val (.int (1 : Int32))]) rfl hr) ?_
                show W p e below _ (T5.setTop (mkF m 119 #[.val (.ref r0), .val (.int (i + (1 : Int32))), .val (.int ch), .val (.int (1 : Int32))] []))
                refine W.go (fun _ hr => XS.goto X5.here hx rfl (pc0 := 119) (pc' := 28) rfl (hb hby d8_119) (by decide) (by decide) hr) ?_
                show W p e below _ (T5.setTop (mkF m 28 #[.val (.ref r0), .val (.int (i + (1 : Int32))), .val (.int ch), .val (.int (1 : Int32))] []))
                exact ih T5 (i + (1 : Int32)) _ _ _ X5 e5 N5 (One.val rfl) (One.val rfl) (by omega) (by omega)
              · refine W.go (fun _ hr => XS.icmpNo X5.here hx rfl (hb hby d8_87) rfl (feq hc87_10).1 hr) ?_
                show W p e below _ (T5.setTop (mkF m 90 #[.val (.ref r0), .val (.int i), .val (.int ch), s3] []))
                refine W.go (fun _ hr => XS.iloadN X5.here hx rfl (hb hby d8_90) rfl hr) ?_
                show W p e below _ (T5.setTop (mkF m 91 #[.val (.ref r0), .val (.int i), .val (.int ch), s3] [(.int ch)]))
                refine W.go (fun _ hr => XS.bipush X5.here hx rfl (hb hby d8_91) hr) ?_
                show W p e below _ (T5.setTop (mkF m 93 #[.val (.ref r0), .val (.int i), .val (.int ch), s3] [(.int (46 : Int32)), (.int ch)]))
                by_cases hc93_11 : ch = (46 : Int32)
                · refine W.go (fun _ hr => XS.icmpNo X5.here hx rfl (hb hby d8_93) rfl (teq hc93_11).2 hr) ?_
                  show W p e below _ (T5.setTop (mkF m 96 #[.val (.ref r0), .val (.int i), .val (.int ch), s3] []))
                  refine W.go (fun _ hr => XS.iconst X5.here hx rfl (hb hby d8_96) hr) ?_
                  show W p e below _ (T5.setTop (mkF m 97 #[.val (.ref r0), .val (.int i), .val (.int ch), s3] [(.int (1 : Int32))]))
                  refine W.go (fun _ hr => XS.goto X5.here hx rfl (pc0 := 97) (pc' := 101) rfl (hb hby d8_97) (by decide) (by decide) hr) ?_
                  show W p e below _ (T5.setTop (mkF m 101 #[.val (.ref r0), .val (.int i), .val (.int ch), s3] [(.int (1 : Int32))]))
                  refine W.go (fun _ hr => XS.istoreNS X5.here hx rfl (hb hby d8_101) rfl rfl o3 hr) ?_
                  show W p e below _ (T5.setTop (mkF m 102 #[.val (.ref r0), .val (.int i), .val (.int ch), .val (.int (1 : Int32))] []))
                  refine W.go (fun _ hr => XS.iloadN X5.here hx rfl (hb hby d8_102) rfl hr) ?_
                  show W p e below _ (T5.setTop (mkF m 103 #[.val (.ref r0), .val (.int i), .val (.int ch), .val (.int (1 : Int32))] [(.int (1 : Int32))]))
                  refine W.go (fun _ hr => XS.ifYes X5.here hx rfl (pc0 := 103) (pc' := 116) rfl (hb hby d8_103) rfl ((if0 _ _).trans (feq (by decide : ¬ ((1 : Int32) = (0 : Int32)))).2) (by decide) (by decide) hr) ?_
                  show W p e below _ (T5.setTop (mkF m 116 #[.val (.ref r0), .val (.int i), .val (.int ch), .val (.int (1 : Int32))] []))
                  have ei : (i + (1 : Int32)).toInt = i.toInt + 1 := by
                    have c1 := c_iadd i 1
                    have r1 := rng32 (i + 1)
                    have r2 := rng32 nt
                    have e1 : (1 : Int32).toInt = 1 := rfl
                    omega
                  refine W.go (fun _ hr => XS.iinc X5.here hx rfl (hb hby d8_116) rfl (l' := #[.val (.ref r0), .val (.int (i + (1 : Int32))), .val (.int ch), .val (.int (1 : Int32))]) rfl hr) ?_
                  show W p e below _ (T5.setTop (mkF m 119 #[.val (.ref r0), .val (.int (i + (1 : Int32))), .val (.int ch), .val (.int (1 : Int32))] []))
                  refine W.go (fun _ hr => XS.goto X5.here hx rfl (pc0 := 119) (pc' := 28) rfl (hb hby d8_119) (by decide) (by decide) hr) ?_
                  show W p e below _ (T5.setTop (mkF m 28 #[.val (.ref r0), .val (.int (i + (1 : Int32))), .val (.int ch), .val (.int (1 : Int32))] []))
                  exact ih T5 (i + (1 : Int32)) _ _ _ X5 e5 N5 (One.val rfl) (One.val rfl) (by omega) (by omega)
                · exact absurd hok (by simp only [own_ok, Int32.lt_iff_toInt_lt, ← Int32.toInt_inj, Int32.reduceToInt] at hc45_6 hc57_7 hc69_8 hc81_9 hc87_10 hc93_11 ⊢; omega)
          · refine W.go (fun _ hr => XS.icmpNo X5.here hx rfl (hb hby d8_69) rfl (flt hc69_8).1 hr) ?_
            show W p e below _ (T5.setTop (mkF m 72 #[.val (.ref r0), .val (.int i), .val (.int ch), s3] []))
            refine W.go (fun _ hr => XS.iloadN X5.here hx rfl (hb hby d8_72) rfl hr) ?_
            show W p e below _ (T5.setTop (mkF m 73 #[.val (.ref r0), .val (.int i), .val (.int ch), s3] [(.int ch)]))
            refine W.go (fun _ hr => XS.bipush X5.here hx rfl (hb hby d8_73) hr) ?_
            show W p e below _ (T5.setTop (mkF m 75 #[.val (.ref r0), .val (.int i), .val (.int ch), s3] [(.int (57 : Int32)), (.int ch)]))
            by_cases hc75_12 : (57 : Int32) < ch
            · refine W.go (fun _ hr => XS.icmpNo X5.here hx rfl (hb hby d8_75) rfl (tlt hc75_12).2.2.2 hr) ?_
              show W p e below _ (T5.setTop (mkF m 78 #[.val (.ref r0), .val (.int i), .val (.int ch), s3] []))
              refine W.go (fun _ hr => XS.iloadN X5.here hx rfl (hb hby d8_78) rfl hr) ?_
              show W p e below _ (T5.setTop (mkF m 79 #[.val (.ref r0), .val (.int i), .val (.int ch), s3] [(.int ch)]))
              refine W.go (fun _ hr => XS.bipush X5.here hx rfl (hb hby d8_79) hr) ?_
              show W p e below _ (T5.setTop (mkF m 81 #[.val (.ref r0), .val (.int i), .val (.int ch), s3] [(.int (95 : Int32)), (.int ch)]))
              by_cases hc81_13 : ch = (95 : Int32)
              · refine W.go (fun _ hr => XS.icmpYes X5.here hx rfl (pc0 := 81) (pc' := 96) rfl (hb hby d8_81) rfl (teq hc81_13).1 (by decide) (by decide) hr) ?_
                show W p e below _ (T5.setTop (mkF m 96 #[.val (.ref r0), .val (.int i), .val (.int ch), s3] []))
                refine W.go (fun _ hr => XS.iconst X5.here hx rfl (hb hby d8_96) hr) ?_
                show W p e below _ (T5.setTop (mkF m 97 #[.val (.ref r0), .val (.int i), .val (.int ch), s3] [(.int (1 : Int32))]))
                refine W.go (fun _ hr => XS.goto X5.here hx rfl (pc0 := 97) (pc' := 101) rfl (hb hby d8_97) (by decide) (by decide) hr) ?_
                show W p e below _ (T5.setTop (mkF m 101 #[.val (.ref r0), .val (.int i), .val (.int ch), s3] [(.int (1 : Int32))]))
                refine W.go (fun _ hr => XS.istoreNS X5.here hx rfl (hb hby d8_101) rfl rfl o3 hr) ?_
                show W p e below _ (T5.setTop (mkF m 102 #[.val (.ref r0), .val (.int i), .val (.int ch), .val (.int (1 : Int32))] []))
                refine W.go (fun _ hr => XS.iloadN X5.here hx rfl (hb hby d8_102) rfl hr) ?_
                show W p e below _ (T5.setTop (mkF m 103 #[.val (.ref r0), .val (.int i), .val (.int ch), .val (.int (1 : Int32))] [(.int (1 : Int32))]))
                refine W.go (fun _ hr => XS.ifYes X5.here hx rfl (pc0 := 103) (pc' := 116) rfl (hb hby d8_103) rfl ((if0 _ _).trans (feq (by decide : ¬ ((1 : Int32) = (0 : Int32)))).2) (by decide) (by decide) hr) ?_
                show W p e below _ (T5.setTop (mkF m 116 #[.val (.ref r0), .val (.int i), .val (.int ch), .val (.int (1 : Int32))] []))
                have ei : (i + (1 : Int32)).toInt = i.toInt + 1 := by
                  have c1 := c_iadd i 1
                  have r1 := rng32 (i + 1)
                  have r2 := rng32 nt
                  have e1 : (1 : Int32).toInt = 1 := rfl
                  omega
                refine W.go (fun _ hr => XS.iinc X5.here hx rfl (hb hby d8_116) rfl (l' := #[.val (.ref r0), .val (.int (i + (1 : Int32))), .val (.int ch), .val (.int (1 : Int32))]) rfl hr) ?_
                show W p e below _ (T5.setTop (mkF m 119 #[.val (.ref r0), .val (.int (i + (1 : Int32))), .val (.int ch), .val (.int (1 : Int32))] []))
                refine W.go (fun _ hr => XS.goto X5.here hx rfl (pc0 := 119) (pc' := 28) rfl (hb hby d8_119) (by decide) (by decide) hr) ?_
                show W p e below _ (T5.setTop (mkF m 28 #[.val (.ref r0), .val (.int (i + (1 : Int32))), .val (.int ch), .val (.int (1 : Int32))] []))
                exact ih T5 (i + (1 : Int32)) _ _ _ X5 e5 N5 (One.val rfl) (One.val rfl) (by omega) (by omega)
              · refine W.go (fun _ hr => XS.icmpNo X5.here hx rfl (hb hby d8_81) rfl (feq hc81_13).1 hr) ?_
                show W p e below _ (T5.setTop (mkF m 84 #[.val (.ref r0), .val (.int i), .val (.int ch), s3] []))
                refine W.go (fun _ hr => XS.iloadN X5.here hx rfl (hb hby d8_84) rfl hr) ?_
                show W p e below _ (T5.setTop (mkF m 85 #[.val (.ref r0), .val (.int i), .val (.int ch), s3] [(.int ch)]))
                refine W.go (fun _ hr => XS.bipush X5.here hx rfl (hb hby d8_85) hr) ?_
                show W p e below _ (T5.setTop (mkF m 87 #[.val (.ref r0), .val (.int i), .val (.int ch), s3] [(.int (45 : Int32)), (.int ch)]))
                by_cases hc87_14 : ch = (45 : Int32)
                · refine W.go (fun _ hr => XS.icmpYes X5.here hx rfl (pc0 := 87) (pc' := 96) rfl (hb hby d8_87) rfl (teq hc87_14).1 (by decide) (by decide) hr) ?_
                  show W p e below _ (T5.setTop (mkF m 96 #[.val (.ref r0), .val (.int i), .val (.int ch), s3] []))
                  refine W.go (fun _ hr => XS.iconst X5.here hx rfl (hb hby d8_96) hr) ?_
                  show W p e below _ (T5.setTop (mkF m 97 #[.val (.ref r0), .val (.int i), .val (.int ch), s3] [(.int (1 : Int32))]))
                  refine W.go (fun _ hr => XS.goto X5.here hx rfl (pc0 := 97) (pc' := 101) rfl (hb hby d8_97) (by decide) (by decide) hr) ?_
                  show W p e below _ (T5.setTop (mkF m 101 #[.val (.ref r0), .val (.int i), .val (.int ch), s3] [(.int (1 : Int32))]))
                  refine W.go (fun _ hr => XS.istoreNS X5.here hx rfl (hb hby d8_101) rfl rfl o3 hr) ?_
                  show W p e below _ (T5.setTop (mkF m 102 #[.val (.ref r0), .val (.int i), .val (.int ch), .val (.int (1 : Int32))] []))
                  refine W.go (fun _ hr => XS.iloadN X5.here hx rfl (hb hby d8_102) rfl hr) ?_
                  show W p e below _ (T5.setTop (mkF m 103 #[.val (.ref r0), .val (.int i), .val (.int ch), .val (.int (1 : Int32))] [(.int (1 : Int32))]))
                  refine W.go (fun _ hr => XS.ifYes X5.here hx rfl (pc0 := 103) (pc' := 116) rfl (hb hby d8_103) rfl ((if0 _ _).trans (feq (by decide : ¬ ((1 : Int32) = (0 : Int32)))).2) (by decide) (by decide) hr) ?_
                  show W p e below _ (T5.setTop (mkF m 116 #[.val (.ref r0), .val (.int i), .val (.int ch), .val (.int (1 : Int32))] []))
                  have ei : (i + (1 : Int32)).toInt = i.toInt + 1 := by
                    have c1 := c_iadd i 1
                    have r1 := rng32 (i + 1)
                    have r2 := rng32 nt
                    have e1 : (1 : Int32).toInt = 1 := rfl
                    omega
                  refine W.go (fun _ hr => XS.iinc X5.here hx rfl (hb hby d8_116) rfl (l' := #[.val (.ref r0), .val (.int (i + (1 : Int32))), .val (.int ch), .val (.int (1 : Int32))]) rfl hr) ?_
                  show W p e below _ (T5.setTop (mkF m 119 #[.val (.ref r0), .val (.int (i + (1 : Int32))), .val (.int ch), .val (.int (1 : Int32))] []))
                  refine W.go (fun _ hr => XS.goto X5.here hx rfl (pc0 := 119) (pc' := 28) rfl (hb hby d8_119) (by decide) (by decide) hr) ?_
                  show W p e below _ (T5.setTop (mkF m 28 #[.val (.ref r0), .val (.int (i + (1 : Int32))), .val (.int ch), .val (.int (1 : Int32))] []))
                  exact ih T5 (i + (1 : Int32)) _ _ _ X5 e5 N5 (One.val rfl) (One.val rfl) (by omega) (by omega)
                · refine W.go (fun _ hr => XS.icmpNo X5.here hx rfl (hb hby d8_87) rfl (feq hc87_14).1 hr) ?_
                  show W p e below _ (T5.setTop (mkF m 90 #[.val (.ref r0), .val (.int i), .val (.int ch), s3] []))
                  refine W.go (fun _ hr => XS.iloadN X5.here hx rfl (hb hby d8_90) rfl hr) ?_
                  show W p e below _ (T5.setTop (mkF m 91 #[.val (.ref r0), .val (.int i), .val (.int ch), s3] [(.int ch)]))
                  refine W.go (fun _ hr => XS.bipush X5.here hx rfl (hb hby d8_91) hr) ?_
                  show W p e below _ (T5.setTop (mkF m 93 #[.val (.ref r0), .val (.int i), .val (.int ch), s3] [(.int (46 : Int32)), (.int ch)]))
                  by_cases hc93_15 : ch = (46 : Int32)
                  · refine W.go (fun _ hr => XS.icmpNo X5.here hx rfl (hb hby d8_93) rfl (teq hc93_15).2 hr) ?_
                    show W p e below _ (T5.setTop (mkF m 96 #[.val (.ref r0), .val (.int i), .val (.int ch), s3] []))
                    refine W.go (fun _ hr => XS.iconst X5.here hx rfl (hb hby d8_96) hr) ?_
                    show W p e below _ (T5.setTop (mkF m 97 #[.val (.ref r0), .val (.int i), .val (.int ch), s3] [(.int (1 : Int32))]))
                    refine W.go (fun _ hr => XS.goto X5.here hx rfl (pc0 := 97) (pc' := 101) rfl (hb hby d8_97) (by decide) (by decide) hr) ?_
                    show W p e below _ (T5.setTop (mkF m 101 #[.val (.ref r0), .val (.int i), .val (.int ch), s3] [(.int (1 : Int32))]))
                    refine W.go (fun _ hr => XS.istoreNS X5.here hx rfl (hb hby d8_101) rfl rfl o3 hr) ?_
                    show W p e below _ (T5.setTop (mkF m 102 #[.val (.ref r0), .val (.int i), .val (.int ch), .val (.int (1 : Int32))] []))
                    refine W.go (fun _ hr => XS.iloadN X5.here hx rfl (hb hby d8_102) rfl hr) ?_
                    show W p e below _ (T5.setTop (mkF m 103 #[.val (.ref r0), .val (.int i), .val (.int ch), .val (.int (1 : Int32))] [(.int (1 : Int32))]))
                    refine W.go (fun _ hr => XS.ifYes X5.here hx rfl (pc0 := 103) (pc' := 116) rfl (hb hby d8_103) rfl ((if0 _ _).trans (feq (by decide : ¬ ((1 : Int32) = (0 : Int32)))).2) (by decide) (by decide) hr) ?_
                    show W p e below _ (T5.setTop (mkF m 116 #[.val (.ref r0), .val (.int i), .val (.int ch), .val (.int (1 : Int32))] []))
                    have ei : (i + (1 : Int32)).toInt = i.toInt + 1 := by
                      have c1 := c_iadd i 1
                      have r1 := rng32 (i + 1)
                      have r2 := rng32 nt
                      have e1 : (1 : Int32).toInt = 1 := rfl
                      omega
                    refine W.go (fun _ hr => XS.iinc X5.here hx rfl (hb hby d8_116) rfl (l' := #[.val (.ref r0), .val (.int (i + (1 : Int32))), .val (.int ch), .val (.int (1 : Int32))]) rfl hr) ?_
                    show W p e below _ (T5.setTop (mkF m 119 #[.val (.ref r0), .val (.int (i + (1 : Int32))), .val (.int ch), .val (.int (1 : Int32))] []))
                    refine W.go (fun _ hr => XS.goto X5.here hx rfl (pc0 := 119) (pc' := 28) rfl (hb hby d8_119) (by decide) (by decide) hr) ?_
                    show W p e below _ (T5.setTop (mkF m 28 #[.val (.ref r0), .val (.int (i + (1 : Int32))), .val (.int ch), .val (.int (1 : Int32))] []))
                    exact ih T5 (i + (1 : Int32)) _ _ _ X5 e5 N5 (One.val rfl) (One.val rfl) (by omega) (by omega)
                  · exact absurd hok (by simp only [own_ok, Int32.lt_iff_toInt_lt, ← Int32.toInt_inj, Int32.reduceToInt] at hc45_6 hc57_7 hc69_8 hc75_12 hc81_13 hc87_14 hc93_15 ⊢; omega)
            · refine W.go (fun _ hr => XS.icmpYes X5.here hx rfl (pc0 := 75) (pc' := 96) rfl (hb hby d8_75) rfl (flt hc75_12).2.2.2 (by decide) (by decide) hr) ?_
              show W p e below _ (T5.setTop (mkF m 96 #[.val (.ref r0), .val (.int i), .val (.int ch), s3] []))
              refine W.go (fun _ hr => XS.iconst X5.here hx rfl (hb hby d8_96) hr) ?_
              show W p e below _ (T5.setTop (mkF m 97 #[.val (.ref r0), .val (.int i), .val (.int ch), s3] [(.int (1 : Int32))]))
              refine W.go (fun _ hr => XS.goto X5.here hx rfl (pc0 := 97) (pc' := 101) rfl (hb hby d8_97) (by decide) (by decide) hr) ?_
              show W p e below _ (T5.setTop (mkF m 101 #[.val (.ref r0), .val (.int i), .val (.int ch), s3] [(.int (1 : Int32))]))
              refine W.go (fun _ hr => XS.istoreNS X5.here hx rfl (hb hby d8_101) rfl rfl o3 hr) ?_
              show W p e below _ (T5.setTop (mkF m 102 #[.val (.ref r0), .val (.int i), .val (.int ch), .val (.int (1 : Int32))] []))
              refine W.go (fun _ hr => XS.iloadN X5.here hx rfl (hb hby d8_102) rfl hr) ?_
              show W p e below _ (T5.setTop (mkF m 103 #[.val (.ref r0), .val (.int i), .val (.int ch), .val (.int (1 : Int32))] [(.int (1 : Int32))]))
              refine W.go (fun _ hr => XS.ifYes X5.here hx rfl (pc0 := 103) (pc' := 116) rfl (hb hby d8_103) rfl ((if0 _ _).trans (feq (by decide : ¬ ((1 : Int32) = (0 : Int32)))).2) (by decide) (by decide) hr) ?_
              show W p e below _ (T5.setTop (mkF m 116 #[.val (.ref r0), .val (.int i), .val (.int ch), .val (.int (1 : Int32))] []))
              have ei : (i + (1 : Int32)).toInt = i.toInt + 1 := by
                have c1 := c_iadd i 1
                have r1 := rng32 (i + 1)
                have r2 := rng32 nt
                have e1 : (1 : Int32).toInt = 1 := rfl
                omega
              refine W.go (fun _ hr => XS.iinc X5.here hx rfl (hb hby d8_116) rfl (l' := #[.val (.ref r0), .val (.int (i + (1 : Int32))), .val (.int ch), .val (.int (1 : Int32))]) rfl hr) ?_
              show W p e below _ (T5.setTop (mkF m 119 #[.val (.ref r0), .val (.int (i + (1 : Int32))), .val (.int ch), .val (.int (1 : Int32))] []))
              refine W.go (fun _ hr => XS.goto X5.here hx rfl (pc0 := 119) (pc' := 28) rfl (hb hby d8_119) (by decide) (by decide) hr) ?_
              show W p e below _ (T5.setTop (mkF m 28 #[.val (.ref r0), .val (.int (i + (1 : Int32))), .val (.int ch), .val (.int (1 : Int32))] []))
              exact ih T5 (i + (1 : Int32)) _ _ _ X5 e5 N5 (One.val rfl) (One.val rfl) (by omega) (by omega)
        · refine W.go (fun _ hr => XS.icmpNo X5.here hx rfl (hb hby d8_57) rfl (flt hc57_7).1 hr) ?_
          show W p e below _ (T5.setTop (mkF m 60 #[.val (.ref r0), .val (.int i), .val (.int ch), s3] []))
          refine W.go (fun _ hr => XS.iloadN X5.here hx rfl (hb hby d8_60) rfl hr) ?_
          show W p e below _ (T5.setTop (mkF m 61 #[.val (.ref r0), .val (.int i), .val (.int ch), s3] [(.int ch)]))
          refine W.go (fun _ hr => XS.bipush X5.here hx rfl (hb hby d8_61) hr) ?_
          show W p e below _ (T5.setTop (mkF m 63 #[.val (.ref r0), .val (.int i), .val (.int ch), s3] [(.int (122 : Int32)), (.int ch)]))
          by_cases hc63_16 : (122 : Int32) < ch
          · refine W.go (fun _ hr => XS.icmpNo X5.here hx rfl (hb hby d8_63) rfl (tlt hc63_16).2.2.2 hr) ?_
            show W p e below _ (T5.setTop (mkF m 66 #[.val (.ref r0), .val (.int i), .val (.int ch), s3] []))
            refine W.go (fun _ hr => XS.iloadN X5.here hx rfl (hb hby d8_66) rfl hr) ?_
            show W p e below _ (T5.setTop (mkF m 67 #[.val (.ref r0), .val (.int i), .val (.int ch), s3] [(.int ch)]))
            refine W.go (fun _ hr => XS.bipush X5.here hx rfl (hb hby d8_67) hr) ?_
            show W p e below _ (T5.setTop (mkF m 69 #[.val (.ref r0), .val (.int i), .val (.int ch), s3] [(.int (48 : Int32)), (.int ch)]))
            by_cases hc69_17 : ch < (48 : Int32)
            · refine W.go (fun _ hr => XS.icmpYes X5.here hx rfl (pc0 := 69) (pc' := 78) rfl (hb hby d8_69) rfl (tlt hc69_17).1 (by decide) (by decide) hr) ?_
              show W p e below _ (T5.setTop (mkF m 78 #[.val (.ref r0), .val (.int i), .val (.int ch), s3] []))
              refine W.go (fun _ hr => XS.iloadN X5.here hx rfl (hb hby d8_78) rfl hr) ?_
              show W p e below _ (T5.setTop (mkF m 79 #[.val (.ref r0), .val (.int i), .val (.int ch), s3] [(.int ch)]))
              refine W.go (fun _ hr => XS.bipush X5.here hx rfl (hb hby d8_79) hr) ?_
              show W p e below _ (T5.setTop (mkF m 81 #[.val (.ref r0), .val (.int i), .val (.int ch), s3] [(.int (95 : Int32)), (.int ch)]))
              by_cases hc81_18 : ch = (95 : Int32)
              · refine W.go (fun _ hr => XS.icmpYes X5.here hx rfl (pc0 := 81) (pc' := 96) rfl (hb hby d8_81) rfl (teq hc81_18).1 (by decide) (by decide) hr) ?_
                show W p e below _ (T5.setTop (mkF m 96 #[.val (.ref r0), .val (.int i), .val (.int ch), s3] []))
                refine W.go (fun _ hr => XS.iconst X5.here hx rfl (hb hby d8_96) hr) ?_
                show W p e below _ (T5.setTop (mkF m 97 #[.val (.ref r0), .val (.int i), .val (.int ch), s3] [(.int (1 : Int32))]))
                refine W.go (fun _ hr => XS.goto X5.here hx rfl (pc0 := 97) (pc' := 101) rfl (hb hby d8_97) (by decide) (by decide) hr) ?_
                show W p e below _ (T5.setTop (mkF m 101 #[.val (.ref r0), .val (.int i), .val (.int ch), s3] [(.int (1 : Int32))]))
                refine W.go (fun _ hr => XS.istoreNS X5.here hx rfl (hb hby d8_101) rfl rfl o3 hr) ?_
                show W p e below _ (T5.setTop (mkF m 102 #[.val (.ref r0), .val (.int i), .val (.int ch), .val (.int (1 : Int32))] []))
                refine W.go (fun _ hr => XS.iloadN X5.here hx rfl (hb hby d8_102) rfl hr) ?_
                show W p e below _ (T5.setTop (mkF m 103 #[.val (.ref r0), .val (.int i), .val (.int ch), .val (.int (1 : Int32))] [(.int (1 : Int32))]))
                refine W.go (fun _ hr => XS.ifYes X5.here hx rfl (pc0 := 103) (pc' := 116) rfl (hb hby d8_103) rfl ((if0 _ _).trans (feq (by decide : ¬ ((1 : Int32) = (0 : Int32)))).2) (by decide) (by decide) hr) ?_
                show W p e below _ (T5.setTop (mkF m 116 #[.val (.ref r0), .val (.int i), .val (.int ch), .val (.int (1 : Int32))] []))
                have ei : (i + (1 : Int32)).toInt = i.toInt + 1 := by
                  have c1 := c_iadd i 1
                  have r1 := rng32 (i + 1)
                  have r2 := rng32 nt
                  have e1 : (1 : Int32).toInt = 1 := rfl
                  omega
                refine W.go (fun _ hr => XS.iinc X5.here hx rfl (hb hby d8_116) rfl (l' := #[.val (.ref r0), .val (.int (i + (1 : Int32))), .val (.int ch), .val (.int (1 : Int32))]) rfl hr) ?_
                show W p e below _ (T5.setTop (mkF m 119 #[.val (.ref r0), .val (.int (i + (1 : Int32))), .val (.int ch), .val (.int (1 : Int32))] []))
                refine W.go (fun _ hr => XS.goto X5.here hx rfl (pc0 := 119) (pc' := 28) rfl (hb hby d8_119) (by decide) (by decide) hr) ?_
                show W p e below _ (T5.setTop (mkF m 28 #[.val (.ref r0), .val (.int (i + (1 : Int32))), .val (.int ch), .val (.int (1 : Int32))] []))
                exact ih T5 (i + (1 : Int32)) _ _ _ X5 e5 N5 (One.val rfl) (One.val rfl) (by omega) (by omega)
              · refine W.go (fun _ hr => XS.icmpNo X5.here hx rfl (hb hby d8_81) rfl (feq hc81_18).1 hr) ?_
                show W p e below _ (T5.setTop (mkF m 84 #[.val (.ref r0), .val (.int i), .val (.int ch), s3] []))
                refine W.go (fun _ hr => XS.iloadN X5.here hx rfl (hb hby d8_84) rfl hr) ?_
                show W p e below _ (T5.setTop (mkF m 85 #[.val (.ref r0), .val (.int i), .val (.int ch), s3] [(.int ch)]))
                refine W.go (fun _ hr => XS.bipush X5.here hx rfl (hb hby d8_85) hr) ?_
                show W p e below _ (T5.setTop (mkF m 87 #[.val (.ref r0), .val (.int i), .val (.int ch), s3] [(.int (45 : Int32)), (.int ch)]))
                by_cases hc87_19 : ch = (45 : Int32)
                · refine W.go (fun _ hr => XS.icmpYes X5.here hx rfl (pc0 := 87) (pc' := 96) rfl (hb hby d8_87) rfl (teq hc87_19).1 (by decide) (by decide) hr) ?_
                  show W p e below _ (T5.setTop (mkF m 96 #[.val (.ref r0), .val (.int i), .val (.int ch), s3] []))
                  refine W.go (fun _ hr => XS.iconst X5.here hx rfl (hb hby d8_96) hr) ?_
                  show W p e below _ (T5.setTop (mkF m 97 #[.val (.ref r0), .val (.int i), .val (.int ch), s3] [(.int (1 : Int32))]))
                  refine W.go (fun _ hr => XS.goto X5.here hx rfl (pc0 := 97) (pc' := 101) rfl (hb hby d8_97) (by decide) (by decide) hr) ?_
                  show W p e below _ (T5.setTop (mkF m 101 #[.val (.ref r0), .val (.int i), .val (.int ch), s3] [(.int (1 : Int32))]))
                  refine W.go (fun _ hr => XS.istoreNS X5.here hx rfl (hb hby d8_101) rfl rfl o3 hr) ?_
                  show W p e below _ (T5.setTop (mkF m 102 #[.val (.ref r0), .val (.int i), .val (.int ch), .val (.int (1 : Int32))] []))
                  refine W.go (fun _ hr => XS.iloadN X5.here hx rfl (hb hby d8_102) rfl hr) ?_
                  show W p e below _ (T5.setTop (mkF m 103 #[.val (.ref r0), .val (.int i), .val (.int ch), .val (.int (1 : Int32))] [(.int (1 : Int32))]))
                  refine W.go (fun _ hr => XS.ifYes X5.here hx rfl (pc0 := 103) (pc' := 116) rfl (hb hby d8_103) rfl ((if0 _ _).trans (feq (by decide : ¬ ((1 : Int32) = (0 : Int32)))).2) (by decide) (by decide) hr) ?_
                  show W p e below _ (T5.setTop (mkF m 116 #[.val (.ref r0), .val (.int i), .val (.int ch), .val (.int (1 : Int32))] []))
                  have ei : (i + (1 : Int32)).toInt = i.toInt + 1 := by
                    have c1 := c_iadd i 1
                    have r1 := rng32 (i + 1)
                    have r2 := rng32 nt
                    have e1 : (1 : Int32).toInt = 1 := rfl
                    omega
                  refine W.go (fun _ hr => XS.iinc X5.here hx rfl (hb hby d8_116) rfl (l' := #[.val (.ref r0), .val (.int (i + (1 : Int32))), .val (.int ch), .val (.int (1 : Int32))]) rfl hr) ?_
                  show W p e below _ (T5.setTop (mkF m 119 #[.val (.ref r0), .val (.int (i + (1 : Int32))), .val (.int ch), .val (.int (1 : Int32))] []))
                  refine W.go (fun _ hr => XS.goto X5.here hx rfl (pc0 := 119) (pc' := 28) rfl (hb hby d8_119) (by decide) (by decide) hr) ?_
                  show W p e below _ (T5.setTop (mkF m 28 #[.val (.ref r0), .val (.int (i + (1 : Int32))), .val (.int ch), .val (.int (1 : Int32))] []))
                  exact ih T5 (i + (1 : Int32)) _ _ _ X5 e5 N5 (One.val rfl) (One.val rfl) (by omega) (by omega)
                · refine W.go (fun _ hr => XS.icmpNo X5.here hx rfl (hb hby d8_87) rfl (feq hc87_19).1 hr) ?_
                  show W p e below _ (T5.setTop (mkF m 90 #[.val (.ref r0), .val (.int i), .val (.int ch), s3] []))
                  refine W.go (fun _ hr => XS.iloadN X5.here hx rfl (hb hby d8_90) rfl hr) ?_
                  show W p e below _ (T5.setTop (mkF m 91 #[.val (.ref r0), .val (.int i), .val (.int ch), s3] [(.int ch)]))
                  refine W.go (fun _ hr => XS.bipush X5.here hx rfl (hb hby d8_91) hr) ?_
                  show W p e below _ (T5.setTop (mkF m 93 #[.val (.ref r0), .val (.int i), .val (.int ch), s3] [(.int (46 : Int32)), (.int ch)]))
                  by_cases hc93_20 : ch = (46 : Int32)
                  · refine W.go (fun _ hr => XS.icmpNo X5.here hx rfl (hb hby d8_93) rfl (teq hc93_20).2 hr) ?_
                    show W p e below _ (T5.setTop (mkF m 96 #[.val (.ref r0), .val (.int i), .val (.int ch), s3] []))
                    refine W.go (fun _ hr => XS.iconst X5.here hx rfl (hb hby d8_96) hr) ?_
                    show W p e below _ (T5.setTop (mkF m 97 #[.val (.ref r0), .val (.int i), .val (.int ch), s3] [(.int (1 : Int32))]))
                    refine W.go (fun _ hr => XS.goto X5.here hx rfl (pc0 := 97) (pc' := 101) rfl (hb hby d8_97) (by decide) (by decide) hr) ?_
                    show W p e below _ (T5.setTop (mkF m 101 #[.val (.ref r0), .val (.int i), .val (.int ch), s3] [(.int (1 : Int32))]))
                    refine W.go (fun _ hr => XS.istoreNS X5.here hx rfl (hb hby d8_101) rfl rfl o3 hr) ?_
                    show W p e below _ (T5.setTop (mkF m 102 #[.val (.ref r0), .val (.int i), .val (.int ch), .val (.int (1 : Int32))] []))
                    refine W.go (fun _ hr => XS.iloadN X5.here hx rfl (hb hby d8_102) rfl hr) ?_
                    show W p e below _ (T5.setTop (mkF m 103 #[.val (.ref r0), .val (.int i), .val (.int ch), .val (.int (1 : Int32))] [(.int (1 : Int32))]))
                    refine W.go (fun _ hr => XS.ifYes X5.here hx rfl (pc0 := 103) (pc' := 116) rfl (hb hby d8_103) rfl ((if0 _ _).trans (feq (by decide : ¬ ((1 : Int32) = (0 : Int32)))).2) (by decide) (by decide) hr) ?_
                    show W p e below _ (T5.setTop (mkF m 116 #[.val (.ref r0), .val (.int i), .val (.int ch), .val (.int (1 : Int32))] []))
                    have ei : (i + (1 : Int32)).toInt = i.toInt + 1 := by
                      have c1 := c_iadd i 1
                      have r1 := rng32 (i + 1)
                      have r2 := rng32 nt
                      have e1 : (1 : Int32).toInt = 1 := rfl
                      omega
                    refine W.go (fun _ hr => XS.iinc X5.here hx rfl (hb hby d8_116) rfl (l' := #[.val (.ref r0), .val (.int (i + (1 : Int32))), .val (.int ch), .val (.int (1 : Int32))]) rfl hr) ?_
                    show W p e below _ (T5.setTop (mkF m 119 #[.val (.ref r0), .val (.int (i + (1 : Int32))), .val (.int ch), .val (.int (1 : Int32))] []))
                    refine W.go (fun _ hr => XS.goto X5.here hx rfl (pc0 := 119) (pc' := 28) rfl (hb hby d8_119) (by decide) (by decide) hr) ?_
                    show W p e below _ (T5.setTop (mkF m 28 #[.val (.ref r0), .val (.int (i + (1 : Int32))), .val (.int ch), .val (.int (1 : Int32))] []))
                    exact ih T5 (i + (1 : Int32)) _ _ _ X5 e5 N5 (One.val rfl) (One.val rfl) (by omega) (by omega)
                  · exact absurd hok (by simp only [own_ok, Int32.lt_iff_toInt_lt, ← Int32.toInt_inj, Int32.reduceToInt] at hc45_6 hc57_7 hc63_16 hc69_17 hc81_18 hc87_19 hc93_20 ⊢; omega)
            · refine W.go (fun _ hr => XS.icmpNo X5.here hx rfl (hb hby d8_69) rfl (flt hc69_17).1 hr) ?_
              show W p e below _ (T5.setTop (mkF m 72 #[.val (.ref r0), .val (.int i), .val (.int ch), s3] []))
              refine W.go (fun _ hr => XS.iloadN X5.here hx rfl (hb hby d8_72) rfl hr) ?_
              show W p e below _ (T5.setTop (mkF m 73 #[.val (.ref r0), .val (.int i), .val (.int ch), s3] [(.int ch)]))
              refine W.go (fun _ hr => XS.bipush X5.here hx rfl (hb hby d8_73) hr) ?_
              show W p e below _ (T5.setTop (mkF m 75 #[.val (.ref r0), .val (.int i), .val (.int ch), s3] [(.int (57 : Int32)), (.int ch)]))
              by_cases hc75_21 : (57 : Int32) < ch
              · refine W.go (fun _ hr => XS.icmpNo X5.here hx rfl (hb hby d8_75) rfl (tlt hc75_21).2.2.2 hr) ?_
                show W p e below _ (T5.setTop (mkF m 78 #[.val (.ref r0), .val (.int i), .val (.int ch), s3] []))
                refine W.go (fun _ hr => XS.iloadN X5.here hx rfl (hb hby d8_78) rfl hr) ?_
                show W p e below _ (T5.setTop (mkF m 79 #[.val (.ref r0), .val (.int i), .val (.int ch), s3] [(.int ch)]))
                refine W.go (fun _ hr => XS.bipush X5.here hx rfl (hb hby d8_79) hr) ?_
                show W p e below _ (T5.setTop (mkF m 81 #[.val (.ref r0), .val (.int i), .val (.int ch), s3] [(.int (95 : Int32)), (.int ch)]))
                by_cases hc81_22 : ch = (95 : Int32)
                · refine W.go (fun _ hr => XS.icmpYes X5.here hx rfl (pc0 := 81) (pc' := 96) rfl (hb hby d8_81) rfl (teq hc81_22).1 (by decide) (by decide) hr) ?_
                  show W p e below _ (T5.setTop (mkF m 96 #[.val (.ref r0), .val (.int i), .val (.int ch), s3] []))
                  refine W.go (fun _ hr => XS.iconst X5.here hx rfl (hb hby d8_96) hr) ?_
                  show W p e below _ (T5.setTop (mkF m 97 #[.val (.ref r0), .val (.int i), .val (.int ch), s3] [(.int (1 : Int32))]))
                  refine W.go (fun _ hr => XS.goto X5.here hx rfl (pc0 := 97) (pc' := 101) rfl (hb hby d8_97) (by decide) (by decide) hr) ?_
                  show W p e below _ (T5.setTop (mkF m 101 #[.val (.ref r0), .val (.int i), .val (.int ch), s3] [(.int (1 : Int32))]))
                  refine W.go (fun _ hr => XS.istoreNS X5.here hx rfl (hb hby d8_101) rfl rfl o3 hr) ?_
                  show W p e below _ (T5.setTop (mkF m 102 #[.val (.ref r0), .val (.int i), .val (.int ch), .val (.int (1 : Int32))] []))
                  refine W.go (fun _ hr => XS.iloadN X5.here hx rfl (hb hby d8_102) rfl hr) ?_
                  show W p e below _ (T5.setTop (mkF m 103 #[.val (.ref r0), .val (.int i), .val (.int ch), .val (.int (1 : Int32))] [(.int (1 : Int32))]))
                  refine W.go (fun _ hr => XS.ifYes X5.here hx rfl (pc0 := 103) (pc' := 116) rfl (hb hby d8_103) rfl ((if0 _ _).trans (feq (by decide : ¬ ((1 : Int32) = (0 : Int32)))).2) (by decide) (by decide) hr) ?_
                  show W p e below _ (T5.setTop (mkF m 116 #[.val (.ref r0), .val (.int i), .val (.int ch), .val (.int (1 : Int32))] []))
                  have ei : (i + (1 : Int32)).toInt = i.toInt + 1 := by
                    have c1 := c_iadd i 1
                    have r1 := rng32 (i + 1)
                    have r2 := rng32 nt
                    have e1 : (1 : Int32).toInt = 1 := rfl
                    omega
                  refine W.go (fun _ hr => XS.iinc X5.here hx rfl (hb hby d8_116) rfl (l' := #[.val (.ref r0), .val (.int (i + (1 : Int32))), .val (.int ch), .val (.int (1 : Int32))]) rfl hr) ?_
                  show W p e below _ (T5.setTop (mkF m 119 #[.val (.ref r0), .val (.int (i + (1 : Int32))), .val (.int ch), .val (.int (1 : Int32))] []))
                  refine W.go (fun _ hr => XS.goto X5.here hx rfl (pc0 := 119) (pc' := 28) rfl (hb hby d8_119) (by decide) (by decide) hr) ?_
                  show W p e below _ (T5.setTop (mkF m 28 #[.val (.ref r0), .val (.int (i + (1 : Int32))), .val (.int ch), .val (.int (1 : Int32))] []))
                  exact ih T5 (i + (1 : Int32)) _ _ _ X5 e5 N5 (One.val rfl) (One.val rfl) (by omega) (by omega)
                · refine W.go (fun _ hr => XS.icmpNo X5.here hx rfl (hb hby d8_81) rfl (feq hc81_22).1 hr) ?_
                  show W p e below _ (T5.setTop (mkF m 84 #[.val (.ref r0), .val (.int i), .val (.int ch), s3] []))
                  refine W.go (fun _ hr => XS.iloadN X5.here hx rfl (hb hby d8_84) rfl hr) ?_
                  show W p e below _ (T5.setTop (mkF m 85 #[.val (.ref r0), .val (.int i), .val (.int ch), s3] [(.int ch)]))
                  refine W.go (fun _ hr => XS.bipush X5.here hx rfl (hb hby d8_85) hr) ?_
                  show W p e below _ (T5.setTop (mkF m 87 #[.val (.ref r0), .val (.int i), .val (.int ch), s3] [(.int (45 : Int32)), (.int ch)]))
                  by_cases hc87_23 : ch = (45 : Int32)
                  · refine W.go (fun _ hr => XS.icmpYes X5.here hx rfl (pc0 := 87) (pc' := 96) rfl (hb hby d8_87) rfl (teq hc87_23).1 (by decide) (by decide) hr) ?_
                    show W p e below _ (T5.setTop (mkF m 96 #[.val (.ref r0), .val (.int i), .val (.int ch), s3] []))
                    refine W.go (fun _ hr => XS.iconst X5.here hx rfl (hb hby d8_96) hr) ?_
                    show W p e below _ (T5.setTop (mkF m 97 #[.val (.ref r0), .val (.int i), .val (.int ch), s3] [(.int (1 : Int32))]))
                    refine W.go (fun _ hr => XS.goto X5.here hx rfl (pc0 := 97) (pc' := 101) rfl (hb hby d8_97) (by decide) (by decide) hr) ?_
                    show W p e below _ (T5.setTop (mkF m 101 #[.val (.ref r0), .val (.int i), .val (.int ch), s3] [(.int (1 : Int32))]))
                    refine W.go (fun _ hr => XS.istoreNS X5.here hx rfl (hb hby d8_101) rfl rfl o3 hr) ?_
                    show W p e below _ (T5.setTop (mkF m 102 #[.val (.ref r0), .val (.int i), .val (.int ch), .val (.int (1 : Int32))] []))
                    refine W.go (fun _ hr => XS.iloadN X5.here hx rfl (hb hby d8_102) rfl hr) ?_
                    show W p e below _ (T5.setTop (mkF m 103 #[.val (.ref r0), .val (.int i), .val (.int ch), .val (.int (1 : Int32))] [(.int (1 : Int32))]))
                    refine W.go (fun _ hr => XS.ifYes X5.here hx rfl (pc0 := 103) (pc' := 116) rfl (hb hby d8_103) rfl ((if0 _ _).trans (feq (by decide : ¬ ((1 : Int32) = (0 : Int32)))).2) (by decide) (by decide) hr) ?_
                    show W p e below _ (T5.setTop (mkF m 116 #[.val (.ref r0), .val (.int i), .val (.int ch), .val (.int (1 : Int32))] []))
                    have ei : (i + (1 : Int32)).toInt = i.toInt + 1 := by
                      have c1 := c_iadd i 1
                      have r1 := rng32 (i + 1)
                      have r2 := rng32 nt
                      have e1 : (1 : Int32).toInt = 1 := rfl
                      omega
                    refine W.go (fun _ hr => XS.iinc X5.here hx rfl (hb hby d8_116) rfl (l' := #[.val (.ref r0), .val (.int (i + (1 : Int32))), .val (.int ch), .val (.int (1 : Int32))]) rfl hr) ?_
                    show W p e below _ (T5.setTop (mkF m 119 #[.val (.ref r0), .val (.int (i + (1 : Int32))), .val (.int ch), .val (.int (1 : Int32))] []))
                    refine W.go (fun _ hr => XS.goto X5.here hx rfl (pc0 := 119) (pc' := 28) rfl (hb hby d8_119) (by decide) (by decide) hr) ?_
                    show W p e below _ (T5.setTop (mkF m 28 #[.val (.ref r0), .val (.int (i + (1 : Int32))), .val (.int ch), .val (.int (1 : Int32))] []))
                    exact ih T5 (i + (1 : Int32)) _ _ _ X5 e5 N5 (One.val rfl) (One.val rfl) (by omega) (by omega)
                  · refine W.go (fun _ hr => XS.icmpNo X5.here hx rfl (hb hby d8_87) rfl (feq hc87_23).1 hr) ?_
                    show W p e below _ (T5.setTop (mkF m 90 #[.val (.ref r0), .val (.int i), .val (.int ch), s3] []))
                    refine W.go (fun _ hr => XS.iloadN X5.here hx rfl (hb hby d8_90) rfl hr) ?_
                    show W p e below _ (T5.setTop (mkF m 91 #[.val (.ref r0), .val (.int i), .val (.int ch), s3] [(.int ch)]))
                    refine W.go (fun _ hr => XS.bipush X5.here hx rfl (hb hby d8_91) hr) ?_
                    show W p e below _ (T5.setTop (mkF m 93 #[.val (.ref r0), .val (.int i), .val (.int ch), s3] [(.int (46 : Int32)), (.int ch)]))
                    by_cases hc93_24 : ch = (46 : Int32)
                    · refine W.go (fun _ hr => XS.icmpNo X5.here hx rfl (hb hby d8_93) rfl (teq hc93_24).2 hr) ?_
                      show W p e below _ (T5.setTop (mkF m 96 #[.val (.ref r0), .val (.int i), .val (.int ch), s3] []))
                      refine W.go (fun _ hr => XS.iconst X5.here hx rfl (hb hby d8_96) hr) ?_
                      show W p e below _ (T5.setTop (mkF m 97 #[.val (.ref r0), .val (.int i), .val (.int ch), s3] [(.int (1 : Int32))]))
                      refine W.go (fun _ hr => XS.goto X5.here hx rfl (pc0 := 97) (pc' := 101) rfl (hb hby d8_97) (by decide) (by decide) hr) ?_
                      show W p e below _ (T5.setTop (mkF m 101 #[.val (.ref r0), .val (.int i), .val (.int ch), s3] [(.int (1 : Int32))]))
                      refine W.go (fun _ hr => XS.istoreNS X5.here hx rfl (hb hby d8_101) rfl rfl o3 hr) ?_
                      show W p e below _ (T5.setTop (mkF m 102 #[.val (.ref r0), .val (.int i), .val (.int ch), .val (.int (1 : Int32))] []))
                      refine W.go (fun _ hr => XS.iloadN X5.here hx rfl (hb hby d8_102) rfl hr) ?_
                      show W p e below _ (T5.setTop (mkF m 103 #[.val (.ref r0), .val (.int i), .val (.int ch), .val (.int (1 : Int32))] [(.int (1 : Int32))]))
                      refine W.go (fun _ hr => XS.ifYes X5.here hx rfl (pc0 := 103) (pc' := 116) rfl (hb hby d8_103) rfl ((if0 _ _).trans (feq (by decide : ¬ ((1 : Int32) = (0 : Int32)))).2) (by decide) (by decide) hr) ?_
                      show W p e below _ (T5.setTop (mkF m 116 #[.val (.ref r0), .val (.int i), .val (.int ch), .val (.int (1 : Int32))] []))
                      have ei : (i + (1 : Int32)).toInt = i.toInt + 1 := by
                        have c1 := c_iadd i 1
                        have r1 := rng32 (i + 1)
                        have r2 := rng32 nt
                        have e1 : (1 : Int32).toInt = 1 := rfl
                        omega
                      refine W.go (fun _ hr => XS.iinc X5.here hx rfl (hb hby d8_116) rfl (l' := #[.val (.ref r0), .val (.int (i + (1 : Int32))), .val (.int ch), .val (.int (1 : Int32))]) rfl hr) ?_
                      show W p e below _ (T5.setTop (mkF m 119 #[.val (.ref r0), .val (.int (i + (1 : Int32))), .val (.int ch), .val (.int (1 : Int32))] []))
                      refine W.go (fun _ hr => XS.goto X5.here hx rfl (pc0 := 119) (pc' := 28) rfl (hb hby d8_119) (by decide) (by decide) hr) ?_
                      show W p e below _ (T5.setTop (mkF m 28 #[.val (.ref r0), .val (.int (i + (1 : Int32))), .val (.int ch), .val (.int (1 : Int32))] []))
                      exact ih T5 (i + (1 : Int32)) _ _ _ X5 e5 N5 (One.val rfl) (One.val rfl) (by omega) (by omega)
                    · exact absurd hok (by simp only [own_ok, Int32.lt_iff_toInt_lt, ← Int32.toInt_inj, Int32.reduceToInt] at hc45_6 hc57_7 hc63_16 hc69_17 hc75_21 hc81_22 hc87_23 hc93_24 ⊢; omega)
              · refine W.go (fun _ hr => XS.icmpYes X5.here hx rfl (pc0 := 75) (pc' := 96) rfl (hb hby d8_75) rfl (flt hc75_21).2.2.2 (by decide) (by decide) hr) ?_
                show W p e below _ (T5.setTop (mkF m 96 #[.val (.ref r0), .val (.int i), .val (.int ch), s3] []))
                refine W.go (fun _ hr => XS.iconst X5.here hx rfl (hb hby d8_96) hr) ?_
                show W p e below _ (T5.setTop (mkF m 97 #[.val (.ref r0), .val (.int i), .val (.int ch), s3] [(.int (1 : Int32))]))
                refine W.go (fun _ hr => XS.goto X5.here hx rfl (pc0 := 97) (pc' := 101) rfl (hb hby d8_97) (by decide) (by decide) hr) ?_
                show W p e below _ (T5.setTop (mkF m 101 #[.val (.ref r0), .val (.int i), .val (.int ch), s3] [(.int (1 : Int32))]))
                refine W.go (fun _ hr => XS.istoreNS X5.here hx rfl (hb hby d8_101) rfl rfl o3 hr) ?_
                show W p e below _ (T5.setTop (mkF m 102 #[.val (.ref r0), .val (.int i), .val (.int ch), .val (.int (1 : Int32))] []))
                refine W.go (fun _ hr => XS.iloadN X5.here hx rfl (hb hby d8_102) rfl hr) ?_
                show W p e below _ (T5.setTop (mkF m 103 #[.val (.ref r0), .val (.int i), .val (.int ch), .val (.int (1 : Int32))] [(.int (1 : Int32))]))
                refine W.go (fun _ hr => XS.ifYes X5.here hx rfl (pc0 := 103) (pc' := 116) rfl (hb hby d8_103) rfl ((if0 _ _).trans (feq (by decide : ¬ ((1 : Int32) = (0 : Int32)))).2) (by decide) (by decide) hr) ?_
                show W p e below _ (T5.setTop (mkF m 116 #[.val (.ref r0), .val (.int i), .val (.int ch), .val (.int (1 : Int32))] []))
                have ei : (i + (1 : Int32)).toInt = i.toInt + 1 := by
                  have c1 := c_iadd i 1
                  have r1 := rng32 (i + 1)
                  have r2 := rng32 nt
                  have e1 : (1 : Int32).toInt = 1 := rfl
                  omega
                refine W.go (fun _ hr => XS.iinc X5.here hx rfl (hb hby d8_116) rfl (l' := #[.val (.ref r0), .val (.int (i + (1 : Int32))), .val (.int ch), .val (.int (1 : Int32))]) rfl hr) ?_
                show W p e below _ (T5.setTop (mkF m 119 #[.val (.ref r0), .val (.int (i + (1 : Int32))), .val (.int ch), .val (.int (1 : Int32))] []))
                refine W.go (fun _ hr => XS.goto X5.here hx rfl (pc0 := 119) (pc' := 28) rfl (hb hby d8_119) (by decide) (by decide) hr) ?_
                show W p e below _ (T5.setTop (mkF m 28 #[.val (.ref r0), .val (.int (i + (1 : Int32))), .val (.int ch), .val (.int (1 : Int32))] []))
                exact ih T5 (i + (1 : Int32)) _ _ _ X5 e5 N5 (One.val rfl) (One.val rfl) (by omega) (by omega)
          · refine W.go (fun _ hr => XS.icmpYes X5.here hx rfl (pc0 := 63) (pc' := 96) rfl (hb hby d8_63) rfl (flt hc63_16).2.2.2 (by decide) (by decide) hr) ?_
            show W p e below _ (T5.setTop (mkF m 96 #[.val (.ref r0), .val (.int i), .val (.int ch), s3] []))
            refine W.go (fun _ hr => XS.iconst X5.here hx rfl (hb hby d8_96) hr) ?_
            show W p e below _ (T5.setTop (mkF m 97 #[.val (.ref r0), .val (.int i), .val (.int ch), s3] [(.int (1 : Int32))]))
            refine W.go (fun _ hr => XS.goto X5.here hx rfl (pc0 := 97) (pc' := 101) rfl (hb hby d8_97) (by decide) (by decide) hr) ?_
            show W p e below _ (T5.setTop (mkF m 101 #[.val (.ref r0), .val (.int i), .val (.int ch), s3] [(.int (1 : Int32))]))
            refine W.go (fun _ hr => XS.istoreNS X5.here hx rfl (hb hby d8_101) rfl rfl o3 hr) ?_
            show W p e below _ (T5.setTop (mkF m 102 #[.val (.ref r0), .val (.int i), .val (.int ch), .val (.int (1 : Int32))] []))
            refine W.go (fun _ hr => XS.iloadN X5.here hx rfl (hb hby d8_102) rfl hr) ?_
            show W p e below _ (T5.setTop (mkF m 103 #[.val (.ref r0), .val (.int i), .val (.int ch), .val (.int (1 : Int32))] [(.int (1 : Int32))]))
            refine W.go (fun _ hr => XS.ifYes X5.here hx rfl (pc0 := 103) (pc' := 116) rfl (hb hby d8_103) rfl ((if0 _ _).trans (feq (by decide : ¬ ((1 : Int32) = (0 : Int32)))).2) (by decide) (by decide) hr) ?_
            show W p e below _ (T5.setTop (mkF m 116 #[.val (.ref r0), .val (.int i), .val (.int ch), .val (.int (1 : Int32))] []))
            have ei : (i + (1 : Int32)).toInt = i.toInt + 1 := by
              have c1 := c_iadd i 1
              have r1 := rng32 (i + 1)
              have r2 := rng32 nt
              have e1 : (1 : Int32).toInt = 1 := rfl
              omega
            refine W.go (fun _ hr => XS.iinc X5.here hx rfl (hb hby d8_116) rfl (l' := #[.val (.ref r0), .val (.int (i + (1 : Int32))), .val (.int ch), .val (.int (1 : Int32))]) rfl hr) ?_
            show W p e below _ (T5.setTop (mkF m 119 #[.val (.ref r0), .val (.int (i + (1 : Int32))), .val (.int ch), .val (.int (1 : Int32))] []))
            refine W.go (fun _ hr => XS.goto X5.here hx rfl (pc0 := 119) (pc' := 28) rfl (hb hby d8_119) (by decide) (by decide) hr) ?_
            show W p e below _ (T5.setTop (mkF m 28 #[.val (.ref r0), .val (.int (i + (1 : Int32))), .val (.int ch), .val (.int (1 : Int32))] []))
            exact ih T5 (i + (1 : Int32)) _ _ _ X5 e5 N5 (One.val rfl) (One.val rfl) (by omega) (by omega)
      · refine W.go (fun _ hr => XS.icmpNo X5.here hx rfl (hb hby d8_45) rfl (flt hc45_6).1 hr) ?_
        show W p e below _ (T5.setTop (mkF m 48 #[.val (.ref r0), .val (.int i), .val (.int ch), s3] []))
        refine W.go (fun _ hr => XS.iloadN X5.here hx rfl (hb hby d8_48) rfl hr) ?_
        show W p e below _ (T5.setTop (mkF m 49 #[.val (.ref r0), .val (.int i), .val (.int ch), s3] [(.int ch)]))
        refine W.go (fun _ hr => XS.bipush X5.here hx rfl (hb hby d8_49) hr) ?_
        show W p e below _ (T5.setTop (mkF m 51 #[.val (.ref r0), .val (.int i), .val (.int ch), s3] [(.int (90 : Int32)), (.int ch)]))
        by_cases hc51_25 : (90 : Int32) < ch
        · refine W.go (fun _ hr => XS.icmpNo X5.here hx rfl (hb hby d8_51) rfl (tlt hc51_25).2.2.2 hr) ?_
          show W p e below _ (T5.setTop (mkF m 54 #[.val (.ref r0), .val (.int i), .val (.int ch), s3] []))
          refine W.go (fun _ hr => XS.iloadN X5.here hx rfl (hb hby d8_54) rfl hr) ?_
          show W p e below _ (T5.setTop (mkF m 55 #[.val (.ref r0), .val (.int i), .val (.int ch), s3] [(.int ch)]))
          refine W.go (fun _ hr => XS.bipush X5.here hx rfl (hb hby d8_55) hr) ?_
          show W p e below _ (T5.setTop (mkF m 57 #[.val (.ref r0), .val (.int i), .val (.int ch), s3] [(.int (97 : Int32)), (.int ch)]))
          by_cases hc57_26 : ch < (97 : Int32)
          · refine W.go (fun _ hr => XS.icmpYes X5.here hx rfl (pc0 := 57) (pc' := 66) rfl (hb hby d8_57) rfl (tlt hc57_26).1 (by decide) (by decide) hr) ?_
            show W p e below _ (T5.setTop (mkF m 66 #[.val (.ref r0), .val (.int i), .val (.int ch), s3] []))
            refine W.go (fun _ hr => XS.iloadN X5.here hx rfl (hb hby d8_66) rfl hr) ?_
            show W p e below _ (T5.setTop (mkF m 67 #[.val (.ref r0), .val (.int i), .val (.int ch), s3] [(.int ch)]))
            refine W.go (fun _ hr => XS.bipush X5.here hx rfl (hb hby d8_67) hr) ?_
            show W p e below _ (T5.setTop (mkF m 69 #[.val (.ref r0), .val (.int i), .val (.int ch), s3] [(.int (48 : Int32)), (.int ch)]))
            by_cases hc69_27 : ch < (48 : Int32)
            · refine W.go (fun _ hr => XS.icmpYes X5.here hx rfl (pc0 := 69) (pc' := 78) rfl (hb hby d8_69) rfl (tlt hc69_27).1 (by decide) (by decide) hr) ?_
              show W p e below _ (T5.setTop (mkF m 78 #[.val (.ref r0), .val (.int i), .val (.int ch), s3] []))
              refine W.go (fun _ hr => XS.iloadN X5.here hx rfl (hb hby d8_78) rfl hr) ?_
              show W p e below _ (T5.setTop (mkF m 79 #[.val (.ref r0), .val (.int i), .val (.int ch), s3] [(.int ch)]))
              refine W.go (fun _ hr => XS.bipush X5.here hx rfl (hb hby d8_79) hr) ?_
              show W p e below _ (T5.setTop (mkF m 81 #[.val (.ref r0), .val (.int i), .val (.int ch), s3] [(.int (95 : Int32)), (.int ch)]))
              by_cases hc81_28 : ch = (95 : Int32)
              · refine W.go (fun _ hr => XS.icmpYes X5.here hx rfl (pc0 := 81) (pc' := 96) rfl (hb hby d8_81) rfl (teq hc81_28).1 (by decide) (by decide) hr) ?_
                show W p e below _ (T5.setTop (mkF m 96 #[.val (.ref r0), .val (.int i), .val (.int ch), s3] []))
                refine W.go (fun _ hr => XS.iconst X5.here hx rfl (hb hby d8_96) hr) ?_
                show W p e below _ (T5.setTop (mkF m 97 #[.val (.ref r0), .val (.int i), .val (.int ch), s3] [(.int (1 : Int32))]))
                refine W.go (fun _ hr => XS.goto X5.here hx rfl (pc0 := 97) (pc' := 101) rfl (hb hby d8_97) (by decide) (by decide) hr) ?_
                show W p e below _ (T5.setTop (mkF m 101 #[.val (.ref r0), .val (.int i), .val (.int ch), s3] [(.int (1 : Int32))]))
                refine W.go (fun _ hr => XS.istoreNS X5.here hx rfl (hb hby d8_101) rfl rfl o3 hr) ?_
                show W p e below _ (T5.setTop (mkF m 102 #[.val (.ref r0), .val (.int i), .val (.int ch), .val (.int (1 : Int32))] []))
                refine W.go (fun _ hr => XS.iloadN X5.here hx rfl (hb hby d8_102) rfl hr) ?_
                show W p e below _ (T5.setTop (mkF m 103 #[.val (.ref r0), .val (.int i), .val (.int ch), .val (.int (1 : Int32))] [(.int (1 : Int32))]))
                refine W.go (fun _ hr => XS.ifYes X5.here hx rfl (pc0 := 103) (pc' := 116) rfl (hb hby d8_103) rfl ((if0 _ _).trans (feq (by decide : ¬ ((1 : Int32) = (0 : Int32)))).2) (by decide) (by decide) hr) ?_
                show W p e below _ (T5.setTop (mkF m 116 #[.val (.ref r0), .val (.int i), .val (.int ch), .val (.int (1 : Int32))] []))
                have ei : (i + (1 : Int32)).toInt = i.toInt + 1 := by
                  have c1 := c_iadd i 1
                  have r1 := rng32 (i + 1)
                  have r2 := rng32 nt
                  have e1 : (1 : Int32).toInt = 1 := rfl
                  omega
                refine W.go (fun _ hr => XS.iinc X5.here hx rfl (hb hby d8_116) rfl (l' := #[.val (.ref r0), .val (.int (i + (1 : Int32))), .val (.int ch), .val (.int (1 : Int32))]) rfl hr) ?_
                show W p e below _ (T5.setTop (mkF m 119 #[.val (.ref r0), .val (.int (i + (1 : Int32))), .val (.int ch), .val (.int (1 : Int32))] []))
                refine W.go (fun _ hr => XS.goto X5.here hx rfl (pc0 := 119) (pc' := 28) rfl (hb hby d8_119) (by decide) (by decide) hr) ?_
                show W p e below _ (T5.setTop (mkF m 28 #[.val (.ref r0), .val (.int (i + (1 : Int32))), .val (.int ch), .val (.int (1 : Int32))] []))
                exact ih T5 (i + (1 : Int32)) _ _ _ X5 e5 N5 (One.val rfl) (One.val rfl) (by omega) (by omega)
              · refine W.go (fun _ hr => XS.icmpNo X5.here hx rfl (hb hby d8_81) rfl (feq hc81_28).1 hr) ?_
                show W p e below _ (T5.setTop (mkF m 84 #[.val (.ref r0), .val (.int i), .val (.int ch), s3] []))
                refine W.go (fun _ hr => XS.iloadN X5.here hx rfl (hb hby d8_84) rfl hr) ?_
                show W p e below _ (T5.setTop (mkF m 85 #[.val (.ref r0), .val (.int i), .val (.int ch), s3] [(.int ch)]))
                refine W.go (fun _ hr => XS.bipush X5.here hx rfl (hb hby d8_85) hr) ?_
                show W p e below _ (T5.setTop (mkF m 87 #[.val (.ref r0), .val (.int i), .val (.int ch), s3] [(.int (45 : Int32)), (.int ch)]))
                by_cases hc87_29 : ch = (45 : Int32)
                · refine W.go (fun _ hr => XS.icmpYes X5.here hx rfl (pc0 := 87) (pc' := 96) rfl (hb hby d8_87) rfl (teq hc87_29).1 (by decide) (by decide) hr) ?_
                  show W p e below _ (T5.setTop (mkF m 96 #[.val (.ref r0), .val (.int i), .val (.int ch), s3] []))
                  refine W.go (fun _ hr => XS.iconst X5.here hx rfl (hb hby d8_96) hr) ?_
                  show W p e below _ (T5.setTop (mkF m 97 #[.val (.ref r0), .val (.int i), .val (.int ch), s3] [(.int (1 : Int32))]))
                  refine W.go (fun _ hr => XS.goto X5.here hx rfl (pc0 := 97) (pc' := 101) rfl (hb hby d8_97) (by decide) (by decide) hr) ?_
                  show W p e below _ (T5.setTop (mkF m 101 #[.val (.ref r0), .val (.int i), .val (.int ch), s3] [(.int (1 : Int32))]))
                  refine W.go (fun _ hr => XS.istoreNS X5.here hx rfl (hb hby d8_101) rfl rfl o3 hr) ?_
                  show W p e below _ (T5.setTop (mkF m 102 #[.val (.ref r0), .val (.int i), .val (.int ch), .val (.int (1 : Int32))] []))
                  refine W.go (fun _ hr => XS.iloadN X5.here hx rfl (hb hby d8_102) rfl hr) ?_
                  show W p e below _ (T5.setTop (mkF m 103 #[.val (.ref r0), .val (.int i), .val (.int ch), .val (.int (1 : Int32))] [(.int (1 : Int32))]))
                  refine W.go (fun _ hr => XS.ifYes X5.here hx rfl (pc0 := 103) (pc' := 116) rfl (hb hby d8_103) rfl ((if0 _ _).trans (feq (by decide : ¬ ((1 : Int32) = (0 : Int32)))).2) (by decide) (by decide) hr) ?_
                  show W p e below _ (T5.setTop (mkF m 116 #[.val (.ref r0), .val (.int i), .val (.int ch), .val (.int (1 : Int32))] []))
                  have ei : (i + (1 : Int32)).toInt = i.toInt + 1 := by
                    have c1 := c_iadd i 1
                    have r1 := rng32 (i + 1)
                    have r2 := rng32 nt
                    have e1 : (1 : Int32).toInt = 1 := rfl
                    omega
                  refine W.go (fun _ hr => XS.iinc X5.here hx rfl (hb hby d8_116) rfl (l' := #[.val (.ref r0), .val (.int (i + (1 : Int32))), .val (.int ch), .val (.int (1 : Int32))]) rfl hr) ?_
                  show W p e below _ (T5.setTop (mkF m 119 #[.val (.ref r0), .val (.int (i + (1 : Int32))), .val (.int ch), .val (.int (1 : Int32))] []))
                  refine W.go (fun _ hr => XS.goto X5.here hx rfl (pc0 := 119) (pc' := 28) rfl (hb hby d8_119) (by decide) (by decide) hr) ?_
                  show W p e below _ (T5.setTop (mkF m 28 #[.val (.ref r0), .val (.int (i + (1 : Int32))), .val (.int ch), .val (.int (1 : Int32))] []))
                  exact ih T5 (i + (1 : Int32)) _ _ _ X5 e5 N5 (One.val rfl) (One.val rfl) (by omega) (by omega)
                · refine W.go (fun _ hr => XS.icmpNo X5.here hx rfl (hb hby d8_87) rfl (feq hc87_29).1 hr) ?_
                  show W p e below _ (T5.setTop (mkF m 90 #[.val (.ref r0), .val (.int i), .val (.int ch), s3] []))
                  refine W.go (fun _ hr => XS.iloadN X5.here hx rfl (hb hby d8_90) rfl hr) ?_
                  show W p e below _ (T5.setTop (mkF m 91 #[.val (.ref r0), .val (.int i), .val (.int ch), s3] [(.int ch)]))
                  refine W.go (fun _ hr => XS.bipush X5.here hx rfl (hb hby d8_91) hr) ?_
                  show W p e below _ (T5.setTop (mkF m 93 #[.val (.ref r0), .val (.int i), .val (.int ch), s3] [(.int (46 : Int32)), (.int ch)]))
                  by_cases hc93_30 : ch = (46 : Int32)
                  · refine W.go (fun _ hr => XS.icmpNo X5.here hx rfl (hb hby d8_93) rfl (teq hc93_30).2 hr) ?_
                    show W p e below _ (T5.setTop (mkF m 96 #[.val (.ref r0), .val (.int i), .val (.int ch), s3] []))
                    refine W.go (fun _ hr => XS.iconst X5.here hx rfl (hb hby d8_96) hr) ?_
                    show W p e below _ (T5.setTop (mkF m 97 #[.val (.ref r0), .val (.int i), .val (.int ch), s3] [(.int (1 : Int32))]))
                    refine W.go (fun _ hr => XS.goto X5.here hx rfl (pc0 := 97) (pc' := 101) rfl (hb hby d8_97) (by decide) (by decide) hr) ?_
                    show W p e below _ (T5.setTop (mkF m 101 #[.val (.ref r0), .val (.int i), .val (.int ch), s3] [(.int (1 : Int32))]))
                    refine W.go (fun _ hr => XS.istoreNS X5.here hx rfl (hb hby d8_101) rfl rfl o3 hr) ?_
                    show W p e below _ (T5.setTop (mkF m 102 #[.val (.ref r0), .val (.int i), .val (.int ch), .val (.int (1 : Int32))] []))
                    refine W.go (fun _ hr => XS.iloadN X5.here hx rfl (hb hby d8_102) rfl hr) ?_
                    show W p e below _ (T5.setTop (mkF m 103 #[.val (.ref r0), .val (.int i), .val (.int ch), .val (.int (1 : Int32))] [(.int (1 : Int32))]))
                    refine W.go (fun _ hr => XS.ifYes X5.here hx rfl (pc0 := 103) (pc' := 116) rfl (hb hby d8_103) rfl ((if0 _ _).trans (feq (by decide : ¬ ((1 : Int32) = (0 : Int32)))).2) (by decide) (by decide) hr) ?_
                    show W p e below _ (T5.setTop (mkF m 116 #[.val (.ref r0), .val (.int i), .val (.int ch), .val (.int (1 : Int32))] []))
                    have ei : (i + (1 : Int32)).toInt = i.toInt + 1 := by
                      have c1 := c_iadd i 1
                      have r1 := rng32 (i + 1)
                      have r2 := rng32 nt
                      have e1 : (1 : Int32).toInt = 1 := rfl
                      omega
                    refine W.go (fun _ hr => XS.iinc X5.here hx rfl (hb hby d8_116) rfl (l' := #[.val (.ref r0), .val (.int (i + (1 : Int32))), .val (.int ch), .val (.int (1 : Int32))]) rfl hr) ?_
                    show W p e below _ (T5.setTop (mkF m 119 #[.val (.ref r0), .val (.int (i + (1 : Int32))), .val (.int ch), .val (.int (1 : Int32))] []))
                    refine W.go (fun _ hr => XS.goto X5.here hx rfl (pc0 := 119) (pc' := 28) rfl (hb hby d8_119) (by decide) (by decide) hr) ?_
                    show W p e below _ (T5.setTop (mkF m 28 #[.val (.ref r0), .val (.int (i + (1 : Int32))), .val (.int ch), .val (.int (1 : Int32))] []))
                    exact ih T5 (i + (1 : Int32)) _ _ _ X5 e5 N5 (One.val rfl) (One.val rfl) (by omega) (by omega)
                  · exact absurd hok (by simp only [own_ok, Int32.lt_iff_toInt_lt, ← Int32.toInt_inj, Int32.reduceToInt] at hc45_6 hc51_25 hc57_26 hc69_27 hc81_28 hc87_29 hc93_30 ⊢; omega)
            · refine W.go (fun _ hr => XS.icmpNo X5.here hx rfl (hb hby d8_69) rfl (flt hc69_27).1 hr) ?_
              show W p e below _ (T5.setTop (mkF m 72 #[.val (.ref r0), .val (.int i), .val (.int ch), s3] []))
              refine W.go (fun _ hr => XS.iloadN X5.here hx rfl (hb hby d8_72) rfl hr) ?_
              show W p e below _ (T5.setTop (mkF m 73 #[.val (.ref r0), .val (.int i), .val (.int ch), s3] [(.int ch)]))
              refine W.go (fun _ hr => XS.bipush X5.here hx rfl (hb hby d8_73) hr) ?_
              show W p e below _ (T5.setTop (mkF m 75 #[.val (.ref r0), .val (.int i), .val (.int ch), s3] [(.int (57 : Int32)), (.int ch)]))
              by_cases hc75_31 : (57 : Int32) < ch
              · refine W.go (fun _ hr => XS.icmpNo X5.here hx rfl (hb hby d8_75) rfl (tlt hc75_31).2.2.2 hr) ?_
                show W p e below _ (T5.setTop (mkF m 78 #[.val (.ref r0), .val (.int i), .val (.int ch), s3] []))
                refine W.go (fun _ hr => XS.iloadN X5.here hx rfl (hb hby d8_78) rfl hr) ?_
                show W p e below _ (T5.setTop (mkF m 79 #[.val (.ref r0), .val (.int i), .val (.int ch), s3] [(.int ch)]))
                refine W.go (fun _ hr => XS.bipush X5.here hx rfl (hb hby d8_79) hr) ?_
                show W p e below _ (T5.setTop (mkF m 81 #[.val (.ref r0), .val (.int i), .val (.int ch), s3] [(.int (95 : Int32)), (.int ch)]))
                by_cases hc81_32 : ch = (95 : Int32)
                · refine W.go (fun _ hr => XS.icmpYes X5.here hx rfl (pc0 := 81) (pc' := 96) rfl (hb hby d8_81) rfl (teq hc81_32).1 (by decide) (by decide) hr) ?_
                  show W p e below _ (T5.setTop (mkF m 96 #[.val (.ref r0), .val (.int i), .val (.int ch), s3] []))
                  refine W.go (fun _ hr => XS.iconst X5.here hx rfl (hb hby d8_96) hr) ?_
                  show W p e below _ (T5.setTop (mkF m 97 #[.val (.ref r0), .val (.int i), .val (.int ch), s3] [(.int (1 : Int32))]))
                  refine W.go (fun _ hr => XS.goto X5.here hx rfl (pc0 := 97) (pc' := 101) rfl (hb hby d8_97) (by decide) (by decide) hr) ?_
                  show W p e below _ (T5.setTop (mkF m 101 #[.val (.ref r0), .val (.int i), .val (.int ch), s3] [(.int (1 : Int32))]))
                  refine W.go (fun _ hr => XS.istoreNS X5.here hx rfl (hb hby d8_101) rfl rfl o3 hr) ?_
                  show W p e below _ (T5.setTop (mkF m 102 #[.val (.ref r0), .val (.int i), .val (.int ch), .val (.int (1 : Int32))] []))
                  refine W.go (fun _ hr => XS.iloadN X5.here hx rfl (hb hby d8_102) rfl hr) ?_
                  show W p e below _ (T5.setTop (mkF m 103 #[.val (.ref r0), .val (.int i), .val (.int ch), .val (.int (1 : Int32))] [(.int (1 : Int32))]))
                  refine W.go (fun _ hr => XS.ifYes X5.here hx rfl (pc0 := 103) (pc' := 116) rfl (hb hby d8_103) rfl ((if0 _ _).trans (feq (by decide : ¬ ((1 : Int32) = (0 : Int32)))).2) (by decide) (by decide) hr) ?_
                  show W p e below _ (T5.setTop (mkF m 116 #[.val (.ref r0), .val (.int i), .val (.int ch), .val (.int (1 : Int32))] []))
                  have ei : (i + (1 : Int32)).toInt = i.toInt + 1 := by
                    have c1 := c_iadd i 1
                    have r1 := rng32 (i + 1)
                    have r2 := rng32 nt
                    have e1 : (1 : Int32).toInt = 1 := rfl
                    omega
                  refine W.go (fun _ hr => XS.iinc X5.here hx rfl (hb hby d8_116) rfl (l' := #[.val (.ref r0), .val (.int (i + (1 : Int32))), .val (.int ch), .val (.int (1 : Int32))]) rfl hr) ?_
                  show W p e below _ (T5.setTop (mkF m 119 #[.val (.ref r0), .val (.int (i + (1 : Int32))), .val (.int ch), .val (.int (1 : Int32))] []))
                  refine W.go (fun _ hr => XS.goto X5.here hx rfl (pc0 := 119) (pc' := 28) rfl (hb hby d8_119) (by decide) (by decide) hr) ?_
                  show W p e below _ (T5.setTop (mkF m 28 #[.val (.ref r0), .val (.int (i + (1 : Int32))), .val (.int ch), .val (.int (1 : Int32))] []))
                  exact ih T5 (i + (1 : Int32)) _ _ _ X5 e5 N5 (One.val rfl) (One.val rfl) (by omega) (by omega)
                · refine W.go (fun _ hr => XS.icmpNo X5.here hx rfl (hb hby d8_81) rfl (feq hc81_32).1 hr) ?_
                  show W p e below _ (T5.setTop (mkF m 84 #[.val (.ref r0), .val (.int i), .val (.int ch), s3] []))
                  refine W.go (fun _ hr => XS.iloadN X5.here hx rfl (hb hby d8_84) rfl hr) ?_
                  show W p e below _ (T5.setTop (mkF m 85 #[.val (.ref r0), .val (.int i), .val (.int ch), s3] [(.int ch)]))
                  refine W.go (fun _ hr => XS.bipush X5.here hx rfl (hb hby d8_85) hr) ?_
                  show W p e below _ (T5.setTop (mkF m 87 #[.val (.ref r0), .val (.int i), .val (.int ch), s3] [(.int (45 : Int32)), (.int ch)]))
                  by_cases hc87_33 : ch = (45 : Int32)
                  · refine W.go (fun _ hr => XS.icmpYes X5.here hx rfl (pc0 := 87) (pc' := 96) rfl (hb hby d8_87) rfl (teq hc87_33).1 (by decide) (by decide) hr) ?_
                    show W p e below _ (T5.setTop (mkF m 96 #[.val (.ref r0), .val (.int i), .val (.int ch), s3] []))
                    refine W.go (fun _ hr => XS.iconst X5.here hx rfl (hb hby d8_96) hr) ?_
                    show W p e below _ (T5.setTop (mkF m 97 #[.val (.ref r0), .val (.int i), .val (.int ch), s3] [(.int (1 : Int32))]))
                    refine W.go (fun _ hr => XS.goto X5.here hx rfl (pc0 := 97) (pc' := 101) rfl (hb hby d8_97) (by decide) (by decide) hr) ?_
                    show W p e below _ (T5.setTop (mkF m 101 #[.val (.ref r0), .val (.int i), .val (.int ch), s3] [(.int (1 : Int32))]))
                    refine W.go (fun _ hr => XS.istoreNS X5.here hx rfl (hb hby d8_101) rfl rfl o3 hr) ?_
                    show W p e below _ (T5.setTop (mkF m 102 #[.val (.ref r0), .val (.int i), .val (.int ch), .val (.int (1 : Int32))] []))
                    refine W.go (fun _ hr => XS.iloadN X5.here hx rfl (hb hby d8_102) rfl hr) ?_
                    show W p e below _ (T5.setTop (mkF m 103 #[.val (.ref r0), .val (.int i), .val (.int ch), .val (.int (1 : Int32))] [(.int (1 : Int32))]))
                    refine W.go (fun _ hr => XS.ifYes X5.here hx rfl (pc0 := 103) (pc' := 116) rfl (hb hby d8_103) rfl ((if0 _ _).trans (feq (by decide : ¬ ((1 : Int32) = (0 : Int32)))).2) (by decide) (by decide) hr) ?_
                    show W p e below _ (T5.setTop (mkF m 116 #[.val (.ref r0), .val (.int i), .val (.int ch), .val (.int (1 : Int32))] []))
                    have ei : (i + (1 : Int32)).toInt = i.toInt + 1 := by
                      have c1 := c_iadd i 1
                      have r1 := rng32 (i + 1)
                      have r2 := rng32 nt
                      have e1 : (1 : Int32).toInt = 1 := rfl
                      omega
                    refine W.go (fun _ hr => XS.iinc X5.here hx rfl (hb hby d8_116) rfl (l' := #[.val (.ref r0), .val (.int (i + (1 : Int32))), .val (.int ch), .val (.int (1 : Int32))]) rfl hr) ?_
                    show W p e below _ (T5.setTop (mkF m 119 #[.val (.ref r0), .val (.int (i + (1 : Int32))), .val (.int ch), .val (.int (1 : Int32))] []))
                    refine W.go (fun _ hr => XS.goto X5.here hx rfl (pc0 := 119) (pc' := 28) rfl (hb hby d8_119) (by decide) (by decide) hr) ?_
                    show W p e below _ (T5.setTop (mkF m 28 #[.val (.ref r0), .val (.int (i + (1 : Int32))), .val (.int ch), .val (.int (1 : Int32))] []))
                    exact ih T5 (i + (1 : Int32)) _ _ _ X5 e5 N5 (One.val rfl) (One.val rfl) (by omega) (by omega)
                  · refine W.go (fun _ hr => XS.icmpNo X5.here hx rfl (hb hby d8_87) rfl (feq hc87_33).1 hr) ?_
                    show W p e below _ (T5.setTop (mkF m 90 #[.val (.ref r0), .val (.int i), .val (.int ch), s3] []))
                    refine W.go (fun _ hr => XS.iloadN X5.here hx rfl (hb hby d8_90) rfl hr) ?_
                    show W p e below _ (T5.setTop (mkF m 91 #[.val (.ref r0), .val (.int i), .val (.int ch), s3] [(.int ch)]))
                    refine W.go (fun _ hr => XS.bipush X5.here hx rfl (hb hby d8_91) hr) ?_
                    show W p e below _ (T5.setTop (mkF m 93 #[.val (.ref r0), .val (.int i), .val (.int ch), s3] [(.int (46 : Int32)), (.int ch)]))
                    by_cases hc93_34 : ch = (46 : Int32)
                    · refine W.go (fun _ hr => XS.icmpNo X5.here hx rfl (hb hby d8_93) rfl (teq hc93_34).2 hr) ?_
                      show W p e below _ (T5.setTop (mkF m 96 #[.val (.ref r0), .val (.int i), .val (.int ch), s3] []))
                      refine W.go (fun _ hr => XS.iconst X5.here hx rfl (hb hby d8_96) hr) ?_
                      show W p e below _ (T5.setTop (mkF m 97 #[.val (.ref r0), .val (.int i), .val (.int ch), s3] [(.int (1 : Int32))]))
                      refine W.go (fun _ hr => XS.goto X5.here hx rfl (pc0 := 97) (pc' := 101) rfl (hb hby d8_97) (by decide) (by decide) hr) ?_
                      show W p e below _ (T5.setTop (mkF m 101 #[.val (.ref r0), .val (.int i), .val (.int ch), s3] [(.int (1 : Int32))]))
                      refine W.go (fun _ hr => XS.istoreNS X5.here hx rfl (hb hby d8_101) rfl rfl o3 hr) ?_
                      show W p e below _ (T5.setTop (mkF m 102 #[.val (.ref r0), .val (.int i), .val (.int ch), .val (.int (1 : Int32))] []))
                      refine W.go (fun _ hr => XS.iloadN X5.here hx rfl (hb hby d8_102) rfl hr) ?_
                      show W p e below _ (T5.setTop (mkF m 103 #[.val (.ref r0), .val (.int i), .val (.int ch), .val (.int (1 : Int32))] [(.int (1 : Int32))]))
                      refine W.go (fun _ hr => XS.ifYes X5.here hx rfl (pc0 := 103) (pc' := 116) rfl (hb hby d8_103) rfl ((if0 _ _).trans (feq (by decide : ¬ ((1 : Int32) = (0 : Int32)))).2) (by decide) (by decide) hr) ?_
                      show W p e below _ (T5.setTop (mkF m 116 #[.val (.ref r0), .val (.int i), .val (.int ch), .val (.int (1 : Int32))] []))
                      have ei : (i + (1 : Int32)).toInt = i.toInt + 1 := by
                        have c1 := c_iadd i 1
                        have r1 := rng32 (i + 1)
                        have r2 := rng32 nt
                        have e1 : (1 : Int32).toInt = 1 := rfl
                        omega
                      refine W.go (fun _ hr => XS.iinc X5.here hx rfl (hb hby d8_116) rfl (l' := #[.val (.ref r0), .val (.int (i + (1 : Int32))), .val (.int ch), .val (.int (1 : Int32))]) rfl hr) ?_
                      show W p e below _ (T5.setTop (mkF m 119 #[.val (.ref r0), .val (.int (i + (1 : Int32))), .val (.int ch), .val (.int (1 : Int32))] []))
                      refine W.go (fun _ hr => XS.goto X5.here hx rfl (pc0 := 119) (pc' := 28) rfl (hb hby d8_119) (by decide) (by decide) hr) ?_
                      show W p e below _ (T5.setTop (mkF m 28 #[.val (.ref r0), .val (.int (i + (1 : Int32))), .val (.int ch), .val (.int (1 : Int32))] []))
                      exact ih T5 (i + (1 : Int32)) _ _ _ X5 e5 N5 (One.val rfl) (One.val rfl) (by omega) (by omega)
                    · exact absurd hok (by simp only [own_ok, Int32.lt_iff_toInt_lt, ← Int32.toInt_inj, Int32.reduceToInt] at hc45_6 hc51_25 hc57_26 hc69_27 hc75_31 hc81_32 hc87_33 hc93_34 ⊢; omega)
              · refine W.go (fun _ hr => XS.icmpYes X5.here hx rfl (pc0 := 75) (pc' := 96) rfl (hb hby d8_75) rfl (flt hc75_31).2.2.2 (by decide) (by decide) hr) ?_
                show W p e below _ (T5.setTop (mkF m 96 #[.val (.ref r0), .val (.int i), .val (.int ch), s3] []))
                refine W.go (fun _ hr => XS.iconst X5.here hx rfl (hb hby d8_96) hr) ?_
                show W p e below _ (T5.setTop (mkF m 97 #[.val (.ref r0), .val (.int i), .val (.int ch), s3] [(.int (1 : Int32))]))
                refine W.go (fun _ hr => XS.goto X5.here hx rfl (pc0 := 97) (pc' := 101) rfl (hb hby d8_97) (by decide) (by decide) hr) ?_
                show W p e below _ (T5.setTop (mkF m 101 #[.val (.ref r0), .val (.int i), .val (.int ch), s3] [(.int (1 : Int32))]))
                refine W.go (fun _ hr => XS.istoreNS X5.here hx rfl (hb hby d8_101) rfl rfl o3 hr) ?_
                show W p e below _ (T5.setTop (mkF m 102 #[.val (.ref r0), .val (.int i), .val (.int ch), .val (.int (1 : Int32))] []))
                refine W.go (fun _ hr => XS.iloadN X5.here hx rfl (hb hby d8_102) rfl hr) ?_
                show W p e below _ (T5.setTop (mkF m 103 #[.val (.ref r0), .val (.int i), .val (.int ch), .val (.int (1 : Int32))] [(.int (1 : Int32))]))
                refine W.go (fun _ hr => XS.ifYes X5.here hx rfl (pc0 := 103) (pc' := 116) rfl (hb hby d8_103) rfl ((if0 _ _).trans (feq (by decide : ¬ ((1 : Int32) = (0 : Int32)))).2) (by decide) (by decide) hr) ?_
                show W p e below _ (T5.setTop (mkF m 116 #[.val (.ref r0), .val (.int i), .val (.int ch), .val (.int (1 : Int32))] []))
                have ei : (i + (1 : Int32)).toInt = i.toInt + 1 := by
                  have c1 := c_iadd i 1
                  have r1 := rng32 (i + 1)
                  have r2 := rng32 nt
                  have e1 : (1 : Int32).toInt = 1 := rfl
                  omega
                refine W.go (fun _ hr => XS.iinc X5.here hx rfl (hb hby d8_116) rfl (l' := #[.val (.ref r0), .val (.int (i + (1 : Int32))), .val (.int ch), .val (.int (1 : Int32))]) rfl hr) ?_
                show W p e below _ (T5.setTop (mkF m 119 #[.val (.ref r0), .val (.int (i + (1 : Int32))), .val (.int ch), .val (.int (1 : Int32))] []))
                refine W.go (fun _ hr => XS.goto X5.here hx rfl (pc0 := 119) (pc' := 28) rfl (hb hby d8_119) (by decide) (by decide) hr) ?_
                show W p e below _ (T5.setTop (mkF m 28 #[.val (.ref r0), .val (.int (i + (1 : Int32))), .val (.int ch), .val (.int (1 : Int32))] []))
                exact ih T5 (i + (1 : Int32)) _ _ _ X5 e5 N5 (One.val rfl) (One.val rfl) (by omega) (by omega)
          · refine W.go (fun _ hr => XS.icmpNo X5.here hx rfl (hb hby d8_57) rfl (flt hc57_26).1 hr) ?_
            show W p e below _ (T5.setTop (mkF m 60 #[.val (.ref r0), .val (.int i), .val (.int ch), s3] []))
            refine W.go (fun _ hr => XS.iloadN X5.here hx rfl (hb hby d8_60) rfl hr) ?_
            show W p e below _ (T5.setTop (mkF m 61 #[.val (.ref r0), .val (.int i), .val (.int ch), s3] [(.int ch)]))
            refine W.go (fun _ hr => XS.bipush X5.here hx rfl (hb hby d8_61) hr) ?_
            show W p e below _ (T5.setTop (mkF m 63 #[.val (.ref r0), .val (.int i), .val (.int ch), s3] [(.int (122 : Int32)), (.int ch)]))
            by_cases hc63_35 : (122 : Int32) < ch
            · refine W.go (fun _ hr => XS.icmpNo X5.here hx rfl (hb hby d8_63) rfl (tlt hc63_35).2.2.2 hr) ?_
              show W p e below _ (T5.setTop (mkF m 66 #[.val (.ref r0), .val (.int i), .val (.int ch), s3] []))
              refine W.go (fun _ hr => XS.iloadN X5.here hx rfl (hb hby d8_66) rfl hr) ?_
              show W p e below _ (T5.setTop (mkF m 67 #[.val (.ref r0), .val (.int i), .val (.int ch), s3] [(.int ch)]))
              refine W.go (fun _ hr => XS.bipush X5.here hx rfl (hb hby d8_67) hr) ?_
              show W p e below _ (T5.setTop (mkF m 69 #[.val (.ref r0), .val (.int i), .val (.int ch), s3] [(.int (48 : Int32)), (.int ch)]))
              by_cases hc69_36 : ch < (48 : Int32)
              · refine W.go (fun _ hr => XS.icmpYes X5.here hx rfl (pc0 := 69) (pc' := 78) rfl (hb hby d8_69) rfl (tlt hc69_36).1 (by decide) (by decide) hr) ?_
                show W p e below _ (T5.setTop (mkF m 78 #[.val (.ref r0), .val (.int i), .val (.int ch), s3] []))
                refine W.go (fun _ hr => XS.iloadN X5.here hx rfl (hb hby d8_78) rfl hr) ?_
                show W p e below _ (T5.setTop (mkF m 79 #[.val (.ref r0), .val (.int i), .val (.int ch), s3] [(.int ch)]))
                refine W.go (fun _ hr => XS.bipush X5.here hx rfl (hb hby d8_79) hr) ?_
                show W p e below _ (T5.setTop (mkF m 81 #[.val (.ref r0), .val (.int i), .val (.int ch), s3] [(.int (95 : Int32)), (.int ch)]))
                by_cases hc81_37 : ch = (95 : Int32)
                · refine W.go (fun _ hr => XS.icmpYes X5.here hx rfl (pc0 := 81) (pc' := 96) rfl (hb hby d8_81) rfl (teq hc81_37).1 (by decide) (by decide) hr) ?_
                  show W p e below _ (T5.setTop (mkF m 96 #[.val (.ref r0), .val (.int i), .val (.int ch), s3] []))
                  refine W.go (fun _ hr => XS.iconst X5.here hx rfl (hb hby d8_96) hr) ?_
                  show W p e below _ (T5.setTop (mkF m 97 #[.val (.ref r0), .val (.int i), .val (.int ch), s3] [(.int (1 : Int32))]))
                  refine W.go (fun _ hr => XS.goto X5.here hx rfl (pc0 := 97) (pc' := 101) rfl (hb hby d8_97) (by decide) (by decide) hr) ?_
                  show W p e below _ (T5.setTop (mkF m 101 #[.val (.ref r0), .val (.int i), .val (.int ch), s3] [(.int (1 : Int32))]))
                  refine W.go (fun _ hr => XS.istoreNS X5.here hx rfl (hb hby d8_101) rfl rfl o3 hr) ?_
                  show W p e below _ (T5.setTop (mkF m 102 #[.val (.ref r0), .val (.int i), .val (.int ch), .val (.int (1 : Int32))] []))
                  refine W.go (fun _ hr => XS.iloadN X5.here hx rfl (hb hby d8_102) rfl hr) ?_
                  show W p e below _ (T5.setTop (mkF m 103 #[.val (.ref r0), .val (.int i), .val (.int ch), .val (.int (1 : Int32))] [(.int (1 : Int32))]))
                  refine W.go (fun _ hr => XS.ifYes X5.here hx rfl (pc0 := 103) (pc' := 116) rfl (hb hby d8_103) rfl ((if0 _ _).trans (feq (by decide : ¬ ((1 : Int32) = (0 : Int32)))).2) (by decide) (by decide) hr) ?_
                  show W p e below _ (T5.setTop (mkF m 116 #[.val (.ref r0), .val (.int i), .val (.int ch), .val (.int (1 : Int32))] []))
                  have ei : (i + (1 : Int32)).toInt = i.toInt + 1 := by
                    have c1 := c_iadd i 1
                    have r1 := rng32 (i + 1)
                    have r2 := rng32 nt
                    have e1 : (1 : Int32).toInt = 1 := rfl
                    omega
                  refine W.go (fun _ hr => XS.iinc X5.here hx rfl (hb hby d8_116) rfl (l' := #[.val (.ref r0), .val (.int (i + (1 : Int32))), .val (.int ch), .val (.int (1 : Int32))]) rfl hr) ?_
                  show W p e below _ (T5.setTop (mkF m 119 #[.val (.ref r0), .val (.int (i + (1 : Int32))), .val (.int ch), .val (.int (1 : Int32))] []))
                  refine W.go (fun _ hr => XS.goto X5.here hx rfl (pc0 := 119) (pc' := 28) rfl (hb hby d8_119) (by decide) (by decide) hr) ?_
                  show W p e below _ (T5.setTop (mkF m 28 #[.val (.ref r0), .val (.int (i + (1 : Int32))), .val (.int ch), .val (.int (1 : Int32))] []))
                  exact ih T5 (i + (1 : Int32)) _ _ _ X5 e5 N5 (One.val rfl) (One.val rfl) (by omega) (by omega)
                · refine W.go (fun _ hr => XS.icmpNo X5.here hx rfl (hb hby d8_81) rfl (feq hc81_37).1 hr) ?_
                  show W p e below _ (T5.setTop (mkF m 84 #[.val (.ref r0), .val (.int i), .val (.int ch), s3] []))
                  refine W.go (fun _ hr => XS.iloadN X5.here hx rfl (hb hby d8_84) rfl hr) ?_
                  show W p e below _ (T5.setTop (mkF m 85 #[.val (.ref r0), .val (.int i), .val (.int ch), s3] [(.int ch)]))
                  refine W.go (fun _ hr => XS.bipush X5.here hx rfl (hb hby d8_85) hr) ?_
                  show W p e below _ (T5.setTop (mkF m 87 #[.val (.ref r0), .val (.int i), .val (.int ch), s3] [(.int (45 : Int32)), (.int ch)]))
                  by_cases hc87_38 : ch = (45 : Int32)
                  · refine W.go (fun _ hr => XS.icmpYes X5.here hx rfl (pc0 := 87) (pc' := 96) rfl (hb hby d8_87) rfl (teq hc87_38).1 (by decide) (by decide) hr) ?_
                    show W p e below _ (T5.setTop (mkF m 96 #[.val (.ref r0), .val (.int i), .val (.int ch), s3] []))
                    refine W.go (fun _ hr => XS.iconst X5.here hx rfl (hb hby d8_96) hr) ?_
                    show W p e below _ (T5.setTop (mkF m 97 #[.val (.ref r0), .val (.int i), .val (.int ch), s3] [(.int (1 : Int32))]))
                    refine W.go (fun _ hr => XS.goto X5.here hx rfl (pc0 := 97) (pc' := 101) rfl (hb hby d8_97) (by decide) (by decide) hr) ?_
                    show W p e below _ (T5.setTop (mkF m 101 #[.val (.ref r0), .val (.int i), .val (.int ch), s3] [(.int (1 : Int32))]))
                    refine W.go (fun _ hr => XS.istoreNS X5.here hx rfl (hb hby d8_101) rfl rfl o3 hr) ?_
                    show W p e below _ (T5.setTop (mkF m 102 #[.val (.ref r0), .val (.int i), .val (.int ch), .val (.int (1 : Int32))] []))
                    refine W.go (fun _ hr => XS.iloadN X5.here hx rfl (hb hby d8_102) rfl hr) ?_
                    show W p e below _ (T5.setTop (mkF m 103 #[.val (.ref r0), .val (.int i), .val (.int ch), .val (.int (1 : Int32))] [(.int (1 : Int32))]))
                    refine W.go (fun _ hr => XS.ifYes X5.here hx rfl (pc0 := 103) (pc' := 116) rfl (hb hby d8_103) rfl ((if0 _ _).trans (feq (by decide : ¬ ((1 : Int32) = (0 : Int32)))).2) (by decide) (by decide) hr) ?_
                    show W p e below _ (T5.setTop (mkF m 116 #[.val (.ref r0), .val (.int i), .val (.int ch), .val (.int (1 : Int32))] []))
                    have ei : (i + (1 : Int32)).toInt = i.toInt + 1 := by
                      have c1 := c_iadd i 1
                      have r1 := rng32 (i + 1)
                      have r2 := rng32 nt
                      have e1 : (1 : Int32).toInt = 1 := rfl
                      omega
                    refine W.go (fun _ hr => XS.iinc X5.here hx rfl (hb hby d8_116) rfl (l' := #[.val (.ref r0), .val (.int (i + (1 : Int32))), .val (.int ch), .val (.int (1 : Int32))]) rfl hr) ?_
                    show W p e below _ (T5.setTop (mkF m 119 #[.val (.ref r0), .val (.int (i + (1 : Int32))), .val (.int ch), .val (.int (1 : Int32))] []))
                    refine W.go (fun _ hr => XS.goto X5.here hx rfl (pc0 := 119) (pc' := 28) rfl (hb hby d8_119) (by decide) (by decide) hr) ?_
                    show W p e below _ (T5.setTop (mkF m 28 #[.val (.ref r0), .val (.int (i + (1 : Int32))), .val (.int ch), .val (.int (1 : Int32))] []))
                    exact ih T5 (i + (1 : Int32)) _ _ _ X5 e5 N5 (One.val rfl) (One.val rfl) (by omega) (by omega)
                  · refine W.go (fun _ hr => XS.icmpNo X5.here hx rfl (hb hby d8_87) rfl (feq hc87_38).1 hr) ?_
                    show W p e below _ (T5.setTop (mkF m 90 #[.val (.ref r0), .val (.int i), .val (.int ch), s3] []))
                    refine W.go (fun _ hr => XS.iloadN X5.here hx rfl (hb hby d8_90) rfl hr) ?_
                    show W p e below _ (T5.setTop (mkF m 91 #[.val (.ref r0), .val (.int i), .val (.int ch), s3] [(.int ch)]))
                    refine W.go (fun _ hr => XS.bipush X5.here hx rfl (hb hby d8_91) hr) ?_
                    show W p e below _ (T5.setTop (mkF m 93 #[.val (.ref r0), .val (.int i), .val (.int ch), s3] [(.int (46 : Int32)), (.int ch)]))
                    by_cases hc93_39 : ch = (46 : Int32)
                    · refine W.go (fun _ hr => XS.icmpNo X5.here hx rfl (hb hby d8_93) rfl (teq hc93_39).2 hr) ?_
                      show W p e below _ (T5.setTop (mkF m 96 #[.val (.ref r0), .val (.int i), .val (.int ch), s3] []))
                      refine W.go (fun _ hr => XS.iconst X5.here hx rfl (hb hby d8_96) hr) ?_
                      show W p e below _ (T5.setTop (mkF m 97 #[.val (.ref r0), .val (.int i), .val (.int ch), s3] [(.int (1 : Int32))]))
                      refine W.go (fun _ hr => XS.goto X5.here hx rfl (pc0 := 97) (pc' := 101) rfl (hb hby d8_97) (by decide) (by decide) hr) ?_
                      show W p e below _ (T5.setTop (mkF m 101 #[.val (.ref r0), .val (.int i), .val (.int ch), s3] [(.int (1 : Int32))]))
                      refine W.go (fun _ hr => XS.istoreNS X5.here hx rfl (hb hby d8_101) rfl rfl o3 hr) ?_
                      show W p e below _ (T5.setTop (mkF m 102 #[.val (.ref r0), .val (.int i), .val (.int ch), .val (.int (1 : Int32))] []))
                      refine W.go (fun _ hr => XS.iloadN X5.here hx rfl (hb hby d8_102) rfl hr) ?_
                      show W p e below _ (T5.setTop (mkF m 103 #[.val (.ref r0), .val (.int i), .val (.int ch), .val (.int (1 : Int32))] [(.int (1 : Int32))]))
                      refine W.go (fun _ hr => XS.ifYes X5.here hx rfl (pc0 := 103) (pc' := 116) rfl (hb hby d8_103) rfl ((if0 _ _).trans (feq (by decide : ¬ ((1 : Int32) = (0 : Int32)))).2) (by decide) (by decide) hr) ?_
                      show W p e below _ (T5.setTop (mkF m 116 #[.val (.ref r0), .val (.int i), .val (.int ch), .val (.int (1 : Int32))] []))
                      have ei : (i + (1 : Int32)).toInt = i.toInt + 1 := by
                        have c1 := c_iadd i 1
                        have r1 := rng32 (i + 1)
                        have r2 := rng32 nt
                        have e1 : (1 : Int32).toInt = 1 := rfl
                        omega
                      refine W.go (fun _ hr => XS.iinc X5.here hx rfl (hb hby d8_116) rfl (l' := #[.val (.ref r0), .val (.int (i + (1 : Int32))), .val (.int ch), .val (.int (1 : Int32))]) rfl hr) ?_
                      show W p e below _ (T5.setTop (mkF m 119 #[.val (.ref r0), .val (.int (i + (1 : Int32))), .val (.int ch), .val (.int (1 : Int32))] []))
                      refine W.go (fun _ hr => XS.goto X5.here hx rfl (pc0 := 119) (pc' := 28) rfl (hb hby d8_119) (by decide) (by decide) hr) ?_
                      show W p e below _ (T5.setTop (mkF m 28 #[.val (.ref r0), .val (.int (i + (1 : Int32))), .val (.int ch), .val (.int (1 : Int32))] []))
                      exact ih T5 (i + (1 : Int32)) _ _ _ X5 e5 N5 (One.val rfl) (One.val rfl) (by omega) (by omega)
                    · exact absurd hok (by simp only [own_ok, Int32.lt_iff_toInt_lt, ← Int32.toInt_inj, Int32.reduceToInt] at hc45_6 hc51_25 hc57_26 hc63_35 hc69_36 hc81_37 hc87_38 hc93_39 ⊢; omega)
              · refine W.go (fun _ hr => XS.icmpNo X5.here hx rfl (hb hby d8_69) rfl (flt hc69_36).1 hr) ?_
                show W p e below _ (T5.setTop (mkF m 72 #[.val (.ref r0), .val (.int i), .val (.int ch), s3] []))
                refine W.go (fun _ hr => XS.iloadN X5.here hx rfl (hb hby d8_72) rfl hr) ?_
                show W p e below _ (T5.setTop (mkF m 73 #[.val (.ref r0), .val (.int i), .val (.int ch), s3] [(.int ch)]))
                refine W.go (fun _ hr => XS.bipush X5.here hx rfl (hb hby d8_73) hr) ?_
                show W p e below _ (T5.setTop (mkF m 75 #[.val (.ref r0), .val (.int i), .val (.int ch), s3] [(.int (57 : Int32)), (.int ch)]))
                by_cases hc75_40 : (57 : Int32) < ch
                · refine W.go (fun _ hr => XS.icmpNo X5.here hx rfl (hb hby d8_75) rfl (tlt hc75_40).2.2.2 hr) ?_
                  show W p e below _ (T5.setTop (mkF m 78 #[.val (.ref r0), .val (.int i), .val (.int ch), s3] []))
                  refine W.go (fun _ hr => XS.iloadN X5.here hx rfl (hb hby d8_78) rfl hr) ?_
                  show W p e below _ (T5.setTop (mkF m 79 #[.val (.ref r0), .val (.int i), .val (.int ch), s3] [(.int ch)]))
                  refine W.go (fun _ hr => XS.bipush X5.here hx rfl (hb hby d8_79) hr) ?_
                  show W p e below _ (T5.setTop (mkF m 81 #[.val (.ref r0), .val (.int i), .val (.int ch), s3] [(.int (95 : Int32)), (.int ch)]))
                  by_cases hc81_41 : ch = (95 : Int32)
                  · refine W.go (fun _ hr => XS.icmpYes X5.here hx rfl (pc0 := 81) (pc' := 96) rfl (hb hby d8_81) rfl (teq hc81_41).1 (by decide) (by decide) hr) ?_
                    show W p e below _ (T5.setTop (mkF m 96 #[.val (.ref r0), .val (.int i), .val (.int ch), s3] []))
                    refine W.go (fun _ hr => XS.iconst X5.here hx rfl (hb hby d8_96) hr) ?_
                    show W p e below _ (T5.setTop (mkF m 97 #[.val (.ref r0), .val (.int i), .val (.int ch), s3] [(.int (1 : Int32))]))
                    refine W.go (fun _ hr => XS.goto X5.here hx rfl (pc0 := 97) (pc' := 101) rfl (hb hby d8_97) (by decide) (by decide) hr) ?_
                    show W p e below _ (T5.setTop (mkF m 101 #[.val (.ref r0), .val (.int i), .val (.int ch), s3] [(.int (1 : Int32))]))
                    refine W.go (fun _ hr => XS.istoreNS X5.here hx rfl (hb hby d8_101) rfl rfl o3 hr) ?_
                    show W p e below _ (T5.setTop (mkF m 102 #[.val (.ref r0), .val (.int i), .val (.int ch), .val (.int (1 : Int32))] []))
                    refine W.go (fun _ hr => XS.iloadN X5.here hx rfl (hb hby d8_102) rfl hr) ?_
                    show W p e below _ (T5.setTop (mkF m 103 #[.val (.ref r0), .val (.int i), .val (.int ch), .val (.int (1 : Int32))] [(.int (1 : Int32))]))
                    refine W.go (fun _ hr => XS.ifYes X5.here hx rfl (pc0 := 103) (pc' := 116) rfl (hb hby d8_103) rfl ((if0 _ _).trans (feq (by decide : ¬ ((1 : Int32) = (0 : Int32)))).2) (by decide) (by decide) hr) ?_
                    show W p e below _ (T5.setTop (mkF m 116 #[.val (.ref r0), .val (.int i), .val (.int ch), .val (.int (1 : Int32))] []))
                    have ei : (i + (1 : Int32)).toInt = i.toInt + 1 := by
                      have c1 := c_iadd i 1
                      have r1 := rng32 (i + 1)
                      have r2 := rng32 nt
                      have e1 : (1 : Int32).toInt = 1 := rfl
                      omega
                    refine W.go (fun _ hr => XS.iinc X5.here hx rfl (hb hby d8_116) rfl (l' := #[.val (.ref r0), .val (.int (i + (1 : Int32))), .val (.int ch), .val (.int (1 : Int32))]) rfl hr) ?_
                    show W p e below _ (T5.setTop (mkF m 119 #[.val (.ref r0), .val (.int (i + (1 : Int32))), .val (.int ch), .val (.int (1 : Int32))] []))
                    refine W.go (fun _ hr => XS.goto X5.here hx rfl (pc0 := 119) (pc' := 28) rfl (hb hby d8_119) (by decide) (by decide) hr) ?_
                    show W p e below _ (T5.setTop (mkF m 28 #[.val (.ref r0), .val (.int (i + (1 : Int32))), .val (.int ch), .val (.int (1 : Int32))] []))
                    exact ih T5 (i + (1 : Int32)) _ _ _ X5 e5 N5 (One.val rfl) (One.val rfl) (by omega) (by omega)
                  · refine W.go (fun _ hr => XS.icmpNo X5.here hx rfl (hb hby d8_81) rfl (feq hc81_41).1 hr) ?_
                    show W p e below _ (T5.setTop (mkF m 84 #[.val (.ref r0), .val (.int i), .val (.int ch), s3] []))
                    refine W.go (fun _ hr => XS.iloadN X5.here hx rfl (hb hby d8_84) rfl hr) ?_
                    show W p e below _ (T5.setTop (mkF m 85 #[.val (.ref r0), .val (.int i), .val (.int ch), s3] [(.int ch)]))
                    refine W.go (fun _ hr => XS.bipush X5.here hx rfl (hb hby d8_85) hr) ?_
                    show W p e below _ (T5.setTop (mkF m 87 #[.val (.ref r0), .val (.int i), .val (.int ch), s3] [(.int (45 : Int32)), (.int ch)]))
                    by_cases hc87_42 : ch = (45 : Int32)
                    · refine W.go (fun _ hr => XS.icmpYes X5.here hx rfl (pc0 := 87) (pc' := 96) rfl (hb hby d8_87) rfl (teq hc87_42).1 (by decide) (by decide) hr) ?_
                      show W p e below _ (T5.setTop (mkF m 96 #[.val (.ref r0), .val (.int i), .val (.int ch), s3] []))
                      refine W.go (fun _ hr => XS.iconst X5.here hx rfl (hb hby d8_96) hr) ?_
                      show W p e below _ (T5.setTop (mkF m 97 #[.val (.ref r0), .val (.int i), .val (.int ch), s3] [(.int (1 : Int32))]))
                      refine W.go (fun _ hr => XS.goto X5.here hx rfl (pc0 := 97) (pc' := 101) rfl (hb hby d8_97) (by decide) (by decide) hr) ?_
                      show W p e below _ (T5.setTop (mkF m 101 #[.val (.ref r0), .val (.int i), .val (.int ch), s3] [(.int (1 : Int32))]))
                      refine W.go (fun _ hr => XS.istoreNS X5.here hx rfl (hb hby d8_101) rfl rfl o3 hr) ?_
                      show W p e below _ (T5.setTop (mkF m 102 #[.val (.ref r0), .val (.int i), .val (.int ch), .val (.int (1 : Int32))] []))
                      refine W.go (fun _ hr => XS.iloadN X5.here hx rfl (hb hby d8_102) rfl hr) ?_
                      show W p e below _ (T5.setTop (mkF m 103 #[.val (.ref r0), .val (.int i), .val (.int ch), .val (.int (1 : Int32))] [(.int (1 : Int32))]))
                      refine W.go (fun _ hr => XS.ifYes X5.here hx rfl (pc0 := 103) (pc' := 116) rfl (hb hby d8_103) rfl ((if0 _ _).trans (feq (by decide : ¬ ((1 : Int32) = (0 : Int32)))).2) (by decide) (by decide) hr) ?_
                      show W p e below _ (T5.setTop (mkF m 116 #[.val (.ref r0), .val (.int i), .val (.int ch), .val (.int (1 : Int32))] []))
                      have ei : (i + (1 : Int32)).toInt = i.toInt + 1 := by
                        have c1 := c_iadd i 1
                        have r1 := rng32 (i + 1)
                        have r2 := rng32 nt
                        have e1 : (1 : Int32).toInt = 1 := rfl
                        omega
                      refine W.go (fun _ hr => XS.iinc X5.here hx rfl (hb hby d8_116) rfl (l' := #[.val (.ref r0), .val (.int (i + (1 : Int32))), .val (.int ch), .val (.int (1 : Int32))]) rfl hr) ?_
                      show W p e below _ (T5.setTop (mkF m 119 #[.val (.ref r0), .val (.int (i + (1 : Int32))), .val (.int ch), .val (.int (1 : Int32))] []))
                      refine W.go (fun _ hr => XS.goto X5.here hx rfl (pc0 := 119) (pc' := 28) rfl (hb hby d8_119) (by decide) (by decide) hr) ?_
                      show W p e below _ (T5.setTop (mkF m 28 #[.val (.ref r0), .val (.int (i + (1 : Int32))), .val (.int ch), .val (.int (1 : Int32))] []))
                      exact ih T5 (i + (1 : Int32)) _ _ _ X5 e5 N5 (One.val rfl) (One.val rfl) (by omega) (by omega)
                    · refine W.go (fun _ hr => XS.icmpNo X5.here hx rfl (hb hby d8_87) rfl (feq hc87_42).1 hr) ?_
                      show W p e below _ (T5.setTop (mkF m 90 #[.val (.ref r0), .val (.int i), .val (.int ch), s3] []))
                      refine W.go (fun _ hr => XS.iloadN X5.here hx rfl (hb hby d8_90) rfl hr) ?_
                      show W p e below _ (T5.setTop (mkF m 91 #[.val (.ref r0), .val (.int i), .val (.int ch), s3] [(.int ch)]))
                      refine W.go (fun _ hr => XS.bipush X5.here hx rfl (hb hby d8_91) hr) ?_
                      show W p e below _ (T5.setTop (mkF m 93 #[.val (.ref r0), .val (.int i), .val (.int ch), s3] [(.int (46 : Int32)), (.int ch)]))
                      by_cases hc93_43 : ch = (46 : Int32)
                      · refine W.go (fun _ hr => XS.icmpNo X5.here hx rfl (hb hby d8_93) rfl (teq hc93_43).2 hr) ?_
                        show W p e below _ (T5.setTop (mkF m 96 #[.val (.ref r0), .val (.int i), .val (.int ch), s3] []))
                        refine W.go (fun _ hr => XS.iconst X5.here hx rfl (hb hby d8_96) hr) ?_
                        show W p e below _ (T5.setTop (mkF m 97 #[.val (.ref r0), .val (.int i), .val (.int ch), s3] [(.int (1 : Int32))]))
                        refine W.go (fun _ hr => XS.goto X5.here hx rfl (pc0 := 97) (pc' := 101) rfl (hb hby d8_97) (by decide) (by decide) hr) ?_
                        show W p e below _ (T5.setTop (mkF m 101 #[.val (.ref r0), .val (.int i), .val (.int ch), s3] [(.int (1 : Int32))]))
                        refine W.go (fun _ hr => XS.istoreNS X5.here hx rfl (hb hby d8_101) rfl rfl o3 hr) ?_
                        show W p e below _ (T5.setTop (mkF m 102 #[.val (.ref r0), .val (.int i), .val (.int ch), .val (.int (1 : Int32))] []))
                        refine W.go (fun _ hr => XS.iloadN X5.here hx rfl (hb hby d8_102) rfl hr) ?_
                        show W p e below _ (T5.setTop (mkF m 103 #[.val (.ref r0), .val (.int i), .val (.int ch), .val (.int (1 : Int32))] [(.int (1 : Int32))]))
                        refine W.go (fun _ hr => XS.ifYes X5.here hx rfl (pc0 := 103) (pc' := 116) rfl (hb hby d8_103) rfl ((if0 _ _).trans (feq (by decide : ¬ ((1 : Int32) = (0 : Int32)))).2) (by decide) (by decide) hr) ?_
                        show W p e below _ (T5.setTop (mkF m 116 #[.val (.ref r0), .val (.int i), .val (.int ch), .val (.int (1 : Int32))] []))
                        have ei : (i + (1 : Int32)).toInt = i.toInt + 1 := by
                          have c1 := c_iadd i 1
                          have r1 := rng32 (i + 1)
                          have r2 := rng32 nt
                          have e1 : (1 : Int32).toInt = 1 := rfl
                          omega
                        refine W.go (fun _ hr => XS.iinc X5.here hx rfl (hb hby d8_116) rfl (l' := #[.val (.ref r0), .val (.int (i + (1 : Int32))), .val (.int ch), .val (.int (1 : Int32))]) rfl hr) ?_
                        show W p e below _ (T5.setTop (mkF m 119 #[.val (.ref r0), .val (.int (i + (1 : Int32))), .val (.int ch), .val (.int (1 : Int32))] []))
                        refine W.go (fun _ hr => XS.goto X5.here hx rfl (pc0 := 119) (pc' := 28) rfl (hb hby d8_119) (by decide) (by decide) hr) ?_
                        show W p e below _ (T5.setTop (mkF m 28 #[.val (.ref r0), .val (.int (i + (1 : Int32))), .val (.int ch), .val (.int (1 : Int32))] []))
                        exact ih T5 (i + (1 : Int32)) _ _ _ X5 e5 N5 (One.val rfl) (One.val rfl) (by omega) (by omega)
                      · exact absurd hok (by simp only [own_ok, Int32.lt_iff_toInt_lt, ← Int32.toInt_inj, Int32.reduceToInt] at hc45_6 hc51_25 hc57_26 hc63_35 hc69_36 hc75_40 hc81_41 hc87_42 hc93_43 ⊢; omega)
                · refine W.go (fun _ hr => XS.icmpYes X5.here hx rfl (pc0 := 75) (pc' := 96) rfl (hb hby d8_75) rfl (flt hc75_40).2.2.2 (by decide) (by decide) hr) ?_
                  show W p e below _ (T5.setTop (mkF m 96 #[.val (.ref r0), .val (.int i), .val (.int ch), s3] []))
                  refine W.go (fun _ hr => XS.iconst X5.here hx rfl (hb hby d8_96) hr) ?_
                  show W p e below _ (T5.setTop (mkF m 97 #[.val (.ref r0), .val (.int i), .val (.int ch), s3] [(.int (1 : Int32))]))
                  refine W.go (fun _ hr => XS.goto X5.here hx rfl (pc0 := 97) (pc' := 101) rfl (hb hby d8_97) (by decide) (by decide) hr) ?_
                  show W p e below _ (T5.setTop (mkF m 101 #[.val (.ref r0), .val (.int i), .val (.int ch), s3] [(.int (1 : Int32))]))
                  refine W.go (fun _ hr => XS.istoreNS X5.here hx rfl (hb hby d8_101) rfl rfl o3 hr) ?_
                  show W p e below _ (T5.setTop (mkF m 102 #[.val (.ref r0), .val (.int i), .val (.int ch), .val (.int (1 : Int32))] []))
                  refine W.go (fun _ hr => XS.iloadN X5.here hx rfl (hb hby d8_102) rfl hr) ?_
                  show W p e below _ (T5.setTop (mkF m 103 #[.val (.ref r0), .val (.int i), .val (.int ch), .val (.int (1 : Int32))] [(.int (1 : Int32))]))
                  refine W.go (fun _ hr => XS.ifYes X5.here hx rfl (pc0 := 103) (pc' := 116) rfl (hb hby d8_103) rfl ((if0 _ _).trans (feq (by decide : ¬ ((1 : Int32) = (0 : Int32)))).2) (by decide) (by decide) hr) ?_
                  show W p e below _ (T5.setTop (mkF m 116 #[.val (.ref r0), .val (.int i), .val (.int ch), .val (.int (1 : Int32))] []))
                  have ei : (i + (1 : Int32)).toInt = i.toInt + 1 := by
                    have c1 := c_iadd i 1
                    have r1 := rng32 (i + 1)
                    have r2 := rng32 nt
                    have e1 : (1 : Int32).toInt = 1 := rfl
                    omega
                  refine W.go (fun _ hr => XS.iinc X5.here hx rfl (hb hby d8_116) rfl (l' := #[.val (.ref r0), .val (.int (i + (1 : Int32))), .val (.int ch), .val (.int (1 : Int32))]) rfl hr) ?_
                  show W p e below _ (T5.setTop (mkF m 119 #[.val (.ref r0), .val (.int (i + (1 : Int32))), .val (.int ch), .val (.int (1 : Int32))] []))
                  refine W.go (fun _ hr => XS.goto X5.here hx rfl (pc0 := 119) (pc' := 28) rfl (hb hby d8_119) (by decide) (by decide) hr) ?_
                  show W p e below _ (T5.setTop (mkF m 28 #[.val (.ref r0), .val (.int (i + (1 : Int32))), .val (.int ch), .val (.int (1 : Int32))] []))
                  exact ih T5 (i + (1 : Int32)) _ _ _ X5 e5 N5 (One.val rfl) (One.val rfl) (by omega) (by omega)
            · refine W.go (fun _ hr => XS.icmpYes X5.here hx rfl (pc0 := 63) (pc' := 96) rfl (hb hby d8_63) rfl (flt hc63_35).2.2.2 (by decide) (by decide) hr) ?_
              show W p e below _ (T5.setTop (mkF m 96 #[.val (.ref r0), .val (.int i), .val (.int ch), s3] []))
              refine W.go (fun _ hr => XS.iconst X5.here hx rfl (hb hby d8_96) hr) ?_
              show W p e below _ (T5.setTop (mkF m 97 #[.val (.ref r0), .val (.int i), .val (.int ch), s3] [(.int (1 : Int32))]))
              refine W.go (fun _ hr => XS.goto X5.here hx rfl (pc0 := 97) (pc' := 101) rfl (hb hby d8_97) (by decide) (by decide) hr) ?_
              show W p e below _ (T5.setTop (mkF m 101 #[.val (.ref r0), .val (.int i), .val (.int ch), s3] [(.int (1 : Int32))]))
              refine W.go (fun _ hr => XS.istoreNS X5.here hx rfl (hb hby d8_101) rfl rfl o3 hr) ?_
              show W p e below _ (T5.setTop (mkF m 102 #[.val (.ref r0), .val (.int i), .val (.int ch), .val (.int (1 : Int32))] []))
              refine W.go (fun _ hr => XS.iloadN X5.here hx rfl (hb hby d8_102) rfl hr) ?_
              show W p e below _ (T5.setTop (mkF m 103 #[.val (.ref r0), .val (.int i), .val (.int ch), .val (.int (1 : Int32))] [(.int (1 : Int32))]))
              refine W.go (fun _ hr => XS.ifYes X5.here hx rfl (pc0 := 103) (pc' := 116) rfl (hb hby d8_103) rfl ((if0 _ _).trans (feq (by decide : ¬ ((1 : Int32) = (0 : Int32)))).2) (by decide) (by decide) hr) ?_
              show W p e below _ (T5.setTop (mkF m 116 #[.val (.ref r0), .val (.int i), .val (.int ch), .val (.int (1 : Int32))] []))
              have ei : (i + (1 : Int32)).toInt = i.toInt + 1 := by
                have c1 := c_iadd i 1
                have r1 := rng32 (i + 1)
                have r2 := rng32 nt
                have e1 : (1 : Int32).toInt = 1 := rfl
                omega
              refine W.go (fun _ hr => XS.iinc X5.here hx rfl (hb hby d8_116) rfl (l' := #[.val (.ref r0), .val (.int (i + (1 : Int32))), .val (.int ch), .val (.int (1 : Int32))]) rfl hr) ?_
              show W p e below _ (T5.setTop (mkF m 119 #[.val (.ref r0), .val (.int (i + (1 : Int32))), .val (.int ch), .val (.int (1 : Int32))] []))
              refine W.go (fun _ hr => XS.goto X5.here hx rfl (pc0 := 119) (pc' := 28) rfl (hb hby d8_119) (by decide) (by decide) hr) ?_
              show W p e below _ (T5.setTop (mkF m 28 #[.val (.ref r0), .val (.int (i + (1 : Int32))), .val (.int ch), .val (.int (1 : Int32))] []))
              exact ih T5 (i + (1 : Int32)) _ _ _ X5 e5 N5 (One.val rfl) (One.val rfl) (by omega) (by omega)
        · refine W.go (fun _ hr => XS.icmpYes X5.here hx rfl (pc0 := 51) (pc' := 96) rfl (hb hby d8_51) rfl (flt hc51_25).2.2.2 (by decide) (by decide) hr) ?_
          show W p e below _ (T5.setTop (mkF m 96 #[.val (.ref r0), .val (.int i), .val (.int ch), s3] []))
          refine W.go (fun _ hr => XS.iconst X5.here hx rfl (hb hby d8_96) hr) ?_
          show W p e below _ (T5.setTop (mkF m 97 #[.val (.ref r0), .val (.int i), .val (.int ch), s3] [(.int (1 : Int32))]))
          refine W.go (fun _ hr => XS.goto X5.here hx rfl (pc0 := 97) (pc' := 101) rfl (hb hby d8_97) (by decide) (by decide) hr) ?_
          show W p e below _ (T5.setTop (mkF m 101 #[.val (.ref r0), .val (.int i), .val (.int ch), s3] [(.int (1 : Int32))]))
          refine W.go (fun _ hr => XS.istoreNS X5.here hx rfl (hb hby d8_101) rfl rfl o3 hr) ?_
          show W p e below _ (T5.setTop (mkF m 102 #[.val (.ref r0), .val (.int i), .val (.int ch), .val (.int (1 : Int32))] []))
          refine W.go (fun _ hr => XS.iloadN X5.here hx rfl (hb hby d8_102) rfl hr) ?_
          show W p e below _ (T5.setTop (mkF m 103 #[.val (.ref r0), .val (.int i), .val (.int ch), .val (.int (1 : Int32))] [(.int (1 : Int32))]))
          refine W.go (fun _ hr => XS.ifYes X5.here hx rfl (pc0 := 103) (pc' := 116) rfl (hb hby d8_103) rfl ((if0 _ _).trans (feq (by decide : ¬ ((1 : Int32) = (0 : Int32)))).2) (by decide) (by decide) hr) ?_
          show W p e below _ (T5.setTop (mkF m 116 #[.val (.ref r0), .val (.int i), .val (.int ch), .val (.int (1 : Int32))] []))
          have ei : (i + (1 : Int32)).toInt = i.toInt + 1 := by
            have c1 := c_iadd i 1
            have r1 := rng32 (i + 1)
            have r2 := rng32 nt
            have e1 : (1 : Int32).toInt = 1 := rfl
            omega
          refine W.go (fun _ hr => XS.iinc X5.here hx rfl (hb hby d8_116) rfl (l' := #[.val (.ref r0), .val (.int (i + (1 : Int32))), .val (.int ch), .val (.int (1 : Int32))]) rfl hr) ?_
          show W p e below _ (T5.setTop (mkF m 119 #[.val (.ref r0), .val (.int (i + (1 : Int32))), .val (.int ch), .val (.int (1 : Int32))] []))
          refine W.go (fun _ hr => XS.goto X5.here hx rfl (pc0 := 119) (pc' := 28) rfl (hb hby d8_119) (by decide) (by decide) hr) ?_
          show W p e below _ (T5.setTop (mkF m 28 #[.val (.ref r0), .val (.int (i + (1 : Int32))), .val (.int ch), .val (.int (1 : Int32))] []))
          exact ih T5 (i + (1 : Int32)) _ _ _ X5 e5 N5 (One.val rfl) (One.val rfl) (by omega) (by omega)
  exact loop nt.toNatClampNeg T2 (0 : Int32) _ _ _ X2 e2 N2 One.u One.u (by decide) (by have q := hn.1; simp only [Int32.toNatClampNeg]; have e0 : (0 : Int32).toInt = 0 := rfl; omega)
theorem own_all {n : Int32} (cs : List Int32) (hn : n.toInt = cs.length) (h : ∀ c ∈ cs, own_ok c) : ∀ j : Int32, ¬ j < 0 ∧ j < n → ∃ x, ((cs.map fun c => c.toInt8.toInt32).map Value.int).getD j.toNatClampNeg (.int 0) = .int x ∧ own_ok (x &&& 255) := by
  intro j hj
  have q : j.toNatClampNeg < cs.length := by
    simp only [Int32.lt_iff_toInt_lt, Int32.reduceToInt, Int32.toNatClampNeg] at *
    omega
  refine ⟨(cs[j.toNatClampNeg]).toInt8.toInt32, by simp [List.getD_eq_getElem?_getD, q], ?_⟩
  rw [own_lo8 _ (own_ok_lat (h _ (List.getElem_mem q)))]
  exact h _ (List.getElem_mem q)
theorem own_narok {c : Int32} (h : own_ok c) : nar .char c = c := by
  have q := c_i2c c
  have r := own_ok_lat h
  have e0 : (0 : Int32).toInt = 0 := rfl
  have e1 : (255 : Int32).toInt = 255 := rfl
  rw [Int32.lt_iff_toInt_lt, Int32.lt_iff_toInt_lt, e0, e1] at r
  exact Int32.toInt_inj.mp (show (c.toUInt32.toUInt16.toUInt32.toInt32).toInt = _ by omega)
theorem pd_171 : parseMethodDescriptor "([C)V" = some ⟨[(.array .char)], none⟩ := by decide +kernel
theorem pd_172 : parseMethodDescriptor "(Ljava/lang/String;)V" = some ⟨[(.object "java/lang/String")], none⟩ := by decide +kernel
def Q_rm0 (Z : State) (p0 : Int32) (p1 : Int32) (p2 : Int32) (p3 : Int32) (p4 : Int32) (zCS : Int32) (wSF : Value) (h0 : Heap) (n0 : Nat) (v : Option Value) (h : Heap) (L : List Loc) : Prop := v = some (.int (1 : Int32)) ∧ Fr n0 L
set_option maxRecDepth 65536 in
set_option maxHeartbeats 40000000 in
theorem rm0 (l : Launch) (Z : State) (a0 : Array Value) (hw : ∀ d ∈ tables_1, d.before a0 Z = true) (p0 : Int32) (p1 : Int32) (p2 : Int32) (p3 : Int32) (p4 : Int32) (zCS : Int32) (wSF : Value) (h0 : Heap) (n0 : Nat) (Z0 : n0 ≤ h0.size) (S_COMPACT_STRINGS : Sta Z h0 "java/lang/String" "COMPACT_STRINGS" "Z" (.int zCS)) (hCS : ¬ zCS = 0) (S_SIOOBE_FORMATTER : Sta Z h0 "jdk/internal/util/Preconditions" "SIOOBE_FORMATTER" "Ljava/util/function/BiFunction;" wSF) (hSF : wSF.isRef = true) :
    Ctr l Z x code maxLocals ret room_1 #[(.int p0), (.int p1), (.int p2), (.int p3), (.int p4)] h0 (Q_rm0 Z p0 p1 p2 p3 p4 zCS wSF h0 n0) := by
  refine Ctr.body (fr := fun m => mkF m 0 #[.val (.int p0), .val (.int p1), .val (.int p2), .val (.int p3), .val (.int p4), .unset, .unset, .unset, .unset, .unset, .unset, .unset] []) (plainFor_of_name pn_com_example_trajectory_anonymizer_trajectoryanonymizer_model_PointCheckNamePinLaw) (fun m => by first | (simp [entryFrame, mkF, argsToLocals, Value.category, maxLocals]; done) | rfl) fun p e s m below meth c s₁ hx hby hml hZ hown hnm hret hlk X0 e0 => ?_
  have N0 := Fr.nil n0
  have hown : s.vm.findClass "com/example/trajectory_anonymizer/trajectoryanonymizer/model/PointCheckNamePinLaw" = some m.cls := hown
  show W p e below _ (s₁.setTop (mkF m 0 #[.val (.int p0), .val (.int p1), .val (.int p2), .val (.int p3), .val (.int p4), .unset, .unset, .unset, .unset, .unset, .unset, .unset] []))
  refine W.go (fun _ hr => XS.iloadN X0.here hx rfl (hb hby at_0) rfl hr) ?_
  show W p e below _ (s₁.setTop (mkF m 1 #[.val (.int p0), .val (.int p1), .val (.int p2), .val (.int p3), .val (.int p4), .unset, .unset, .unset, .unset, .unset, .unset, .unset] [(.int p0)]))
  refine W.callS X0 hx hZ hown (g := (mkF m 1 #[.val (.int p0), .val (.int p1), .val (.int p2), .val (.int p3), .val (.int p4), .unset, .unset, .unset, .unset, .unset, .unset, .unset] [(.int p0)])) (by rw [hml]; rfl) (hw _ (List.mem_of_getElem? (i := 0) rfl)) (hw _ (List.mem_of_getElem? (i := 1) rfl)) (hw _ (List.mem_of_getElem? (i := 2) rfl)) (hw _ (List.mem_of_getElem? (i := 3) rfl)) e0 (rm1 l Z a0 hw p0 h0 n0 Z0) (by decide) pd_134 rfl (argsL := [(.int p0)]) (rest := []) rfl rfl rfl (hb hby at_1) (W0 := 0) rfl (by decide) (by decide) (by decide) (by decide) (fun v1 T1 h1 L1 X1 e1 hQ1 => ?_)
  obtain ⟨c1, rfl, ok1, N1q, hh1⟩ := hQ1
  obtain rfl := hh1.symm
  have N1 := Fr.app N0 N1q
  show W p e below _ (T1.setTop (mkF m 4 #[.val (.int p0), .val (.int p1), .val (.int p2), .val (.int p3), .val (.int p4), .unset, .unset, .unset, .unset, .unset, .unset, .unset] [(.int c1)]))
  have okn1 : own_ok (nar .char c1) := by rw [own_narok ok1]; exact ok1
  refine W.go (fun _ hr => XS.istore X1.here hx rfl (hb hby at_4) rfl (l' := #[.val (.int p0), .val (.int p1), .val (.int p2), .val (.int p3), .val (.int p4), .val (.int c1), .unset, .unset, .unset, .unset, .unset, .unset]) rfl hr) ?_
  show W p e below _ (T1.setTop (mkF m 6 #[.val (.int p0), .val (.int p1), .val (.int p2), .val (.int p3), .val (.int p4), .val (.int c1), .unset, .unset, .unset, .unset, .unset, .unset] []))
  refine W.go (fun _ hr => XS.iloadN X1.here hx rfl (hb hby at_6) rfl hr) ?_
  show W p e below _ (T1.setTop (mkF m 7 #[.val (.int p0), .val (.int p1), .val (.int p2), .val (.int p3), .val (.int p4), .val (.int c1), .unset, .unset, .unset, .unset, .unset, .unset] [(.int p1)]))
  refine W.callS X1 hx hZ hown (g := (mkF m 7 #[.val (.int p0), .val (.int p1), .val (.int p2), .val (.int p3), .val (.int p4), .val (.int c1), .unset, .unset, .unset, .unset, .unset, .unset] [(.int p1)])) (by rw [hml]; rfl) (hw _ (List.mem_of_getElem? (i := 0) rfl)) (hw _ (List.mem_of_getElem? (i := 1) rfl)) (hw _ (List.mem_of_getElem? (i := 2) rfl)) (hw _ (List.mem_of_getElem? (i := 3) rfl)) e1 (rm1 l Z a0 hw p1 h0 n0 Z0) (by decide) pd_134 rfl (argsL := [(.int p1)]) (rest := []) rfl rfl rfl (hb hby at_7) (W0 := 0) rfl (by decide) (by decide) (by decide) (by decide) (fun v2 T2 h2 L2 X2 e2 hQ2 => ?_)
  obtain ⟨c2, rfl, ok2, N2q, hh2⟩ := hQ2
  obtain rfl := hh2.symm
  have N2 := Fr.app N1 N2q
  show W p e below _ (T2.setTop (mkF m 10 #[.val (.int p0), .val (.int p1), .val (.int p2), .val (.int p3), .val (.int p4), .val (.int c1), .unset, .unset, .unset, .unset, .unset, .unset] [(.int c2)]))
  have okn2 : own_ok (nar .char c2) := by rw [own_narok ok2]; exact ok2
  refine W.go (fun _ hr => XS.istore X2.here hx rfl (hb hby at_10) rfl (l' := #[.val (.int p0), .val (.int p1), .val (.int p2), .val (.int p3), .val (.int p4), .val (.int c1), .val (.int c2), .unset, .unset, .unset, .unset, .unset]) rfl hr) ?_
  show W p e below _ (T2.setTop (mkF m 12 #[.val (.int p0), .val (.int p1), .val (.int p2), .val (.int p3), .val (.int p4), .val (.int c1), .val (.int c2), .unset, .unset, .unset, .unset, .unset] []))
  refine W.go (fun _ hr => XS.iloadN X2.here hx rfl (hb hby at_12) rfl hr) ?_
  show W p e below _ (T2.setTop (mkF m 13 #[.val (.int p0), .val (.int p1), .val (.int p2), .val (.int p3), .val (.int p4), .val (.int c1), .val (.int c2), .unset, .unset, .unset, .unset, .unset] [(.int p2)]))
  refine W.callS X2 hx hZ hown (g := (mkF m 13 #[.val (.int p0), .val (.int p1), .val (.int p2), .val (.int p3), .val (.int p4), .val (.int c1), .val (.int c2), .unset, .unset, .unset, .unset, .unset] [(.int p2)])) (by rw [hml]; rfl) (hw _ (List.mem_of_getElem? (i := 0) rfl)) (hw _ (List.mem_of_getElem? (i := 1) rfl)) (hw _ (List.mem_of_getElem? (i := 2) rfl)) (hw _ (List.mem_of_getElem? (i := 3) rfl)) e2 (rm1 l Z a0 hw p2 h0 n0 Z0) (by decide) pd_134 rfl (argsL := [(.int p2)]) (rest := []) rfl rfl rfl (hb hby at_13) (W0 := 0) rfl (by decide) (by decide) (by decide) (by decide) (fun v3 T3 h3 L3 X3 e3 hQ3 => ?_)
  obtain ⟨c3, rfl, ok3, N3q, hh3⟩ := hQ3
  obtain rfl := hh3.symm
  have N3 := Fr.app N2 N3q
  show W p e below _ (T3.setTop (mkF m 16 #[.val (.int p0), .val (.int p1), .val (.int p2), .val (.int p3), .val (.int p4), .val (.int c1), .val (.int c2), .unset, .unset, .unset, .unset, .unset] [(.int c3)]))
  have okn3 : own_ok (nar .char c3) := by rw [own_narok ok3]; exact ok3
  refine W.go (fun _ hr => XS.istore X3.here hx rfl (hb hby at_16) rfl (l' := #[.val (.int p0), .val (.int p1), .val (.int p2), .val (.int p3), .val (.int p4), .val (.int c1), .val (.int c2), .val (.int c3), .unset, .unset, .unset, .unset]) rfl hr) ?_
  show W p e below _ (T3.setTop (mkF m 18 #[.val (.int p0), .val (.int p1), .val (.int p2), .val (.int p3), .val (.int p4), .val (.int c1), .val (.int c2), .val (.int c3), .unset, .unset, .unset, .unset] []))
  refine W.go (fun _ hr => XS.iloadN X3.here hx rfl (hb hby at_18) rfl hr) ?_
  show W p e below _ (T3.setTop (mkF m 19 #[.val (.int p0), .val (.int p1), .val (.int p2), .val (.int p3), .val (.int p4), .val (.int c1), .val (.int c2), .val (.int c3), .unset, .unset, .unset, .unset] [(.int p3)]))
  refine W.callS X3 hx hZ hown (g := (mkF m 19 #[.val (.int p0), .val (.int p1), .val (.int p2), .val (.int p3), .val (.int p4), .val (.int c1), .val (.int c2), .val (.int c3), .unset, .unset, .unset, .unset] [(.int p3)])) (by rw [hml]; rfl) (hw _ (List.mem_of_getElem? (i := 0) rfl)) (hw _ (List.mem_of_getElem? (i := 1) rfl)) (hw _ (List.mem_of_getElem? (i := 2) rfl)) (hw _ (List.mem_of_getElem? (i := 3) rfl)) e3 (rm1 l Z a0 hw p3 h0 n0 Z0) (by decide) pd_134 rfl (argsL := [(.int p3)]) (rest := []) rfl rfl rfl (hb hby at_19) (W0 := 0) rfl (by decide) (by decide) (by decide) (by decide) (fun v4 T4 h4 L4 X4 e4 hQ4 => ?_)
  obtain ⟨c4, rfl, ok4, N4q, hh4⟩ := hQ4
  obtain rfl := hh4.symm
  have N4 := Fr.app N3 N4q
  show W p e below _ (T4.setTop (mkF m 22 #[.val (.int p0), .val (.int p1), .val (.int p2), .val (.int p3), .val (.int p4), .val (.int c1), .val (.int c2), .val (.int c3), .unset, .unset, .unset, .unset] [(.int c4)]))
  have okn4 : own_ok (nar .char c4) := by rw [own_narok ok4]; exact ok4
  refine W.go (fun _ hr => XS.istore X4.here hx rfl (hb hby at_22) rfl (l' := #[.val (.int p0), .val (.int p1), .val (.int p2), .val (.int p3), .val (.int p4), .val (.int c1), .val (.int c2), .val (.int c3), .val (.int c4), .unset, .unset, .unset]) rfl hr) ?_
  show W p e below _ (T4.setTop (mkF m 24 #[.val (.int p0), .val (.int p1), .val (.int p2), .val (.int p3), .val (.int p4), .val (.int c1), .val (.int c2), .val (.int c3), .val (.int c4), .unset, .unset, .unset] []))
  refine W.go (fun _ hr => XS.iload X4.here hx rfl (hb hby at_24) rfl hr) ?_
  show W p e below _ (T4.setTop (mkF m 26 #[.val (.int p0), .val (.int p1), .val (.int p2), .val (.int p3), .val (.int p4), .val (.int c1), .val (.int c2), .val (.int c3), .val (.int c4), .unset, .unset, .unset] [(.int p4)]))
  refine W.go (X4.ldcInt hx hown (mvT hZ (hw _ (List.mem_of_getElem? (i := 4) rfl))) (g := (mkF m 26 #[.val (.int p0), .val (.int p1), .val (.int p2), .val (.int p3), .val (.int p4), .val (.int c1), .val (.int c2), .val (.int c3), .val (.int c4), .unset, .unset, .unset] [(.int p4)])) rfl (hb hby at_26)) ?_
  show W p e below _ (T4.setTop (mkF m 28 #[.val (.int p0), .val (.int p1), .val (.int p2), .val (.int p3), .val (.int p4), .val (.int c1), .val (.int c2), .val (.int c3), .val (.int c4), .unset, .unset, .unset] [(.int (2147483647 : Int32)), (.int p4)]))
  refine W.go (fun _ hr => XS.iand X4.here hx rfl (hb hby at_28) rfl hr) ?_
  show W p e below _ (T4.setTop (mkF m 29 #[.val (.int p0), .val (.int p1), .val (.int p2), .val (.int p3), .val (.int p4), .val (.int c1), .val (.int c2), .val (.int c3), .val (.int c4), .unset, .unset, .unset] [(.int (p4 &&& (2147483647 : Int32)))]))
  refine W.go (fun _ hr => XS.bipush X4.here hx rfl (hb hby at_29) hr) ?_
  show W p e below _ (T4.setTop (mkF m 31 #[.val (.int p0), .val (.int p1), .val (.int p2), .val (.int p3), .val (.int p4), .val (.int c1), .val (.int c2), .val (.int c3), .val (.int c4), .unset, .unset, .unset] [(.int (6 : Int32)), (.int (p4 &&& (2147483647 : Int32)))]))
  refine W.go (fun _ hr => iremM X4 hx rfl (hb hby at_31) rfl (by decide) hr) ?_
  show W p e below _ (T4.setTop (mkF m 32 #[.val (.int p0), .val (.int p1), .val (.int p2), .val (.int p3), .val (.int p4), .val (.int c1), .val (.int c2), .val (.int c3), .val (.int c4), .unset, .unset, .unset] [(.int ((p4 &&& (2147483647 : Int32)) % (6 : Int32)))]))
  generalize e_kk : ((p4 &&& (2147483647 : Int32)) % (6 : Int32)) = kk
  refine W.go (fun _ hr => XS.istore X4.here hx rfl (hb hby at_32) rfl (l' := #[.val (.int p0), .val (.int p1), .val (.int p2), .val (.int p3), .val (.int p4), .val (.int c1), .val (.int c2), .val (.int c3), .val (.int c4), .val (.int kk), .unset, .unset]) rfl hr) ?_
  show W p e below _ (T4.setTop (mkF m 34 #[.val (.int p0), .val (.int p1), .val (.int p2), .val (.int p3), .val (.int p4), .val (.int c1), .val (.int c2), .val (.int c3), .val (.int c4), .val (.int kk), .unset, .unset] []))
  refine W.go (fun _ hr => XS.iload X4.here hx rfl (hb hby at_34) rfl hr) ?_
  show W p e below _ (T4.setTop (mkF m 36 #[.val (.int p0), .val (.int p1), .val (.int p2), .val (.int p3), .val (.int p4), .val (.int c1), .val (.int c2), .val (.int c3), .val (.int c4), .val (.int kk), .unset, .unset] [(.int kk)]))
  by_cases hc36_5 : kk = (0 : Int32)
  · refine W.go (fun _ hr => XS.ifNo X4.here hx rfl (hb hby at_36) rfl ((if0 _ _).trans (teq hc36_5).2) hr) ?_
    show W p e below _ (T4.setTop (mkF m 39 #[.val (.int p0), .val (.int p1), .val (.int p2), .val (.int p3), .val (.int p4), .val (.int c1), .val (.int c2), .val (.int c3), .val (.int c4), .val (.int kk), .unset, .unset] []))
    refine W.go (fun _ hr => XS.iconst X4.here hx rfl (hb hby at_39) hr) ?_
    show W p e below _ (T4.setTop (mkF m 40 #[.val (.int p0), .val (.int p1), .val (.int p2), .val (.int p3), .val (.int p4), .val (.int c1), .val (.int c2), .val (.int c3), .val (.int c4), .val (.int kk), .unset, .unset] [(.int (1 : Int32))]))
    obtain ⟨T6, h6, k6, X6, e6, E6, A6, E_b6, st6⟩ := newPE X4 hx hZ (hw _ (List.mem_of_getElem? (i := 5) rfl)) e4 (g := (mkF m 40 #[.val (.int p0), .val (.int p1), .val (.int p2), .val (.int p3), .val (.int p4), .val (.int c1), .val (.int c2), .val (.int c3), .val (.int c4), .val (.int kk), .unset, .unset] [(.int (1 : Int32))])) rfl (hb hby at_40) rfl (by decide) (cap := 1) (by decide) (by decide) (by decide) (by decide) (ad := "[C") (by decide)
    obtain ⟨b6, g6⟩ : ∃ z, z = h0.size := ⟨_, rfl⟩
    rw [← g6] at A6 E_b6 st6
    have g_b6 : n0 ≤ b6 := Nat.le_trans Z0 (Nat.le_of_eq g6.symm)
    replace S_COMPACT_STRINGS := Sta.ext E6 S_COMPACT_STRINGS
    replace S_SIOOBE_FORMATTER := Sta.ext E6 S_SIOOBE_FORMATTER
    have Z7 : n0 ≤ h6.size := Nat.le_trans Z0 E6.1
    have V_b6 : Arv Z h6 b6 k6 .char (1 : Int32) [(.int (0 : Int32))] (.int (0 : Int32)) := (Arv.new A6 (by decide)).pad (pad_rep [] (.int (0 : Int32)) 1)
    refine W.go st6 ?_
    show W p e below _ (T6.setTop (mkF m 42 #[.val (.int p0), .val (.int p1), .val (.int p2), .val (.int p3), .val (.int p4), .val (.int c1), .val (.int c2), .val (.int c3), .val (.int c4), .val (.int kk), .unset, .unset] [(.ref b6)]))
    refine W.go (fun _ hr => XS.dup X6.here hx rfl (hb hby at_42) rfl rfl hr) ?_
    show W p e below _ (T6.setTop (mkF m 43 #[.val (.int p0), .val (.int p1), .val (.int p2), .val (.int p3), .val (.int p4), .val (.int c1), .val (.int c2), .val (.int c3), .val (.int c4), .val (.int kk), .unset, .unset] [(.ref b6), (.ref b6)]))
    refine W.go (fun _ hr => XS.iconst X6.here hx rfl (hb hby at_43) hr) ?_
    show W p e below _ (T6.setTop (mkF m 44 #[.val (.int p0), .val (.int p1), .val (.int p2), .val (.int p3), .val (.int p4), .val (.int c1), .val (.int c2), .val (.int c3), .val (.int c4), .val (.int kk), .unset, .unset] [(.int (0 : Int32)), (.ref b6), (.ref b6)]))
    refine W.go (fun _ hr => XS.iload X6.here hx rfl (hb hby at_44) rfl hr) ?_
    show W p e below _ (T6.setTop (mkF m 46 #[.val (.int p0), .val (.int p1), .val (.int p2), .val (.int p3), .val (.int p4), .val (.int c1), .val (.int c2), .val (.int c3), .val (.int c4), .val (.int kk), .unset, .unset] [(.int c1), (.int (0 : Int32)), (.ref b6), (.ref b6)]))
    obtain ⟨cl8, Ar8, q8, S8, Nn8, H8, G8⟩ := V_b6
    have hin8 : ¬ ((0 : Int32) < 0 ∨ cl8.slots.size ≤ ((0 : Int32)).toNatClampNeg) := inb_of S8 ⟨by decide, by decide⟩
    obtain ⟨T8, h8, X8, e8, W8, st8⟩ := stC X6 hx hZ e6 Ar8 (j := (0 : Int32)) hin8 (g := (mkF m 46 #[.val (.int p0), .val (.int p1), .val (.int p2), .val (.int p3), .val (.int p4), .val (.int c1), .val (.int c2), .val (.int c3), .val (.int c4), .val (.int kk), .unset, .unset] [(.int c1), (.int (0 : Int32)), (.ref b6), (.ref b6)])) rfl rfl (hb hby at_46)
    replace V_b6 : Arv Z h8 b6 k6 .char (1 : Int32) [(.int (nar .char c1))] (.int (0 : Int32)) := Arv.set Ar8 q8 S8 Nn8 H8 G8 (fits_nar_char _) W8 0 rfl (Nat.le_of_ble_eq_true rfl)
    replace S_COMPACT_STRINGS := Sta.wr W8 S_COMPACT_STRINGS
    replace S_SIOOBE_FORMATTER := Sta.wr W8 S_SIOOBE_FORMATTER
    replace E_b6 := E_b6.wr W8
    have Z9 : n0 ≤ h8.size := Nat.le_trans Z7 (Keep.of_wr W8).1
    refine W.go st8 ?_
    have N8 := Fr.snoc X8 N4 g_b6
    show W p e below _ (T8.setTop (mkF m 47 #[.val (.int p0), .val (.int p1), .val (.int p2), .val (.int p3), .val (.int p4), .val (.int c1), .val (.int c2), .val (.int c3), .val (.int c4), .val (.int kk), .unset, .unset] [(.ref b6)]))
    refine W.go (fun _ hr => XS.astore X8.here hx rfl (hb hby at_47) rfl rfl (l' := #[.val (.int p0), .val (.int p1), .val (.int p2), .val (.int p3), .val (.int p4), .val (.int c1), .val (.int c2), .val (.int c3), .val (.int c4), .val (.int kk), .val (.ref b6), .unset]) rfl hr) ?_
    show W p e below _ (T8.setTop (mkF m 49 #[.val (.int p0), .val (.int p1), .val (.int p2), .val (.int p3), .val (.int p4), .val (.int c1), .val (.int c2), .val (.int c3), .val (.int c4), .val (.int kk), .val (.ref b6), .unset] []))
    refine W.go (fun _ hr => XS.goto X8.here hx rfl (pc0 := 49) (pc' := 910) rfl (hb hby at_49) (by decide) (by decide) hr) ?_
    show W p e below _ (T8.setTop (mkF m 910 #[.val (.int p0), .val (.int p1), .val (.int p2), .val (.int p3), .val (.int p4), .val (.int c1), .val (.int c2), .val (.int c3), .val (.int c4), .val (.int kk), .val (.ref b6), .unset] []))
    obtain ⟨T10, h10, X10, e10, E10, E_b10, D10, U10, st10⟩ := newO X8 hx hZ hown (hw _ (List.mem_of_getElem? (i := 6) rfl)) (hw _ (List.mem_of_getElem? (i := 7) rfl)) (hw _ (List.mem_of_getElem? (i := 8) rfl)) e8 (g := (mkF m 910 #[.val (.int p0), .val (.int p1), .val (.int p2), .val (.int p3), .val (.int p4), .val (.int c1), .val (.int c2), .val (.int c3), .val (.int c4), .val (.int kk), .val (.ref b6), .unset] [])) rfl (hb hby at_910) (by decide) (by decide)
    obtain ⟨b10, g10⟩ : ∃ z, z = h8.size := ⟨_, rfl⟩
    rw [← g10] at E_b10 D10 U10 st10
    have ne_b6_b10 : b6 ≠ b10 := Nat.ne_of_lt (Nat.lt_of_lt_of_le E_b6.lt (Nat.le_of_eq g10.symm))
    have g_b10 : n0 ≤ b10 := Nat.le_trans Z9 (Nat.le_of_eq g10.symm)
    replace S_COMPACT_STRINGS := Sta.ext E10 S_COMPACT_STRINGS
    replace S_SIOOBE_FORMATTER := Sta.ext E10 S_SIOOBE_FORMATTER
    replace E_b6 := E_b6.ext E10
    replace V_b6 := V_b6.ext E10
    have Z11 : n0 ≤ h10.size := Nat.le_trans Z9 E10.1
    have F_coder_b10 : Fld Z h10 b10 "java/lang/String" "coder" "B" (.int (0 : Int32)) := D10 (Or.inr (hw _ (List.mem_of_getElem? (i := 32) rfl))) (ty := .byte) (by decide)
    have F_value_b10 : Fld Z h10 b10 "java/lang/String" "value" "[B" .null := D10 (Or.inr (hw _ (List.mem_of_getElem? (i := 34) rfl))) (ty := (.array .byte)) (by decide)
    refine W.go st10 ?_
    show W p e below _ (T10.setTop (mkF m 913 #[.val (.int p0), .val (.int p1), .val (.int p2), .val (.int p3), .val (.int p4), .val (.int c1), .val (.int c2), .val (.int c3), .val (.int c4), .val (.int kk), .val (.ref b6), .unset] [(.ref b10)]))
    refine W.go (fun _ hr => XS.dup X10.here hx rfl (hb hby at_913) rfl rfl hr) ?_
    show W p e below _ (T10.setTop (mkF m 914 #[.val (.int p0), .val (.int p1), .val (.int p2), .val (.int p3), .val (.int p4), .val (.int c1), .val (.int c2), .val (.int c3), .val (.int c4), .val (.int kk), .val (.ref b6), .unset] [(.ref b10), (.ref b10)]))
    refine W.go (fun _ hr => XS.aload X10.here hx rfl (hb hby at_914) rfl rfl hr) ?_
    show W p e below _ (T10.setTop (mkF m 916 #[.val (.int p0), .val (.int p1), .val (.int p2), .val (.int p3), .val (.int p4), .val (.int c1), .val (.int c2), .val (.int c3), .val (.int c4), .val (.int kk), .val (.ref b6), .unset] [(.ref b6), (.ref b10), (.ref b10)]))
    obtain ⟨cs12, ecs12⟩ : ∃ z : List Int32, z = [(nar .char c1)] := ⟨_, rfl⟩
    have lcs12 : cs12.length = 1 := by rw [ecs12]; rfl
    have Vcs12 : Arv Z h10 b6 k6 .char (1 : Int32) (cs12.map Value.int) (.int (0 : Int32)) := by rw [ecs12]; exact V_b6
    have hlat12 : ∀ c ∈ cs12, own_ok c := by
      rw [ecs12]
      intro c hc
      simp only [List.mem_cons, List.not_mem_nil, or_false] at hc
      rcases hc with rfl
      · exact okn1
    refine W.callIK X10 hx hZ hown (g := (mkF m 916 #[.val (.int p0), .val (.int p1), .val (.int p2), .val (.int p3), .val (.int p4), .val (.int c1), .val (.int c2), .val (.int c3), .val (.int c4), .val (.int kk), .val (.ref b6), .unset] [(.ref b6), (.ref b10), (.ref b10)])) (by rw [hml]; rfl) (hw _ (List.mem_of_getElem? (i := 9) rfl)) (hw _ (List.mem_of_getElem? (i := 10) rfl)) (hw _ (List.mem_of_getElem? (i := 11) rfl)) e10 (StrChars.Road.backV (W := 1) hZ (fun d hd => hw d (own_ws d hd)) (kI := 4) (hw _ (List.mem_of_getElem? (i := 7) rfl)) (cs := cs12) (bs := cs12.map fun c => c.toInt8.toInt32) (n := 1) g_b10 Z11 E_b10 F_value_b10 F_coder_b10 Vcs12 S_COMPACT_STRINGS hCS lcs12 rfl (by decide) (by decide) (fun c hc => own_ok_lat (hlat12 c hc)) rfl (by decide) (by decide)) rfl (by decide) pd_171 rfl (b := b10) (argsL := [(.ref b6)]) (rest := [(.ref b10)]) rfl rfl rfl (hb hby at_916) (W0 := 1) rfl (by decide) (by decide) (fun v12 T12 h12 L12 X12 e12 hQ12 => ?_)
    obtain ⟨rfl, N12q, K12, Ee12, Fc12, t12, kb12, gt12, st12, nt12, Fv12, V_t12⟩ := hQ12
    have N12 := Fr.app N8 N12q
    have ne_b6_t12 : b6 ≠ t12 := Nat.ne_of_lt (Nat.lt_of_lt_of_le E_b6.lt st12)
    have ne_b10_t12 : b10 ≠ t12 := Nat.ne_of_lt (Nat.lt_of_lt_of_le E_b10.lt st12)
    have g_t12 : n0 ≤ t12 := Nat.le_trans Z11 st12
    have nsK12 := (nsS E_b10.nostat ns0)
    replace S_COMPACT_STRINGS := Sta.keep S_COMPACT_STRINGS K12 nsK12
    replace S_SIOOBE_FORMATTER := Sta.keep S_SIOOBE_FORMATTER K12 nsK12
    replace E_b6 := E_b6.keep K12
    replace V_b6 := V_b6.keep K12 (ninS ne_b6_b10 nin0)
    replace E_b10 := E_b10.keep K12
    have Z13 : n0 ≤ h12.size := Nat.le_trans Z11 K12.1
    have F_value_b10 := Fv12
    have F_coder_b10 := Fc12
    show W p e below _ (T12.setTop (mkF m 919 #[.val (.int p0), .val (.int p1), .val (.int p2), .val (.int p3), .val (.int p4), .val (.int c1), .val (.int c2), .val (.int c3), .val (.int c4), .val (.int kk), .val (.ref b6), .unset] [(.ref b10)]))
    refine W.go (fun _ hr => XS.astore X12.here hx rfl (hb hby at_919) rfl rfl (l' := #[.val (.int p0), .val (.int p1), .val (.int p2), .val (.int p3), .val (.int p4), .val (.int c1), .val (.int c2), .val (.int c3), .val (.int c4), .val (.int kk), .val (.ref b6), .val (.ref b10)]) rfl hr) ?_
    show W p e below _ (T12.setTop (mkF m 921 #[.val (.int p0), .val (.int p1), .val (.int p2), .val (.int p3), .val (.int p4), .val (.int c1), .val (.int c2), .val (.int c3), .val (.int c4), .val (.int kk), .val (.ref b6), .val (.ref b10)] []))
    refine W.go (fun _ hr => XS.aload X12.here hx rfl (hb hby at_921) rfl rfl hr) ?_
    show W p e below _ (T12.setTop (mkF m 923 #[.val (.int p0), .val (.int p1), .val (.int p2), .val (.int p3), .val (.int p4), .val (.int c1), .val (.int c2), .val (.int c3), .val (.int c4), .val (.int kk), .val (.ref b6), .val (.ref b10)] [(.ref b10)]))
    refine W.callS X12 hx hZ hown (g := (mkF m 923 #[.val (.int p0), .val (.int p1), .val (.int p2), .val (.int p3), .val (.int p4), .val (.int c1), .val (.int c2), .val (.int c3), .val (.int c4), .val (.int kk), .val (.ref b6), .val (.ref b10)] [(.ref b10)])) (by rw [hml]; rfl) (hw _ (List.mem_of_getElem? (i := 35) rfl)) (hw _ (List.mem_of_getElem? (i := 36) rfl)) (hw _ (List.mem_of_getElem? (i := 37) rfl)) (hw _ (List.mem_of_getElem? (i := 38) rfl)) e12 (rm8 l Z a0 hw b10 t12 kb12 (1 : Int32) ((cs12.map fun c => c.toInt8.toInt32).map Value.int) (.int (0 : Int32)) zCS wSF h12 n0 Z13 E_b10 F_value_b10 F_coder_b10 V_t12 S_COMPACT_STRINGS hCS S_SIOOBE_FORMATTER hSF (by decide) (own_all cs12 (by rw [lcs12]; rfl) hlat12)) (by decide) pd_172 rfl (argsL := [(.ref b10)]) (rest := []) rfl rfl rfl (hb hby at_923) (W0 := 0) rfl (by decide) (by decide) (by decide) (by decide) (fun v14 T14 h14 L14 X14 e14 hQ14 => ?_)
    obtain ⟨rfl, N14q, hh14⟩ := hQ14
    obtain rfl := hh14.symm
    have N14 := Fr.app N12 N14q
    show W p e below _ (T14.setTop (mkF m 926 #[.val (.int p0), .val (.int p1), .val (.int p2), .val (.int p3), .val (.int p4), .val (.int c1), .val (.int c2), .val (.int c3), .val (.int c4), .val (.int kk), .val (.ref b6), .val (.ref b10)] []))
    refine W.go (fun _ hr => XS.iconst X14.here hx rfl (hb hby at_926) hr) ?_
    show W p e below _ (T14.setTop (mkF m 927 #[.val (.int p0), .val (.int p1), .val (.int p2), .val (.int p3), .val (.int p4), .val (.int c1), .val (.int c2), .val (.int c3), .val (.int c4), .val (.int kk), .val (.ref b6), .val (.ref b10)] [(.int (1 : Int32))]))
    exact W.retB X14 hx hlk (t := .boolean) hret (by simp) (hb hby at_927) (by decide) (by decide) e14 ⟨rfl, N14⟩
  · refine W.go (fun _ hr => XS.ifYes X4.here hx rfl (pc0 := 36) (pc' := 52) rfl (hb hby at_36) rfl ((if0 _ _).trans (feq hc36_5).2) (by decide) (by decide) hr) ?_
    show W p e below _ (T4.setTop (mkF m 52 #[.val (.int p0), .val (.int p1), .val (.int p2), .val (.int p3), .val (.int p4), .val (.int c1), .val (.int c2), .val (.int c3), .val (.int c4), .val (.int kk), .unset, .unset] []))
    refine W.go (fun _ hr => XS.iload X4.here hx rfl (hb hby at_52) rfl hr) ?_
    show W p e below _ (T4.setTop (mkF m 54 #[.val (.int p0), .val (.int p1), .val (.int p2), .val (.int p3), .val (.int p4), .val (.int c1), .val (.int c2), .val (.int c3), .val (.int c4), .val (.int kk), .unset, .unset] [(.int kk)]))
    refine W.go (fun _ hr => XS.iconst X4.here hx rfl (hb hby at_54) hr) ?_
    show W p e below _ (T4.setTop (mkF m 55 #[.val (.int p0), .val (.int p1), .val (.int p2), .val (.int p3), .val (.int p4), .val (.int c1), .val (.int c2), .val (.int c3), .val (.int c4), .val (.int kk), .unset, .unset] [(.int (1 : Int32)), (.int kk)]))
    by_cases hc55_15 : kk = (1 : Int32)
    · refine W.go (fun _ hr => XS.icmpNo X4.here hx rfl (hb hby at_55) rfl (teq hc55_15).2 hr) ?_
      show W p e below _ (T4.setTop (mkF m 58 #[.val (.int p0), .val (.int p1), .val (.int p2), .val (.int p3), .val (.int p4), .val (.int c1), .val (.int c2), .val (.int c3), .val (.int c4), .val (.int kk), .unset, .unset] []))
      refine W.go (fun _ hr => XS.iconst X4.here hx rfl (hb hby at_58) hr) ?_
      show W p e below _ (T4.setTop (mkF m 59 #[.val (.int p0), .val (.int p1), .val (.int p2), .val (.int p3), .val (.int p4), .val (.int c1), .val (.int c2), .val (.int c3), .val (.int c4), .val (.int kk), .unset, .unset] [(.int (2 : Int32))]))
      obtain ⟨T16, h16, k16, X16, e16, E16, A16, E_b16, st16⟩ := newPE X4 hx hZ (hw _ (List.mem_of_getElem? (i := 5) rfl)) e4 (g := (mkF m 59 #[.val (.int p0), .val (.int p1), .val (.int p2), .val (.int p3), .val (.int p4), .val (.int c1), .val (.int c2), .val (.int c3), .val (.int c4), .val (.int kk), .unset, .unset] [(.int (2 : Int32))])) rfl (hb hby at_59) rfl (by decide) (cap := 2) (by decide) (by decide) (by decide) (by decide) (ad := "[C") (by decide)
      obtain ⟨b16, g16⟩ : ∃ z, z = h0.size := ⟨_, rfl⟩
      rw [← g16] at A16 E_b16 st16
      have g_b16 : n0 ≤ b16 := Nat.le_trans Z0 (Nat.le_of_eq g16.symm)
      replace S_COMPACT_STRINGS := Sta.ext E16 S_COMPACT_STRINGS
      replace S_SIOOBE_FORMATTER := Sta.ext E16 S_SIOOBE_FORMATTER
      have Z17 : n0 ≤ h16.size := Nat.le_trans Z0 E16.1
      have V_b16 : Arv Z h16 b16 k16 .char (2 : Int32) [(.int (0 : Int32)), (.int (0 : Int32))] (.int (0 : Int32)) := (Arv.new A16 (by decide)).pad (pad_rep [] (.int (0 : Int32)) 2)
      refine W.go st16 ?_
      show W p e below _ (T16.setTop (mkF m 61 #[.val (.int p0), .val (.int p1), .val (.int p2), .val (.int p3), .val (.int p4), .val (.int c1), .val (.int c2), .val (.int c3), .val (.int c4), .val (.int kk), .unset, .unset] [(.ref b16)]))
      refine W.go (fun _ hr => XS.dup X16.here hx rfl (hb hby at_61) rfl rfl hr) ?_
      show W p e below _ (T16.setTop (mkF m 62 #[.val (.int p0), .val (.int p1), .val (.int p2), .val (.int p3), .val (.int p4), .val (.int c1), .val (.int c2), .val (.int c3), .val (.int c4), .val (.int kk), .unset, .unset] [(.ref b16), (.ref b16)]))
      refine W.go (fun _ hr => XS.iconst X16.here hx rfl (hb hby at_62) hr) ?_
      show W p e below _ (T16.setTop (mkF m 63 #[.val (.int p0), .val (.int p1), .val (.int p2), .val (.int p3), .val (.int p4), .val (.int c1), .val (.int c2), .val (.int c3), .val (.int c4), .val (.int kk), .unset, .unset] [(.int (0 : Int32)), (.ref b16), (.ref b16)]))
      refine W.go (fun _ hr => XS.iload X16.here hx rfl (hb hby at_63) rfl hr) ?_
      show W p e below _ (T16.setTop (mkF m 65 #[.val (.int p0), .val (.int p1), .val (.int p2), .val (.int p3), .val (.int p4), .val (.int c1), .val (.int c2), .val (.int c3), .val (.int c4), .val (.int kk), .unset, .unset] [(.int c1), (.int (0 : Int32)), (.ref b16), (.ref b16)]))
      obtain ⟨cl18, Ar18, q18, S18, Nn18, H18, G18⟩ := V_b16
      have hin18 : ¬ ((0 : Int32) < 0 ∨ cl18.slots.size ≤ ((0 : Int32)).toNatClampNeg) := inb_of S18 ⟨by decide, by decide⟩
      obtain ⟨T18, h18, X18, e18, W18, st18⟩ := stC X16 hx hZ e16 Ar18 (j := (0 : Int32)) hin18 (g := (mkF m 65 #[.val (.int p0), .val (.int p1), .val (.int p2), .val (.int p3), .val (.int p4), .val (.int c1), .val (.int c2), .val (.int c3), .val (.int c4), .val (.int kk), .unset, .unset] [(.int c1), (.int (0 : Int32)), (.ref b16), (.ref b16)])) rfl rfl (hb hby at_65)
      replace V_b16 : Arv Z h18 b16 k16 .char (2 : Int32) [(.int (nar .char c1)), (.int (0 : Int32))] (.int (0 : Int32)) := Arv.set Ar18 q18 S18 Nn18 H18 G18 (fits_nar_char _) W18 0 rfl (Nat.le_of_ble_eq_true rfl)
      replace S_COMPACT_STRINGS := Sta.wr W18 S_COMPACT_STRINGS
      replace S_SIOOBE_FORMATTER := Sta.wr W18 S_SIOOBE_FORMATTER
      replace E_b16 := E_b16.wr W18
      have Z19 : n0 ≤ h18.size := Nat.le_trans Z17 (Keep.of_wr W18).1
      refine W.go st18 ?_
      have N18 := Fr.snoc X18 N4 g_b16
      show W p e below _ (T18.setTop (mkF m 66 #[.val (.int p0), .val (.int p1), .val (.int p2), .val (.int p3), .val (.int p4), .val (.int c1), .val (.int c2), .val (.int c3), .val (.int c4), .val (.int kk), .unset, .unset] [(.ref b16)]))
      refine W.go (fun _ hr => XS.dup X18.here hx rfl (hb hby at_66) rfl rfl hr) ?_
      show W p e below _ (T18.setTop (mkF m 67 #[.val (.int p0), .val (.int p1), .val (.int p2), .val (.int p3), .val (.int p4), .val (.int c1), .val (.int c2), .val (.int c3), .val (.int c4), .val (.int kk), .unset, .unset] [(.ref b16), (.ref b16)]))
      refine W.go (fun _ hr => XS.iconst X18.here hx rfl (hb hby at_67) hr) ?_
      show W p e below _ (T18.setTop (mkF m 68 #[.val (.int p0), .val (.int p1), .val (.int p2), .val (.int p3), .val (.int p4), .val (.int c1), .val (.int c2), .val (.int c3), .val (.int c4), .val (.int kk), .unset, .unset] [(.int (1 : Int32)), (.ref b16), (.ref b16)]))
      refine W.go (fun _ hr => XS.iload X18.here hx rfl (hb hby at_68) rfl hr) ?_
      show W p e below _ (T18.setTop (mkF m 70 #[.val (.int p0), .val (.int p1), .val (.int p2), .val (.int p3), .val (.int p4), .val (.int c1), .val (.int c2), .val (.int c3), .val (.int c4), .val (.int kk), .unset, .unset] [(.int c2), (.int (1 : Int32)), (.ref b16), (.ref b16)]))
      obtain ⟨cl20, Ar20, q20, S20, Nn20, H20, G20⟩ := V_b16
      have hin20 : ¬ ((1 : Int32) < 0 ∨ cl20.slots.size ≤ ((1 : Int32)).toNatClampNeg) := inb_of S20 ⟨by decide, by decide⟩
      obtain ⟨T20, h20, X20, e20, W20, st20⟩ := stC X18 hx hZ e18 Ar20 (j := (1 : Int32)) hin20 (g := (mkF m 70 #[.val (.int p0), .val (.int p1), .val (.int p2), .val (.int p3), .val (.int p4), .val (.int c1), .val (.int c2), .val (.int c3), .val (.int c4), .val (.int kk), .unset, .unset] [(.int c2), (.int (1 : Int32)), (.ref b16), (.ref b16)])) rfl rfl (hb hby at_70)
      replace V_b16 : Arv Z h20 b16 k16 .char (2 : Int32) [(.int (nar .char c1)), (.int (nar .char c2))] (.int (0 : Int32)) := Arv.set Ar20 q20 S20 Nn20 H20 G20 (fits_nar_char _) W20 1 rfl (Nat.le_of_ble_eq_true rfl)
      replace S_COMPACT_STRINGS := Sta.wr W20 S_COMPACT_STRINGS
      replace S_SIOOBE_FORMATTER := Sta.wr W20 S_SIOOBE_FORMATTER
      replace E_b16 := E_b16.wr W20
      have Z21 : n0 ≤ h20.size := Nat.le_trans Z19 (Keep.of_wr W20).1
      refine W.go st20 ?_
      have N20 := Fr.snoc X20 N18 g_b16
      show W p e below _ (T20.setTop (mkF m 71 #[.val (.int p0), .val (.int p1), .val (.int p2), .val (.int p3), .val (.int p4), .val (.int c1), .val (.int c2), .val (.int c3), .val (.int c4), .val (.int kk), .unset, .unset] [(.ref b16)]))
      refine W.go (fun _ hr => XS.astore X20.here hx rfl (hb hby at_71) rfl rfl (l' := #[.val (.int p0), .val (.int p1), .val (.int p2), .val (.int p3), .val (.int p4), .val (.int c1), .val (.int c2), .val (.int c3), .val (.int c4), .val (.int kk), .val (.ref b16), .unset]) rfl hr) ?_
      show W p e below _ (T20.setTop (mkF m 73 #[.val (.int p0), .val (.int p1), .val (.int p2), .val (.int p3), .val (.int p4), .val (.int c1), .val (.int c2), .val (.int c3), .val (.int c4), .val (.int kk), .val (.ref b16), .unset] []))
      refine W.go (fun _ hr => XS.goto X20.here hx rfl (pc0 := 73) (pc' := 910) rfl (hb hby at_73) (by decide) (by decide) hr) ?_
      show W p e below _ (T20.setTop (mkF m 910 #[.val (.int p0), .val (.int p1), .val (.int p2), .val (.int p3), .val (.int p4), .val (.int c1), .val (.int c2), .val (.int c3), .val (.int c4), .val (.int kk), .val (.ref b16), .unset] []))
      obtain ⟨T22, h22, X22, e22, E22, E_b22, D22, U22, st22⟩ := newO X20 hx hZ hown (hw _ (List.mem_of_getElem? (i := 6) rfl)) (hw _ (List.mem_of_getElem? (i := 7) rfl)) (hw _ (List.mem_of_getElem? (i := 8) rfl)) e20 (g := (mkF m 910 #[.val (.int p0), .val (.int p1), .val (.int p2), .val (.int p3), .val (.int p4), .val (.int c1), .val (.int c2), .val (.int c3), .val (.int c4), .val (.int kk), .val (.ref b16), .unset] [])) rfl (hb hby at_910) (by decide) (by decide)
      obtain ⟨b22, g22⟩ : ∃ z, z = h20.size := ⟨_, rfl⟩
      rw [← g22] at E_b22 D22 U22 st22
      have ne_b16_b22 : b16 ≠ b22 := Nat.ne_of_lt (Nat.lt_of_lt_of_le E_b16.lt (Nat.le_of_eq g22.symm))
      have g_b22 : n0 ≤ b22 := Nat.le_trans Z21 (Nat.le_of_eq g22.symm)
      replace S_COMPACT_STRINGS := Sta.ext E22 S_COMPACT_STRINGS
      replace S_SIOOBE_FORMATTER := Sta.ext E22 S_SIOOBE_FORMATTER
      replace E_b16 := E_b16.ext E22
      replace V_b16 := V_b16.ext E22
      have Z23 : n0 ≤ h22.size := Nat.le_trans Z21 E22.1
      have F_coder_b22 : Fld Z h22 b22 "java/lang/String" "coder" "B" (.int (0 : Int32)) := D22 (Or.inr (hw _ (List.mem_of_getElem? (i := 32) rfl))) (ty := .byte) (by decide)
      have F_value_b22 : Fld Z h22 b22 "java/lang/String" "value" "[B" .null := D22 (Or.inr (hw _ (List.mem_of_getElem? (i := 34) rfl))) (ty := (.array .byte)) (by decide)
      refine W.go st22 ?_
      show W p e below _ (T22.setTop (mkF m 913 #[.val (.int p0), .val (.int p1), .val (.int p2), .val (.int p3), .val (.int p4), .val (.int c1), .val (.int c2), .val (.int c3), .val (.int c4), .val (.int kk), .val (.ref b16), .unset] [(.ref b22)]))
      refine W.go (fun _ hr => XS.dup X22.here hx rfl (hb hby at_913) rfl rfl hr) ?_
      show W p e below _ (T22.setTop (mkF m 914 #[.val (.int p0), .val (.int p1), .val (.int p2), .val (.int p3), .val (.int p4), .val (.int c1), .val (.int c2), .val (.int c3), .val (.int c4), .val (.int kk), .val (.ref b16), .unset] [(.ref b22), (.ref b22)]))
      refine W.go (fun _ hr => XS.aload X22.here hx rfl (hb hby at_914) rfl rfl hr) ?_
      show W p e below _ (T22.setTop (mkF m 916 #[.val (.int p0), .val (.int p1), .val (.int p2), .val (.int p3), .val (.int p4), .val (.int c1), .val (.int c2), .val (.int c3), .val (.int c4), .val (.int kk), .val (.ref b16), .unset] [(.ref b16), (.ref b22), (.ref b22)]))
      obtain ⟨cs24, ecs24⟩ : ∃ z : List Int32, z = [(nar .char c1), (nar .char c2)] := ⟨_, rfl⟩
      have lcs24 : cs24.length = 2 := by rw [ecs24]; rfl
      have Vcs24 : Arv Z h22 b16 k16 .char (2 : Int32) (cs24.map Value.int) (.int (0 : Int32)) := by rw [ecs24]; exact V_b16
      have hlat24 : ∀ c ∈ cs24, own_ok c := by
        rw [ecs24]
        intro c hc
        simp only [List.mem_cons, List.not_mem_nil, or_false] at hc
        rcases hc with rfl | rfl
        · exact okn1
        · exact okn2
      refine W.callIK X22 hx hZ hown (g := (mkF m 916 #[.val (.int p0), .val (.int p1), .val (.int p2), .val (.int p3), .val (.int p4), .val (.int c1), .val (.int c2), .val (.int c3), .val (.int c4), .val (.int kk), .val (.ref b16), .unset] [(.ref b16), (.ref b22), (.ref b22)])) (by rw [hml]; rfl) (hw _ (List.mem_of_getElem? (i := 9) rfl)) (hw _ (List.mem_of_getElem? (i := 10) rfl)) (hw _ (List.mem_of_getElem? (i := 11) rfl)) e22 (StrChars.Road.backV (W := 1) hZ (fun d hd => hw d (own_ws d hd)) (kI := 4) (hw _ (List.mem_of_getElem? (i := 7) rfl)) (cs := cs24) (bs := cs24.map fun c => c.toInt8.toInt32) (n := 2) g_b22 Z23 E_b22 F_value_b22 F_coder_b22 Vcs24 S_COMPACT_STRINGS hCS lcs24 rfl (by decide) (by decide) (fun c hc => own_ok_lat (hlat24 c hc)) rfl (by decide) (by decide)) rfl (by decide) pd_171 rfl (b := b22) (argsL := [(.ref b16)]) (rest := [(.ref b22)]) rfl rfl rfl (hb hby at_916) (W0 := 1) rfl (by decide) (by decide) (fun v24 T24 h24 L24 X24 e24 hQ24 => ?_)
      obtain ⟨rfl, N24q, K24, Ee24, Fc24, t24, kb24, gt24, st24, nt24, Fv24, V_t24⟩ := hQ24
      have N24 := Fr.app N20 N24q
      have ne_b16_t24 : b16 ≠ t24 := Nat.ne_of_lt (Nat.lt_of_lt_of_le E_b16.lt st24)
      have ne_b22_t24 : b22 ≠ t24 := Nat.ne_of_lt (Nat.lt_of_lt_of_le E_b22.lt st24)
      have g_t24 : n0 ≤ t24 := Nat.le_trans Z23 st24
      have nsK24 := (nsS E_b22.nostat ns0)
      replace S_COMPACT_STRINGS := Sta.keep S_COMPACT_STRINGS K24 nsK24
      replace S_SIOOBE_FORMATTER := Sta.keep S_SIOOBE_FORMATTER K24 nsK24
      replace E_b16 := E_b16.keep K24
      replace V_b16 := V_b16.keep K24 (ninS ne_b16_b22 nin0)
      replace E_b22 := E_b22.keep K24
      have Z25 : n0 ≤ h24.size := Nat.le_trans Z23 K24.1
      have F_value_b22 := Fv24
      have F_coder_b22 := Fc24
      show W p e below _ (T24.setTop (mkF m 919 #[.val (.int p0), .val (.int p1), .val (.int p2), .val (.int p3), .val (.int p4), .val (.int c1), .val (.int c2), .val (.int c3), .val (.int c4), .val (.int kk), .val (.ref b16), .unset] [(.ref b22)]))
      refine W.go (fun _ hr => XS.astore X24.here hx rfl (hb hby at_919) rfl rfl (l' := #[.val (.int p0), .val (.int p1), .val (.int p2), .val (.int p3), .val (.int p4), .val (.int c1), .val (.int c2), .val (.int c3), .val (.int c4), .val (.int kk), .val (.ref b16), .val (.ref b22)]) rfl hr) ?_
      show W p e below _ (T24.setTop (mkF m 921 #[.val (.int p0), .val (.int p1), .val (.int p2), .val (.int p3), .val (.int p4), .val (.int c1), .val (.int c2), .val (.int c3), .val (.int c4), .val (.int kk), .val (.ref b16), .val (.ref b22)] []))
      refine W.go (fun _ hr => XS.aload X24.here hx rfl (hb hby at_921) rfl rfl hr) ?_
      show W p e below _ (T24.setTop (mkF m 923 #[.val (.int p0), .val (.int p1), .val (.int p2), .val (.int p3), .val (.int p4), .val (.int c1), .val (.int c2), .val (.int c3), .val (.int c4), .val (.int kk), .val (.ref b16), .val (.ref b22)] [(.ref b22)]))
      refine W.callS X24 hx hZ hown (g := (mkF m 923 #[.val (.int p0), .val (.int p1), .val (.int p2), .val (.int p3), .val (.int p4), .val (.int c1), .val (.int c2), .val (.int c3), .val (.int c4), .val (.int kk), .val (.ref b16), .val (.ref b22)] [(.ref b22)])) (by rw [hml]; rfl) (hw _ (List.mem_of_getElem? (i := 35) rfl)) (hw _ (List.mem_of_getElem? (i := 36) rfl)) (hw _ (List.mem_of_getElem? (i := 37) rfl)) (hw _ (List.mem_of_getElem? (i := 38) rfl)) e24 (rm8 l Z a0 hw b22 t24 kb24 (2 : Int32) ((cs24.map fun c => c.toInt8.toInt32).map Value.int) (.int (0 : Int32)) zCS wSF h24 n0 Z25 E_b22 F_value_b22 F_coder_b22 V_t24 S_COMPACT_STRINGS hCS S_SIOOBE_FORMATTER hSF (by decide) (own_all cs24 (by rw [lcs24]; rfl) hlat24)) (by decide) pd_172 rfl (argsL := [(.ref b22)]) (rest := []) rfl rfl rfl (hb hby at_923) (W0 := 0) rfl (by decide) (by decide) (by decide) (by decide) (fun v26 T26 h26 L26 X26 e26 hQ26 => ?_)
      obtain ⟨rfl, N26q, hh26⟩ := hQ26
      obtain rfl := hh26.symm
      have N26 := Fr.app N24 N26q
      show W p e below _ (T26.setTop (mkF m 926 #[.val (.int p0), .val (.int p1), .val (.int p2), .val (.int p3), .val (.int p4), .val (.int c1), .val (.int c2), .val (.int c3), .val (.int c4), .val (.int kk), .val (.ref b16), .val (.ref b22)] []))
      refine W.go (fun _ hr => XS.iconst X26.here hx rfl (hb hby at_926) hr) ?_
      show W p e below _ (T26.setTop (mkF m 927 #[.val (.int p0), .val (.int p1), .val (.int p2), .val (.int p3), .val (.int p4), .val (.int c1), .val (.int c2), .val (.int c3), .val (.int c4), .val (.int kk), .val (.ref b16), .val (.ref b22)] [(.int (1 : Int32))]))
      exact W.retB X26 hx hlk (t := .boolean) hret (by simp) (hb hby at_927) (by decide) (by decide) e26 ⟨rfl, N26⟩
    · refine W.go (fun _ hr => XS.icmpYes X4.here hx rfl (pc0 := 55) (pc' := 76) rfl (hb hby at_55) rfl (feq hc55_15).2 (by decide) (by decide) hr) ?_
      show W p e below _ (T4.setTop (mkF m 76 #[.val (.int p0), .val (.int p1), .val (.int p2), .val (.int p3), .val (.int p4), .val (.int c1), .val (.int c2), .val (.int c3), .val (.int c4), .val (.int kk), .unset, .unset] []))
      refine W.go (fun _ hr => XS.iload X4.here hx rfl (hb hby at_76) rfl hr) ?_
      show W p e below _ (T4.setTop (mkF m 78 #[.val (.int p0), .val (.int p1), .val (.int p2), .val (.int p3), .val (.int p4), .val (.int c1), .val (.int c2), .val (.int c3), .val (.int c4), .val (.int kk), .unset, .unset] [(.int kk)]))
      refine W.go (fun _ hr => XS.iconst X4.here hx rfl (hb hby at_78) hr) ?_
      show W p e below _ (T4.setTop (mkF m 79 #[.val (.int p0), .val (.int p1), .val (.int p2), .val (.int p3), .val (.int p4), .val (.int c1), .val (.int c2), .val (.int c3), .val (.int c4), .val (.int kk), .unset, .unset] [(.int (2 : Int32)), (.int kk)]))
      by_cases hc79_27 : kk = (2 : Int32)
      · refine W.go (fun _ hr => XS.icmpNo X4.here hx rfl (hb hby at_79) rfl (teq hc79_27).2 hr) ?_
        show W p e below _ (T4.setTop (mkF m 82 #[.val (.int p0), .val (.int p1), .val (.int p2), .val (.int p3), .val (.int p4), .val (.int c1), .val (.int c2), .val (.int c3), .val (.int c4), .val (.int kk), .unset, .unset] []))
        refine W.go (fun _ hr => XS.iconst X4.here hx rfl (hb hby at_82) hr) ?_
        show W p e below _ (T4.setTop (mkF m 83 #[.val (.int p0), .val (.int p1), .val (.int p2), .val (.int p3), .val (.int p4), .val (.int c1), .val (.int c2), .val (.int c3), .val (.int c4), .val (.int kk), .unset, .unset] [(.int (3 : Int32))]))
        obtain ⟨T28, h28, k28, X28, e28, E28, A28, E_b28, st28⟩ := newPE X4 hx hZ (hw _ (List.mem_of_getElem? (i := 5) rfl)) e4 (g := (mkF m 83 #[.val (.int p0), .val (.int p1), .val (.int p2), .val (.int p3), .val (.int p4), .val (.int c1), .val (.int c2), .val (.int c3), .val (.int c4), .val (.int kk), .unset, .unset] [(.int (3 : Int32))])) rfl (hb hby at_83) rfl (by decide) (cap := 3) (by decide) (by decide) (by decide) (by decide) (ad := "[C") (by decide)
        obtain ⟨b28, g28⟩ : ∃ z, z = h0.size := ⟨_, rfl⟩
        rw [← g28] at A28 E_b28 st28
        have g_b28 : n0 ≤ b28 := Nat.le_trans Z0 (Nat.le_of_eq g28.symm)
        replace S_COMPACT_STRINGS := Sta.ext E28 S_COMPACT_STRINGS
        replace S_SIOOBE_FORMATTER := Sta.ext E28 S_SIOOBE_FORMATTER
        have Z29 : n0 ≤ h28.size := Nat.le_trans Z0 E28.1
        have V_b28 : Arv Z h28 b28 k28 .char (3 : Int32) [(.int (0 : Int32)), (.int (0 : Int32)), (.int (0 : Int32))] (.int (0 : Int32)) := (Arv.new A28 (by decide)).pad (pad_rep [] (.int (0 : Int32)) 3)
        refine W.go st28 ?_
        show W p e below _ (T28.setTop (mkF m 85 #[.val (.int p0), .val (.int p1), .val (.int p2), .val (.int p3), .val (.int p4), .val (.int c1), .val (.int c2), .val (.int c3), .val (.int c4), .val (.int kk), .unset, .unset] [(.ref b28)]))
        refine W.go (fun _ hr => XS.dup X28.here hx rfl (hb hby at_85) rfl rfl hr) ?_
        show W p e below _ (T28.setTop (mkF m 86 #[.val (.int p0), .val (.int p1), .val (.int p2), .val (.int p3), .val (.int p4), .val (.int c1), .val (.int c2), .val (.int c3), .val (.int c4), .val (.int kk), .unset, .unset] [(.ref b28), (.ref b28)]))
        refine W.go (fun _ hr => XS.iconst X28.here hx rfl (hb hby at_86) hr) ?_
        show W p e below _ (T28.setTop (mkF m 87 #[.val (.int p0), .val (.int p1), .val (.int p2), .val (.int p3), .val (.int p4), .val (.int c1), .val (.int c2), .val (.int c3), .val (.int c4), .val (.int kk), .unset, .unset] [(.int (0 : Int32)), (.ref b28), (.ref b28)]))
        refine W.go (fun _ hr => XS.iload X28.here hx rfl (hb hby at_87) rfl hr) ?_
        show W p e below _ (T28.setTop (mkF m 89 #[.val (.int p0), .val (.int p1), .val (.int p2), .val (.int p3), .val (.int p4), .val (.int c1), .val (.int c2), .val (.int c3), .val (.int c4), .val (.int kk), .unset, .unset] [(.int c1), (.int (0 : Int32)), (.ref b28), (.ref b28)]))
        obtain ⟨cl30, Ar30, q30, S30, Nn30, H30, G30⟩ := V_b28
        have hin30 : ¬ ((0 : Int32) < 0 ∨ cl30.slots.size ≤ ((0 : Int32)).toNatClampNeg) := inb_of S30 ⟨by decide, by decide⟩
        obtain ⟨T30, h30, X30, e30, W30, st30⟩ := stC X28 hx hZ e28 Ar30 (j := (0 : Int32)) hin30 (g := (mkF m 89 #[.val (.int p0), .val (.int p1), .val (.int p2), .val (.int p3), .val (.int p4), .val (.int c1), .val (.int c2), .val (.int c3), .val (.int c4), .val (.int kk), .unset, .unset] [(.int c1), (.int (0 : Int32)), (.ref b28), (.ref b28)])) rfl rfl (hb hby at_89)
        replace V_b28 : Arv Z h30 b28 k28 .char (3 : Int32) [(.int (nar .char c1)), (.int (0 : Int32)), (.int (0 : Int32))] (.int (0 : Int32)) := Arv.set Ar30 q30 S30 Nn30 H30 G30 (fits_nar_char _) W30 0 rfl (Nat.le_of_ble_eq_true rfl)
        replace S_COMPACT_STRINGS := Sta.wr W30 S_COMPACT_STRINGS
        replace S_SIOOBE_FORMATTER := Sta.wr W30 S_SIOOBE_FORMATTER
        replace E_b28 := E_b28.wr W30
        have Z31 : n0 ≤ h30.size := Nat.le_trans Z29 (Keep.of_wr W30).1
        refine W.go st30 ?_
        have N30 := Fr.snoc X30 N4 g_b28
        show W p e below _ (T30.setTop (mkF m 90 #[.val (.int p0), .val (.int p1), .val (.int p2), .val (.int p3), .val (.int p4), .val (.int c1), .val (.int c2), .val (.int c3), .val (.int c4), .val (.int kk), .unset, .unset] [(.ref b28)]))
        refine W.go (fun _ hr => XS.dup X30.here hx rfl (hb hby at_90) rfl rfl hr) ?_
        show W p e below _ (T30.setTop (mkF m 91 #[.val (.int p0), .val (.int p1), .val (.int p2), .val (.int p3), .val (.int p4), .val (.int c1), .val (.int c2), .val (.int c3), .val (.int c4), .val (.int kk), .unset, .unset] [(.ref b28), (.ref b28)]))
        refine W.go (fun _ hr => XS.iconst X30.here hx rfl (hb hby at_91) hr) ?_
        show W p e below _ (T30.setTop (mkF m 92 #[.val (.int p0), .val (.int p1), .val (.int p2), .val (.int p3), .val (.int p4), .val (.int c1), .val (.int c2), .val (.int c3), .val (.int c4), .val (.int kk), .unset, .unset] [(.int (1 : Int32)), (.ref b28), (.ref b28)]))
        refine W.go (fun _ hr => XS.iload X30.here hx rfl (hb hby at_92) rfl hr) ?_
        show W p e below _ (T30.setTop (mkF m 94 #[.val (.int p0), .val (.int p1), .val (.int p2), .val (.int p3), .val (.int p4), .val (.int c1), .val (.int c2), .val (.int c3), .val (.int c4), .val (.int kk), .unset, .unset] [(.int c2), (.int (1 : Int32)), (.ref b28), (.ref b28)]))
        obtain ⟨cl32, Ar32, q32, S32, Nn32, H32, G32⟩ := V_b28
        have hin32 : ¬ ((1 : Int32) < 0 ∨ cl32.slots.size ≤ ((1 : Int32)).toNatClampNeg) := inb_of S32 ⟨by decide, by decide⟩
        obtain ⟨T32, h32, X32, e32, W32, st32⟩ := stC X30 hx hZ e30 Ar32 (j := (1 : Int32)) hin32 (g := (mkF m 94 #[.val (.int p0), .val (.int p1), .val (.int p2), .val (.int p3), .val (.int p4), .val (.int c1), .val (.int c2), .val (.int c3), .val (.int c4), .val (.int kk), .unset, .unset] [(.int c2), (.int (1 : Int32)), (.ref b28), (.ref b28)])) rfl rfl (hb hby at_94)
        replace V_b28 : Arv Z h32 b28 k28 .char (3 : Int32) [(.int (nar .char c1)), (.int (nar .char c2)), (.int (0 : Int32))] (.int (0 : Int32)) := Arv.set Ar32 q32 S32 Nn32 H32 G32 (fits_nar_char _) W32 1 rfl (Nat.le_of_ble_eq_true rfl)
        replace S_COMPACT_STRINGS := Sta.wr W32 S_COMPACT_STRINGS
        replace S_SIOOBE_FORMATTER := Sta.wr W32 S_SIOOBE_FORMATTER
        replace E_b28 := E_b28.wr W32
        have Z33 : n0 ≤ h32.size := Nat.le_trans Z31 (Keep.of_wr W32).1
        refine W.go st32 ?_
        have N32 := Fr.snoc X32 N30 g_b28
        show W p e below _ (T32.setTop (mkF m 95 #[.val (.int p0), .val (.int p1), .val (.int p2), .val (.int p3), .val (.int p4), .val (.int c1), .val (.int c2), .val (.int c3), .val (.int c4), .val (.int kk), .unset, .unset] [(.ref b28)]))
        refine W.go (fun _ hr => XS.dup X32.here hx rfl (hb hby at_95) rfl rfl hr) ?_
        show W p e below _ (T32.setTop (mkF m 96 #[.val (.int p0), .val (.int p1), .val (.int p2), .val (.int p3), .val (.int p4), .val (.int c1), .val (.int c2), .val (.int c3), .val (.int c4), .val (.int kk), .unset, .unset] [(.ref b28), (.ref b28)]))
        refine W.go (fun _ hr => XS.iconst X32.here hx rfl (hb hby at_96) hr) ?_
        show W p e below _ (T32.setTop (mkF m 97 #[.val (.int p0), .val (.int p1), .val (.int p2), .val (.int p3), .val (.int p4), .val (.int c1), .val (.int c2), .val (.int c3), .val (.int c4), .val (.int kk), .unset, .unset] [(.int (2 : Int32)), (.ref b28), (.ref b28)]))
        refine W.go (fun _ hr => XS.iload X32.here hx rfl (hb hby at_97) rfl hr) ?_
        show W p e below _ (T32.setTop (mkF m 99 #[.val (.int p0), .val (.int p1), .val (.int p2), .val (.int p3), .val (.int p4), .val (.int c1), .val (.int c2), .val (.int c3), .val (.int c4), .val (.int kk), .unset, .unset] [(.int c3), (.int (2 : Int32)), (.ref b28), (.ref b28)]))
        obtain ⟨cl34, Ar34, q34, S34, Nn34, H34, G34⟩ := V_b28
        have hin34 : ¬ ((2 : Int32) < 0 ∨ cl34.slots.size ≤ ((2 : Int32)).toNatClampNeg) := inb_of S34 ⟨by decide, by decide⟩
        obtain ⟨T34, h34, X34, e34, W34, st34⟩ := stC X32 hx hZ e32 Ar34 (j := (2 : Int32)) hin34 (g := (mkF m 99 #[.val (.int p0), .val (.int p1), .val (.int p2), .val (.int p3), .val (.int p4), .val (.int c1), .val (.int c2), .val (.int c3), .val (.int c4), .val (.int kk), .unset, .unset] [(.int c3), (.int (2 : Int32)), (.ref b28), (.ref b28)])) rfl rfl (hb hby at_99)
        replace V_b28 : Arv Z h34 b28 k28 .char (3 : Int32) [(.int (nar .char c1)), (.int (nar .char c2)), (.int (nar .char c3))] (.int (0 : Int32)) := Arv.set Ar34 q34 S34 Nn34 H34 G34 (fits_nar_char _) W34 2 rfl (Nat.le_of_ble_eq_true rfl)
        replace S_COMPACT_STRINGS := Sta.wr W34 S_COMPACT_STRINGS
        replace S_SIOOBE_FORMATTER := Sta.wr W34 S_SIOOBE_FORMATTER
        replace E_b28 := E_b28.wr W34
        have Z35 : n0 ≤ h34.size := Nat.le_trans Z33 (Keep.of_wr W34).1
        refine W.go st34 ?_
        have N34 := Fr.snoc X34 N32 g_b28
        show W p e below _ (T34.setTop (mkF m 100 #[.val (.int p0), .val (.int p1), .val (.int p2), .val (.int p3), .val (.int p4), .val (.int c1), .val (.int c2), .val (.int c3), .val (.int c4), .val (.int kk), .unset, .unset] [(.ref b28)]))
        refine W.go (fun _ hr => XS.astore X34.here hx rfl (hb hby at_100) rfl rfl (l' := #[.val (.int p0), .val (.int p1), .val (.int p2), .val (.int p3), .val (.int p4), .val (.int c1), .val (.int c2), .val (.int c3), .val (.int c4), .val (.int kk), .val (.ref b28), .unset]) rfl hr) ?_
        show W p e below _ (T34.setTop (mkF m 102 #[.val (.int p0), .val (.int p1), .val (.int p2), .val (.int p3), .val (.int p4), .val (.int c1), .val (.int c2), .val (.int c3), .val (.int c4), .val (.int kk), .val (.ref b28), .unset] []))
        refine W.go (fun _ hr => XS.goto X34.here hx rfl (pc0 := 102) (pc' := 910) rfl (hb hby at_102) (by decide) (by decide) hr) ?_
        show W p e below _ (T34.setTop (mkF m 910 #[.val (.int p0), .val (.int p1), .val (.int p2), .val (.int p3), .val (.int p4), .val (.int c1), .val (.int c2), .val (.int c3), .val (.int c4), .val (.int kk), .val (.ref b28), .unset] []))
        obtain ⟨T36, h36, X36, e36, E36, E_b36, D36, U36, st36⟩ := newO X34 hx hZ hown (hw _ (List.mem_of_getElem? (i := 6) rfl)) (hw _ (List.mem_of_getElem? (i := 7) rfl)) (hw _ (List.mem_of_getElem? (i := 8) rfl)) e34 (g := (mkF m 910 #[.val (.int p0), .val (.int p1), .val (.int p2), .val (.int p3), .val (.int p4), .val (.int c1), .val (.int c2), .val (.int c3), .val (.int c4), .val (.int kk), .val (.ref b28), .unset] [])) rfl (hb hby at_910) (by decide) (by decide)
        obtain ⟨b36, g36⟩ : ∃ z, z = h34.size := ⟨_, rfl⟩
        rw [← g36] at E_b36 D36 U36 st36
        have ne_b28_b36 : b28 ≠ b36 := Nat.ne_of_lt (Nat.lt_of_lt_of_le E_b28.lt (Nat.le_of_eq g36.symm))
        have g_b36 : n0 ≤ b36 := Nat.le_trans Z35 (Nat.le_of_eq g36.symm)
        replace S_COMPACT_STRINGS := Sta.ext E36 S_COMPACT_STRINGS
        replace S_SIOOBE_FORMATTER := Sta.ext E36 S_SIOOBE_FORMATTER
        replace E_b28 := E_b28.ext E36
        replace V_b28 := V_b28.ext E36
        have Z37 : n0 ≤ h36.size := Nat.le_trans Z35 E36.1
        have F_coder_b36 : Fld Z h36 b36 "java/lang/String" "coder" "B" (.int (0 : Int32)) := D36 (Or.inr (hw _ (List.mem_of_getElem? (i := 32) rfl))) (ty := .byte) (by decide)
        have F_value_b36 : Fld Z h36 b36 "java/lang/String" "value" "[B" .null := D36 (Or.inr (hw _ (List.mem_of_getElem? (i := 34) rfl))) (ty := (.array .byte)) (by decide)
        refine W.go st36 ?_
        show W p e below _ (T36.setTop (mkF m 913 #[.val (.int p0), .val (.int p1), .val (.int p2), .val (.int p3), .val (.int p4), .val (.int c1), .val (.int c2), .val (.int c3), .val (.int c4), .val (.int kk), .val (.ref b28), .unset] [(.ref b36)]))
        refine W.go (fun _ hr => XS.dup X36.here hx rfl (hb hby at_913) rfl rfl hr) ?_
        show W p e below _ (T36.setTop (mkF m 914 #[.val (.int p0), .val (.int p1), .val (.int p2), .val (.int p3), .val (.int p4), .val (.int c1), .val (.int c2), .val (.int c3), .val (.int c4), .val (.int kk), .val (.ref b28), .unset] [(.ref b36), (.ref b36)]))
        refine W.go (fun _ hr => XS.aload X36.here hx rfl (hb hby at_914) rfl rfl hr) ?_
        show W p e below _ (T36.setTop (mkF m 916 #[.val (.int p0), .val (.int p1), .val (.int p2), .val (.int p3), .val (.int p4), .val (.int c1), .val (.int c2), .val (.int c3), .val (.int c4), .val (.int kk), .val (.ref b28), .unset] [(.ref b28), (.ref b36), (.ref b36)]))
        obtain ⟨cs38, ecs38⟩ : ∃ z : List Int32, z = [(nar .char c1), (nar .char c2), (nar .char c3)] := ⟨_, rfl⟩
        have lcs38 : cs38.length = 3 := by rw [ecs38]; rfl
        have Vcs38 : Arv Z h36 b28 k28 .char (3 : Int32) (cs38.map Value.int) (.int (0 : Int32)) := by rw [ecs38]; exact V_b28
        have hlat38 : ∀ c ∈ cs38, own_ok c := by
          rw [ecs38]
          intro c hc
          simp only [List.mem_cons, List.not_mem_nil, or_false] at hc
          rcases hc with rfl | rfl | rfl
          · exact okn1
          · exact okn2
          · exact okn3
        refine W.callIK X36 hx hZ hown (g := (mkF m 916 #[.val (.int p0), .val (.int p1), .val (.int p2), .val (.int p3), .val (.int p4), .val (.int c1), .val (.int c2), .val (.int c3), .val (.int c4), .val (.int kk), .val (.ref b28), .unset] [(.ref b28), (.ref b36), (.ref b36)])) (by rw [hml]; rfl) (hw _ (List.mem_of_getElem? (i := 9) rfl)) (hw _ (List.mem_of_getElem? (i := 10) rfl)) (hw _ (List.mem_of_getElem? (i := 11) rfl)) e36 (StrChars.Road.backV (W := 1) hZ (fun d hd => hw d (own_ws d hd)) (kI := 4) (hw _ (List.mem_of_getElem? (i := 7) rfl)) (cs := cs38) (bs := cs38.map fun c => c.toInt8.toInt32) (n := 3) g_b36 Z37 E_b36 F_value_b36 F_coder_b36 Vcs38 S_COMPACT_STRINGS hCS lcs38 rfl (by decide) (by decide) (fun c hc => own_ok_lat (hlat38 c hc)) rfl (by decide) (by decide)) rfl (by decide) pd_171 rfl (b := b36) (argsL := [(.ref b28)]) (rest := [(.ref b36)]) rfl rfl rfl (hb hby at_916) (W0 := 1) rfl (by decide) (by decide) (fun v38 T38 h38 L38 X38 e38 hQ38 => ?_)
        obtain ⟨rfl, N38q, K38, Ee38, Fc38, t38, kb38, gt38, st38, nt38, Fv38, V_t38⟩ := hQ38
        have N38 := Fr.app N34 N38q
        have ne_b28_t38 : b28 ≠ t38 := Nat.ne_of_lt (Nat.lt_of_lt_of_le E_b28.lt st38)
        have ne_b36_t38 : b36 ≠ t38 := Nat.ne_of_lt (Nat.lt_of_lt_of_le E_b36.lt st38)
        have g_t38 : n0 ≤ t38 := Nat.le_trans Z37 st38
        have nsK38 := (nsS E_b36.nostat ns0)
        replace S_COMPACT_STRINGS := Sta.keep S_COMPACT_STRINGS K38 nsK38
        replace S_SIOOBE_FORMATTER := Sta.keep S_SIOOBE_FORMATTER K38 nsK38
        replace E_b28 := E_b28.keep K38
        replace V_b28 := V_b28.keep K38 (ninS ne_b28_b36 nin0)
        replace E_b36 := E_b36.keep K38
        have Z39 : n0 ≤ h38.size := Nat.le_trans Z37 K38.1
        have F_value_b36 := Fv38
        have F_coder_b36 := Fc38
        show W p e below _ (T38.setTop (mkF m 919 #[.val (.int p0), .val (.int p1), .val (.int p2), .val (.int p3), .val (.int p4), .val (.int c1), .val (.int c2), .val (.int c3), .val (.int c4), .val (.int kk), .val (.ref b28), .unset] [(.ref b36)]))
        refine W.go (fun _ hr => XS.astore X38.here hx rfl (hb hby at_919) rfl rfl (l' := #[.val (.int p0), .val (.int p1), .val (.int p2), .val (.int p3), .val (.int p4), .val (.int c1), .val (.int c2), .val (.int c3), .val (.int c4), .val (.int kk), .val (.ref b28), .val (.ref b36)]) rfl hr) ?_
        show W p e below _ (T38.setTop (mkF m 921 #[.val (.int p0), .val (.int p1), .val (.int p2), .val (.int p3), .val (.int p4), .val (.int c1), .val (.int c2), .val (.int c3), .val (.int c4), .val (.int kk), .val (.ref b28), .val (.ref b36)] []))
        refine W.go (fun _ hr => XS.aload X38.here hx rfl (hb hby at_921) rfl rfl hr) ?_
        show W p e below _ (T38.setTop (mkF m 923 #[.val (.int p0), .val (.int p1), .val (.int p2), .val (.int p3), .val (.int p4), .val (.int c1), .val (.int c2), .val (.int c3), .val (.int c4), .val (.int kk), .val (.ref b28), .val (.ref b36)] [(.ref b36)]))
        refine W.callS X38 hx hZ hown (g := (mkF m 923 #[.val (.int p0), .val (.int p1), .val (.int p2), .val (.int p3), .val (.int p4), .val (.int c1), .val (.int c2), .val (.int c3), .val (.int c4), .val (.int kk), .val (.ref b28), .val (.ref b36)] [(.ref b36)])) (by rw [hml]; rfl) (hw _ (List.mem_of_getElem? (i := 35) rfl)) (hw _ (List.mem_of_getElem? (i := 36) rfl)) (hw _ (List.mem_of_getElem? (i := 37) rfl)) (hw _ (List.mem_of_getElem? (i := 38) rfl)) e38 (rm8 l Z a0 hw b36 t38 kb38 (3 : Int32) ((cs38.map fun c => c.toInt8.toInt32).map Value.int) (.int (0 : Int32)) zCS wSF h38 n0 Z39 E_b36 F_value_b36 F_coder_b36 V_t38 S_COMPACT_STRINGS hCS S_SIOOBE_FORMATTER hSF (by decide) (own_all cs38 (by rw [lcs38]; rfl) hlat38)) (by decide) pd_172 rfl (argsL := [(.ref b36)]) (rest := []) rfl rfl rfl (hb hby at_923) (W0 := 0) rfl (by decide) (by decide) (by decide) (by decide) (fun v40 T40 h40 L40 X40 e40 hQ40 => ?_)
        obtain ⟨rfl, N40q, hh40⟩ := hQ40
        obtain rfl := hh40.symm
        have N40 := Fr.app N38 N40q
        show W p e below _ (T40.setTop (mkF m 926 #[.val (.int p0), .val (.int p1), .val (.int p2), .val (.int p3), .val (.int p4), .val (.int c1), .val (.int c2), .val (.int c3), .val (.int c4), .val (.int kk), .val (.ref b28), .val (.ref b36)] []))
        refine W.go (fun _ hr => XS.iconst X40.here hx rfl (hb hby at_926) hr) ?_
        show W p e below _ (T40.setTop (mkF m 927 #[.val (.int p0), .val (.int p1), .val (.int p2), .val (.int p3), .val (.int p4), .val (.int c1), .val (.int c2), .val (.int c3), .val (.int c4), .val (.int kk), .val (.ref b28), .val (.ref b36)] [(.int (1 : Int32))]))
        exact W.retB X40 hx hlk (t := .boolean) hret (by simp) (hb hby at_927) (by decide) (by decide) e40 ⟨rfl, N40⟩
      · refine W.go (fun _ hr => XS.icmpYes X4.here hx rfl (pc0 := 79) (pc' := 105) rfl (hb hby at_79) rfl (feq hc79_27).2 (by decide) (by decide) hr) ?_
        show W p e below _ (T4.setTop (mkF m 105 #[.val (.int p0), .val (.int p1), .val (.int p2), .val (.int p3), .val (.int p4), .val (.int c1), .val (.int c2), .val (.int c3), .val (.int c4), .val (.int kk), .unset, .unset] []))
        refine W.go (fun _ hr => XS.iload X4.here hx rfl (hb hby at_105) rfl hr) ?_
        show W p e below _ (T4.setTop (mkF m 107 #[.val (.int p0), .val (.int p1), .val (.int p2), .val (.int p3), .val (.int p4), .val (.int c1), .val (.int c2), .val (.int c3), .val (.int c4), .val (.int kk), .unset, .unset] [(.int kk)]))
        refine W.go (fun _ hr => XS.iconst X4.here hx rfl (hb hby at_107) hr) ?_
        show W p e below _ (T4.setTop (mkF m 108 #[.val (.int p0), .val (.int p1), .val (.int p2), .val (.int p3), .val (.int p4), .val (.int c1), .val (.int c2), .val (.int c3), .val (.int c4), .val (.int kk), .unset, .unset] [(.int (3 : Int32)), (.int kk)]))
        by_cases hc108_41 : kk = (3 : Int32)
        · refine W.go (fun _ hr => XS.icmpNo X4.here hx rfl (hb hby at_108) rfl (teq hc108_41).2 hr) ?_
          show W p e below _ (T4.setTop (mkF m 111 #[.val (.int p0), .val (.int p1), .val (.int p2), .val (.int p3), .val (.int p4), .val (.int c1), .val (.int c2), .val (.int c3), .val (.int c4), .val (.int kk), .unset, .unset] []))
          refine W.go (fun _ hr => XS.iconst X4.here hx rfl (hb hby at_111) hr) ?_
          show W p e below _ (T4.setTop (mkF m 112 #[.val (.int p0), .val (.int p1), .val (.int p2), .val (.int p3), .val (.int p4), .val (.int c1), .val (.int c2), .val (.int c3), .val (.int c4), .val (.int kk), .unset, .unset] [(.int (4 : Int32))]))
          obtain ⟨T42, h42, k42, X42, e42, E42, A42, E_b42, st42⟩ := newPE X4 hx hZ (hw _ (List.mem_of_getElem? (i := 5) rfl)) e4 (g := (mkF m 112 #[.val (.int p0), .val (.int p1), .val (.int p2), .val (.int p3), .val (.int p4), .val (.int c1), .val (.int c2), .val (.int c3), .val (.int c4), .val (.int kk), .unset, .unset] [(.int (4 : Int32))])) rfl (hb hby at_112) rfl (by decide) (cap := 4) (by decide) (by decide) (by decide) (by decide) (ad := "[C") (by decide)
          obtain ⟨b42, g42⟩ : ∃ z, z = h0.size := ⟨_, rfl⟩
          rw [← g42] at A42 E_b42 st42
          have g_b42 : n0 ≤ b42 := Nat.le_trans Z0 (Nat.le_of_eq g42.symm)
          replace S_COMPACT_STRINGS := Sta.ext E42 S_COMPACT_STRINGS
          replace S_SIOOBE_FORMATTER := Sta.ext E42 S_SIOOBE_FORMATTER
          have Z43 : n0 ≤ h42.size := Nat.le_trans Z0 E42.1
          have V_b42 : Arv Z h42 b42 k42 .char (4 : Int32) [(.int (0 : Int32)), (.int (0 : Int32)), (.int (0 : Int32)), (.int (0 : Int32))] (.int (0 : Int32)) := (Arv.new A42 (by decide)).pad (pad_rep [] (.int (0 : Int32)) 4)
          refine W.go st42 ?_
          show W p e below _ (T42.setTop (mkF m 114 #[.val (.int p0), .val (.int p1), .val (.int p2), .val (.int p3), .val (.int p4), .val (.int c1), .val (.int c2), .val (.int c3), .val (.int c4), .val (.int kk), .unset, .unset] [(.ref b42)]))
          refine W.go (fun _ hr => XS.dup X42.here hx rfl (hb hby at_114) rfl rfl hr) ?_
          show W p e below _ (T42.setTop (mkF m 115 #[.val (.int p0), .val (.int p1), .val (.int p2), .val (.int p3), .val (.int p4), .val (.int c1), .val (.int c2), .val (.int c3), .val (.int c4), .val (.int kk), .unset, .unset] [(.ref b42), (.ref b42)]))
          refine W.go (fun _ hr => XS.iconst X42.here hx rfl (hb hby at_115) hr) ?_
          show W p e below _ (T42.setTop (mkF m 116 #[.val (.int p0), .val (.int p1), .val (.int p2), .val (.int p3), .val (.int p4), .val (.int c1), .val (.int c2), .val (.int c3), .val (.int c4), .val (.int kk), .unset, .unset] [(.int (0 : Int32)), (.ref b42), (.ref b42)]))
          refine W.go (fun _ hr => XS.iload X42.here hx rfl (hb hby at_116) rfl hr) ?_
          show W p e below _ (T42.setTop (mkF m 118 #[.val (.int p0), .val (.int p1), .val (.int p2), .val (.int p3), .val (.int p4), .val (.int c1), .val (.int c2), .val (.int c3), .val (.int c4), .val (.int kk), .unset, .unset] [(.int c1), (.int (0 : Int32)), (.ref b42), (.ref b42)]))
          obtain ⟨cl44, Ar44, q44, S44, Nn44, H44, G44⟩ := V_b42
          have hin44 : ¬ ((0 : Int32) < 0 ∨ cl44.slots.size ≤ ((0 : Int32)).toNatClampNeg) := inb_of S44 ⟨by decide, by decide⟩
          obtain ⟨T44, h44, X44, e44, W44, st44⟩ := stC X42 hx hZ e42 Ar44 (j := (0 : Int32)) hin44 (g := (mkF m 118 #[.val (.int p0), .val (.int p1), .val (.int p2), .val (.int p3), .val (.int p4), .val (.int c1), .val (.int c2), .val (.int c3), .val (.int c4), .val (.int kk), .unset, .unset] [(.int c1), (.int (0 : Int32)), (.ref b42), (.ref b42)])) rfl rfl (hb hby at_118)
          replace V_b42 : Arv Z h44 b42 k42 .char (4 : Int32) [(.int (nar .char c1)), (.int (0 : Int32)), (.int (0 : Int32)), (.int (0 : Int32))] (.int (0 : Int32)) := Arv.set Ar44 q44 S44 Nn44 H44 G44 (fits_nar_char _) W44 0 rfl (Nat.le_of_ble_eq_true rfl)
          replace S_COMPACT_STRINGS := Sta.wr W44 S_COMPACT_STRINGS
          replace S_SIOOBE_FORMATTER := Sta.wr W44 S_SIOOBE_FORMATTER
          replace E_b42 := E_b42.wr W44
          have Z45 : n0 ≤ h44.size := Nat.le_trans Z43 (Keep.of_wr W44).1
          refine W.go st44 ?_
          have N44 := Fr.snoc X44 N4 g_b42
          show W p e below _ (T44.setTop (mkF m 119 #[.val (.int p0), .val (.int p1), .val (.int p2), .val (.int p3), .val (.int p4), .val (.int c1), .val (.int c2), .val (.int c3), .val (.int c4), .val (.int kk), .unset, .unset] [(.ref b42)]))
          refine W.go (fun _ hr => XS.dup X44.here hx rfl (hb hby at_119) rfl rfl hr) ?_
          show W p e below _ (T44.setTop (mkF m 120 #[.val (.int p0), .val (.int p1), .val (.int p2), .val (.int p3), .val (.int p4), .val (.int c1), .val (.int c2), .val (.int c3), .val (.int c4), .val (.int kk), .unset, .unset] [(.ref b42), (.ref b42)]))
          refine W.go (fun _ hr => XS.iconst X44.here hx rfl (hb hby at_120) hr) ?_
          show W p e below _ (T44.setTop (mkF m 121 #[.val (.int p0), .val (.int p1), .val (.int p2), .val (.int p3), .val (.int p4), .val (.int c1), .val (.int c2), .val (.int c3), .val (.int c4), .val (.int kk), .unset, .unset] [(.int (1 : Int32)), (.ref b42), (.ref b42)]))
          refine W.go (fun _ hr => XS.iload X44.here hx rfl (hb hby at_121) rfl hr) ?_
          show W p e below _ (T44.setTop (mkF m 123 #[.val (.int p0), .val (.int p1), .val (.int p2), .val (.int p3), .val (.int p4), .val (.int c1), .val (.int c2), .val (.int c3), .val (.int c4), .val (.int kk), .unset, .unset] [(.int c2), (.int (1 : Int32)), (.ref b42), (.ref b42)]))
          obtain ⟨cl46, Ar46, q46, S46, Nn46, H46, G46⟩ := V_b42
          have hin46 : ¬ ((1 : Int32) < 0 ∨ cl46.slots.size ≤ ((1 : Int32)).toNatClampNeg) := inb_of S46 ⟨by decide, by decide⟩
          obtain ⟨T46, h46, X46, e46, W46, st46⟩ := stC X44 hx hZ e44 Ar46 (j := (1 : Int32)) hin46 (g := (mkF m 123 #[.val (.int p0), .val (.int p1), .val (.int p2), .val (.int p3), .val (.int p4), .val (.int c1), .val (.int c2), .val (.int c3), .val (.int c4), .val (.int kk), .unset, .unset] [(.int c2), (.int (1 : Int32)), (.ref b42), (.ref b42)])) rfl rfl (hb hby at_123)
          replace V_b42 : Arv Z h46 b42 k42 .char (4 : Int32) [(.int (nar .char c1)), (.int (nar .char c2)), (.int (0 : Int32)), (.int (0 : Int32))] (.int (0 : Int32)) := Arv.set Ar46 q46 S46 Nn46 H46 G46 (fits_nar_char _) W46 1 rfl (Nat.le_of_ble_eq_true rfl)
          replace S_COMPACT_STRINGS := Sta.wr W46 S_COMPACT_STRINGS
          replace S_SIOOBE_FORMATTER := Sta.wr W46 S_SIOOBE_FORMATTER
          replace E_b42 := E_b42.wr W46
          have Z47 : n0 ≤ h46.size := Nat.le_trans Z45 (Keep.of_wr W46).1
          refine W.go st46 ?_
          have N46 := Fr.snoc X46 N44 g_b42
          show W p e below _ (T46.setTop (mkF m 124 #[.val (.int p0), .val (.int p1), .val (.int p2), .val (.int p3), .val (.int p4), .val (.int c1), .val (.int c2), .val (.int c3), .val (.int c4), .val (.int kk), .unset, .unset] [(.ref b42)]))
          refine W.go (fun _ hr => XS.dup X46.here hx rfl (hb hby at_124) rfl rfl hr) ?_
          show W p e below _ (T46.setTop (mkF m 125 #[.val (.int p0), .val (.int p1), .val (.int p2), .val (.int p3), .val (.int p4), .val (.int c1), .val (.int c2), .val (.int c3), .val (.int c4), .val (.int kk), .unset, .unset] [(.ref b42), (.ref b42)]))
          refine W.go (fun _ hr => XS.iconst X46.here hx rfl (hb hby at_125) hr) ?_
          show W p e below _ (T46.setTop (mkF m 126 #[.val (.int p0), .val (.int p1), .val (.int p2), .val (.int p3), .val (.int p4), .val (.int c1), .val (.int c2), .val (.int c3), .val (.int c4), .val (.int kk), .unset, .unset] [(.int (2 : Int32)), (.ref b42), (.ref b42)]))
          refine W.go (fun _ hr => XS.iload X46.here hx rfl (hb hby at_126) rfl hr) ?_
          show W p e below _ (T46.setTop (mkF m 128 #[.val (.int p0), .val (.int p1), .val (.int p2), .val (.int p3), .val (.int p4), .val (.int c1), .val (.int c2), .val (.int c3), .val (.int c4), .val (.int kk), .unset, .unset] [(.int c3), (.int (2 : Int32)), (.ref b42), (.ref b42)]))
          obtain ⟨cl48, Ar48, q48, S48, Nn48, H48, G48⟩ := V_b42
          have hin48 : ¬ ((2 : Int32) < 0 ∨ cl48.slots.size ≤ ((2 : Int32)).toNatClampNeg) := inb_of S48 ⟨by decide, by decide⟩
          obtain ⟨T48, h48, X48, e48, W48, st48⟩ := stC X46 hx hZ e46 Ar48 (j := (2 : Int32)) hin48 (g := (mkF m 128 #[.val (.int p0), .val (.int p1), .val (.int p2), .val (.int p3), .val (.int p4), .val (.int c1), .val (.int c2), .val (.int c3), .val (.int c4), .val (.int kk), .unset, .unset] [(.int c3), (.int (2 : Int32)), (.ref b42), (.ref b42)])) rfl rfl (hb hby at_128)
          replace V_b42 : Arv Z h48 b42 k42 .char (4 : Int32) [(.int (nar .char c1)), (.int (nar .char c2)), (.int (nar .char c3)), (.int (0 : Int32))] (.int (0 : Int32)) := Arv.set Ar48 q48 S48 Nn48 H48 G48 (fits_nar_char _) W48 2 rfl (Nat.le_of_ble_eq_true rfl)
          replace S_COMPACT_STRINGS := Sta.wr W48 S_COMPACT_STRINGS
          replace S_SIOOBE_FORMATTER := Sta.wr W48 S_SIOOBE_FORMATTER
          replace E_b42 := E_b42.wr W48
          have Z49 : n0 ≤ h48.size := Nat.le_trans Z47 (Keep.of_wr W48).1
          refine W.go st48 ?_
          have N48 := Fr.snoc X48 N46 g_b42
          show W p e below _ (T48.setTop (mkF m 129 #[.val (.int p0), .val (.int p1), .val (.int p2), .val (.int p3), .val (.int p4), .val (.int c1), .val (.int c2), .val (.int c3), .val (.int c4), .val (.int kk), .unset, .unset] [(.ref b42)]))
          refine W.go (fun _ hr => XS.dup X48.here hx rfl (hb hby at_129) rfl rfl hr) ?_
          show W p e below _ (T48.setTop (mkF m 130 #[.val (.int p0), .val (.int p1), .val (.int p2), .val (.int p3), .val (.int p4), .val (.int c1), .val (.int c2), .val (.int c3), .val (.int c4), .val (.int kk), .unset, .unset] [(.ref b42), (.ref b42)]))
          refine W.go (fun _ hr => XS.iconst X48.here hx rfl (hb hby at_130) hr) ?_
          show W p e below _ (T48.setTop (mkF m 131 #[.val (.int p0), .val (.int p1), .val (.int p2), .val (.int p3), .val (.int p4), .val (.int c1), .val (.int c2), .val (.int c3), .val (.int c4), .val (.int kk), .unset, .unset] [(.int (3 : Int32)), (.ref b42), (.ref b42)]))
          refine W.go (fun _ hr => XS.iload X48.here hx rfl (hb hby at_131) rfl hr) ?_
          show W p e below _ (T48.setTop (mkF m 133 #[.val (.int p0), .val (.int p1), .val (.int p2), .val (.int p3), .val (.int p4), .val (.int c1), .val (.int c2), .val (.int c3), .val (.int c4), .val (.int kk), .unset, .unset] [(.int c4), (.int (3 : Int32)), (.ref b42), (.ref b42)]))
          obtain ⟨cl50, Ar50, q50, S50, Nn50, H50, G50⟩ := V_b42
          have hin50 : ¬ ((3 : Int32) < 0 ∨ cl50.slots.size ≤ ((3 : Int32)).toNatClampNeg) := inb_of S50 ⟨by decide, by decide⟩
          obtain ⟨T50, h50, X50, e50, W50, st50⟩ := stC X48 hx hZ e48 Ar50 (j := (3 : Int32)) hin50 (g := (mkF m 133 #[.val (.int p0), .val (.int p1), .val (.int p2), .val (.int p3), .val (.int p4), .val (.int c1), .val (.int c2), .val (.int c3), .val (.int c4), .val (.int kk), .unset, .unset] [(.int c4), (.int (3 : Int32)), (.ref b42), (.ref b42)])) rfl rfl (hb hby at_133)
          replace V_b42 : Arv Z h50 b42 k42 .char (4 : Int32) [(.int (nar .char c1)), (.int (nar .char c2)), (.int (nar .char c3)), (.int (nar .char c4))] (.int (0 : Int32)) := Arv.set Ar50 q50 S50 Nn50 H50 G50 (fits_nar_char _) W50 3 rfl (Nat.le_of_ble_eq_true rfl)
          replace S_COMPACT_STRINGS := Sta.wr W50 S_COMPACT_STRINGS
          replace S_SIOOBE_FORMATTER := Sta.wr W50 S_SIOOBE_FORMATTER
          replace E_b42 := E_b42.wr W50
          have Z51 : n0 ≤ h50.size := Nat.le_trans Z49 (Keep.of_wr W50).1
          refine W.go st50 ?_
          have N50 := Fr.snoc X50 N48 g_b42
          show W p e below _ (T50.setTop (mkF m 134 #[.val (.int p0), .val (.int p1), .val (.int p2), .val (.int p3), .val (.int p4), .val (.int c1), .val (.int c2), .val (.int c3), .val (.int c4), .val (.int kk), .unset, .unset] [(.ref b42)]))
          refine W.go (fun _ hr => XS.astore X50.here hx rfl (hb hby at_134) rfl rfl (l' := #[.val (.int p0), .val (.int p1), .val (.int p2), .val (.int p3), .val (.int p4), .val (.int c1), .val (.int c2), .val (.int c3), .val (.int c4), .val (.int kk), .val (.ref b42), .unset]) rfl hr) ?_
          show W p e below _ (T50.setTop (mkF m 136 #[.val (.int p0), .val (.int p1), .val (.int p2), .val (.int p3), .val (.int p4), .val (.int c1), .val (.int c2), .val (.int c3), .val (.int c4), .val (.int kk), .val (.ref b42), .unset] []))
          refine W.go (fun _ hr => XS.goto X50.here hx rfl (pc0 := 136) (pc' := 910) rfl (hb hby at_136) (by decide) (by decide) hr) ?_
          show W p e below _ (T50.setTop (mkF m 910 #[.val (.int p0), .val (.int p1), .val (.int p2), .val (.int p3), .val (.int p4), .val (.int c1), .val (.int c2), .val (.int c3), .val (.int c4), .val (.int kk), .val (.ref b42), .unset] []))
          obtain ⟨T52, h52, X52, e52, E52, E_b52, D52, U52, st52⟩ := newO X50 hx hZ hown (hw _ (List.mem_of_getElem? (i := 6) rfl)) (hw _ (List.mem_of_getElem? (i := 7) rfl)) (hw _ (List.mem_of_getElem? (i := 8) rfl)) e50 (g := (mkF m 910 #[.val (.int p0), .val (.int p1), .val (.int p2), .val (.int p3), .val (.int p4), .val (.int c1), .val (.int c2), .val (.int c3), .val (.int c4), .val (.int kk), .val (.ref b42), .unset] [])) rfl (hb hby at_910) (by decide) (by decide)
          obtain ⟨b52, g52⟩ : ∃ z, z = h50.size := ⟨_, rfl⟩
          rw [← g52] at E_b52 D52 U52 st52
          have ne_b42_b52 : b42 ≠ b52 := Nat.ne_of_lt (Nat.lt_of_lt_of_le E_b42.lt (Nat.le_of_eq g52.symm))
          have g_b52 : n0 ≤ b52 := Nat.le_trans Z51 (Nat.le_of_eq g52.symm)
          replace S_COMPACT_STRINGS := Sta.ext E52 S_COMPACT_STRINGS
          replace S_SIOOBE_FORMATTER := Sta.ext E52 S_SIOOBE_FORMATTER
          replace E_b42 := E_b42.ext E52
          replace V_b42 := V_b42.ext E52
          have Z53 : n0 ≤ h52.size := Nat.le_trans Z51 E52.1
          have F_coder_b52 : Fld Z h52 b52 "java/lang/String" "coder" "B" (.int (0 : Int32)) := D52 (Or.inr (hw _ (List.mem_of_getElem? (i := 32) rfl))) (ty := .byte) (by decide)
          have F_value_b52 : Fld Z h52 b52 "java/lang/String" "value" "[B" .null := D52 (Or.inr (hw _ (List.mem_of_getElem? (i := 34) rfl))) (ty := (.array .byte)) (by decide)
          refine W.go st52 ?_
          show W p e below _ (T52.setTop (mkF m 913 #[.val (.int p0), .val (.int p1), .val (.int p2), .val (.int p3), .val (.int p4), .val (.int c1), .val (.int c2), .val (.int c3), .val (.int c4), .val (.int kk), .val (.ref b42), .unset] [(.ref b52)]))
          refine W.go (fun _ hr => XS.dup X52.here hx rfl (hb hby at_913) rfl rfl hr) ?_
          show W p e below _ (T52.setTop (mkF m 914 #[.val (.int p0), .val (.int p1), .val (.int p2), .val (.int p3), .val (.int p4), .val (.int c1), .val (.int c2), .val (.int c3), .val (.int c4), .val (.int kk), .val (.ref b42), .unset] [(.ref b52), (.ref b52)]))
          refine W.go (fun _ hr => XS.aload X52.here hx rfl (hb hby at_914) rfl rfl hr) ?_
          show W p e below _ (T52.setTop (mkF m 916 #[.val (.int p0), .val (.int p1), .val (.int p2), .val (.int p3), .val (.int p4), .val (.int c1), .val (.int c2), .val (.int c3), .val (.int c4), .val (.int kk), .val (.ref b42), .unset] [(.ref b42), (.ref b52), (.ref b52)]))
          obtain ⟨cs54, ecs54⟩ : ∃ z : List Int32, z = [(nar .char c1), (nar .char c2), (nar .char c3), (nar .char c4)] := ⟨_, rfl⟩
          have lcs54 : cs54.length = 4 := by rw [ecs54]; rfl
          have Vcs54 : Arv Z h52 b42 k42 .char (4 : Int32) (cs54.map Value.int) (.int (0 : Int32)) := by rw [ecs54]; exact V_b42
          have hlat54 : ∀ c ∈ cs54, own_ok c := by
            rw [ecs54]
            intro c hc
            simp only [List.mem_cons, List.not_mem_nil, or_false] at hc
            rcases hc with rfl | rfl | rfl | rfl
            · exact okn1
            · exact okn2
            · exact okn3
            · exact okn4
          refine W.callIK X52 hx hZ hown (g := (mkF m 916 #[.val (.int p0), .val (.int p1), .val (.int p2), .val (.int p3), .val (.int p4), .val (.int c1), .val (.int c2), .val (.int c3), .val (.int c4), .val (.int kk), .val (.ref b42), .unset] [(.ref b42), (.ref b52), (.ref b52)])) (by rw [hml]; rfl) (hw _ (List.mem_of_getElem? (i := 9) rfl)) (hw _ (List.mem_of_getElem? (i := 10) rfl)) (hw _ (List.mem_of_getElem? (i := 11) rfl)) e52 (StrChars.Road.backV (W := 1) hZ (fun d hd => hw d (own_ws d hd)) (kI := 4) (hw _ (List.mem_of_getElem? (i := 7) rfl)) (cs := cs54) (bs := cs54.map fun c => c.toInt8.toInt32) (n := 4) g_b52 Z53 E_b52 F_value_b52 F_coder_b52 Vcs54 S_COMPACT_STRINGS hCS lcs54 rfl (by decide) (by decide) (fun c hc => own_ok_lat (hlat54 c hc)) rfl (by decide) (by decide)) rfl (by decide) pd_171 rfl (b := b52) (argsL := [(.ref b42)]) (rest := [(.ref b52)]) rfl rfl rfl (hb hby at_916) (W0 := 1) rfl (by decide) (by decide) (fun v54 T54 h54 L54 X54 e54 hQ54 => ?_)
          obtain ⟨rfl, N54q, K54, Ee54, Fc54, t54, kb54, gt54, st54, nt54, Fv54, V_t54⟩ := hQ54
          have N54 := Fr.app N50 N54q
          have ne_b42_t54 : b42 ≠ t54 := Nat.ne_of_lt (Nat.lt_of_lt_of_le E_b42.lt st54)
          have ne_b52_t54 : b52 ≠ t54 := Nat.ne_of_lt (Nat.lt_of_lt_of_le E_b52.lt st54)
          have g_t54 : n0 ≤ t54 := Nat.le_trans Z53 st54
          have nsK54 := (nsS E_b52.nostat ns0)
          replace S_COMPACT_STRINGS := Sta.keep S_COMPACT_STRINGS K54 nsK54
          replace S_SIOOBE_FORMATTER := Sta.keep S_SIOOBE_FORMATTER K54 nsK54
          replace E_b42 := E_b42.keep K54
          replace V_b42 := V_b42.keep K54 (ninS ne_b42_b52 nin0)
          replace E_b52 := E_b52.keep K54
          have Z55 : n0 ≤ h54.size := Nat.le_trans Z53 K54.1
          have F_value_b52 := Fv54
          have F_coder_b52 := Fc54
          show W p e below _ (T54.setTop (mkF m 919 #[.val (.int p0), .val (.int p1), .val (.int p2), .val (.int p3), .val (.int p4), .val (.int c1), .val (.int c2), .val (.int c3), .val (.int c4), .val (.int kk), .val (.ref b42), .unset] [(.ref b52)]))
          refine W.go (fun _ hr => XS.astore X54.here hx rfl (hb hby at_919) rfl rfl (l' := #[.val (.int p0), .val (.int p1), .val (.int p2), .val (.int p3), .val (.int p4), .val (.int c1), .val (.int c2), .val (.int c3), .val (.int c4), .val (.int kk), .val (.ref b42), .val (.ref b52)]) rfl hr) ?_
          show W p e below _ (T54.setTop (mkF m 921 #[.val (.int p0), .val (.int p1), .val (.int p2), .val (.int p3), .val (.int p4), .val (.int c1), .val (.int c2), .val (.int c3), .val (.int c4), .val (.int kk), .val (.ref b42), .val (.ref b52)] []))
          refine W.go (fun _ hr => XS.aload X54.here hx rfl (hb hby at_921) rfl rfl hr) ?_
          show W p e below _ (T54.setTop (mkF m 923 #[.val (.int p0), .val (.int p1), .val (.int p2), .val (.int p3), .val (.int p4), .val (.int c1), .val (.int c2), .val (.int c3), .val (.int c4), .val (.int kk), .val (.ref b42), .val (.ref b52)] [(.ref b52)]))
          refine W.callS X54 hx hZ hown (g := (mkF m 923 #[.val (.int p0), .val (.int p1), .val (.int p2), .val (.int p3), .val (.int p4), .val (.int c1), .val (.int c2), .val (.int c3), .val (.int c4), .val (.int kk), .val (.ref b42), .val (.ref b52)] [(.ref b52)])) (by rw [hml]; rfl) (hw _ (List.mem_of_getElem? (i := 35) rfl)) (hw _ (List.mem_of_getElem? (i := 36) rfl)) (hw _ (List.mem_of_getElem? (i := 37) rfl)) (hw _ (List.mem_of_getElem? (i := 38) rfl)) e54 (rm8 l Z a0 hw b52 t54 kb54 (4 : Int32) ((cs54.map fun c => c.toInt8.toInt32).map Value.int) (.int (0 : Int32)) zCS wSF h54 n0 Z55 E_b52 F_value_b52 F_coder_b52 V_t54 S_COMPACT_STRINGS hCS S_SIOOBE_FORMATTER hSF (by decide) (own_all cs54 (by rw [lcs54]; rfl) hlat54)) (by decide) pd_172 rfl (argsL := [(.ref b52)]) (rest := []) rfl rfl rfl (hb hby at_923) (W0 := 0) rfl (by decide) (by decide) (by decide) (by decide) (fun v56 T56 h56 L56 X56 e56 hQ56 => ?_)
          obtain ⟨rfl, N56q, hh56⟩ := hQ56
          obtain rfl := hh56.symm
          have N56 := Fr.app N54 N56q
          show W p e below _ (T56.setTop (mkF m 926 #[.val (.int p0), .val (.int p1), .val (.int p2), .val (.int p3), .val (.int p4), .val (.int c1), .val (.int c2), .val (.int c3), .val (.int c4), .val (.int kk), .val (.ref b42), .val (.ref b52)] []))
          refine W.go (fun _ hr => XS.iconst X56.here hx rfl (hb hby at_926) hr) ?_
          show W p e below _ (T56.setTop (mkF m 927 #[.val (.int p0), .val (.int p1), .val (.int p2), .val (.int p3), .val (.int p4), .val (.int c1), .val (.int c2), .val (.int c3), .val (.int c4), .val (.int kk), .val (.ref b42), .val (.ref b52)] [(.int (1 : Int32))]))
          exact W.retB X56 hx hlk (t := .boolean) hret (by simp) (hb hby at_927) (by decide) (by decide) e56 ⟨rfl, N56⟩
        · refine W.go (fun _ hr => XS.icmpYes X4.here hx rfl (pc0 := 108) (pc' := 139) rfl (hb hby at_108) rfl (feq hc108_41).2 (by decide) (by decide) hr) ?_
          show W p e below _ (T4.setTop (mkF m 139 #[.val (.int p0), .val (.int p1), .val (.int p2), .val (.int p3), .val (.int p4), .val (.int c1), .val (.int c2), .val (.int c3), .val (.int c4), .val (.int kk), .unset, .unset] []))
          refine W.go (fun _ hr => XS.iload X4.here hx rfl (hb hby at_139) rfl hr) ?_
          show W p e below _ (T4.setTop (mkF m 141 #[.val (.int p0), .val (.int p1), .val (.int p2), .val (.int p3), .val (.int p4), .val (.int c1), .val (.int c2), .val (.int c3), .val (.int c4), .val (.int kk), .unset, .unset] [(.int kk)]))
          refine W.go (fun _ hr => XS.iconst X4.here hx rfl (hb hby at_141) hr) ?_
          show W p e below _ (T4.setTop (mkF m 142 #[.val (.int p0), .val (.int p1), .val (.int p2), .val (.int p3), .val (.int p4), .val (.int c1), .val (.int c2), .val (.int c3), .val (.int c4), .val (.int kk), .unset, .unset] [(.int (4 : Int32)), (.int kk)]))
          by_cases hc142_57 : kk = (4 : Int32)
          · refine W.go (fun _ hr => XS.icmpNo X4.here hx rfl (hb hby at_142) rfl (teq hc142_57).2 hr) ?_
            show W p e below _ (T4.setTop (mkF m 145 #[.val (.int p0), .val (.int p1), .val (.int p2), .val (.int p3), .val (.int p4), .val (.int c1), .val (.int c2), .val (.int c3), .val (.int c4), .val (.int kk), .unset, .unset] []))
            refine W.go (fun _ hr => XS.bipush X4.here hx rfl (hb hby at_145) hr) ?_
            show W p e below _ (T4.setTop (mkF m 147 #[.val (.int p0), .val (.int p1), .val (.int p2), .val (.int p3), .val (.int p4), .val (.int c1), .val (.int c2), .val (.int c3), .val (.int c4), .val (.int kk), .unset, .unset] [(.int (63 : Int32))]))
            obtain ⟨T58, h58, k58, X58, e58, E58, A58, E_b58, st58⟩ := newPE X4 hx hZ (hw _ (List.mem_of_getElem? (i := 5) rfl)) e4 (g := (mkF m 147 #[.val (.int p0), .val (.int p1), .val (.int p2), .val (.int p3), .val (.int p4), .val (.int c1), .val (.int c2), .val (.int c3), .val (.int c4), .val (.int kk), .unset, .unset] [(.int (63 : Int32))])) rfl (hb hby at_147) rfl (by decide) (cap := 63) (by decide) (by decide) (by decide) (by decide) (ad := "[C") (by decide)
            obtain ⟨b58, g58⟩ : ∃ z, z = h0.size := ⟨_, rfl⟩
            rw [← g58] at A58 E_b58 st58
            have g_b58 : n0 ≤ b58 := Nat.le_trans Z0 (Nat.le_of_eq g58.symm)
            replace S_COMPACT_STRINGS := Sta.ext E58 S_COMPACT_STRINGS
            replace S_SIOOBE_FORMATTER := Sta.ext E58 S_SIOOBE_FORMATTER
            have Z59 : n0 ≤ h58.size := Nat.le_trans Z0 E58.1
            have V_b58 : Arv Z h58 b58 k58 .char (63 : Int32) [(.int (0 : Int32)), (.int (0 : Int32)), (.int (0 : Int32)), (.int (0 : Int32)), (.int (0 : Int32)), (.int (0 : Int32)), (.int (0 : Int32)), (.int (0 : Int32)), (.int (0 : Int32)), (.int (0 : Int32)), (.int (0 : Int32)), (.int (0 : Int32)), (.int (0 : Int32)), (.int (0 : Int32)), (.int (0 : Int32)), (.int (0 : Int32)), (.int (0 : Int32)), (.int (0 : Int32)), (.int (0 : Int32)), (.int (0 : Int32)), (.int (0 : Int32)), (.int (0 : Int32)), (.int (0 : Int32)), (.int (0 : Int32)), (.int (0 : Int32)), (.int (0 : Int32)), (.int (0 : Int32)), (.int (0 : Int32)), (.int (0 : Int32)), (.int (0 : Int32)), (.int (0 : Int32)), (.int (0 : Int32)), (.int (0 : Int32)), (.int (0 : Int32)), (.int (0 : Int32)), (.int (0 : Int32)), (.int (0 : Int32)), (.int (0 : Int32)), (.int (0 : Int32)), (.int (0 : Int32)), (.int (0 : Int32)), (.int (0 : Int32)), (.int (0 : Int32)), (.int (0 : Int32)), (.int (0 : Int32)), (.int (0 : Int32)), (.int (0 : Int32)), (.int (0 : Int32)), (.int (0 : Int32)), (.int (0 : Int32)), (.int (0 : Int32)), (.int (0 : Int32)), (.int (0 : Int32)), (.int (0 : Int32)), (.int (0 : Int32)), (.int (0 : Int32)), (.int (0 : Int32)), (.int (0 : Int32)), (.int (0 : Int32)), (.int (0 : Int32)), (.int (0 : Int32)), (.int (0 : Int32)), (.int (0 : Int32))] (.int (0 : Int32)) := (Arv.new A58 (by decide)).pad (pad_rep [] (.int (0 : Int32)) 63)
            refine W.go st58 ?_
            show W p e below _ (T58.setTop (mkF m 149 #[.val (.int p0), .val (.int p1), .val (.int p2), .val (.int p3), .val (.int p4), .val (.int c1), .val (.int c2), .val (.int c3), .val (.int c4), .val (.int kk), .unset, .unset] [(.ref b58)]))
            refine W.go (fun _ hr => XS.dup X58.here hx rfl (hb hby at_149) rfl rfl hr) ?_
            show W p e below _ (T58.setTop (mkF m 150 #[.val (.int p0), .val (.int p1), .val (.int p2), .val (.int p3), .val (.int p4), .val (.int c1), .val (.int c2), .val (.int c3), .val (.int c4), .val (.int kk), .unset, .unset] [(.ref b58), (.ref b58)]))
            refine W.go (fun _ hr => XS.iconst X58.here hx rfl (hb hby at_150) hr) ?_
            show W p e below _ (T58.setTop (mkF m 151 #[.val (.int p0), .val (.int p1), .val (.int p2), .val (.int p3), .val (.int p4), .val (.int c1), .val (.int c2), .val (.int c3), .val (.int c4), .val (.int kk), .unset, .unset] [(.int (0 : Int32)), (.ref b58), (.ref b58)]))
            refine W.go (fun _ hr => XS.iload X58.here hx rfl (hb hby at_151) rfl hr) ?_
            show W p e below _ (T58.setTop (mkF m 153 #[.val (.int p0), .val (.int p1), .val (.int p2), .val (.int p3), .val (.int p4), .val (.int c1), .val (.int c2), .val (.int c3), .val (.int c4), .val (.int kk), .unset, .unset] [(.int c1), (.int (0 : Int32)), (.ref b58), (.ref b58)]))
            obtain ⟨cl60, Ar60, q60, S60, Nn60, H60, G60⟩ := V_b58
            have hin60 : ¬ ((0 : Int32) < 0 ∨ cl60.slots.size ≤ ((0 : Int32)).toNatClampNeg) := inb_of S60 ⟨by decide, by decide⟩
            obtain ⟨T60, h60, X60, e60, W60, st60⟩ := stC X58 hx hZ e58 Ar60 (j := (0 : Int32)) hin60 (g := (mkF m 153 #[.val (.int p0), .val (.int p1), .val (.int p2), .val (.int p3), .val (.int p4), .val (.int c1), .val (.int c2), .val (.int c3), .val (.int c4), .val (.int kk), .unset, .unset] [(.int c1), (.int (0 : Int32)), (.ref b58), (.ref b58)])) rfl rfl (hb hby at_153)
            replace V_b58 : Arv Z h60 b58 k58 .char (63 : Int32) [(.int (nar .char c1)), (.int (0 : Int32)), (.int (0 : Int32)), (.int (0 : Int32)), (.int (0 : Int32)), (.int (0 : Int32)), (.int (0 : Int32)), (.int (0 : Int32)), (.int (0 : Int32)), (.int (0 : Int32)), (.int (0 : Int32)), (.int (0 : Int32)), (.int (0 : Int32)), (.int (0 : Int32)), (.int (0 : Int32)), (.int (0 : Int32)), (.int (0 : Int32)), (.int (0 : Int32)), (.int (0 : Int32)), (.int (0 : Int32)), (.int (0 : Int32)), (.int (0 : Int32)), (.int (0 : Int32)), (.int (0 : Int32)), (.int (0 : Int32)), (.int (0 : Int32)), (.int (0 : Int32)), (.int (0 : Int32)), (.int (0 : Int32)), (.int (0 : Int32)), (.int (0 : Int32)), (.int (0 : Int32)), (.int (0 : Int32)), (.int (0 : Int32)), (.int (0 : Int32)), (.int (0 : Int32)), (.int (0 : Int32)), (.int (0 : Int32)), (.int (0 : Int32)), (.int (0 : Int32)), (.int (0 : Int32)), (.int (0 : Int32)), (.int (0 : Int32)), (.int (0 : Int32)), (.int (0 : Int32)), (.int (0 : Int32)), (.int (0 : Int32)), (.int (0 : Int32)), (.int (0 : Int32)), (.int (0 : Int32)), (.int (0 : Int32)), (.int (0 : Int32)), (.int (0 : Int32)), (.int (0 : Int32)), (.int (0 : Int32)), (.int (0 : Int32)), (.int (0 : Int32)), (.int (0 : Int32)), (.int (0 : Int32)), (.int (0 : Int32)), (.int (0 : Int32)), (.int (0 : Int32)), (.int (0 : Int32))] (.int (0 : Int32)) := Arv.set Ar60 q60 S60 Nn60 H60 G60 (fits_nar_char _) W60 0 rfl (Nat.le_of_ble_eq_true rfl)
            replace S_COMPACT_STRINGS := Sta.wr W60 S_COMPACT_STRINGS
            replace S_SIOOBE_FORMATTER := Sta.wr W60 S_SIOOBE_FORMATTER
            replace E_b58 := E_b58.wr W60
            have Z61 : n0 ≤ h60.size := Nat.le_trans Z59 (Keep.of_wr W60).1
            refine W.go st60 ?_
            have N60 := Fr.snoc X60 N4 g_b58
            show W p e below _ (T60.setTop (mkF m 154 #[.val (.int p0), .val (.int p1), .val (.int p2), .val (.int p3), .val (.int p4), .val (.int c1), .val (.int c2), .val (.int c3), .val (.int c4), .val (.int kk), .unset, .unset] [(.ref b58)]))
            refine W.go (fun _ hr => XS.dup X60.here hx rfl (hb hby at_154) rfl rfl hr) ?_
            show W p e below _ (T60.setTop (mkF m 155 #[.val (.int p0), .val (.int p1), .val (.int p2), .val (.int p3), .val (.int p4), .val (.int c1), .val (.int c2), .val (.int c3), .val (.int c4), .val (.int kk), .unset, .unset] [(.ref b58), (.ref b58)]))
            refine W.go (fun _ hr => XS.iconst X60.here hx rfl (hb hby at_155) hr) ?_
            show W p e below _ (T60.setTop (mkF m 156 #[.val (.int p0), .val (.int p1), .val (.int p2), .val (.int p3), .val (.int p4), .val (.int c1), .val (.int c2), .val (.int c3), .val (.int c4), .val (.int kk), .unset, .unset] [(.int (1 : Int32)), (.ref b58), (.ref b58)]))
            refine W.go (fun _ hr => XS.iload X60.here hx rfl (hb hby at_156) rfl hr) ?_
            show W p e below _ (T60.setTop (mkF m 158 #[.val (.int p0), .val (.int p1), .val (.int p2), .val (.int p3), .val (.int p4), .val (.int c1), .val (.int c2), .val (.int c3), .val (.int c4), .val (.int kk), .unset, .unset] [(.int c2), (.int (1 : Int32)), (.ref b58), (.ref b58)]))
            obtain ⟨cl62, Ar62, q62, S62, Nn62, H62, G62⟩ := V_b58
            have hin62 : ¬ ((1 : Int32) < 0 ∨ cl62.slots.size ≤ ((1 : Int32)).toNatClampNeg) := inb_of S62 ⟨by decide, by decide⟩
            obtain ⟨T62, h62, X62, e62, W62, st62⟩ := stC X60 hx hZ e60 Ar62 (j := (1 : Int32)) hin62 (g := (mkF m 158 #[.val (.int p0), .val (.int p1), .val (.int p2), .val (.int p3), .val (.int p4), .val (.int c1), .val (.int c2), .val (.int c3), .val (.int c4), .val (.int kk), .unset, .unset] [(.int c2), (.int (1 : Int32)), (.ref b58), (.ref b58)])) rfl rfl (hb hby at_158)
            replace V_b58 : Arv Z h62 b58 k58 .char (63 : Int32) [(.int (nar .char c1)), (.int (nar .char c2)), (.int (0 : Int32)), (.int (0 : Int32)), (.int (0 : Int32)), (.int (0 : Int32)), (.int (0 : Int32)), (.int (0 : Int32)), (.int (0 : Int32)), (.int (0 : Int32)), (.int (0 : Int32)), (.int (0 : Int32)), (.int (0 : Int32)), (.int (0 : Int32)), (.int (0 : Int32)), (.int (0 : Int32)), (.int (0 : Int32)), (.int (0 : Int32)), (.int (0 : Int32)), (.int (0 : Int32)), (.int (0 : Int32)), (.int (0 : Int32)), (.int (0 : Int32)), (.int (0 : Int32)), (.int (0 : Int32)), (.int (0 : Int32)), (.int (0 : Int32)), (.int (0 : Int32)), (.int (0 : Int32)), (.int (0 : Int32)), (.int (0 : Int32)), (.int (0 : Int32)), (.int (0 : Int32)), (.int (0 : Int32)), (.int (0 : Int32)), (.int (0 : Int32)), (.int (0 : Int32)), (.int (0 : Int32)), (.int (0 : Int32)), (.int (0 : Int32)), (.int (0 : Int32)), (.int (0 : Int32)), (.int (0 : Int32)), (.int (0 : Int32)), (.int (0 : Int32)), (.int (0 : Int32)), (.int (0 : Int32)), (.int (0 : Int32)), (.int (0 : Int32)), (.int (0 : Int32)), (.int (0 : Int32)), (.int (0 : Int32)), (.int (0 : Int32)), (.int (0 : Int32)), (.int (0 : Int32)), (.int (0 : Int32)), (.int (0 : Int32)), (.int (0 : Int32)), (.int (0 : Int32)), (.int (0 : Int32)), (.int (0 : Int32)), (.int (0 : Int32)), (.int (0 : Int32))] (.int (0 : Int32)) := Arv.set Ar62 q62 S62 Nn62 H62 G62 (fits_nar_char _) W62 1 rfl (Nat.le_of_ble_eq_true rfl)
            replace S_COMPACT_STRINGS := Sta.wr W62 S_COMPACT_STRINGS
            replace S_SIOOBE_FORMATTER := Sta.wr W62 S_SIOOBE_FORMATTER
            replace E_b58 := E_b58.wr W62
            have Z63 : n0 ≤ h62.size := Nat.le_trans Z61 (Keep.of_wr W62).1
            refine W.go st62 ?_
            have N62 := Fr.snoc X62 N60 g_b58
            show W p e below _ (T62.setTop (mkF m 159 #[.val (.int p0), .val (.int p1), .val (.int p2), .val (.int p3), .val (.int p4), .val (.int c1), .val (.int c2), .val (.int c3), .val (.int c4), .val (.int kk), .unset, .unset] [(.ref b58)]))
            refine W.go (fun _ hr => XS.dup X62.here hx rfl (hb hby at_159) rfl rfl hr) ?_
            show W p e below _ (T62.setTop (mkF m 160 #[.val (.int p0), .val (.int p1), .val (.int p2), .val (.int p3), .val (.int p4), .val (.int c1), .val (.int c2), .val (.int c3), .val (.int c4), .val (.int kk), .unset, .unset] [(.ref b58), (.ref b58)]))
            refine W.go (fun _ hr => XS.iconst X62.here hx rfl (hb hby at_160) hr) ?_
            show W p e below _ (T62.setTop (mkF m 161 #[.val (.int p0), .val (.int p1), .val (.int p2), .val (.int p3), .val (.int p4), .val (.int c1), .val (.int c2), .val (.int c3), .val (.int c4), .val (.int kk), .unset, .unset] [(.int (2 : Int32)), (.ref b58), (.ref b58)]))
            refine W.go (fun _ hr => XS.iload X62.here hx rfl (hb hby at_161) rfl hr) ?_
            show W p e below _ (T62.setTop (mkF m 163 #[.val (.int p0), .val (.int p1), .val (.int p2), .val (.int p3), .val (.int p4), .val (.int c1), .val (.int c2), .val (.int c3), .val (.int c4), .val (.int kk), .unset, .unset] [(.int c3), (.int (2 : Int32)), (.ref b58), (.ref b58)]))
            obtain ⟨cl64, Ar64, q64, S64, Nn64, H64, G64⟩ := V_b58
            have hin64 : ¬ ((2 : Int32) < 0 ∨ cl64.slots.size ≤ ((2 : Int32)).toNatClampNeg) := inb_of S64 ⟨by decide, by decide⟩
            obtain ⟨T64, h64, X64, e64, W64, st64⟩ := stC X62 hx hZ e62 Ar64 (j := (2 : Int32)) hin64 (g := (mkF m 163 #[.val (.int p0), .val (.int p1), .val (.int p2), .val (.int p3), .val (.int p4), .val (.int c1), .val (.int c2), .val (.int c3), .val (.int c4), .val (.int kk), .unset, .unset] [(.int c3), (.int (2 : Int32)), (.ref b58), (.ref b58)])) rfl rfl (hb hby at_163)
            replace V_b58 : Arv Z h64 b58 k58 .char (63 : Int32) [(.int (nar .char c1)), (.int (nar .char c2)), (.int (nar .char c3)), (.int (0 : Int32)), (.int (0 : Int32)), (.int (0 : Int32)), (.int (0 : Int32)), (.int (0 : Int32)), (.int (0 : Int32)), (.int (0 : Int32)), (.int (0 : Int32)), (.int (0 : Int32)), (.int (0 : Int32)), (.int (0 : Int32)), (.int (0 : Int32)), (.int (0 : Int32)), (.int (0 : Int32)), (.int (0 : Int32)), (.int (0 : Int32)), (.int (0 : Int32)), (.int (0 : Int32)), (.int (0 : Int32)), (.int (0 : Int32)), (.int (0 : Int32)), (.int (0 : Int32)), (.int (0 : Int32)), (.int (0 : Int32)), (.int (0 : Int32)), (.int (0 : Int32)), (.int (0 : Int32)), (.int (0 : Int32)), (.int (0 : Int32)), (.int (0 : Int32)), (.int (0 : Int32)), (.int (0 : Int32)), (.int (0 : Int32)), (.int (0 : Int32)), (.int (0 : Int32)), (.int (0 : Int32)), (.int (0 : Int32)), (.int (0 : Int32)), (.int (0 : Int32)), (.int (0 : Int32)), (.int (0 : Int32)), (.int (0 : Int32)), (.int (0 : Int32)), (.int (0 : Int32)), (.int (0 : Int32)), (.int (0 : Int32)), (.int (0 : Int32)), (.int (0 : Int32)), (.int (0 : Int32)), (.int (0 : Int32)), (.int (0 : Int32)), (.int (0 : Int32)), (.int (0 : Int32)), (.int (0 : Int32)), (.int (0 : Int32)), (.int (0 : Int32)), (.int (0 : Int32)), (.int (0 : Int32)), (.int (0 : Int32)), (.int (0 : Int32))] (.int (0 : Int32)) := Arv.set Ar64 q64 S64 Nn64 H64 G64 (fits_nar_char _) W64 2 rfl (Nat.le_of_ble_eq_true rfl)
            replace S_COMPACT_STRINGS := Sta.wr W64 S_COMPACT_STRINGS
            replace S_SIOOBE_FORMATTER := Sta.wr W64 S_SIOOBE_FORMATTER
            replace E_b58 := E_b58.wr W64
            have Z65 : n0 ≤ h64.size := Nat.le_trans Z63 (Keep.of_wr W64).1
            refine W.go st64 ?_
            have N64 := Fr.snoc X64 N62 g_b58
            show W p e below _ (T64.setTop (mkF m 164 #[.val (.int p0), .val (.int p1), .val (.int p2), .val (.int p3), .val (.int p4), .val (.int c1), .val (.int c2), .val (.int c3), .val (.int c4), .val (.int kk), .unset, .unset] [(.ref b58)]))
            refine W.go (fun _ hr => XS.dup X64.here hx rfl (hb hby at_164) rfl rfl hr) ?_
            show W p e below _ (T64.setTop (mkF m 165 #[.val (.int p0), .val (.int p1), .val (.int p2), .val (.int p3), .val (.int p4), .val (.int c1), .val (.int c2), .val (.int c3), .val (.int c4), .val (.int kk), .unset, .unset] [(.ref b58), (.ref b58)]))
            refine W.go (fun _ hr => XS.iconst X64.here hx rfl (hb hby at_165) hr) ?_
            show W p e below _ (T64.setTop (mkF m 166 #[.val (.int p0), .val (.int p1), .val (.int p2), .val (.int p3), .val (.int p4), .val (.int c1), .val (.int c2), .val (.int c3), .val (.int c4), .val (.int kk), .unset, .unset] [(.int (3 : Int32)), (.ref b58), (.ref b58)]))
            refine W.go (fun _ hr => XS.iload X64.here hx rfl (hb hby at_166) rfl hr) ?_
            show W p e below _ (T64.setTop (mkF m 168 #[.val (.int p0), .val (.int p1), .val (.int p2), .val (.int p3), .val (.int p4), .val (.int c1), .val (.int c2), .val (.int c3), .val (.int c4), .val (.int kk), .unset, .unset] [(.int c4), (.int (3 : Int32)), (.ref b58), (.ref b58)]))
            obtain ⟨cl66, Ar66, q66, S66, Nn66, H66, G66⟩ := V_b58
            have hin66 : ¬ ((3 : Int32) < 0 ∨ cl66.slots.size ≤ ((3 : Int32)).toNatClampNeg) := inb_of S66 ⟨by decide, by decide⟩
            obtain ⟨T66, h66, X66, e66, W66, st66⟩ := stC X64 hx hZ e64 Ar66 (j := (3 : Int32)) hin66 (g := (mkF m 168 #[.val (.int p0), .val (.int p1), .val (.int p2), .val (.int p3), .val (.int p4), .val (.int c1), .val (.int c2), .val (.int c3), .val (.int c4), .val (.int kk), .unset, .unset] [(.int c4), (.int (3 : Int32)), (.ref b58), (.ref b58)])) rfl rfl (hb hby at_168)
            replace V_b58 : Arv Z h66 b58 k58 .char (63 : Int32) [(.int (nar .char c1)), (.int (nar .char c2)), (.int (nar .char c3)), (.int (nar .char c4)), (.int (0 : Int32)), (.int (0 : Int32)), (.int (0 : Int32)), (.int (0 : Int32)), (.int (0 : Int32)), (.int (0 : Int32)), (.int (0 : Int32)), (.int (0 : Int32)), (.int (0 : Int32)), (.int (0 : Int32)), (.int (0 : Int32)), (.int (0 : Int32)), (.int (0 : Int32)), (.int (0 : Int32)), (.int (0 : Int32)), (.int (0 : Int32)), (.int (0 : Int32)), (.int (0 : Int32)), (.int (0 : Int32)), (.int (0 : Int32)), (.int (0 : Int32)), (.int (0 : Int32)), (.int (0 : Int32)), (.int (0 : Int32)), (.int (0 : Int32)), (.int (0 : Int32)), (.int (0 : Int32)), (.int (0 : Int32)), (.int (0 : Int32)), (.int (0 : Int32)), (.int (0 : Int32)), (.int (0 : Int32)), (.int (0 : Int32)), (.int (0 : Int32)), (.int (0 : Int32)), (.int (0 : Int32)), (.int (0 : Int32)), (.int (0 : Int32)), (.int (0 : Int32)), (.int (0 : Int32)), (.int (0 : Int32)), (.int (0 : Int32)), (.int (0 : Int32)), (.int (0 : Int32)), (.int (0 : Int32)), (.int (0 : Int32)), (.int (0 : Int32)), (.int (0 : Int32)), (.int (0 : Int32)), (.int (0 : Int32)), (.int (0 : Int32)), (.int (0 : Int32)), (.int (0 : Int32)), (.int (0 : Int32)), (.int (0 : Int32)), (.int (0 : Int32)), (.int (0 : Int32)), (.int (0 : Int32)), (.int (0 : Int32))] (.int (0 : Int32)) := Arv.set Ar66 q66 S66 Nn66 H66 G66 (fits_nar_char _) W66 3 rfl (Nat.le_of_ble_eq_true rfl)
            replace S_COMPACT_STRINGS := Sta.wr W66 S_COMPACT_STRINGS
            replace S_SIOOBE_FORMATTER := Sta.wr W66 S_SIOOBE_FORMATTER
            replace E_b58 := E_b58.wr W66
            have Z67 : n0 ≤ h66.size := Nat.le_trans Z65 (Keep.of_wr W66).1
            refine W.go st66 ?_
            have N66 := Fr.snoc X66 N64 g_b58
            show W p e below _ (T66.setTop (mkF m 169 #[.val (.int p0), .val (.int p1), .val (.int p2), .val (.int p3), .val (.int p4), .val (.int c1), .val (.int c2), .val (.int c3), .val (.int c4), .val (.int kk), .unset, .unset] [(.ref b58)]))
            refine W.go (fun _ hr => XS.dup X66.here hx rfl (hb hby at_169) rfl rfl hr) ?_
            show W p e below _ (T66.setTop (mkF m 170 #[.val (.int p0), .val (.int p1), .val (.int p2), .val (.int p3), .val (.int p4), .val (.int c1), .val (.int c2), .val (.int c3), .val (.int c4), .val (.int kk), .unset, .unset] [(.ref b58), (.ref b58)]))
            refine W.go (fun _ hr => XS.iconst X66.here hx rfl (hb hby at_170) hr) ?_
            show W p e below _ (T66.setTop (mkF m 171 #[.val (.int p0), .val (.int p1), .val (.int p2), .val (.int p3), .val (.int p4), .val (.int c1), .val (.int c2), .val (.int c3), .val (.int c4), .val (.int kk), .unset, .unset] [(.int (4 : Int32)), (.ref b58), (.ref b58)]))
            refine W.go (fun _ hr => XS.iload X66.here hx rfl (hb hby at_171) rfl hr) ?_
            show W p e below _ (T66.setTop (mkF m 173 #[.val (.int p0), .val (.int p1), .val (.int p2), .val (.int p3), .val (.int p4), .val (.int c1), .val (.int c2), .val (.int c3), .val (.int c4), .val (.int kk), .unset, .unset] [(.int c1), (.int (4 : Int32)), (.ref b58), (.ref b58)]))
            obtain ⟨cl68, Ar68, q68, S68, Nn68, H68, G68⟩ := V_b58
            have hin68 : ¬ ((4 : Int32) < 0 ∨ cl68.slots.size ≤ ((4 : Int32)).toNatClampNeg) := inb_of S68 ⟨by decide, by decide⟩
            obtain ⟨T68, h68, X68, e68, W68, st68⟩ := stC X66 hx hZ e66 Ar68 (j := (4 : Int32)) hin68 (g := (mkF m 173 #[.val (.int p0), .val (.int p1), .val (.int p2), .val (.int p3), .val (.int p4), .val (.int c1), .val (.int c2), .val (.int c3), .val (.int c4), .val (.int kk), .unset, .unset] [(.int c1), (.int (4 : Int32)), (.ref b58), (.ref b58)])) rfl rfl (hb hby at_173)
            replace V_b58 : Arv Z h68 b58 k58 .char (63 : Int32) [(.int (nar .char c1)), (.int (nar .char c2)), (.int (nar .char c3)), (.int (nar .char c4)), (.int (nar .char c1)), (.int (0 : Int32)), (.int (0 : Int32)), (.int (0 : Int32)), (.int (0 : Int32)), (.int (0 : Int32)), (.int (0 : Int32)), (.int (0 : Int32)), (.int (0 : Int32)), (.int (0 : Int32)), (.int (0 : Int32)), (.int (0 : Int32)), (.int (0 : Int32)), (.int (0 : Int32)), (.int (0 : Int32)), (.int (0 : Int32)), (.int (0 : Int32)), (.int (0 : Int32)), (.int (0 : Int32)), (.int (0 : Int32)), (.int (0 : Int32)), (.int (0 : Int32)), (.int (0 : Int32)), (.int (0 : Int32)), (.int (0 : Int32)), (.int (0 : Int32)), (.int (0 : Int32)), (.int (0 : Int32)), (.int (0 : Int32)), (.int (0 : Int32)), (.int (0 : Int32)), (.int (0 : Int32)), (.int (0 : Int32)), (.int (0 : Int32)), (.int (0 : Int32)), (.int (0 : Int32)), (.int (0 : Int32)), (.int (0 : Int32)), (.int (0 : Int32)), (.int (0 : Int32)), (.int (0 : Int32)), (.int (0 : Int32)), (.int (0 : Int32)), (.int (0 : Int32)), (.int (0 : Int32)), (.int (0 : Int32)), (.int (0 : Int32)), (.int (0 : Int32)), (.int (0 : Int32)), (.int (0 : Int32)), (.int (0 : Int32)), (.int (0 : Int32)), (.int (0 : Int32)), (.int (0 : Int32)), (.int (0 : Int32)), (.int (0 : Int32)), (.int (0 : Int32)), (.int (0 : Int32)), (.int (0 : Int32))] (.int (0 : Int32)) := Arv.set Ar68 q68 S68 Nn68 H68 G68 (fits_nar_char _) W68 4 rfl (Nat.le_of_ble_eq_true rfl)
            replace S_COMPACT_STRINGS := Sta.wr W68 S_COMPACT_STRINGS
            replace S_SIOOBE_FORMATTER := Sta.wr W68 S_SIOOBE_FORMATTER
            replace E_b58 := E_b58.wr W68
            have Z69 : n0 ≤ h68.size := Nat.le_trans Z67 (Keep.of_wr W68).1
            refine W.go st68 ?_
            have N68 := Fr.snoc X68 N66 g_b58
            show W p e below _ (T68.setTop (mkF m 174 #[.val (.int p0), .val (.int p1), .val (.int p2), .val (.int p3), .val (.int p4), .val (.int c1), .val (.int c2), .val (.int c3), .val (.int c4), .val (.int kk), .unset, .unset] [(.ref b58)]))
            refine W.go (fun _ hr => XS.dup X68.here hx rfl (hb hby at_174) rfl rfl hr) ?_
            show W p e below _ (T68.setTop (mkF m 175 #[.val (.int p0), .val (.int p1), .val (.int p2), .val (.int p3), .val (.int p4), .val (.int c1), .val (.int c2), .val (.int c3), .val (.int c4), .val (.int kk), .unset, .unset] [(.ref b58), (.ref b58)]))
            refine W.go (fun _ hr => XS.iconst X68.here hx rfl (hb hby at_175) hr) ?_
            show W p e below _ (T68.setTop (mkF m 176 #[.val (.int p0), .val (.int p1), .val (.int p2), .val (.int p3), .val (.int p4), .val (.int c1), .val (.int c2), .val (.int c3), .val (.int c4), .val (.int kk), .unset, .unset] [(.int (5 : Int32)), (.ref b58), (.ref b58)]))
            refine W.go (fun _ hr => XS.iload X68.here hx rfl (hb hby at_176) rfl hr) ?_
            show W p e below _ (T68.setTop (mkF m 178 #[.val (.int p0), .val (.int p1), .val (.int p2), .val (.int p3), .val (.int p4), .val (.int c1), .val (.int c2), .val (.int c3), .val (.int c4), .val (.int kk), .unset, .unset] [(.int c2), (.int (5 : Int32)), (.ref b58), (.ref b58)]))
            obtain ⟨cl70, Ar70, q70, S70, Nn70, H70, G70⟩ := V_b58
            have hin70 : ¬ ((5 : Int32) < 0 ∨ cl70.slots.size ≤ ((5 : Int32)).toNatClampNeg) := inb_of S70 ⟨by decide, by decide⟩
            obtain ⟨T70, h70, X70, e70, W70, st70⟩ := stC X68 hx hZ e68 Ar70 (j := (5 : Int32)) hin70 (g := (mkF m 178 #[.val (.int p0), .val (.int p1), .val (.int p2), .val (.int p3), .val (.int p4), .val (.int c1), .val (.int c2), .val (.int c3), .val (.int c4), .val (.int kk), .unset, .unset] [(.int c2), (.int (5 : Int32)), (.ref b58), (.ref b58)])) rfl rfl (hb hby at_178)
            replace V_b58 : Arv Z h70 b58 k58 .char (63 : Int32) [(.int (nar .char c1)), (.int (nar .char c2)), (.int (nar .char c3)), (.int (nar .char c4)), (.int (nar .char c1)), (.int (nar .char c2)), (.int (0 : Int32)), (.int (0 : Int32)), (.int (0 : Int32)), (.int (0 : Int32)), (.int (0 : Int32)), (.int (0 : Int32)), (.int (0 : Int32)), (.int (0 : Int32)), (.int (0 : Int32)), (.int (0 : Int32)), (.int (0 : Int32)), (.int (0 : Int32)), (.int (0 : Int32)), (.int (0 : Int32)), (.int (0 : Int32)), (.int (0 : Int32)), (.int (0 : Int32)), (.int (0 : Int32)), (.int (0 : Int32)), (.int (0 : Int32)), (.int (0 : Int32)), (.int (0 : Int32)), (.int (0 : Int32)), (.int (0 : Int32)), (.int (0 : Int32)), (.int (0 : Int32)), (.int (0 : Int32)), (.int (0 : Int32)), (.int (0 : Int32)), (.int (0 : Int32)), (.int (0 : Int32)), (.int (0 : Int32)), (.int (0 : Int32)), (.int (0 : Int32)), (.int (0 : Int32)), (.int (0 : Int32)), (.int (0 : Int32)), (.int (0 : Int32)), (.int (0 : Int32)), (.int (0 : Int32)), (.int (0 : Int32)), (.int (0 : Int32)), (.int (0 : Int32)), (.int (0 : Int32)), (.int (0 : Int32)), (.int (0 : Int32)), (.int (0 : Int32)), (.int (0 : Int32)), (.int (0 : Int32)), (.int (0 : Int32)), (.int (0 : Int32)), (.int (0 : Int32)), (.int (0 : Int32)), (.int (0 : Int32)), (.int (0 : Int32)), (.int (0 : Int32)), (.int (0 : Int32))] (.int (0 : Int32)) := Arv.set Ar70 q70 S70 Nn70 H70 G70 (fits_nar_char _) W70 5 rfl (Nat.le_of_ble_eq_true rfl)
            replace S_COMPACT_STRINGS := Sta.wr W70 S_COMPACT_STRINGS
            replace S_SIOOBE_FORMATTER := Sta.wr W70 S_SIOOBE_FORMATTER
            replace E_b58 := E_b58.wr W70
            have Z71 : n0 ≤ h70.size := Nat.le_trans Z69 (Keep.of_wr W70).1
            refine W.go st70 ?_
            have N70 := Fr.snoc X70 N68 g_b58
            show W p e below _ (T70.setTop (mkF m 179 #[.val (.int p0), .val (.int p1), .val (.int p2), .val (.int p3), .val (.int p4), .val (.int c1), .val (.int c2), .val (.int c3), .val (.int c4), .val (.int kk), .unset, .unset] [(.ref b58)]))
            refine W.go (fun _ hr => XS.dup X70.here hx rfl (hb hby at_179) rfl rfl hr) ?_
            show W p e below _ (T70.setTop (mkF m 180 #[.val (.int p0), .val (.int p1), .val (.int p2), .val (.int p3), .val (.int p4), .val (.int c1), .val (.int c2), .val (.int c3), .val (.int c4), .val (.int kk), .unset, .unset] [(.ref b58), (.ref b58)]))
            refine W.go (fun _ hr => XS.bipush X70.here hx rfl (hb hby at_180) hr) ?_
            show W p e below _ (T70.setTop (mkF m 182 #[.val (.int p0), .val (.int p1), .val (.int p2), .val (.int p3), .val (.int p4), .val (.int c1), .val (.int c2), .val (.int c3), .val (.int c4), .val (.int kk), .unset, .unset] [(.int (6 : Int32)), (.ref b58), (.ref b58)]))
            refine W.go (fun _ hr => XS.iload X70.here hx rfl (hb hby at_182) rfl hr) ?_
            show W p e below _ (T70.setTop (mkF m 184 #[.val (.int p0), .val (.int p1), .val (.int p2), .val (.int p3), .val (.int p4), .val (.int c1), .val (.int c2), .val (.int c3), .val (.int c4), .val (.int kk), .unset, .unset] [(.int c3), (.int (6 : Int32)), (.ref b58), (.ref b58)]))
            obtain ⟨cl72, Ar72, q72, S72, Nn72, H72, G72⟩ := V_b58
            have hin72 : ¬ ((6 : Int32) < 0 ∨ cl72.slots.size ≤ ((6 : Int32)).toNatClampNeg) := inb_of S72 ⟨by decide, by decide⟩
            obtain ⟨T72, h72, X72, e72, W72, st72⟩ := stC X70 hx hZ e70 Ar72 (j := (6 : Int32)) hin72 (g := (mkF m 184 #[.val (.int p0), .val (.int p1), .val (.int p2), .val (.int p3), .val (.int p4), .val (.int c1), .val (.int c2), .val (.int c3), .val (.int c4), .val (.int kk), .unset, .unset] [(.int c3), (.int (6 : Int32)), (.ref b58), (.ref b58)])) rfl rfl (hb hby at_184)
            replace V_b58 : Arv Z h72 b58 k58 .char (63 : Int32) [(.int (nar .char c1)), (.int (nar .char c2)), (.int (nar .char c3)), (.int (nar .char c4)), (.int (nar .char c1)), (.int (nar .char c2)), (.int (nar .char c3)), (.int (0 : Int32)), (.int (0 : Int32)), (.int (0 : Int32)), (.int (0 : Int32)), (.int (0 : Int32)), (.int (0 : Int32)), (.int (0 : Int32)), (.int (0 : Int32)), (.int (0 : Int32)), (.int (0 : Int32)), (.int (0 : Int32)), (.int (0 : Int32)), (.int (0 : Int32)), (.int (0 : Int32)), (.int (0 : Int32)), (.int (0 : Int32)), (.int (0 : Int32)), (.int (0 : Int32)), (.int (0 : Int32)), (.int (0 : Int32)), (.int (0 : Int32)), (.int (0 : Int32)), (.int (0 : Int32)), (.int (0 : Int32)), (.int (0 : Int32)), (.int (0 : Int32)), (.int (0 : Int32)), (.int (0 : Int32)), (.int (0 : Int32)), (.int (0 : Int32)), (.int (0 : Int32)), (.int (0 : Int32)), (.int (0 : Int32)), (.int (0 : Int32)), (.int (0 : Int32)), (.int (0 : Int32)), (.int (0 : Int32)), (.int (0 : Int32)), (.int (0 : Int32)), (.int (0 : Int32)), (.int (0 : Int32)), (.int (0 : Int32)), (.int (0 : Int32)), (.int (0 : Int32)), (.int (0 : Int32)), (.int (0 : Int32)), (.int (0 : Int32)), (.int (0 : Int32)), (.int (0 : Int32)), (.int (0 : Int32)), (.int (0 : Int32)), (.int (0 : Int32)), (.int (0 : Int32)), (.int (0 : Int32)), (.int (0 : Int32)), (.int (0 : Int32))] (.int (0 : Int32)) := Arv.set Ar72 q72 S72 Nn72 H72 G72 (fits_nar_char _) W72 6 rfl (Nat.le_of_ble_eq_true rfl)
            replace S_COMPACT_STRINGS := Sta.wr W72 S_COMPACT_STRINGS
            replace S_SIOOBE_FORMATTER := Sta.wr W72 S_SIOOBE_FORMATTER
            replace E_b58 := E_b58.wr W72
            have Z73 : n0 ≤ h72.size := Nat.le_trans Z71 (Keep.of_wr W72).1
            refine W.go st72 ?_
            have N72 := Fr.snoc X72 N70 g_b58
            show W p e below _ (T72.setTop (mkF m 185 #[.val (.int p0), .val (.int p1), .val (.int p2), .val (.int p3), .val (.int p4), .val (.int c1), .val (.int c2), .val (.int c3), .val (.int c4), .val (.int kk), .unset, .unset] [(.ref b58)]))
            refine W.go (fun _ hr => XS.dup X72.here hx rfl (hb hby at_185) rfl rfl hr) ?_
            show W p e below _ (T72.setTop (mkF m 186 #[.val (.int p0), .val (.int p1), .val (.int p2), .val (.int p3), .val (.int p4), .val (.int c1), .val (.int c2), .val (.int c3), .val (.int c4), .val (.int kk), .unset, .unset] [(.ref b58), (.ref b58)]))
            refine W.go (fun _ hr => XS.bipush X72.here hx rfl (hb hby at_186) hr) ?_
            show W p e below _ (T72.setTop (mkF m 188 #[.val (.int p0), .val (.int p1), .val (.int p2), .val (.int p3), .val (.int p4), .val (.int c1), .val (.int c2), .val (.int c3), .val (.int c4), .val (.int kk), .unset, .unset] [(.int (7 : Int32)), (.ref b58), (.ref b58)]))
            refine W.go (fun _ hr => XS.iload X72.here hx rfl (hb hby at_188) rfl hr) ?_
            show W p e below _ (T72.setTop (mkF m 190 #[.val (.int p0), .val (.int p1), .val (.int p2), .val (.int p3), .val (.int p4), .val (.int c1), .val (.int c2), .val (.int c3), .val (.int c4), .val (.int kk), .unset, .unset] [(.int c4), (.int (7 : Int32)), (.ref b58), (.ref b58)]))
            obtain ⟨cl74, Ar74, q74, S74, Nn74, H74, G74⟩ := V_b58
            have hin74 : ¬ ((7 : Int32) < 0 ∨ cl74.slots.size ≤ ((7 : Int32)).toNatClampNeg) := inb_of S74 ⟨by decide, by decide⟩
            obtain ⟨T74, h74, X74, e74, W74, st74⟩ := stC X72 hx hZ e72 Ar74 (j := (7 : Int32)) hin74 (g := (mkF m 190 #[.val (.int p0), .val (.int p1), .val (.int p2), .val (.int p3), .val (.int p4), .val (.int c1), .val (.int c2), .val (.int c3), .val (.int c4), .val (.int kk), .unset, .unset] [(.int c4), (.int (7 : Int32)), (.ref b58), (.ref b58)])) rfl rfl (hb hby at_190)
            replace V_b58 : Arv Z h74 b58 k58 .char (63 : Int32) [(.int (nar .char c1)), (.int (nar .char c2)), (.int (nar .char c3)), (.int (nar .char c4)), (.int (nar .char c1)), (.int (nar .char c2)), (.int (nar .char c3)), (.int (nar .char c4)), (.int (0 : Int32)), (.int (0 : Int32)), (.int (0 : Int32)), (.int (0 : Int32)), (.int (0 : Int32)), (.int (0 : Int32)), (.int (0 : Int32)), (.int (0 : Int32)), (.int (0 : Int32)), (.int (0 : Int32)), (.int (0 : Int32)), (.int (0 : Int32)), (.int (0 : Int32)), (.int (0 : Int32)), (.int (0 : Int32)), (.int (0 : Int32)), (.int (0 : Int32)), (.int (0 : Int32)), (.int (0 : Int32)), (.int (0 : Int32)), (.int (0 : Int32)), (.int (0 : Int32)), (.int (0 : Int32)), (.int (0 : Int32)), (.int (0 : Int32)), (.int (0 : Int32)), (.int (0 : Int32)), (.int (0 : Int32)), (.int (0 : Int32)), (.int (0 : Int32)), (.int (0 : Int32)), (.int (0 : Int32)), (.int (0 : Int32)), (.int (0 : Int32)), (.int (0 : Int32)), (.int (0 : Int32)), (.int (0 : Int32)), (.int (0 : Int32)), (.int (0 : Int32)), (.int (0 : Int32)), (.int (0 : Int32)), (.int (0 : Int32)), (.int (0 : Int32)), (.int (0 : Int32)), (.int (0 : Int32)), (.int (0 : Int32)), (.int (0 : Int32)), (.int (0 : Int32)), (.int (0 : Int32)), (.int (0 : Int32)), (.int (0 : Int32)), (.int (0 : Int32)), (.int (0 : Int32)), (.int (0 : Int32)), (.int (0 : Int32))] (.int (0 : Int32)) := Arv.set Ar74 q74 S74 Nn74 H74 G74 (fits_nar_char _) W74 7 rfl (Nat.le_of_ble_eq_true rfl)
            replace S_COMPACT_STRINGS := Sta.wr W74 S_COMPACT_STRINGS
            replace S_SIOOBE_FORMATTER := Sta.wr W74 S_SIOOBE_FORMATTER
            replace E_b58 := E_b58.wr W74
            have Z75 : n0 ≤ h74.size := Nat.le_trans Z73 (Keep.of_wr W74).1
            refine W.go st74 ?_
            have N74 := Fr.snoc X74 N72 g_b58
            show W p e below _ (T74.setTop (mkF m 191 #[.val (.int p0), .val (.int p1), .val (.int p2), .val (.int p3), .val (.int p4), .val (.int c1), .val (.int c2), .val (.int c3), .val (.int c4), .val (.int kk), .unset, .unset] [(.ref b58)]))
            refine W.go (fun _ hr => XS.dup X74.here hx rfl (hb hby at_191) rfl rfl hr) ?_
            show W p e below _ (T74.setTop (mkF m 192 #[.val (.int p0), .val (.int p1), .val (.int p2), .val (.int p3), .val (.int p4), .val (.int c1), .val (.int c2), .val (.int c3), .val (.int c4), .val (.int kk), .unset, .unset] [(.ref b58), (.ref b58)]))
            refine W.go (fun _ hr => XS.bipush X74.here hx rfl (hb hby at_192) hr) ?_
            show W p e below _ (T74.setTop (mkF m 194 #[.val (.int p0), .val (.int p1), .val (.int p2), .val (.int p3), .val (.int p4), .val (.int c1), .val (.int c2), .val (.int c3), .val (.int c4), .val (.int kk), .unset, .unset] [(.int (8 : Int32)), (.ref b58), (.ref b58)]))
            refine W.go (fun _ hr => XS.iload X74.here hx rfl (hb hby at_194) rfl hr) ?_
            show W p e below _ (T74.setTop (mkF m 196 #[.val (.int p0), .val (.int p1), .val (.int p2), .val (.int p3), .val (.int p4), .val (.int c1), .val (.int c2), .val (.int c3), .val (.int c4), .val (.int kk), .unset, .unset] [(.int c1), (.int (8 : Int32)), (.ref b58), (.ref b58)]))
            obtain ⟨cl76, Ar76, q76, S76, Nn76, H76, G76⟩ := V_b58
            have hin76 : ¬ ((8 : Int32) < 0 ∨ cl76.slots.size ≤ ((8 : Int32)).toNatClampNeg) := inb_of S76 ⟨by decide, by decide⟩
            obtain ⟨T76, h76, X76, e76, W76, st76⟩ := stC X74 hx hZ e74 Ar76 (j := (8 : Int32)) hin76 (g := (mkF m 196 #[.val (.int p0), .val (.int p1), .val (.int p2), .val (.int p3), .val (.int p4), .val (.int c1), .val (.int c2), .val (.int c3), .val (.int c4), .val (.int kk), .unset, .unset] [(.int c1), (.int (8 : Int32)), (.ref b58), (.ref b58)])) rfl rfl (hb hby at_196)
            replace V_b58 : Arv Z h76 b58 k58 .char (63 : Int32) [(.int (nar .char c1)), (.int (nar .char c2)), (.int (nar .char c3)), (.int (nar .char c4)), (.int (nar .char c1)), (.int (nar .char c2)), (.int (nar .char c3)), (.int (nar .char c4)), (.int (nar .char c1)), (.int (0 : Int32)), (.int (0 : Int32)), (.int (0 : Int32)), (.int (0 : Int32)), (.int (0 : Int32)), (.int (0 : Int32)), (.int (0 : Int32)), (.int (0 : Int32)), (.int (0 : Int32)), (.int (0 : Int32)), (.int (0 : Int32)), (.int (0 : Int32)), (.int (0 : Int32)), (.int (0 : Int32)), (.int (0 : Int32)), (.int (0 : Int32)), (.int (0 : Int32)), (.int (0 : Int32)), (.int (0 : Int32)), (.int (0 : Int32)), (.int (0 : Int32)), (.int (0 : Int32)), (.int (0 : Int32)), (.int (0 : Int32)), (.int (0 : Int32)), (.int (0 : Int32)), (.int (0 : Int32)), (.int (0 : Int32)), (.int (0 : Int32)), (.int (0 : Int32)), (.int (0 : Int32)), (.int (0 : Int32)), (.int (0 : Int32)), (.int (0 : Int32)), (.int (0 : Int32)), (.int (0 : Int32)), (.int (0 : Int32)), (.int (0 : Int32)), (.int (0 : Int32)), (.int (0 : Int32)), (.int (0 : Int32)), (.int (0 : Int32)), (.int (0 : Int32)), (.int (0 : Int32)), (.int (0 : Int32)), (.int (0 : Int32)), (.int (0 : Int32)), (.int (0 : Int32)), (.int (0 : Int32)), (.int (0 : Int32)), (.int (0 : Int32)), (.int (0 : Int32)), (.int (0 : Int32)), (.int (0 : Int32))] (.int (0 : Int32)) := Arv.set Ar76 q76 S76 Nn76 H76 G76 (fits_nar_char _) W76 8 rfl (Nat.le_of_ble_eq_true rfl)
            replace S_COMPACT_STRINGS := Sta.wr W76 S_COMPACT_STRINGS
            replace S_SIOOBE_FORMATTER := Sta.wr W76 S_SIOOBE_FORMATTER
            replace E_b58 := E_b58.wr W76
            have Z77 : n0 ≤ h76.size := Nat.le_trans Z75 (Keep.of_wr W76).1
            refine W.go st76 ?_
            have N76 := Fr.snoc X76 N74 g_b58
            show W p e below _ (T76.setTop (mkF m 197 #[.val (.int p0), .val (.int p1), .val (.int p2), .val (.int p3), .val (.int p4), .val (.int c1), .val (.int c2), .val (.int c3), .val (.int c4), .val (.int kk), .unset, .unset] [(.ref b58)]))
            refine W.go (fun _ hr => XS.dup X76.here hx rfl (hb hby at_197) rfl rfl hr) ?_
            show W p e below _ (T76.setTop (mkF m 198 #[.val (.int p0), .val (.int p1), .val (.int p2), .val (.int p3), .val (.int p4), .val (.int c1), .val (.int c2), .val (.int c3), .val (.int c4), .val (.int kk), .unset, .unset] [(.ref b58), (.ref b58)]))
            refine W.go (fun _ hr => XS.bipush X76.here hx rfl (hb hby at_198) hr) ?_
            show W p e below _ (T76.setTop (mkF m 200 #[.val (.int p0), .val (.int p1), .val (.int p2), .val (.int p3), .val (.int p4), .val (.int c1), .val (.int c2), .val (.int c3), .val (.int c4), .val (.int kk), .unset, .unset] [(.int (9 : Int32)), (.ref b58), (.ref b58)]))
            refine W.go (fun _ hr => XS.iload X76.here hx rfl (hb hby at_200) rfl hr) ?_
            show W p e below _ (T76.setTop (mkF m 202 #[.val (.int p0), .val (.int p1), .val (.int p2), .val (.int p3), .val (.int p4), .val (.int c1), .val (.int c2), .val (.int c3), .val (.int c4), .val (.int kk), .unset, .unset] [(.int c2), (.int (9 : Int32)), (.ref b58), (.ref b58)]))
            obtain ⟨cl78, Ar78, q78, S78, Nn78, H78, G78⟩ := V_b58
            have hin78 : ¬ ((9 : Int32) < 0 ∨ cl78.slots.size ≤ ((9 : Int32)).toNatClampNeg) := inb_of S78 ⟨by decide, by decide⟩
            obtain ⟨T78, h78, X78, e78, W78, st78⟩ := stC X76 hx hZ e76 Ar78 (j := (9 : Int32)) hin78 (g := (mkF m 202 #[.val (.int p0), .val (.int p1), .val (.int p2), .val (.int p3), .val (.int p4), .val (.int c1), .val (.int c2), .val (.int c3), .val (.int c4), .val (.int kk), .unset, .unset] [(.int c2), (.int (9 : Int32)), (.ref b58), (.ref b58)])) rfl rfl (hb hby at_202)
            replace V_b58 : Arv Z h78 b58 k58 .char (63 : Int32) [(.int (nar .char c1)), (.int (nar .char c2)), (.int (nar .char c3)), (.int (nar .char c4)), (.int (nar .char c1)), (.int (nar .char c2)), (.int (nar .char c3)), (.int (nar .char c4)), (.int (nar .char c1)), (.int (nar .char c2)), (.int (0 : Int32)), (.int (0 : Int32)), (.int (0 : Int32)), (.int (0 : Int32)), (.int (0 : Int32)), (.int (0 : Int32)), (.int (0 : Int32)), (.int (0 : Int32)), (.int (0 : Int32)), (.int (0 : Int32)), (.int (0 : Int32)), (.int (0 : Int32)), (.int (0 : Int32)), (.int (0 : Int32)), (.int (0 : Int32)), (.int (0 : Int32)), (.int (0 : Int32)), (.int (0 : Int32)), (.int (0 : Int32)), (.int (0 : Int32)), (.int (0 : Int32)), (.int (0 : Int32)), (.int (0 : Int32)), (.int (0 : Int32)), (.int (0 : Int32)), (.int (0 : Int32)), (.int (0 : Int32)), (.int (0 : Int32)), (.int (0 : Int32)), (.int (0 : Int32)), (.int (0 : Int32)), (.int (0 : Int32)), (.int (0 : Int32)), (.int (0 : Int32)), (.int (0 : Int32)), (.int (0 : Int32)), (.int (0 : Int32)), (.int (0 : Int32)), (.int (0 : Int32)), (.int (0 : Int32)), (.int (0 : Int32)), (.int (0 : Int32)), (.int (0 : Int32)), (.int (0 : Int32)), (.int (0 : Int32)), (.int (0 : Int32)), (.int (0 : Int32)), (.int (0 : Int32)), (.int (0 : Int32)), (.int (0 : Int32)), (.int (0 : Int32)), (.int (0 : Int32)), (.int (0 : Int32))] (.int (0 : Int32)) := Arv.set Ar78 q78 S78 Nn78 H78 G78 (fits_nar_char _) W78 9 rfl (Nat.le_of_ble_eq_true rfl)
            replace S_COMPACT_STRINGS := Sta.wr W78 S_COMPACT_STRINGS
            replace S_SIOOBE_FORMATTER := Sta.wr W78 S_SIOOBE_FORMATTER
            replace E_b58 := E_b58.wr W78
            have Z79 : n0 ≤ h78.size := Nat.le_trans Z77 (Keep.of_wr W78).1
            refine W.go st78 ?_
            have N78 := Fr.snoc X78 N76 g_b58
            show W p e below _ (T78.setTop (mkF m 203 #[.val (.int p0), .val (.int p1), .val (.int p2), .val (.int p3), .val (.int p4), .val (.int c1), .val (.int c2), .val (.int c3), .val (.int c4), .val (.int kk), .unset, .unset] [(.ref b58)]))
            refine W.go (fun _ hr => XS.dup X78.here hx rfl (hb hby at_203) rfl rfl hr) ?_
            show W p e below _ (T78.setTop (mkF m 204 #[.val (.int p0), .val (.int p1), .val (.int p2), .val (.int p3), .val (.int p4), .val (.int c1), .val (.int c2), .val (.int c3), .val (.int c4), .val (.int kk), .unset, .unset] [(.ref b58), (.ref b58)]))
            refine W.go (fun _ hr => XS.bipush X78.here hx rfl (hb hby at_204) hr) ?_
            show W p e below _ (T78.setTop (mkF m 206 #[.val (.int p0), .val (.int p1), .val (.int p2), .val (.int p3), .val (.int p4), .val (.int c1), .val (.int c2), .val (.int c3), .val (.int c4), .val (.int kk), .unset, .unset] [(.int (10 : Int32)), (.ref b58), (.ref b58)]))
            refine W.go (fun _ hr => XS.iload X78.here hx rfl (hb hby at_206) rfl hr) ?_
            show W p e below _ (T78.setTop (mkF m 208 #[.val (.int p0), .val (.int p1), .val (.int p2), .val (.int p3), .val (.int p4), .val (.int c1), .val (.int c2), .val (.int c3), .val (.int c4), .val (.int kk), .unset, .unset] [(.int c3), (.int (10 : Int32)), (.ref b58), (.ref b58)]))
            obtain ⟨cl80, Ar80, q80, S80, Nn80, H80, G80⟩ := V_b58
            have hin80 : ¬ ((10 : Int32) < 0 ∨ cl80.slots.size ≤ ((10 : Int32)).toNatClampNeg) := inb_of S80 ⟨by decide, by decide⟩
            obtain ⟨T80, h80, X80, e80, W80, st80⟩ := stC X78 hx hZ e78 Ar80 (j := (10 : Int32)) hin80 (g := (mkF m 208 #[.val (.int p0), .val (.int p1), .val (.int p2), .val (.int p3), .val (.int p4), .val (.int c1), .val (.int c2), .val (.int c3), .val (.int c4), .val (.int kk), .unset, .unset] [(.int c3), (.int (10 : Int32)), (.ref b58), (.ref b58)])) rfl rfl (hb hby at_208)
            replace V_b58 : Arv Z h80 b58 k58 .char (63 : Int32) [(.int (nar .char c1)), (.int (nar .char c2)), (.int (nar .char c3)), (.int (nar .char c4)), (.int (nar .char c1)), (.int (nar .char c2)), (.int (nar .char c3)), (.int (nar .char c4)), (.int (nar .char c1)), (.int (nar .char c2)), (.int (nar .char c3)), (.int (0 : Int32)), (.int (0 : Int32)), (.int (0 : Int32)), (.int (0 : Int32)), (.int (0 : Int32)), (.int (0 : Int32)), (.int (0 : Int32)), (.int (0 : Int32)), (.int (0 : Int32)), (.int (0 : Int32)), (.int (0 : Int32)), (.int (0 : Int32)), (.int (0 : Int32)), (.int (0 : Int32)), (.int (0 : Int32)), (.int (0 : Int32)), (.int (0 : Int32)), (.int (0 : Int32)), (.int (0 : Int32)), (.int (0 : Int32)), (.int (0 : Int32)), (.int (0 : Int32)), (.int (0 : Int32)), (.int (0 : Int32)), (.int (0 : Int32)), (.int (0 : Int32)), (.int (0 : Int32)), (.int (0 : Int32)), (.int (0 : Int32)), (.int (0 : Int32)), (.int (0 : Int32)), (.int (0 : Int32)), (.int (0 : Int32)), (.int (0 : Int32)), (.int (0 : Int32)), (.int (0 : Int32)), (.int (0 : Int32)), (.int (0 : Int32)), (.int (0 : Int32)), (.int (0 : Int32)), (.int (0 : Int32)), (.int (0 : Int32)), (.int (0 : Int32)), (.int (0 : Int32)), (.int (0 : Int32)), (.int (0 : Int32)), (.int (0 : Int32)), (.int (0 : Int32)), (.int (0 : Int32)), (.int (0 : Int32)), (.int (0 : Int32)), (.int (0 : Int32))] (.int (0 : Int32)) := Arv.set Ar80 q80 S80 Nn80 H80 G80 (fits_nar_char _) W80 10 rfl (Nat.le_of_ble_eq_true rfl)
            replace S_COMPACT_STRINGS := Sta.wr W80 S_COMPACT_STRINGS
            replace S_SIOOBE_FORMATTER := Sta.wr W80 S_SIOOBE_FORMATTER
            replace E_b58 := E_b58.wr W80
            have Z81 : n0 ≤ h80.size := Nat.le_trans Z79 (Keep.of_wr W80).1
            refine W.go st80 ?_
            have N80 := Fr.snoc X80 N78 g_b58
            show W p e below _ (T80.setTop (mkF m 209 #[.val (.int p0), .val (.int p1), .val (.int p2), .val (.int p3), .val (.int p4), .val (.int c1), .val (.int c2), .val (.int c3), .val (.int c4), .val (.int kk), .unset, .unset] [(.ref b58)]))
            refine W.go (fun _ hr => XS.dup X80.here hx rfl (hb hby at_209) rfl rfl hr) ?_
            show W p e below _ (T80.setTop (mkF m 210 #[.val (.int p0), .val (.int p1), .val (.int p2), .val (.int p3), .val (.int p4), .val (.int c1), .val (.int c2), .val (.int c3), .val (.int c4), .val (.int kk), .unset, .unset] [(.ref b58), (.ref b58)]))
            refine W.go (fun _ hr => XS.bipush X80.here hx rfl (hb hby at_210) hr) ?_
            show W p e below _ (T80.setTop (mkF m 212 #[.val (.int p0), .val (.int p1), .val (.int p2), .val (.int p3), .val (.int p4), .val (.int c1), .val (.int c2), .val (.int c3), .val (.int c4), .val (.int kk), .unset, .unset] [(.int (11 : Int32)), (.ref b58), (.ref b58)]))
            refine W.go (fun _ hr => XS.iload X80.here hx rfl (hb hby at_212) rfl hr) ?_
            show W p e below _ (T80.setTop (mkF m 214 #[.val (.int p0), .val (.int p1), .val (.int p2), .val (.int p3), .val (.int p4), .val (.int c1), .val (.int c2), .val (.int c3), .val (.int c4), .val (.int kk), .unset, .unset] [(.int c4), (.int (11 : Int32)), (.ref b58), (.ref b58)]))
            obtain ⟨cl82, Ar82, q82, S82, Nn82, H82, G82⟩ := V_b58
            have hin82 : ¬ ((11 : Int32) < 0 ∨ cl82.slots.size ≤ ((11 : Int32)).toNatClampNeg) := inb_of S82 ⟨by decide, by decide⟩
            obtain ⟨T82, h82, X82, e82, W82, st82⟩ := stC X80 hx hZ e80 Ar82 (j := (11 : Int32)) hin82 (g := (mkF m 214 #[.val (.int p0), .val (.int p1), .val (.int p2), .val (.int p3), .val (.int p4), .val (.int c1), .val (.int c2), .val (.int c3), .val (.int c4), .val (.int kk), .unset, .unset] [(.int c4), (.int (11 : Int32)), (.ref b58), (.ref b58)])) rfl rfl (hb hby at_214)
            replace V_b58 : Arv Z h82 b58 k58 .char (63 : Int32) [(.int (nar .char c1)), (.int (nar .char c2)), (.int (nar .char c3)), (.int (nar .char c4)), (.int (nar .char c1)), (.int (nar .char c2)), (.int (nar .char c3)), (.int (nar .char c4)), (.int (nar .char c1)), (.int (nar .char c2)), (.int (nar .char c3)), (.int (nar .char c4)), (.int (0 : Int32)), (.int (0 : Int32)), (.int (0 : Int32)), (.int (0 : Int32)), (.int (0 : Int32)), (.int (0 : Int32)), (.int (0 : Int32)), (.int (0 : Int32)), (.int (0 : Int32)), (.int (0 : Int32)), (.int (0 : Int32)), (.int (0 : Int32)), (.int (0 : Int32)), (.int (0 : Int32)), (.int (0 : Int32)), (.int (0 : Int32)), (.int (0 : Int32)), (.int (0 : Int32)), (.int (0 : Int32)), (.int (0 : Int32)), (.int (0 : Int32)), (.int (0 : Int32)), (.int (0 : Int32)), (.int (0 : Int32)), (.int (0 : Int32)), (.int (0 : Int32)), (.int (0 : Int32)), (.int (0 : Int32)), (.int (0 : Int32)), (.int (0 : Int32)), (.int (0 : Int32)), (.int (0 : Int32)), (.int (0 : Int32)), (.int (0 : Int32)), (.int (0 : Int32)), (.int (0 : Int32)), (.int (0 : Int32)), (.int (0 : Int32)), (.int (0 : Int32)), (.int (0 : Int32)), (.int (0 : Int32)), (.int (0 : Int32)), (.int (0 : Int32)), (.int (0 : Int32)), (.int (0 : Int32)), (.int (0 : Int32)), (.int (0 : Int32)), (.int (0 : Int32)), (.int (0 : Int32)), (.int (0 : Int32)), (.int (0 : Int32))] (.int (0 : Int32)) := Arv.set Ar82 q82 S82 Nn82 H82 G82 (fits_nar_char _) W82 11 rfl (Nat.le_of_ble_eq_true rfl)
            replace S_COMPACT_STRINGS := Sta.wr W82 S_COMPACT_STRINGS
            replace S_SIOOBE_FORMATTER := Sta.wr W82 S_SIOOBE_FORMATTER
            replace E_b58 := E_b58.wr W82
            have Z83 : n0 ≤ h82.size := Nat.le_trans Z81 (Keep.of_wr W82).1
            refine W.go st82 ?_
            have N82 := Fr.snoc X82 N80 g_b58
            show W p e below _ (T82.setTop (mkF m 215 #[.val (.int p0), .val (.int p1), .val (.int p2), .val (.int p3), .val (.int p4), .val (.int c1), .val (.int c2), .val (.int c3), .val (.int c4), .val (.int kk), .unset, .unset] [(.ref b58)]))
            refine W.go (fun _ hr => XS.dup X82.here hx rfl (hb hby at_215) rfl rfl hr) ?_
            show W p e below _ (T82.setTop (mkF m 216 #[.val (.int p0), .val (.int p1), .val (.int p2), .val (.int p3), .val (.int p4), .val (.int c1), .val (.int c2), .val (.int c3), .val (.int c4), .val (.int kk), .unset, .unset] [(.ref b58), (.ref b58)]))
            refine W.go (fun _ hr => XS.bipush X82.here hx rfl (hb hby at_216) hr) ?_
            show W p e below _ (T82.setTop (mkF m 218 #[.val (.int p0), .val (.int p1), .val (.int p2), .val (.int p3), .val (.int p4), .val (.int c1), .val (.int c2), .val (.int c3), .val (.int c4), .val (.int kk), .unset, .unset] [(.int (12 : Int32)), (.ref b58), (.ref b58)]))
            refine W.go (fun _ hr => XS.iload X82.here hx rfl (hb hby at_218) rfl hr) ?_
            show W p e below _ (T82.setTop (mkF m 220 #[.val (.int p0), .val (.int p1), .val (.int p2), .val (.int p3), .val (.int p4), .val (.int c1), .val (.int c2), .val (.int c3), .val (.int c4), .val (.int kk), .unset, .unset] [(.int c1), (.int (12 : Int32)), (.ref b58), (.ref b58)]))
            obtain ⟨cl84, Ar84, q84, S84, Nn84, H84, G84⟩ := V_b58
            have hin84 : ¬ ((12 : Int32) < 0 ∨ cl84.slots.size ≤ ((12 : Int32)).toNatClampNeg) := inb_of S84 ⟨by decide, by decide⟩
            obtain ⟨T84, h84, X84, e84, W84, st84⟩ := stC X82 hx hZ e82 Ar84 (j := (12 : Int32)) hin84 (g := (mkF m 220 #[.val (.int p0), .val (.int p1), .val (.int p2), .val (.int p3), .val (.int p4), .val (.int c1), .val (.int c2), .val (.int c3), .val (.int c4), .val (.int kk), .unset, .unset] [(.int c1), (.int (12 : Int32)), (.ref b58), (.ref b58)])) rfl rfl (hb hby at_220)
            replace V_b58 : Arv Z h84 b58 k58 .char (63 : Int32) [(.int (nar .char c1)), (.int (nar .char c2)), (.int (nar .char c3)), (.int (nar .char c4)), (.int (nar .char c1)), (.int (nar .char c2)), (.int (nar .char c3)), (.int (nar .char c4)), (.int (nar .char c1)), (.int (nar .char c2)), (.int (nar .char c3)), (.int (nar .char c4)), (.int (nar .char c1)), (.int (0 : Int32)), (.int (0 : Int32)), (.int (0 : Int32)), (.int (0 : Int32)), (.int (0 : Int32)), (.int (0 : Int32)), (.int (0 : Int32)), (.int (0 : Int32)), (.int (0 : Int32)), (.int (0 : Int32)), (.int (0 : Int32)), (.int (0 : Int32)), (.int (0 : Int32)), (.int (0 : Int32)), (.int (0 : Int32)), (.int (0 : Int32)), (.int (0 : Int32)), (.int (0 : Int32)), (.int (0 : Int32)), (.int (0 : Int32)), (.int (0 : Int32)), (.int (0 : Int32)), (.int (0 : Int32)), (.int (0 : Int32)), (.int (0 : Int32)), (.int (0 : Int32)), (.int (0 : Int32)), (.int (0 : Int32)), (.int (0 : Int32)), (.int (0 : Int32)), (.int (0 : Int32)), (.int (0 : Int32)), (.int (0 : Int32)), (.int (0 : Int32)), (.int (0 : Int32)), (.int (0 : Int32)), (.int (0 : Int32)), (.int (0 : Int32)), (.int (0 : Int32)), (.int (0 : Int32)), (.int (0 : Int32)), (.int (0 : Int32)), (.int (0 : Int32)), (.int (0 : Int32)), (.int (0 : Int32)), (.int (0 : Int32)), (.int (0 : Int32)), (.int (0 : Int32)), (.int (0 : Int32)), (.int (0 : Int32))] (.int (0 : Int32)) := Arv.set Ar84 q84 S84 Nn84 H84 G84 (fits_nar_char _) W84 12 rfl (Nat.le_of_ble_eq_true rfl)
            replace S_COMPACT_STRINGS := Sta.wr W84 S_COMPACT_STRINGS
            replace S_SIOOBE_FORMATTER := Sta.wr W84 S_SIOOBE_FORMATTER
            replace E_b58 := E_b58.wr W84
            have Z85 : n0 ≤ h84.size := Nat.le_trans Z83 (Keep.of_wr W84).1
            refine W.go st84 ?_
            have N84 := Fr.snoc X84 N82 g_b58
            show W p e below _ (T84.setTop (mkF m 221 #[.val (.int p0), .val (.int p1), .val (.int p2), .val (.int p3), .val (.int p4), .val (.int c1), .val (.int c2), .val (.int c3), .val (.int c4), .val (.int kk), .unset, .unset] [(.ref b58)]))
            refine W.go (fun _ hr => XS.dup X84.here hx rfl (hb hby at_221) rfl rfl hr) ?_
            show W p e below _ (T84.setTop (mkF m 222 #[.val (.int p0), .val (.int p1), .val (.int p2), .val (.int p3), .val (.int p4), .val (.int c1), .val (.int c2), .val (.int c3), .val (.int c4), .val (.int kk), .unset, .unset] [(.ref b58), (.ref b58)]))
            refine W.go (fun _ hr => XS.bipush X84.here hx rfl (hb hby at_222) hr) ?_
            show W p e below _ (T84.setTop (mkF m 224 #[.val (.int p0), .val (.int p1), .val (.int p2), .val (.int p3), .val (.int p4), .val (.int c1), .val (.int c2), .val (.int c3), .val (.int c4), .val (.int kk), .unset, .unset] [(.int (13 : Int32)), (.ref b58), (.ref b58)]))
            refine W.go (fun _ hr => XS.iload X84.here hx rfl (hb hby at_224) rfl hr) ?_
            show W p e below _ (T84.setTop (mkF m 226 #[.val (.int p0), .val (.int p1), .val (.int p2), .val (.int p3), .val (.int p4), .val (.int c1), .val (.int c2), .val (.int c3), .val (.int c4), .val (.int kk), .unset, .unset] [(.int c2), (.int (13 : Int32)), (.ref b58), (.ref b58)]))
            obtain ⟨cl86, Ar86, q86, S86, Nn86, H86, G86⟩ := V_b58
            have hin86 : ¬ ((13 : Int32) < 0 ∨ cl86.slots.size ≤ ((13 : Int32)).toNatClampNeg) := inb_of S86 ⟨by decide, by decide⟩
            obtain ⟨T86, h86, X86, e86, W86, st86⟩ := stC X84 hx hZ e84 Ar86 (j := (13 : Int32)) hin86 (g := (mkF m 226 #[.val (.int p0), .val (.int p1), .val (.int p2), .val (.int p3), .val (.int p4), .val (.int c1), .val (.int c2), .val (.int c3), .val (.int c4), .val (.int kk), .unset, .unset] [(.int c2), (.int (13 : Int32)), (.ref b58), (.ref b58)])) rfl rfl (hb hby at_226)
            replace V_b58 : Arv Z h86 b58 k58 .char (63 : Int32) [(.int (nar .char c1)), (.int (nar .char c2)), (.int (nar .char c3)), (.int (nar .char c4)), (.int (nar .char c1)), (.int (nar .char c2)), (.int (nar .char c3)), (.int (nar .char c4)), (.int (nar .char c1)), (.int (nar .char c2)), (.int (nar .char c3)), (.int (nar .char c4)), (.int (nar .char c1)), (.int (nar .char c2)), (.int (0 : Int32)), (.int (0 : Int32)), (.int (0 : Int32)), (.int (0 : Int32)), (.int (0 : Int32)), (.int (0 : Int32)), (.int (0 : Int32)), (.int (0 : Int32)), (.int (0 : Int32)), (.int (0 : Int32)), (.int (0 : Int32)), (.int (0 : Int32)), (.int (0 : Int32)), (.int (0 : Int32)), (.int (0 : Int32)), (.int (0 : Int32)), (.int (0 : Int32)), (.int (0 : Int32)), (.int (0 : Int32)), (.int (0 : Int32)), (.int (0 : Int32)), (.int (0 : Int32)), (.int (0 : Int32)), (.int (0 : Int32)), (.int (0 : Int32)), (.int (0 : Int32)), (.int (0 : Int32)), (.int (0 : Int32)), (.int (0 : Int32)), (.int (0 : Int32)), (.int (0 : Int32)), (.int (0 : Int32)), (.int (0 : Int32)), (.int (0 : Int32)), (.int (0 : Int32)), (.int (0 : Int32)), (.int (0 : Int32)), (.int (0 : Int32)), (.int (0 : Int32)), (.int (0 : Int32)), (.int (0 : Int32)), (.int (0 : Int32)), (.int (0 : Int32)), (.int (0 : Int32)), (.int (0 : Int32)), (.int (0 : Int32)), (.int (0 : Int32)), (.int (0 : Int32)), (.int (0 : Int32))] (.int (0 : Int32)) := Arv.set Ar86 q86 S86 Nn86 H86 G86 (fits_nar_char _) W86 13 rfl (Nat.le_of_ble_eq_true rfl)
            replace S_COMPACT_STRINGS := Sta.wr W86 S_COMPACT_STRINGS
            replace S_SIOOBE_FORMATTER := Sta.wr W86 S_SIOOBE_FORMATTER
            replace E_b58 := E_b58.wr W86
            have Z87 : n0 ≤ h86.size := Nat.le_trans Z85 (Keep.of_wr W86).1
            refine W.go st86 ?_
            have N86 := Fr.snoc X86 N84 g_b58
            show W p e below _ (T86.setTop (mkF m 227 #[.val (.int p0), .val (.int p1), .val (.int p2), .val (.int p3), .val (.int p4), .val (.int c1), .val (.int c2), .val (.int c3), .val (.int c4), .val (.int kk), .unset, .unset] [(.ref b58)]))
            refine W.go (fun _ hr => XS.dup X86.here hx rfl (hb hby at_227) rfl rfl hr) ?_
            show W p e below _ (T86.setTop (mkF m 228 #[.val (.int p0), .val (.int p1), .val (.int p2), .val (.int p3), .val (.int p4), .val (.int c1), .val (.int c2), .val (.int c3), .val (.int c4), .val (.int kk), .unset, .unset] [(.ref b58), (.ref b58)]))
            refine W.go (fun _ hr => XS.bipush X86.here hx rfl (hb hby at_228) hr) ?_
            show W p e below _ (T86.setTop (mkF m 230 #[.val (.int p0), .val (.int p1), .val (.int p2), .val (.int p3), .val (.int p4), .val (.int c1), .val (.int c2), .val (.int c3), .val (.int c4), .val (.int kk), .unset, .unset] [(.int (14 : Int32)), (.ref b58), (.ref b58)]))
            refine W.go (fun _ hr => XS.iload X86.here hx rfl (hb hby at_230) rfl hr) ?_
            show W p e below _ (T86.setTop (mkF m 232 #[.val (.int p0), .val (.int p1), .val (.int p2), .val (.int p3), .val (.int p4), .val (.int c1), .val (.int c2), .val (.int c3), .val (.int c4), .val (.int kk), .unset, .unset] [(.int c3), (.int (14 : Int32)), (.ref b58), (.ref b58)]))
            obtain ⟨cl88, Ar88, q88, S88, Nn88, H88, G88⟩ := V_b58
            have hin88 : ¬ ((14 : Int32) < 0 ∨ cl88.slots.size ≤ ((14 : Int32)).toNatClampNeg) := inb_of S88 ⟨by decide, by decide⟩
            obtain ⟨T88, h88, X88, e88, W88, st88⟩ := stC X86 hx hZ e86 Ar88 (j := (14 : Int32)) hin88 (g := (mkF m 232 #[.val (.int p0), .val (.int p1), .val (.int p2), .val (.int p3), .val (.int p4), .val (.int c1), .val (.int c2), .val (.int c3), .val (.int c4), .val (.int kk), .unset, .unset] [(.int c3), (.int (14 : Int32)), (.ref b58), (.ref b58)])) rfl rfl (hb hby at_232)
            replace V_b58 : Arv Z h88 b58 k58 .char (63 : Int32) [(.int (nar .char c1)), (.int (nar .char c2)), (.int (nar .char c3)), (.int (nar .char c4)), (.int (nar .char c1)), (.int (nar .char c2)), (.int (nar .char c3)), (.int (nar .char c4)), (.int (nar .char c1)), (.int (nar .char c2)), (.int (nar .char c3)), (.int (nar .char c4)), (.int (nar .char c1)), (.int (nar .char c2)), (.int (nar .char c3)), (.int (0 : Int32)), (.int (0 : Int32)), (.int (0 : Int32)), (.int (0 : Int32)), (.int (0 : Int32)), (.int (0 : Int32)), (.int (0 : Int32)), (.int (0 : Int32)), (.int (0 : Int32)), (.int (0 : Int32)), (.int (0 : Int32)), (.int (0 : Int32)), (.int (0 : Int32)), (.int (0 : Int32)), (.int (0 : Int32)), (.int (0 : Int32)), (.int (0 : Int32)), (.int (0 : Int32)), (.int (0 : Int32)), (.int (0 : Int32)), (.int (0 : Int32)), (.int (0 : Int32)), (.int (0 : Int32)), (.int (0 : Int32)), (.int (0 : Int32)), (.int (0 : Int32)), (.int (0 : Int32)), (.int (0 : Int32)), (.int (0 : Int32)), (.int (0 : Int32)), (.int (0 : Int32)), (.int (0 : Int32)), (.int (0 : Int32)), (.int (0 : Int32)), (.int (0 : Int32)), (.int (0 : Int32)), (.int (0 : Int32)), (.int (0 : Int32)), (.int (0 : Int32)), (.int (0 : Int32)), (.int (0 : Int32)), (.int (0 : Int32)), (.int (0 : Int32)), (.int (0 : Int32)), (.int (0 : Int32)), (.int (0 : Int32)), (.int (0 : Int32)), (.int (0 : Int32))] (.int (0 : Int32)) := Arv.set Ar88 q88 S88 Nn88 H88 G88 (fits_nar_char _) W88 14 rfl (Nat.le_of_ble_eq_true rfl)
            replace S_COMPACT_STRINGS := Sta.wr W88 S_COMPACT_STRINGS
            replace S_SIOOBE_FORMATTER := Sta.wr W88 S_SIOOBE_FORMATTER
            replace E_b58 := E_b58.wr W88
            have Z89 : n0 ≤ h88.size := Nat.le_trans Z87 (Keep.of_wr W88).1
            refine W.go st88 ?_
            have N88 := Fr.snoc X88 N86 g_b58
            show W p e below _ (T88.setTop (mkF m 233 #[.val (.int p0), .val (.int p1), .val (.int p2), .val (.int p3), .val (.int p4), .val (.int c1), .val (.int c2), .val (.int c3), .val (.int c4), .val (.int kk), .unset, .unset] [(.ref b58)]))
            refine W.go (fun _ hr => XS.dup X88.here hx rfl (hb hby at_233) rfl rfl hr) ?_
            show W p e below _ (T88.setTop (mkF m 234 #[.val (.int p0), .val (.int p1), .val (.int p2), .val (.int p3), .val (.int p4), .val (.int c1), .val (.int c2), .val (.int c3), .val (.int c4), .val (.int kk), .unset, .unset] [(.ref b58), (.ref b58)]))
            refine W.go (fun _ hr => XS.bipush X88.here hx rfl (hb hby at_234) hr) ?_
            show W p e below _ (T88.setTop (mkF m 236 #[.val (.int p0), .val (.int p1), .val (.int p2), .val (.int p3), .val (.int p4), .val (.int c1), .val (.int c2), .val (.int c3), .val (.int c4), .val (.int kk), .unset, .unset] [(.int (15 : Int32)), (.ref b58), (.ref b58)]))
            refine W.go (fun _ hr => XS.iload X88.here hx rfl (hb hby at_236) rfl hr) ?_
            show W p e below _ (T88.setTop (mkF m 238 #[.val (.int p0), .val (.int p1), .val (.int p2), .val (.int p3), .val (.int p4), .val (.int c1), .val (.int c2), .val (.int c3), .val (.int c4), .val (.int kk), .unset, .unset] [(.int c4), (.int (15 : Int32)), (.ref b58), (.ref b58)]))
            obtain ⟨cl90, Ar90, q90, S90, Nn90, H90, G90⟩ := V_b58
            have hin90 : ¬ ((15 : Int32) < 0 ∨ cl90.slots.size ≤ ((15 : Int32)).toNatClampNeg) := inb_of S90 ⟨by decide, by decide⟩
            obtain ⟨T90, h90, X90, e90, W90, st90⟩ := stC X88 hx hZ e88 Ar90 (j := (15 : Int32)) hin90 (g := (mkF m 238 #[.val (.int p0), .val (.int p1), .val (.int p2), .val (.int p3), .val (.int p4), .val (.int c1), .val (.int c2), .val (.int c3), .val (.int c4), .val (.int kk), .unset, .unset] [(.int c4), (.int (15 : Int32)), (.ref b58), (.ref b58)])) rfl rfl (hb hby at_238)
            replace V_b58 : Arv Z h90 b58 k58 .char (63 : Int32) [(.int (nar .char c1)), (.int (nar .char c2)), (.int (nar .char c3)), (.int (nar .char c4)), (.int (nar .char c1)), (.int (nar .char c2)), (.int (nar .char c3)), (.int (nar .char c4)), (.int (nar .char c1)), (.int (nar .char c2)), (.int (nar .char c3)), (.int (nar .char c4)), (.int (nar .char c1)), (.int (nar .char c2)), (.int (nar .char c3)), (.int (nar .char c4)), (.int (0 : Int32)), (.int (0 : Int32)), (.int (0 : Int32)), (.int (0 : Int32)), (.int (0 : Int32)), (.int (0 : Int32)), (.int (0 : Int32)), (.int (0 : Int32)), (.int (0 : Int32)), (.int (0 : Int32)), (.int (0 : Int32)), (.int (0 : Int32)), (.int (0 : Int32)), (.int (0 : Int32)), (.int (0 : Int32)), (.int (0 : Int32)), (.int (0 : Int32)), (.int (0 : Int32)), (.int (0 : Int32)), (.int (0 : Int32)), (.int (0 : Int32)), (.int (0 : Int32)), (.int (0 : Int32)), (.int (0 : Int32)), (.int (0 : Int32)), (.int (0 : Int32)), (.int (0 : Int32)), (.int (0 : Int32)), (.int (0 : Int32)), (.int (0 : Int32)), (.int (0 : Int32)), (.int (0 : Int32)), (.int (0 : Int32)), (.int (0 : Int32)), (.int (0 : Int32)), (.int (0 : Int32)), (.int (0 : Int32)), (.int (0 : Int32)), (.int (0 : Int32)), (.int (0 : Int32)), (.int (0 : Int32)), (.int (0 : Int32)), (.int (0 : Int32)), (.int (0 : Int32)), (.int (0 : Int32)), (.int (0 : Int32)), (.int (0 : Int32))] (.int (0 : Int32)) := Arv.set Ar90 q90 S90 Nn90 H90 G90 (fits_nar_char _) W90 15 rfl (Nat.le_of_ble_eq_true rfl)
            replace S_COMPACT_STRINGS := Sta.wr W90 S_COMPACT_STRINGS
            replace S_SIOOBE_FORMATTER := Sta.wr W90 S_SIOOBE_FORMATTER
            replace E_b58 := E_b58.wr W90
            have Z91 : n0 ≤ h90.size := Nat.le_trans Z89 (Keep.of_wr W90).1
            refine W.go st90 ?_
            have N90 := Fr.snoc X90 N88 g_b58
            show W p e below _ (T90.setTop (mkF m 239 #[.val (.int p0), .val (.int p1), .val (.int p2), .val (.int p3), .val (.int p4), .val (.int c1), .val (.int c2), .val (.int c3), .val (.int c4), .val (.int kk), .unset, .unset] [(.ref b58)]))
            refine W.go (fun _ hr => XS.dup X90.here hx rfl (hb hby at_239) rfl rfl hr) ?_
            show W p e below _ (T90.setTop (mkF m 240 #[.val (.int p0), .val (.int p1), .val (.int p2), .val (.int p3), .val (.int p4), .val (.int c1), .val (.int c2), .val (.int c3), .val (.int c4), .val (.int kk), .unset, .unset] [(.ref b58), (.ref b58)]))
            refine W.go (fun _ hr => XS.bipush X90.here hx rfl (hb hby at_240) hr) ?_
            show W p e below _ (T90.setTop (mkF m 242 #[.val (.int p0), .val (.int p1), .val (.int p2), .val (.int p3), .val (.int p4), .val (.int c1), .val (.int c2), .val (.int c3), .val (.int c4), .val (.int kk), .unset, .unset] [(.int (16 : Int32)), (.ref b58), (.ref b58)]))
            refine W.go (fun _ hr => XS.iload X90.here hx rfl (hb hby at_242) rfl hr) ?_
            show W p e below _ (T90.setTop (mkF m 244 #[.val (.int p0), .val (.int p1), .val (.int p2), .val (.int p3), .val (.int p4), .val (.int c1), .val (.int c2), .val (.int c3), .val (.int c4), .val (.int kk), .unset, .unset] [(.int c1), (.int (16 : Int32)), (.ref b58), (.ref b58)]))
            obtain ⟨cl92, Ar92, q92, S92, Nn92, H92, G92⟩ := V_b58
            have hin92 : ¬ ((16 : Int32) < 0 ∨ cl92.slots.size ≤ ((16 : Int32)).toNatClampNeg) := inb_of S92 ⟨by decide, by decide⟩
            obtain ⟨T92, h92, X92, e92, W92, st92⟩ := stC X90 hx hZ e90 Ar92 (j := (16 : Int32)) hin92 (g := (mkF m 244 #[.val (.int p0), .val (.int p1), .val (.int p2), .val (.int p3), .val (.int p4), .val (.int c1), .val (.int c2), .val (.int c3), .val (.int c4), .val (.int kk), .unset, .unset] [(.int c1), (.int (16 : Int32)), (.ref b58), (.ref b58)])) rfl rfl (hb hby at_244)
            replace V_b58 : Arv Z h92 b58 k58 .char (63 : Int32) [(.int (nar .char c1)), (.int (nar .char c2)), (.int (nar .char c3)), (.int (nar .char c4)), (.int (nar .char c1)), (.int (nar .char c2)), (.int (nar .char c3)), (.int (nar .char c4)), (.int (nar .char c1)), (.int (nar .char c2)), (.int (nar .char c3)), (.int (nar .char c4)), (.int (nar .char c1)), (.int (nar .char c2)), (.int (nar .char c3)), (.int (nar .char c4)), (.int (nar .char c1)), (.int (0 : Int32)), (.int (0 : Int32)), (.int (0 : Int32)), (.int (0 : Int32)), (.int (0 : Int32)), (.int (0 : Int32)), (.int (0 : Int32)), (.int (0 : Int32)), (.int (0 : Int32)), (.int (0 : Int32)), (.int (0 : Int32)), (.int (0 : Int32)), (.int (0 : Int32)), (.int (0 : Int32)), (.int (0 : Int32)), (.int (0 : Int32)), (.int (0 : Int32)), (.int (0 : Int32)), (.int (0 : Int32)), (.int (0 : Int32)), (.int (0 : Int32)), (.int (0 : Int32)), (.int (0 : Int32)), (.int (0 : Int32)), (.int (0 : Int32)), (.int (0 : Int32)), (.int (0 : Int32)), (.int (0 : Int32)), (.int (0 : Int32)), (.int (0 : Int32)), (.int (0 : Int32)), (.int (0 : Int32)), (.int (0 : Int32)), (.int (0 : Int32)), (.int (0 : Int32)), (.int (0 : Int32)), (.int (0 : Int32)), (.int (0 : Int32)), (.int (0 : Int32)), (.int (0 : Int32)), (.int (0 : Int32)), (.int (0 : Int32)), (.int (0 : Int32)), (.int (0 : Int32)), (.int (0 : Int32)), (.int (0 : Int32))] (.int (0 : Int32)) := Arv.set Ar92 q92 S92 Nn92 H92 G92 (fits_nar_char _) W92 16 rfl (Nat.le_of_ble_eq_true rfl)
            replace S_COMPACT_STRINGS := Sta.wr W92 S_COMPACT_STRINGS
            replace S_SIOOBE_FORMATTER := Sta.wr W92 S_SIOOBE_FORMATTER
            replace E_b58 := E_b58.wr W92
            have Z93 : n0 ≤ h92.size := Nat.le_trans Z91 (Keep.of_wr W92).1
            refine W.go st92 ?_
            have N92 := Fr.snoc X92 N90 g_b58
            show W p e below _ (T92.setTop (mkF m 245 #[.val (.int p0), .val (.int p1), .val (.int p2), .val (.int p3), .val (.int p4), .val (.int c1), .val (.int c2), .val (.int c3), .val (.int c4), .val (.int kk), .unset, .unset] [(.ref b58)]))
            refine W.go (fun _ hr => XS.dup X92.here hx rfl (hb hby at_245) rfl rfl hr) ?_
            show W p e below _ (T92.setTop (mkF m 246 #[.val (.int p0), .val (.int p1), .val (.int p2), .val (.int p3), .val (.int p4), .val (.int c1), .val (.int c2), .val (.int c3), .val (.int c4), .val (.int kk), .unset, .unset] [(.ref b58), (.ref b58)]))
            refine W.go (fun _ hr => XS.bipush X92.here hx rfl (hb hby at_246) hr) ?_
            show W p e below _ (T92.setTop (mkF m 248 #[.val (.int p0), .val (.int p1), .val (.int p2), .val (.int p3), .val (.int p4), .val (.int c1), .val (.int c2), .val (.int c3), .val (.int c4), .val (.int kk), .unset, .unset] [(.int (17 : Int32)), (.ref b58), (.ref b58)]))
            refine W.go (fun _ hr => XS.iload X92.here hx rfl (hb hby at_248) rfl hr) ?_
            show W p e below _ (T92.setTop (mkF m 250 #[.val (.int p0), .val (.int p1), .val (.int p2), .val (.int p3), .val (.int p4), .val (.int c1), .val (.int c2), .val (.int c3), .val (.int c4), .val (.int kk), .unset, .unset] [(.int c2), (.int (17 : Int32)), (.ref b58), (.ref b58)]))
            obtain ⟨cl94, Ar94, q94, S94, Nn94, H94, G94⟩ := V_b58
            have hin94 : ¬ ((17 : Int32) < 0 ∨ cl94.slots.size ≤ ((17 : Int32)).toNatClampNeg) := inb_of S94 ⟨by decide, by decide⟩
            obtain ⟨T94, h94, X94, e94, W94, st94⟩ := stC X92 hx hZ e92 Ar94 (j := (17 : Int32)) hin94 (g := (mkF m 250 #[.val (.int p0), .val (.int p1), .val (.int p2), .val (.int p3), .val (.int p4), .val (.int c1), .val (.int c2), .val (.int c3), .val (.int c4), .val (.int kk), .unset, .unset] [(.int c2), (.int (17 : Int32)), (.ref b58), (.ref b58)])) rfl rfl (hb hby at_250)
            replace V_b58 : Arv Z h94 b58 k58 .char (63 : Int32) [(.int (nar .char c1)), (.int (nar .char c2)), (.int (nar .char c3)), (.int (nar .char c4)), (.int (nar .char c1)), (.int (nar .char c2)), (.int (nar .char c3)), (.int (nar .char c4)), (.int (nar .char c1)), (.int (nar .char c2)), (.int (nar .char c3)), (.int (nar .char c4)), (.int (nar .char c1)), (.int (nar .char c2)), (.int (nar .char c3)), (.int (nar .char c4)), (.int (nar .char c1)), (.int (nar .char c2)), (.int (0 : Int32)), (.int (0 : Int32)), (.int (0 : Int32)), (.int (0 : Int32)), (.int (0 : Int32)), (.int (0 : Int32)), (.int (0 : Int32)), (.int (0 : Int32)), (.int (0 : Int32)), (.int (0 : Int32)), (.int (0 : Int32)), (.int (0 : Int32)), (.int (0 : Int32)), (.int (0 : Int32)), (.int (0 : Int32)), (.int (0 : Int32)), (.int (0 : Int32)), (.int (0 : Int32)), (.int (0 : Int32)), (.int (0 : Int32)), (.int (0 : Int32)), (.int (0 : Int32)), (.int (0 : Int32)), (.int (0 : Int32)), (.int (0 : Int32)), (.int (0 : Int32)), (.int (0 : Int32)), (.int (0 : Int32)), (.int (0 : Int32)), (.int (0 : Int32)), (.int (0 : Int32)), (.int (0 : Int32)), (.int (0 : Int32)), (.int (0 : Int32)), (.int (0 : Int32)), (.int (0 : Int32)), (.int (0 : Int32)), (.int (0 : Int32)), (.int (0 : Int32)), (.int (0 : Int32)), (.int (0 : Int32)), (.int (0 : Int32)), (.int (0 : Int32)), (.int (0 : Int32)), (.int (0 : Int32))] (.int (0 : Int32)) := Arv.set Ar94 q94 S94 Nn94 H94 G94 (fits_nar_char _) W94 17 rfl (Nat.le_of_ble_eq_true rfl)
            replace S_COMPACT_STRINGS := Sta.wr W94 S_COMPACT_STRINGS
            replace S_SIOOBE_FORMATTER := Sta.wr W94 S_SIOOBE_FORMATTER
            replace E_b58 := E_b58.wr W94
            have Z95 : n0 ≤ h94.size := Nat.le_trans Z93 (Keep.of_wr W94).1
            refine W.go st94 ?_
            have N94 := Fr.snoc X94 N92 g_b58
            show W p e below _ (T94.setTop (mkF m 251 #[.val (.int p0), .val (.int p1), .val (.int p2), .val (.int p3), .val (.int p4), .val (.int c1), .val (.int c2), .val (.int c3), .val (.int c4), .val (.int kk), .unset, .unset] [(.ref b58)]))
            refine W.go (fun _ hr => XS.dup X94.here hx rfl (hb hby at_251) rfl rfl hr) ?_
            show W p e below _ (T94.setTop (mkF m 252 #[.val (.int p0), .val (.int p1), .val (.int p2), .val (.int p3), .val (.int p4), .val (.int c1), .val (.int c2), .val (.int c3), .val (.int c4), .val (.int kk), .unset, .unset] [(.ref b58), (.ref b58)]))
            refine W.go (fun _ hr => XS.bipush X94.here hx rfl (hb hby at_252) hr) ?_
            show W p e below _ (T94.setTop (mkF m 254 #[.val (.int p0), .val (.int p1), .val (.int p2), .val (.int p3), .val (.int p4), .val (.int c1), .val (.int c2), .val (.int c3), .val (.int c4), .val (.int kk), .unset, .unset] [(.int (18 : Int32)), (.ref b58), (.ref b58)]))
            refine W.go (fun _ hr => XS.iload X94.here hx rfl (hb hby at_254) rfl hr) ?_
            show W p e below _ (T94.setTop (mkF m 256 #[.val (.int p0), .val (.int p1), .val (.int p2), .val (.int p3), .val (.int p4), .val (.int c1), .val (.int c2), .val (.int c3), .val (.int c4), .val (.int kk), .unset, .unset] [(.int c3), (.int (18 : Int32)), (.ref b58), (.ref b58)]))
            obtain ⟨cl96, Ar96, q96, S96, Nn96, H96, G96⟩ := V_b58
            have hin96 : ¬ ((18 : Int32) < 0 ∨ cl96.slots.size ≤ ((18 : Int32)).toNatClampNeg) := inb_of S96 ⟨by decide, by decide⟩
            obtain ⟨T96, h96, X96, e96, W96, st96⟩ := stC X94 hx hZ e94 Ar96 (j := (18 : Int32)) hin96 (g := (mkF m 256 #[.val (.int p0), .val (.int p1), .val (.int p2), .val (.int p3), .val (.int p4), .val (.int c1), .val (.int c2), .val (.int c3), .val (.int c4), .val (.int kk), .unset, .unset] [(.int c3), (.int (18 : Int32)), (.ref b58), (.ref b58)])) rfl rfl (hb hby at_256)
            replace V_b58 : Arv Z h96 b58 k58 .char (63 : Int32) [(.int (nar .char c1)), (.int (nar .char c2)), (.int (nar .char c3)), (.int (nar .char c4)), (.int (nar .char c1)), (.int (nar .char c2)), (.int (nar .char c3)), (.int (nar .char c4)), (.int (nar .char c1)), (.int (nar .char c2)), (.int (nar .char c3)), (.int (nar .char c4)), (.int (nar .char c1)), (.int (nar .char c2)), (.int (nar .char c3)), (.int (nar .char c4)), (.int (nar .char c1)), (.int (nar .char c2)), (.int (nar .char c3)), (.int (0 : Int32)), (.int (0 : Int32)), (.int (0 : Int32)), (.int (0 : Int32)), (.int (0 : Int32)), (.int (0 : Int32)), (.int (0 : Int32)), (.int (0 : Int32)), (.int (0 : Int32)), (.int (0 : Int32)), (.int (0 : Int32)), (.int (0 : Int32)), (.int (0 : Int32)), (.int (0 : Int32)), (.int (0 : Int32)), (.int (0 : Int32)), (.int (0 : Int32)), (.int (0 : Int32)), (.int (0 : Int32)), (.int (0 : Int32)), (.int (0 : Int32)), (.int (0 : Int32)), (.int (0 : Int32)), (.int (0 : Int32)), (.int (0 : Int32)), (.int (0 : Int32)), (.int (0 : Int32)), (.int (0 : Int32)), (.int (0 : Int32)), (.int (0 : Int32)), (.int (0 : Int32)), (.int (0 : Int32)), (.int (0 : Int32)), (.int (0 : Int32)), (.int (0 : Int32)), (.int (0 : Int32)), (.int (0 : Int32)), (.int (0 : Int32)), (.int (0 : Int32)), (.int (0 : Int32)), (.int (0 : Int32)), (.int (0 : Int32)), (.int (0 : Int32)), (.int (0 : Int32))] (.int (0 : Int32)) := Arv.set Ar96 q96 S96 Nn96 H96 G96 (fits_nar_char _) W96 18 rfl (Nat.le_of_ble_eq_true rfl)
            replace S_COMPACT_STRINGS := Sta.wr W96 S_COMPACT_STRINGS
            replace S_SIOOBE_FORMATTER := Sta.wr W96 S_SIOOBE_FORMATTER
            replace E_b58 := E_b58.wr W96
            have Z97 : n0 ≤ h96.size := Nat.le_trans Z95 (Keep.of_wr W96).1
            refine W.go st96 ?_
            have N96 := Fr.snoc X96 N94 g_b58
            show W p e below _ (T96.setTop (mkF m 257 #[.val (.int p0), .val (.int p1), .val (.int p2), .val (.int p3), .val (.int p4), .val (.int c1), .val (.int c2), .val (.int c3), .val (.int c4), .val (.int kk), .unset, .unset] [(.ref b58)]))
            refine W.go (fun _ hr => XS.dup X96.here hx rfl (hb hby at_257) rfl rfl hr) ?_
            show W p e below _ (T96.setTop (mkF m 258 #[.val (.int p0), .val (.int p1), .val (.int p2), .val (.int p3), .val (.int p4), .val (.int c1), .val (.int c2), .val (.int c3), .val (.int c4), .val (.int kk), .unset, .unset] [(.ref b58), (.ref b58)]))
            refine W.go (fun _ hr => XS.bipush X96.here hx rfl (hb hby at_258) hr) ?_
            show W p e below _ (T96.setTop (mkF m 260 #[.val (.int p0), .val (.int p1), .val (.int p2), .val (.int p3), .val (.int p4), .val (.int c1), .val (.int c2), .val (.int c3), .val (.int c4), .val (.int kk), .unset, .unset] [(.int (19 : Int32)), (.ref b58), (.ref b58)]))
            refine W.go (fun _ hr => XS.iload X96.here hx rfl (hb hby at_260) rfl hr) ?_
            show W p e below _ (T96.setTop (mkF m 262 #[.val (.int p0), .val (.int p1), .val (.int p2), .val (.int p3), .val (.int p4), .val (.int c1), .val (.int c2), .val (.int c3), .val (.int c4), .val (.int kk), .unset, .unset] [(.int c4), (.int (19 : Int32)), (.ref b58), (.ref b58)]))
            obtain ⟨cl98, Ar98, q98, S98, Nn98, H98, G98⟩ := V_b58
            have hin98 : ¬ ((19 : Int32) < 0 ∨ cl98.slots.size ≤ ((19 : Int32)).toNatClampNeg) := inb_of S98 ⟨by decide, by decide⟩
            obtain ⟨T98, h98, X98, e98, W98, st98⟩ := stC X96 hx hZ e96 Ar98 (j := (19 : Int32)) hin98 (g := (mkF m 262 #[.val (.int p0), .val (.int p1), .val (.int p2), .val (.int p3), .val (.int p4), .val (.int c1), .val (.int c2), .val (.int c3), .val (.int c4), .val (.int kk), .unset, .unset] [(.int c4), (.int (19 : Int32)), (.ref b58), (.ref b58)])) rfl rfl (hb hby at_262)
            replace V_b58 : Arv Z h98 b58 k58 .char (63 : Int32) [(.int (nar .char c1)), (.int (nar .char c2)), (.int (nar .char c3)), (.int (nar .char c4)), (.int (nar .char c1)), (.int (nar .char c2)), (.int (nar .char c3)), (.int (nar .char c4)), (.int (nar .char c1)), (.int (nar .char c2)), (.int (nar .char c3)), (.int (nar .char c4)), (.int (nar .char c1)), (.int (nar .char c2)), (.int (nar .char c3)), (.int (nar .char c4)), (.int (nar .char c1)), (.int (nar .char c2)), (.int (nar .char c3)), (.int (nar .char c4)), (.int (0 : Int32)), (.int (0 : Int32)), (.int (0 : Int32)), (.int (0 : Int32)), (.int (0 : Int32)), (.int (0 : Int32)), (.int (0 : Int32)), (.int (0 : Int32)), (.int (0 : Int32)), (.int (0 : Int32)), (.int (0 : Int32)), (.int (0 : Int32)), (.int (0 : Int32)), (.int (0 : Int32)), (.int (0 : Int32)), (.int (0 : Int32)), (.int (0 : Int32)), (.int (0 : Int32)), (.int (0 : Int32)), (.int (0 : Int32)), (.int (0 : Int32)), (.int (0 : Int32)), (.int (0 : Int32)), (.int (0 : Int32)), (.int (0 : Int32)), (.int (0 : Int32)), (.int (0 : Int32)), (.int (0 : Int32)), (.int (0 : Int32)), (.int (0 : Int32)), (.int (0 : Int32)), (.int (0 : Int32)), (.int (0 : Int32)), (.int (0 : Int32)), (.int (0 : Int32)), (.int (0 : Int32)), (.int (0 : Int32)), (.int (0 : Int32)), (.int (0 : Int32)), (.int (0 : Int32)), (.int (0 : Int32)), (.int (0 : Int32)), (.int (0 : Int32))] (.int (0 : Int32)) := Arv.set Ar98 q98 S98 Nn98 H98 G98 (fits_nar_char _) W98 19 rfl (Nat.le_of_ble_eq_true rfl)
            replace S_COMPACT_STRINGS := Sta.wr W98 S_COMPACT_STRINGS
            replace S_SIOOBE_FORMATTER := Sta.wr W98 S_SIOOBE_FORMATTER
            replace E_b58 := E_b58.wr W98
            have Z99 : n0 ≤ h98.size := Nat.le_trans Z97 (Keep.of_wr W98).1
            refine W.go st98 ?_
            have N98 := Fr.snoc X98 N96 g_b58
            show W p e below _ (T98.setTop (mkF m 263 #[.val (.int p0), .val (.int p1), .val (.int p2), .val (.int p3), .val (.int p4), .val (.int c1), .val (.int c2), .val (.int c3), .val (.int c4), .val (.int kk), .unset, .unset] [(.ref b58)]))
            refine W.go (fun _ hr => XS.dup X98.here hx rfl (hb hby at_263) rfl rfl hr) ?_
            show W p e below _ (T98.setTop (mkF m 264 #[.val (.int p0), .val (.int p1), .val (.int p2), .val (.int p3), .val (.int p4), .val (.int c1), .val (.int c2), .val (.int c3), .val (.int c4), .val (.int kk), .unset, .unset] [(.ref b58), (.ref b58)]))
            refine W.go (fun _ hr => XS.bipush X98.here hx rfl (hb hby at_264) hr) ?_
            show W p e below _ (T98.setTop (mkF m 266 #[.val (.int p0), .val (.int p1), .val (.int p2), .val (.int p3), .val (.int p4), .val (.int c1), .val (.int c2), .val (.int c3), .val (.int c4), .val (.int kk), .unset, .unset] [(.int (20 : Int32)), (.ref b58), (.ref b58)]))
            refine W.go (fun _ hr => XS.iload X98.here hx rfl (hb hby at_266) rfl hr) ?_
            show W p e below _ (T98.setTop (mkF m 268 #[.val (.int p0), .val (.int p1), .val (.int p2), .val (.int p3), .val (.int p4), .val (.int c1), .val (.int c2), .val (.int c3), .val (.int c4), .val (.int kk), .unset, .unset] [(.int c1), (.int (20 : Int32)), (.ref b58), (.ref b58)]))
            obtain ⟨cl100, Ar100, q100, S100, Nn100, H100, G100⟩ := V_b58
            have hin100 : ¬ ((20 : Int32) < 0 ∨ cl100.slots.size ≤ ((20 : Int32)).toNatClampNeg) := inb_of S100 ⟨by decide, by decide⟩
            obtain ⟨T100, h100, X100, e100, W100, st100⟩ := stC X98 hx hZ e98 Ar100 (j := (20 : Int32)) hin100 (g := (mkF m 268 #[.val (.int p0), .val (.int p1), .val (.int p2), .val (.int p3), .val (.int p4), .val (.int c1), .val (.int c2), .val (.int c3), .val (.int c4), .val (.int kk), .unset, .unset] [(.int c1), (.int (20 : Int32)), (.ref b58), (.ref b58)])) rfl rfl (hb hby at_268)
            replace V_b58 : Arv Z h100 b58 k58 .char (63 : Int32) [(.int (nar .char c1)), (.int (nar .char c2)), (.int (nar .char c3)), (.int (nar .char c4)), (.int (nar .char c1)), (.int (nar .char c2)), (.int (nar .char c3)), (.int (nar .char c4)), (.int (nar .char c1)), (.int (nar .char c2)), (.int (nar .char c3)), (.int (nar .char c4)), (.int (nar .char c1)), (.int (nar .char c2)), (.int (nar .char c3)), (.int (nar .char c4)), (.int (nar .char c1)), (.int (nar .char c2)), (.int (nar .char c3)), (.int (nar .char c4)), (.int (nar .char c1)), (.int (0 : Int32)), (.int (0 : Int32)), (.int (0 : Int32)), (.int (0 : Int32)), (.int (0 : Int32)), (.int (0 : Int32)), (.int (0 : Int32)), (.int (0 : Int32)), (.int (0 : Int32)), (.int (0 : Int32)), (.int (0 : Int32)), (.int (0 : Int32)), (.int (0 : Int32)), (.int (0 : Int32)), (.int (0 : Int32)), (.int (0 : Int32)), (.int (0 : Int32)), (.int (0 : Int32)), (.int (0 : Int32)), (.int (0 : Int32)), (.int (0 : Int32)), (.int (0 : Int32)), (.int (0 : Int32)), (.int (0 : Int32)), (.int (0 : Int32)), (.int (0 : Int32)), (.int (0 : Int32)), (.int (0 : Int32)), (.int (0 : Int32)), (.int (0 : Int32)), (.int (0 : Int32)), (.int (0 : Int32)), (.int (0 : Int32)), (.int (0 : Int32)), (.int (0 : Int32)), (.int (0 : Int32)), (.int (0 : Int32)), (.int (0 : Int32)), (.int (0 : Int32)), (.int (0 : Int32)), (.int (0 : Int32)), (.int (0 : Int32))] (.int (0 : Int32)) := Arv.set Ar100 q100 S100 Nn100 H100 G100 (fits_nar_char _) W100 20 rfl (Nat.le_of_ble_eq_true rfl)
            replace S_COMPACT_STRINGS := Sta.wr W100 S_COMPACT_STRINGS
            replace S_SIOOBE_FORMATTER := Sta.wr W100 S_SIOOBE_FORMATTER
            replace E_b58 := E_b58.wr W100
            have Z101 : n0 ≤ h100.size := Nat.le_trans Z99 (Keep.of_wr W100).1
            refine W.go st100 ?_
            have N100 := Fr.snoc X100 N98 g_b58
            show W p e below _ (T100.setTop (mkF m 269 #[.val (.int p0), .val (.int p1), .val (.int p2), .val (.int p3), .val (.int p4), .val (.int c1), .val (.int c2), .val (.int c3), .val (.int c4), .val (.int kk), .unset, .unset] [(.ref b58)]))
            refine W.go (fun _ hr => XS.dup X100.here hx rfl (hb hby at_269) rfl rfl hr) ?_
            show W p e below _ (T100.setTop (mkF m 270 #[.val (.int p0), .val (.int p1), .val (.int p2), .val (.int p3), .val (.int p4), .val (.int c1), .val (.int c2), .val (.int c3), .val (.int c4), .val (.int kk), .unset, .unset] [(.ref b58), (.ref b58)]))
            refine W.go (fun _ hr => XS.bipush X100.here hx rfl (hb hby at_270) hr) ?_
            show W p e below _ (T100.setTop (mkF m 272 #[.val (.int p0), .val (.int p1), .val (.int p2), .val (.int p3), .val (.int p4), .val (.int c1), .val (.int c2), .val (.int c3), .val (.int c4), .val (.int kk), .unset, .unset] [(.int (21 : Int32)), (.ref b58), (.ref b58)]))
            refine W.go (fun _ hr => XS.iload X100.here hx rfl (hb hby at_272) rfl hr) ?_
            show W p e below _ (T100.setTop (mkF m 274 #[.val (.int p0), .val (.int p1), .val (.int p2), .val (.int p3), .val (.int p4), .val (.int c1), .val (.int c2), .val (.int c3), .val (.int c4), .val (.int kk), .unset, .unset] [(.int c2), (.int (21 : Int32)), (.ref b58), (.ref b58)]))
            obtain ⟨cl102, Ar102, q102, S102, Nn102, H102, G102⟩ := V_b58
            have hin102 : ¬ ((21 : Int32) < 0 ∨ cl102.slots.size ≤ ((21 : Int32)).toNatClampNeg) := inb_of S102 ⟨by decide, by decide⟩
            obtain ⟨T102, h102, X102, e102, W102, st102⟩ := stC X100 hx hZ e100 Ar102 (j := (21 : Int32)) hin102 (g := (mkF m 274 #[.val (.int p0), .val (.int p1), .val (.int p2), .val (.int p3), .val (.int p4), .val (.int c1), .val (.int c2), .val (.int c3), .val (.int c4), .val (.int kk), .unset, .unset] [(.int c2), (.int (21 : Int32)), (.ref b58), (.ref b58)])) rfl rfl (hb hby at_274)
            replace V_b58 : Arv Z h102 b58 k58 .char (63 : Int32) [(.int (nar .char c1)), (.int (nar .char c2)), (.int (nar .char c3)), (.int (nar .char c4)), (.int (nar .char c1)), (.int (nar .char c2)), (.int (nar .char c3)), (.int (nar .char c4)), (.int (nar .char c1)), (.int (nar .char c2)), (.int (nar .char c3)), (.int (nar .char c4)), (.int (nar .char c1)), (.int (nar .char c2)), (.int (nar .char c3)), (.int (nar .char c4)), (.int (nar .char c1)), (.int (nar .char c2)), (.int (nar .char c3)), (.int (nar .char c4)), (.int (nar .char c1)), (.int (nar .char c2)), (.int (0 : Int32)), (.int (0 : Int32)), (.int (0 : Int32)), (.int (0 : Int32)), (.int (0 : Int32)), (.int (0 : Int32)), (.int (0 : Int32)), (.int (0 : Int32)), (.int (0 : Int32)), (.int (0 : Int32)), (.int (0 : Int32)), (.int (0 : Int32)), (.int (0 : Int32)), (.int (0 : Int32)), (.int (0 : Int32)), (.int (0 : Int32)), (.int (0 : Int32)), (.int (0 : Int32)), (.int (0 : Int32)), (.int (0 : Int32)), (.int (0 : Int32)), (.int (0 : Int32)), (.int (0 : Int32)), (.int (0 : Int32)), (.int (0 : Int32)), (.int (0 : Int32)), (.int (0 : Int32)), (.int (0 : Int32)), (.int (0 : Int32)), (.int (0 : Int32)), (.int (0 : Int32)), (.int (0 : Int32)), (.int (0 : Int32)), (.int (0 : Int32)), (.int (0 : Int32)), (.int (0 : Int32)), (.int (0 : Int32)), (.int (0 : Int32)), (.int (0 : Int32)), (.int (0 : Int32)), (.int (0 : Int32))] (.int (0 : Int32)) := Arv.set Ar102 q102 S102 Nn102 H102 G102 (fits_nar_char _) W102 21 rfl (Nat.le_of_ble_eq_true rfl)
            replace S_COMPACT_STRINGS := Sta.wr W102 S_COMPACT_STRINGS
            replace S_SIOOBE_FORMATTER := Sta.wr W102 S_SIOOBE_FORMATTER
            replace E_b58 := E_b58.wr W102
            have Z103 : n0 ≤ h102.size := Nat.le_trans Z101 (Keep.of_wr W102).1
            refine W.go st102 ?_
            have N102 := Fr.snoc X102 N100 g_b58
            show W p e below _ (T102.setTop (mkF m 275 #[.val (.int p0), .val (.int p1), .val (.int p2), .val (.int p3), .val (.int p4), .val (.int c1), .val (.int c2), .val (.int c3), .val (.int c4), .val (.int kk), .unset, .unset] [(.ref b58)]))
            refine W.go (fun _ hr => XS.dup X102.here hx rfl (hb hby at_275) rfl rfl hr) ?_
            show W p e below _ (T102.setTop (mkF m 276 #[.val (.int p0), .val (.int p1), .val (.int p2), .val (.int p3), .val (.int p4), .val (.int c1), .val (.int c2), .val (.int c3), .val (.int c4), .val (.int kk), .unset, .unset] [(.ref b58), (.ref b58)]))
            refine W.go (fun _ hr => XS.bipush X102.here hx rfl (hb hby at_276) hr) ?_
            show W p e below _ (T102.setTop (mkF m 278 #[.val (.int p0), .val (.int p1), .val (.int p2), .val (.int p3), .val (.int p4), .val (.int c1), .val (.int c2), .val (.int c3), .val (.int c4), .val (.int kk), .unset, .unset] [(.int (22 : Int32)), (.ref b58), (.ref b58)]))
            refine W.go (fun _ hr => XS.iload X102.here hx rfl (hb hby at_278) rfl hr) ?_
            show W p e below _ (T102.setTop (mkF m 280 #[.val (.int p0), .val (.int p1), .val (.int p2), .val (.int p3), .val (.int p4), .val (.int c1), .val (.int c2), .val (.int c3), .val (.int c4), .val (.int kk), .unset, .unset] [(.int c3), (.int (22 : Int32)), (.ref b58), (.ref b58)]))
            obtain ⟨cl104, Ar104, q104, S104, Nn104, H104, G104⟩ := V_b58
            have hin104 : ¬ ((22 : Int32) < 0 ∨ cl104.slots.size ≤ ((22 : Int32)).toNatClampNeg) := inb_of S104 ⟨by decide, by decide⟩
            obtain ⟨T104, h104, X104, e104, W104, st104⟩ := stC X102 hx hZ e102 Ar104 (j := (22 : Int32)) hin104 (g := (mkF m 280 #[.val (.int p0), .val (.int p1), .val (.int p2), .val (.int p3), .val (.int p4), .val (.int c1), .val (.int c2), .val (.int c3), .val (.int c4), .val (.int kk), .unset, .unset] [(.int c3), (.int (22 : Int32)), (.ref b58), (.ref b58)])) rfl rfl (hb hby at_280)
            replace V_b58 : Arv Z h104 b58 k58 .char (63 : Int32) [(.int (nar .char c1)), (.int (nar .char c2)), (.int (nar .char c3)), (.int (nar .char c4)), (.int (nar .char c1)), (.int (nar .char c2)), (.int (nar .char c3)), (.int (nar .char c4)), (.int (nar .char c1)), (.int (nar .char c2)), (.int (nar .char c3)), (.int (nar .char c4)), (.int (nar .char c1)), (.int (nar .char c2)), (.int (nar .char c3)), (.int (nar .char c4)), (.int (nar .char c1)), (.int (nar .char c2)), (.int (nar .char c3)), (.int (nar .char c4)), (.int (nar .char c1)), (.int (nar .char c2)), (.int (nar .char c3)), (.int (0 : Int32)), (.int (0 : Int32)), (.int (0 : Int32)), (.int (0 : Int32)), (.int (0 : Int32)), (.int (0 : Int32)), (.int (0 : Int32)), (.int (0 : Int32)), (.int (0 : Int32)), (.int (0 : Int32)), (.int (0 : Int32)), (.int (0 : Int32)), (.int (0 : Int32)), (.int (0 : Int32)), (.int (0 : Int32)), (.int (0 : Int32)), (.int (0 : Int32)), (.int (0 : Int32)), (.int (0 : Int32)), (.int (0 : Int32)), (.int (0 : Int32)), (.int (0 : Int32)), (.int (0 : Int32)), (.int (0 : Int32)), (.int (0 : Int32)), (.int (0 : Int32)), (.int (0 : Int32)), (.int (0 : Int32)), (.int (0 : Int32)), (.int (0 : Int32)), (.int (0 : Int32)), (.int (0 : Int32)), (.int (0 : Int32)), (.int (0 : Int32)), (.int (0 : Int32)), (.int (0 : Int32)), (.int (0 : Int32)), (.int (0 : Int32)), (.int (0 : Int32)), (.int (0 : Int32))] (.int (0 : Int32)) := Arv.set Ar104 q104 S104 Nn104 H104 G104 (fits_nar_char _) W104 22 rfl (Nat.le_of_ble_eq_true rfl)
            replace S_COMPACT_STRINGS := Sta.wr W104 S_COMPACT_STRINGS
            replace S_SIOOBE_FORMATTER := Sta.wr W104 S_SIOOBE_FORMATTER
            replace E_b58 := E_b58.wr W104
            have Z105 : n0 ≤ h104.size := Nat.le_trans Z103 (Keep.of_wr W104).1
            refine W.go st104 ?_
            have N104 := Fr.snoc X104 N102 g_b58
            show W p e below _ (T104.setTop (mkF m 281 #[.val (.int p0), .val (.int p1), .val (.int p2), .val (.int p3), .val (.int p4), .val (.int c1), .val (.int c2), .val (.int c3), .val (.int c4), .val (.int kk), .unset, .unset] [(.ref b58)]))
            refine W.go (fun _ hr => XS.dup X104.here hx rfl (hb hby at_281) rfl rfl hr) ?_
            show W p e below _ (T104.setTop (mkF m 282 #[.val (.int p0), .val (.int p1), .val (.int p2), .val (.int p3), .val (.int p4), .val (.int c1), .val (.int c2), .val (.int c3), .val (.int c4), .val (.int kk), .unset, .unset] [(.ref b58), (.ref b58)]))
            refine W.go (fun _ hr => XS.bipush X104.here hx rfl (hb hby at_282) hr) ?_
            show W p e below _ (T104.setTop (mkF m 284 #[.val (.int p0), .val (.int p1), .val (.int p2), .val (.int p3), .val (.int p4), .val (.int c1), .val (.int c2), .val (.int c3), .val (.int c4), .val (.int kk), .unset, .unset] [(.int (23 : Int32)), (.ref b58), (.ref b58)]))
            refine W.go (fun _ hr => XS.iload X104.here hx rfl (hb hby at_284) rfl hr) ?_
            show W p e below _ (T104.setTop (mkF m 286 #[.val (.int p0), .val (.int p1), .val (.int p2), .val (.int p3), .val (.int p4), .val (.int c1), .val (.int c2), .val (.int c3), .val (.int c4), .val (.int kk), .unset, .unset] [(.int c4), (.int (23 : Int32)), (.ref b58), (.ref b58)]))
            obtain ⟨cl106, Ar106, q106, S106, Nn106, H106, G106⟩ := V_b58
            have hin106 : ¬ ((23 : Int32) < 0 ∨ cl106.slots.size ≤ ((23 : Int32)).toNatClampNeg) := inb_of S106 ⟨by decide, by decide⟩
            obtain ⟨T106, h106, X106, e106, W106, st106⟩ := stC X104 hx hZ e104 Ar106 (j := (23 : Int32)) hin106 (g := (mkF m 286 #[.val (.int p0), .val (.int p1), .val (.int p2), .val (.int p3), .val (.int p4), .val (.int c1), .val (.int c2), .val (.int c3), .val (.int c4), .val (.int kk), .unset, .unset] [(.int c4), (.int (23 : Int32)), (.ref b58), (.ref b58)])) rfl rfl (hb hby at_286)
            replace V_b58 : Arv Z h106 b58 k58 .char (63 : Int32) [(.int (nar .char c1)), (.int (nar .char c2)), (.int (nar .char c3)), (.int (nar .char c4)), (.int (nar .char c1)), (.int (nar .char c2)), (.int (nar .char c3)), (.int (nar .char c4)), (.int (nar .char c1)), (.int (nar .char c2)), (.int (nar .char c3)), (.int (nar .char c4)), (.int (nar .char c1)), (.int (nar .char c2)), (.int (nar .char c3)), (.int (nar .char c4)), (.int (nar .char c1)), (.int (nar .char c2)), (.int (nar .char c3)), (.int (nar .char c4)), (.int (nar .char c1)), (.int (nar .char c2)), (.int (nar .char c3)), (.int (nar .char c4)), (.int (0 : Int32)), (.int (0 : Int32)), (.int (0 : Int32)), (.int (0 : Int32)), (.int (0 : Int32)), (.int (0 : Int32)), (.int (0 : Int32)), (.int (0 : Int32)), (.int (0 : Int32)), (.int (0 : Int32)), (.int (0 : Int32)), (.int (0 : Int32)), (.int (0 : Int32)), (.int (0 : Int32)), (.int (0 : Int32)), (.int (0 : Int32)), (.int (0 : Int32)), (.int (0 : Int32)), (.int (0 : Int32)), (.int (0 : Int32)), (.int (0 : Int32)), (.int (0 : Int32)), (.int (0 : Int32)), (.int (0 : Int32)), (.int (0 : Int32)), (.int (0 : Int32)), (.int (0 : Int32)), (.int (0 : Int32)), (.int (0 : Int32)), (.int (0 : Int32)), (.int (0 : Int32)), (.int (0 : Int32)), (.int (0 : Int32)), (.int (0 : Int32)), (.int (0 : Int32)), (.int (0 : Int32)), (.int (0 : Int32)), (.int (0 : Int32)), (.int (0 : Int32))] (.int (0 : Int32)) := Arv.set Ar106 q106 S106 Nn106 H106 G106 (fits_nar_char _) W106 23 rfl (Nat.le_of_ble_eq_true rfl)
            replace S_COMPACT_STRINGS := Sta.wr W106 S_COMPACT_STRINGS
            replace S_SIOOBE_FORMATTER := Sta.wr W106 S_SIOOBE_FORMATTER
            replace E_b58 := E_b58.wr W106
            have Z107 : n0 ≤ h106.size := Nat.le_trans Z105 (Keep.of_wr W106).1
            refine W.go st106 ?_
            have N106 := Fr.snoc X106 N104 g_b58
            show W p e below _ (T106.setTop (mkF m 287 #[.val (.int p0), .val (.int p1), .val (.int p2), .val (.int p3), .val (.int p4), .val (.int c1), .val (.int c2), .val (.int c3), .val (.int c4), .val (.int kk), .unset, .unset] [(.ref b58)]))
            refine W.go (fun _ hr => XS.dup X106.here hx rfl (hb hby at_287) rfl rfl hr) ?_
            show W p e below _ (T106.setTop (mkF m 288 #[.val (.int p0), .val (.int p1), .val (.int p2), .val (.int p3), .val (.int p4), .val (.int c1), .val (.int c2), .val (.int c3), .val (.int c4), .val (.int kk), .unset, .unset] [(.ref b58), (.ref b58)]))
            refine W.go (fun _ hr => XS.bipush X106.here hx rfl (hb hby at_288) hr) ?_
            show W p e below _ (T106.setTop (mkF m 290 #[.val (.int p0), .val (.int p1), .val (.int p2), .val (.int p3), .val (.int p4), .val (.int c1), .val (.int c2), .val (.int c3), .val (.int c4), .val (.int kk), .unset, .unset] [(.int (24 : Int32)), (.ref b58), (.ref b58)]))
            refine W.go (fun _ hr => XS.iload X106.here hx rfl (hb hby at_290) rfl hr) ?_
            show W p e below _ (T106.setTop (mkF m 292 #[.val (.int p0), .val (.int p1), .val (.int p2), .val (.int p3), .val (.int p4), .val (.int c1), .val (.int c2), .val (.int c3), .val (.int c4), .val (.int kk), .unset, .unset] [(.int c1), (.int (24 : Int32)), (.ref b58), (.ref b58)]))
            obtain ⟨cl108, Ar108, q108, S108, Nn108, H108, G108⟩ := V_b58
            have hin108 : ¬ ((24 : Int32) < 0 ∨ cl108.slots.size ≤ ((24 : Int32)).toNatClampNeg) := inb_of S108 ⟨by decide, by decide⟩
            obtain ⟨T108, h108, X108, e108, W108, st108⟩ := stC X106 hx hZ e106 Ar108 (j := (24 : Int32)) hin108 (g := (mkF m 292 #[.val (.int p0), .val (.int p1), .val (.int p2), .val (.int p3), .val (.int p4), .val (.int c1), .val (.int c2), .val (.int c3), .val (.int c4), .val (.int kk), .unset, .unset] [(.int c1), (.int (24 : Int32)), (.ref b58), (.ref b58)])) rfl rfl (hb hby at_292)
            replace V_b58 : Arv Z h108 b58 k58 .char (63 : Int32) [(.int (nar .char c1)), (.int (nar .char c2)), (.int (nar .char c3)), (.int (nar .char c4)), (.int (nar .char c1)), (.int (nar .char c2)), (.int (nar .char c3)), (.int (nar .char c4)), (.int (nar .char c1)), (.int (nar .char c2)), (.int (nar .char c3)), (.int (nar .char c4)), (.int (nar .char c1)), (.int (nar .char c2)), (.int (nar .char c3)), (.int (nar .char c4)), (.int (nar .char c1)), (.int (nar .char c2)), (.int (nar .char c3)), (.int (nar .char c4)), (.int (nar .char c1)), (.int (nar .char c2)), (.int (nar .char c3)), (.int (nar .char c4)), (.int (nar .char c1)), (.int (0 : Int32)), (.int (0 : Int32)), (.int (0 : Int32)), (.int (0 : Int32)), (.int (0 : Int32)), (.int (0 : Int32)), (.int (0 : Int32)), (.int (0 : Int32)), (.int (0 : Int32)), (.int (0 : Int32)), (.int (0 : Int32)), (.int (0 : Int32)), (.int (0 : Int32)), (.int (0 : Int32)), (.int (0 : Int32)), (.int (0 : Int32)), (.int (0 : Int32)), (.int (0 : Int32)), (.int (0 : Int32)), (.int (0 : Int32)), (.int (0 : Int32)), (.int (0 : Int32)), (.int (0 : Int32)), (.int (0 : Int32)), (.int (0 : Int32)), (.int (0 : Int32)), (.int (0 : Int32)), (.int (0 : Int32)), (.int (0 : Int32)), (.int (0 : Int32)), (.int (0 : Int32)), (.int (0 : Int32)), (.int (0 : Int32)), (.int (0 : Int32)), (.int (0 : Int32)), (.int (0 : Int32)), (.int (0 : Int32)), (.int (0 : Int32))] (.int (0 : Int32)) := Arv.set Ar108 q108 S108 Nn108 H108 G108 (fits_nar_char _) W108 24 rfl (Nat.le_of_ble_eq_true rfl)
            replace S_COMPACT_STRINGS := Sta.wr W108 S_COMPACT_STRINGS
            replace S_SIOOBE_FORMATTER := Sta.wr W108 S_SIOOBE_FORMATTER
            replace E_b58 := E_b58.wr W108
            have Z109 : n0 ≤ h108.size := Nat.le_trans Z107 (Keep.of_wr W108).1
            refine W.go st108 ?_
            have N108 := Fr.snoc X108 N106 g_b58
            show W p e below _ (T108.setTop (mkF m 293 #[.val (.int p0), .val (.int p1), .val (.int p2), .val (.int p3), .val (.int p4), .val (.int c1), .val (.int c2), .val (.int c3), .val (.int c4), .val (.int kk), .unset, .unset] [(.ref b58)]))
            refine W.go (fun _ hr => XS.dup X108.here hx rfl (hb hby at_293) rfl rfl hr) ?_
            show W p e below _ (T108.setTop (mkF m 294 #[.val (.int p0), .val (.int p1), .val (.int p2), .val (.int p3), .val (.int p4), .val (.int c1), .val (.int c2), .val (.int c3), .val (.int c4), .val (.int kk), .unset, .unset] [(.ref b58), (.ref b58)]))
            refine W.go (fun _ hr => XS.bipush X108.here hx rfl (hb hby at_294) hr) ?_
            show W p e below _ (T108.setTop (mkF m 296 #[.val (.int p0), .val (.int p1), .val (.int p2), .val (.int p3), .val (.int p4), .val (.int c1), .val (.int c2), .val (.int c3), .val (.int c4), .val (.int kk), .unset, .unset] [(.int (25 : Int32)), (.ref b58), (.ref b58)]))
            refine W.go (fun _ hr => XS.iload X108.here hx rfl (hb hby at_296) rfl hr) ?_
            show W p e below _ (T108.setTop (mkF m 298 #[.val (.int p0), .val (.int p1), .val (.int p2), .val (.int p3), .val (.int p4), .val (.int c1), .val (.int c2), .val (.int c3), .val (.int c4), .val (.int kk), .unset, .unset] [(.int c2), (.int (25 : Int32)), (.ref b58), (.ref b58)]))
            obtain ⟨cl110, Ar110, q110, S110, Nn110, H110, G110⟩ := V_b58
            have hin110 : ¬ ((25 : Int32) < 0 ∨ cl110.slots.size ≤ ((25 : Int32)).toNatClampNeg) := inb_of S110 ⟨by decide, by decide⟩
            obtain ⟨T110, h110, X110, e110, W110, st110⟩ := stC X108 hx hZ e108 Ar110 (j := (25 : Int32)) hin110 (g := (mkF m 298 #[.val (.int p0), .val (.int p1), .val (.int p2), .val (.int p3), .val (.int p4), .val (.int c1), .val (.int c2), .val (.int c3), .val (.int c4), .val (.int kk), .unset, .unset] [(.int c2), (.int (25 : Int32)), (.ref b58), (.ref b58)])) rfl rfl (hb hby at_298)
            replace V_b58 : Arv Z h110 b58 k58 .char (63 : Int32) [(.int (nar .char c1)), (.int (nar .char c2)), (.int (nar .char c3)), (.int (nar .char c4)), (.int (nar .char c1)), (.int (nar .char c2)), (.int (nar .char c3)), (.int (nar .char c4)), (.int (nar .char c1)), (.int (nar .char c2)), (.int (nar .char c3)), (.int (nar .char c4)), (.int (nar .char c1)), (.int (nar .char c2)), (.int (nar .char c3)), (.int (nar .char c4)), (.int (nar .char c1)), (.int (nar .char c2)), (.int (nar .char c3)), (.int (nar .char c4)), (.int (nar .char c1)), (.int (nar .char c2)), (.int (nar .char c3)), (.int (nar .char c4)), (.int (nar .char c1)), (.int (nar .char c2)), (.int (0 : Int32)), (.int (0 : Int32)), (.int (0 : Int32)), (.int (0 : Int32)), (.int (0 : Int32)), (.int (0 : Int32)), (.int (0 : Int32)), (.int (0 : Int32)), (.int (0 : Int32)), (.int (0 : Int32)), (.int (0 : Int32)), (.int (0 : Int32)), (.int (0 : Int32)), (.int (0 : Int32)), (.int (0 : Int32)), (.int (0 : Int32)), (.int (0 : Int32)), (.int (0 : Int32)), (.int (0 : Int32)), (.int (0 : Int32)), (.int (0 : Int32)), (.int (0 : Int32)), (.int (0 : Int32)), (.int (0 : Int32)), (.int (0 : Int32)), (.int (0 : Int32)), (.int (0 : Int32)), (.int (0 : Int32)), (.int (0 : Int32)), (.int (0 : Int32)), (.int (0 : Int32)), (.int (0 : Int32)), (.int (0 : Int32)), (.int (0 : Int32)), (.int (0 : Int32)), (.int (0 : Int32)), (.int (0 : Int32))] (.int (0 : Int32)) := Arv.set Ar110 q110 S110 Nn110 H110 G110 (fits_nar_char _) W110 25 rfl (Nat.le_of_ble_eq_true rfl)
            replace S_COMPACT_STRINGS := Sta.wr W110 S_COMPACT_STRINGS
            replace S_SIOOBE_FORMATTER := Sta.wr W110 S_SIOOBE_FORMATTER
            replace E_b58 := E_b58.wr W110
            have Z111 : n0 ≤ h110.size := Nat.le_trans Z109 (Keep.of_wr W110).1
            refine W.go st110 ?_
            have N110 := Fr.snoc X110 N108 g_b58
            show W p e below _ (T110.setTop (mkF m 299 #[.val (.int p0), .val (.int p1), .val (.int p2), .val (.int p3), .val (.int p4), .val (.int c1), .val (.int c2), .val (.int c3), .val (.int c4), .val (.int kk), .unset, .unset] [(.ref b58)]))
            refine W.go (fun _ hr => XS.dup X110.here hx rfl (hb hby at_299) rfl rfl hr) ?_
            show W p e below _ (T110.setTop (mkF m 300 #[.val (.int p0), .val (.int p1), .val (.int p2), .val (.int p3), .val (.int p4), .val (.int c1), .val (.int c2), .val (.int c3), .val (.int c4), .val (.int kk), .unset, .unset] [(.ref b58), (.ref b58)]))
            refine W.go (fun _ hr => XS.bipush X110.here hx rfl (hb hby at_300) hr) ?_
            show W p e below _ (T110.setTop (mkF m 302 #[.val (.int p0), .val (.int p1), .val (.int p2), .val (.int p3), .val (.int p4), .val (.int c1), .val (.int c2), .val (.int c3), .val (.int c4), .val (.int kk), .unset, .unset] [(.int (26 : Int32)), (.ref b58), (.ref b58)]))
            refine W.go (fun _ hr => XS.iload X110.here hx rfl (hb hby at_302) rfl hr) ?_
            show W p e below _ (T110.setTop (mkF m 304 #[.val (.int p0), .val (.int p1), .val (.int p2), .val (.int p3), .val (.int p4), .val (.int c1), .val (.int c2), .val (.int c3), .val (.int c4), .val (.int kk), .unset, .unset] [(.int c3), (.int (26 : Int32)), (.ref b58), (.ref b58)]))
            obtain ⟨cl112, Ar112, q112, S112, Nn112, H112, G112⟩ := V_b58
            have hin112 : ¬ ((26 : Int32) < 0 ∨ cl112.slots.size ≤ ((26 : Int32)).toNatClampNeg) := inb_of S112 ⟨by decide, by decide⟩
            obtain ⟨T112, h112, X112, e112, W112, st112⟩ := stC X110 hx hZ e110 Ar112 (j := (26 : Int32)) hin112 (g := (mkF m 304 #[.val (.int p0), .val (.int p1), .val (.int p2), .val (.int p3), .val (.int p4), .val (.int c1), .val (.int c2), .val (.int c3), .val (.int c4), .val (.int kk), .unset, .unset] [(.int c3), (.int (26 : Int32)), (.ref b58), (.ref b58)])) rfl rfl (hb hby at_304)
            replace V_b58 : Arv Z h112 b58 k58 .char (63 : Int32) [(.int (nar .char c1)), (.int (nar .char c2)), (.int (nar .char c3)), (.int (nar .char c4)), (.int (nar .char c1)), (.int (nar .char c2)), (.int (nar .char c3)), (.int (nar .char c4)), (.int (nar .char c1)), (.int (nar .char c2)), (.int (nar .char c3)), (.int (nar .char c4)), (.int (nar .char c1)), (.int (nar .char c2)), (.int (nar .char c3)), (.int (nar .char c4)), (.int (nar .char c1)), (.int (nar .char c2)), (.int (nar .char c3)), (.int (nar .char c4)), (.int (nar .char c1)), (.int (nar .char c2)), (.int (nar .char c3)), (.int (nar .char c4)), (.int (nar .char c1)), (.int (nar .char c2)), (.int (nar .char c3)), (.int (0 : Int32)), (.int (0 : Int32)), (.int (0 : Int32)), (.int (0 : Int32)), (.int (0 : Int32)), (.int (0 : Int32)), (.int (0 : Int32)), (.int (0 : Int32)), (.int (0 : Int32)), (.int (0 : Int32)), (.int (0 : Int32)), (.int (0 : Int32)), (.int (0 : Int32)), (.int (0 : Int32)), (.int (0 : Int32)), (.int (0 : Int32)), (.int (0 : Int32)), (.int (0 : Int32)), (.int (0 : Int32)), (.int (0 : Int32)), (.int (0 : Int32)), (.int (0 : Int32)), (.int (0 : Int32)), (.int (0 : Int32)), (.int (0 : Int32)), (.int (0 : Int32)), (.int (0 : Int32)), (.int (0 : Int32)), (.int (0 : Int32)), (.int (0 : Int32)), (.int (0 : Int32)), (.int (0 : Int32)), (.int (0 : Int32)), (.int (0 : Int32)), (.int (0 : Int32)), (.int (0 : Int32))] (.int (0 : Int32)) := Arv.set Ar112 q112 S112 Nn112 H112 G112 (fits_nar_char _) W112 26 rfl (Nat.le_of_ble_eq_true rfl)
            replace S_COMPACT_STRINGS := Sta.wr W112 S_COMPACT_STRINGS
            replace S_SIOOBE_FORMATTER := Sta.wr W112 S_SIOOBE_FORMATTER
            replace E_b58 := E_b58.wr W112
            have Z113 : n0 ≤ h112.size := Nat.le_trans Z111 (Keep.of_wr W112).1
            refine W.go st112 ?_
            have N112 := Fr.snoc X112 N110 g_b58
            show W p e below _ (T112.setTop (mkF m 305 #[.val (.int p0), .val (.int p1), .val (.int p2), .val (.int p3), .val (.int p4), .val (.int c1), .val (.int c2), .val (.int c3), .val (.int c4), .val (.int kk), .unset, .unset] [(.ref b58)]))
            refine W.go (fun _ hr => XS.dup X112.here hx rfl (hb hby at_305) rfl rfl hr) ?_
            show W p e below _ (T112.setTop (mkF m 306 #[.val (.int p0), .val (.int p1), .val (.int p2), .val (.int p3), .val (.int p4), .val (.int c1), .val (.int c2), .val (.int c3), .val (.int c4), .val (.int kk), .unset, .unset] [(.ref b58), (.ref b58)]))
            refine W.go (fun _ hr => XS.bipush X112.here hx rfl (hb hby at_306) hr) ?_
            show W p e below _ (T112.setTop (mkF m 308 #[.val (.int p0), .val (.int p1), .val (.int p2), .val (.int p3), .val (.int p4), .val (.int c1), .val (.int c2), .val (.int c3), .val (.int c4), .val (.int kk), .unset, .unset] [(.int (27 : Int32)), (.ref b58), (.ref b58)]))
            refine W.go (fun _ hr => XS.iload X112.here hx rfl (hb hby at_308) rfl hr) ?_
            show W p e below _ (T112.setTop (mkF m 310 #[.val (.int p0), .val (.int p1), .val (.int p2), .val (.int p3), .val (.int p4), .val (.int c1), .val (.int c2), .val (.int c3), .val (.int c4), .val (.int kk), .unset, .unset] [(.int c4), (.int (27 : Int32)), (.ref b58), (.ref b58)]))
            obtain ⟨cl114, Ar114, q114, S114, Nn114, H114, G114⟩ := V_b58
            have hin114 : ¬ ((27 : Int32) < 0 ∨ cl114.slots.size ≤ ((27 : Int32)).toNatClampNeg) := inb_of S114 ⟨by decide, by decide⟩
            obtain ⟨T114, h114, X114, e114, W114, st114⟩ := stC X112 hx hZ e112 Ar114 (j := (27 : Int32)) hin114 (g := (mkF m 310 #[.val (.int p0), .val (.int p1), .val (.int p2), .val (.int p3), .val (.int p4), .val (.int c1), .val (.int c2), .val (.int c3), .val (.int c4), .val (.int kk), .unset, .unset] [(.int c4), (.int (27 : Int32)), (.ref b58), (.ref b58)])) rfl rfl (hb hby at_310)
            replace V_b58 : Arv Z h114 b58 k58 .char (63 : Int32) [(.int (nar .char c1)), (.int (nar .char c2)), (.int (nar .char c3)), (.int (nar .char c4)), (.int (nar .char c1)), (.int (nar .char c2)), (.int (nar .char c3)), (.int (nar .char c4)), (.int (nar .char c1)), (.int (nar .char c2)), (.int (nar .char c3)), (.int (nar .char c4)), (.int (nar .char c1)), (.int (nar .char c2)), (.int (nar .char c3)), (.int (nar .char c4)), (.int (nar .char c1)), (.int (nar .char c2)), (.int (nar .char c3)), (.int (nar .char c4)), (.int (nar .char c1)), (.int (nar .char c2)), (.int (nar .char c3)), (.int (nar .char c4)), (.int (nar .char c1)), (.int (nar .char c2)), (.int (nar .char c3)), (.int (nar .char c4)), (.int (0 : Int32)), (.int (0 : Int32)), (.int (0 : Int32)), (.int (0 : Int32)), (.int (0 : Int32)), (.int (0 : Int32)), (.int (0 : Int32)), (.int (0 : Int32)), (.int (0 : Int32)), (.int (0 : Int32)), (.int (0 : Int32)), (.int (0 : Int32)), (.int (0 : Int32)), (.int (0 : Int32)), (.int (0 : Int32)), (.int (0 : Int32)), (.int (0 : Int32)), (.int (0 : Int32)), (.int (0 : Int32)), (.int (0 : Int32)), (.int (0 : Int32)), (.int (0 : Int32)), (.int (0 : Int32)), (.int (0 : Int32)), (.int (0 : Int32)), (.int (0 : Int32)), (.int (0 : Int32)), (.int (0 : Int32)), (.int (0 : Int32)), (.int (0 : Int32)), (.int (0 : Int32)), (.int (0 : Int32)), (.int (0 : Int32)), (.int (0 : Int32)), (.int (0 : Int32))] (.int (0 : Int32)) := Arv.set Ar114 q114 S114 Nn114 H114 G114 (fits_nar_char _) W114 27 rfl (Nat.le_of_ble_eq_true rfl)
            replace S_COMPACT_STRINGS := Sta.wr W114 S_COMPACT_STRINGS
            replace S_SIOOBE_FORMATTER := Sta.wr W114 S_SIOOBE_FORMATTER
            replace E_b58 := E_b58.wr W114
            have Z115 : n0 ≤ h114.size := Nat.le_trans Z113 (Keep.of_wr W114).1
            refine W.go st114 ?_
            have N114 := Fr.snoc X114 N112 g_b58
            show W p e below _ (T114.setTop (mkF m 311 #[.val (.int p0), .val (.int p1), .val (.int p2), .val (.int p3), .val (.int p4), .val (.int c1), .val (.int c2), .val (.int c3), .val (.int c4), .val (.int kk), .unset, .unset] [(.ref b58)]))
            refine W.go (fun _ hr => XS.dup X114.here hx rfl (hb hby at_311) rfl rfl hr) ?_
            show W p e below _ (T114.setTop (mkF m 312 #[.val (.int p0), .val (.int p1), .val (.int p2), .val (.int p3), .val (.int p4), .val (.int c1), .val (.int c2), .val (.int c3), .val (.int c4), .val (.int kk), .unset, .unset] [(.ref b58), (.ref b58)]))
            refine W.go (fun _ hr => XS.bipush X114.here hx rfl (hb hby at_312) hr) ?_
            show W p e below _ (T114.setTop (mkF m 314 #[.val (.int p0), .val (.int p1), .val (.int p2), .val (.int p3), .val (.int p4), .val (.int c1), .val (.int c2), .val (.int c3), .val (.int c4), .val (.int kk), .unset, .unset] [(.int (28 : Int32)), (.ref b58), (.ref b58)]))
            refine W.go (fun _ hr => XS.iload X114.here hx rfl (hb hby at_314) rfl hr) ?_
            show W p e below _ (T114.setTop (mkF m 316 #[.val (.int p0), .val (.int p1), .val (.int p2), .val (.int p3), .val (.int p4), .val (.int c1), .val (.int c2), .val (.int c3), .val (.int c4), .val (.int kk), .unset, .unset] [(.int c1), (.int (28 : Int32)), (.ref b58), (.ref b58)]))
            obtain ⟨cl116, Ar116, q116, S116, Nn116, H116, G116⟩ := V_b58
            have hin116 : ¬ ((28 : Int32) < 0 ∨ cl116.slots.size ≤ ((28 : Int32)).toNatClampNeg) := inb_of S116 ⟨by decide, by decide⟩
            obtain ⟨T116, h116, X116, e116, W116, st116⟩ := stC X114 hx hZ e114 Ar116 (j := (28 : Int32)) hin116 (g := (mkF m 316 #[.val (.int p0), .val (.int p1), .val (.int p2), .val (.int p3), .val (.int p4), .val (.int c1), .val (.int c2), .val (.int c3), .val (.int c4), .val (.int kk), .unset, .unset] [(.int c1), (.int (28 : Int32)), (.ref b58), (.ref b58)])) rfl rfl (hb hby at_316)
            replace V_b58 : Arv Z h116 b58 k58 .char (63 : Int32) [(.int (nar .char c1)), (.int (nar .char c2)), (.int (nar .char c3)), (.int (nar .char c4)), (.int (nar .char c1)), (.int (nar .char c2)), (.int (nar .char c3)), (.int (nar .char c4)), (.int (nar .char c1)), (.int (nar .char c2)), (.int (nar .char c3)), (.int (nar .char c4)), (.int (nar .char c1)), (.int (nar .char c2)), (.int (nar .char c3)), (.int (nar .char c4)), (.int (nar .char c1)), (.int (nar .char c2)), (.int (nar .char c3)), (.int (nar .char c4)), (.int (nar .char c1)), (.int (nar .char c2)), (.int (nar .char c3)), (.int (nar .char c4)), (.int (nar .char c1)), (.int (nar .char c2)), (.int (nar .char c3)), (.int (nar .char c4)), (.int (nar .char c1)), (.int (0 : Int32)), (.int (0 : Int32)), (.int (0 : Int32)), (.int (0 : Int32)), (.int (0 : Int32)), (.int (0 : Int32)), (.int (0 : Int32)), (.int (0 : Int32)), (.int (0 : Int32)), (.int (0 : Int32)), (.int (0 : Int32)), (.int (0 : Int32)), (.int (0 : Int32)), (.int (0 : Int32)), (.int (0 : Int32)), (.int (0 : Int32)), (.int (0 : Int32)), (.int (0 : Int32)), (.int (0 : Int32)), (.int (0 : Int32)), (.int (0 : Int32)), (.int (0 : Int32)), (.int (0 : Int32)), (.int (0 : Int32)), (.int (0 : Int32)), (.int (0 : Int32)), (.int (0 : Int32)), (.int (0 : Int32)), (.int (0 : Int32)), (.int (0 : Int32)), (.int (0 : Int32)), (.int (0 : Int32)), (.int (0 : Int32)), (.int (0 : Int32))] (.int (0 : Int32)) := Arv.set Ar116 q116 S116 Nn116 H116 G116 (fits_nar_char _) W116 28 rfl (Nat.le_of_ble_eq_true rfl)
            replace S_COMPACT_STRINGS := Sta.wr W116 S_COMPACT_STRINGS
            replace S_SIOOBE_FORMATTER := Sta.wr W116 S_SIOOBE_FORMATTER
            replace E_b58 := E_b58.wr W116
            have Z117 : n0 ≤ h116.size := Nat.le_trans Z115 (Keep.of_wr W116).1
            refine W.go st116 ?_
            have N116 := Fr.snoc X116 N114 g_b58
            show W p e below _ (T116.setTop (mkF m 317 #[.val (.int p0), .val (.int p1), .val (.int p2), .val (.int p3), .val (.int p4), .val (.int c1), .val (.int c2), .val (.int c3), .val (.int c4), .val (.int kk), .unset, .unset] [(.ref b58)]))
            refine W.go (fun _ hr => XS.dup X116.here hx rfl (hb hby at_317) rfl rfl hr) ?_
            show W p e below _ (T116.setTop (mkF m 318 #[.val (.int p0), .val (.int p1), .val (.int p2), .val (.int p3), .val (.int p4), .val (.int c1), .val (.int c2), .val (.int c3), .val (.int c4), .val (.int kk), .unset, .unset] [(.ref b58), (.ref b58)]))
            refine W.go (fun _ hr => XS.bipush X116.here hx rfl (hb hby at_318) hr) ?_
            show W p e below _ (T116.setTop (mkF m 320 #[.val (.int p0), .val (.int p1), .val (.int p2), .val (.int p3), .val (.int p4), .val (.int c1), .val (.int c2), .val (.int c3), .val (.int c4), .val (.int kk), .unset, .unset] [(.int (29 : Int32)), (.ref b58), (.ref b58)]))
            refine W.go (fun _ hr => XS.iload X116.here hx rfl (hb hby at_320) rfl hr) ?_
            show W p e below _ (T116.setTop (mkF m 322 #[.val (.int p0), .val (.int p1), .val (.int p2), .val (.int p3), .val (.int p4), .val (.int c1), .val (.int c2), .val (.int c3), .val (.int c4), .val (.int kk), .unset, .unset] [(.int c2), (.int (29 : Int32)), (.ref b58), (.ref b58)]))
            obtain ⟨cl118, Ar118, q118, S118, Nn118, H118, G118⟩ := V_b58
            have hin118 : ¬ ((29 : Int32) < 0 ∨ cl118.slots.size ≤ ((29 : Int32)).toNatClampNeg) := inb_of S118 ⟨by decide, by decide⟩
            obtain ⟨T118, h118, X118, e118, W118, st118⟩ := stC X116 hx hZ e116 Ar118 (j := (29 : Int32)) hin118 (g := (mkF m 322 #[.val (.int p0), .val (.int p1), .val (.int p2), .val (.int p3), .val (.int p4), .val (.int c1), .val (.int c2), .val (.int c3), .val (.int c4), .val (.int kk), .unset, .unset] [(.int c2), (.int (29 : Int32)), (.ref b58), (.ref b58)])) rfl rfl (hb hby at_322)
            replace V_b58 : Arv Z h118 b58 k58 .char (63 : Int32) [(.int (nar .char c1)), (.int (nar .char c2)), (.int (nar .char c3)), (.int (nar .char c4)), (.int (nar .char c1)), (.int (nar .char c2)), (.int (nar .char c3)), (.int (nar .char c4)), (.int (nar .char c1)), (.int (nar .char c2)), (.int (nar .char c3)), (.int (nar .char c4)), (.int (nar .char c1)), (.int (nar .char c2)), (.int (nar .char c3)), (.int (nar .char c4)), (.int (nar .char c1)), (.int (nar .char c2)), (.int (nar .char c3)), (.int (nar .char c4)), (.int (nar .char c1)), (.int (nar .char c2)), (.int (nar .char c3)), (.int (nar .char c4)), (.int (nar .char c1)), (.int (nar .char c2)), (.int (nar .char c3)), (.int (nar .char c4)), (.int (nar .char c1)), (.int (nar .char c2)), (.int (0 : Int32)), (.int (0 : Int32)), (.int (0 : Int32)), (.int (0 : Int32)), (.int (0 : Int32)), (.int (0 : Int32)), (.int (0 : Int32)), (.int (0 : Int32)), (.int (0 : Int32)), (.int (0 : Int32)), (.int (0 : Int32)), (.int (0 : Int32)), (.int (0 : Int32)), (.int (0 : Int32)), (.int (0 : Int32)), (.int (0 : Int32)), (.int (0 : Int32)), (.int (0 : Int32)), (.int (0 : Int32)), (.int (0 : Int32)), (.int (0 : Int32)), (.int (0 : Int32)), (.int (0 : Int32)), (.int (0 : Int32)), (.int (0 : Int32)), (.int (0 : Int32)), (.int (0 : Int32)), (.int (0 : Int32)), (.int (0 : Int32)), (.int (0 : Int32)), (.int (0 : Int32)), (.int (0 : Int32)), (.int (0 : Int32))] (.int (0 : Int32)) := Arv.set Ar118 q118 S118 Nn118 H118 G118 (fits_nar_char _) W118 29 rfl (Nat.le_of_ble_eq_true rfl)
            replace S_COMPACT_STRINGS := Sta.wr W118 S_COMPACT_STRINGS
            replace S_SIOOBE_FORMATTER := Sta.wr W118 S_SIOOBE_FORMATTER
            replace E_b58 := E_b58.wr W118
            have Z119 : n0 ≤ h118.size := Nat.le_trans Z117 (Keep.of_wr W118).1
            refine W.go st118 ?_
            have N118 := Fr.snoc X118 N116 g_b58
            show W p e below _ (T118.setTop (mkF m 323 #[.val (.int p0), .val (.int p1), .val (.int p2), .val (.int p3), .val (.int p4), .val (.int c1), .val (.int c2), .val (.int c3), .val (.int c4), .val (.int kk), .unset, .unset] [(.ref b58)]))
            refine W.go (fun _ hr => XS.dup X118.here hx rfl (hb hby at_323) rfl rfl hr) ?_
            show W p e below _ (T118.setTop (mkF m 324 #[.val (.int p0), .val (.int p1), .val (.int p2), .val (.int p3), .val (.int p4), .val (.int c1), .val (.int c2), .val (.int c3), .val (.int c4), .val (.int kk), .unset, .unset] [(.ref b58), (.ref b58)]))
            refine W.go (fun _ hr => XS.bipush X118.here hx rfl (hb hby at_324) hr) ?_
            show W p e below _ (T118.setTop (mkF m 326 #[.val (.int p0), .val (.int p1), .val (.int p2), .val (.int p3), .val (.int p4), .val (.int c1), .val (.int c2), .val (.int c3), .val (.int c4), .val (.int kk), .unset, .unset] [(.int (30 : Int32)), (.ref b58), (.ref b58)]))
            refine W.go (fun _ hr => XS.iload X118.here hx rfl (hb hby at_326) rfl hr) ?_
            show W p e below _ (T118.setTop (mkF m 328 #[.val (.int p0), .val (.int p1), .val (.int p2), .val (.int p3), .val (.int p4), .val (.int c1), .val (.int c2), .val (.int c3), .val (.int c4), .val (.int kk), .unset, .unset] [(.int c3), (.int (30 : Int32)), (.ref b58), (.ref b58)]))
            obtain ⟨cl120, Ar120, q120, S120, Nn120, H120, G120⟩ := V_b58
            have hin120 : ¬ ((30 : Int32) < 0 ∨ cl120.slots.size ≤ ((30 : Int32)).toNatClampNeg) := inb_of S120 ⟨by decide, by decide⟩
            obtain ⟨T120, h120, X120, e120, W120, st120⟩ := stC X118 hx hZ e118 Ar120 (j := (30 : Int32)) hin120 (g := (mkF m 328 #[.val (.int p0), .val (.int p1), .val (.int p2), .val (.int p3), .val (.int p4), .val (.int c1), .val (.int c2), .val (.int c3), .val (.int c4), .val (.int kk), .unset, .unset] [(.int c3), (.int (30 : Int32)), (.ref b58), (.ref b58)])) rfl rfl (hb hby at_328)
            replace V_b58 : Arv Z h120 b58 k58 .char (63 : Int32) [(.int (nar .char c1)), (.int (nar .char c2)), (.int (nar .char c3)), (.int (nar .char c4)), (.int (nar .char c1)), (.int (nar .char c2)), (.int (nar .char c3)), (.int (nar .char c4)), (.int (nar .char c1)), (.int (nar .char c2)), (.int (nar .char c3)), (.int (nar .char c4)), (.int (nar .char c1)), (.int (nar .char c2)), (.int (nar .char c3)), (.int (nar .char c4)), (.int (nar .char c1)), (.int (nar .char c2)), (.int (nar .char c3)), (.int (nar .char c4)), (.int (nar .char c1)), (.int (nar .char c2)), (.int (nar .char c3)), (.int (nar .char c4)), (.int (nar .char c1)), (.int (nar .char c2)), (.int (nar .char c3)), (.int (nar .char c4)), (.int (nar .char c1)), (.int (nar .char c2)), (.int (nar .char c3)), (.int (0 : Int32)), (.int (0 : Int32)), (.int (0 : Int32)), (.int (0 : Int32)), (.int (0 : Int32)), (.int (0 : Int32)), (.int (0 : Int32)), (.int (0 : Int32)), (.int (0 : Int32)), (.int (0 : Int32)), (.int (0 : Int32)), (.int (0 : Int32)), (.int (0 : Int32)), (.int (0 : Int32)), (.int (0 : Int32)), (.int (0 : Int32)), (.int (0 : Int32)), (.int (0 : Int32)), (.int (0 : Int32)), (.int (0 : Int32)), (.int (0 : Int32)), (.int (0 : Int32)), (.int (0 : Int32)), (.int (0 : Int32)), (.int (0 : Int32)), (.int (0 : Int32)), (.int (0 : Int32)), (.int (0 : Int32)), (.int (0 : Int32)), (.int (0 : Int32)), (.int (0 : Int32)), (.int (0 : Int32))] (.int (0 : Int32)) := Arv.set Ar120 q120 S120 Nn120 H120 G120 (fits_nar_char _) W120 30 rfl (Nat.le_of_ble_eq_true rfl)
            replace S_COMPACT_STRINGS := Sta.wr W120 S_COMPACT_STRINGS
            replace S_SIOOBE_FORMATTER := Sta.wr W120 S_SIOOBE_FORMATTER
            replace E_b58 := E_b58.wr W120
            have Z121 : n0 ≤ h120.size := Nat.le_trans Z119 (Keep.of_wr W120).1
            refine W.go st120 ?_
            have N120 := Fr.snoc X120 N118 g_b58
            show W p e below _ (T120.setTop (mkF m 329 #[.val (.int p0), .val (.int p1), .val (.int p2), .val (.int p3), .val (.int p4), .val (.int c1), .val (.int c2), .val (.int c3), .val (.int c4), .val (.int kk), .unset, .unset] [(.ref b58)]))
            refine W.go (fun _ hr => XS.dup X120.here hx rfl (hb hby at_329) rfl rfl hr) ?_
            show W p e below _ (T120.setTop (mkF m 330 #[.val (.int p0), .val (.int p1), .val (.int p2), .val (.int p3), .val (.int p4), .val (.int c1), .val (.int c2), .val (.int c3), .val (.int c4), .val (.int kk), .unset, .unset] [(.ref b58), (.ref b58)]))
            refine W.go (fun _ hr => XS.bipush X120.here hx rfl (hb hby at_330) hr) ?_
            show W p e below _ (T120.setTop (mkF m 332 #[.val (.int p0), .val (.int p1), .val (.int p2), .val (.int p3), .val (.int p4), .val (.int c1), .val (.int c2), .val (.int c3), .val (.int c4), .val (.int kk), .unset, .unset] [(.int (31 : Int32)), (.ref b58), (.ref b58)]))
            refine W.go (fun _ hr => XS.iload X120.here hx rfl (hb hby at_332) rfl hr) ?_
            show W p e below _ (T120.setTop (mkF m 334 #[.val (.int p0), .val (.int p1), .val (.int p2), .val (.int p3), .val (.int p4), .val (.int c1), .val (.int c2), .val (.int c3), .val (.int c4), .val (.int kk), .unset, .unset] [(.int c4), (.int (31 : Int32)), (.ref b58), (.ref b58)]))
            obtain ⟨cl122, Ar122, q122, S122, Nn122, H122, G122⟩ := V_b58
            have hin122 : ¬ ((31 : Int32) < 0 ∨ cl122.slots.size ≤ ((31 : Int32)).toNatClampNeg) := inb_of S122 ⟨by decide, by decide⟩
            obtain ⟨T122, h122, X122, e122, W122, st122⟩ := stC X120 hx hZ e120 Ar122 (j := (31 : Int32)) hin122 (g := (mkF m 334 #[.val (.int p0), .val (.int p1), .val (.int p2), .val (.int p3), .val (.int p4), .val (.int c1), .val (.int c2), .val (.int c3), .val (.int c4), .val (.int kk), .unset, .unset] [(.int c4), (.int (31 : Int32)), (.ref b58), (.ref b58)])) rfl rfl (hb hby at_334)
            replace V_b58 : Arv Z h122 b58 k58 .char (63 : Int32) [(.int (nar .char c1)), (.int (nar .char c2)), (.int (nar .char c3)), (.int (nar .char c4)), (.int (nar .char c1)), (.int (nar .char c2)), (.int (nar .char c3)), (.int (nar .char c4)), (.int (nar .char c1)), (.int (nar .char c2)), (.int (nar .char c3)), (.int (nar .char c4)), (.int (nar .char c1)), (.int (nar .char c2)), (.int (nar .char c3)), (.int (nar .char c4)), (.int (nar .char c1)), (.int (nar .char c2)), (.int (nar .char c3)), (.int (nar .char c4)), (.int (nar .char c1)), (.int (nar .char c2)), (.int (nar .char c3)), (.int (nar .char c4)), (.int (nar .char c1)), (.int (nar .char c2)), (.int (nar .char c3)), (.int (nar .char c4)), (.int (nar .char c1)), (.int (nar .char c2)), (.int (nar .char c3)), (.int (nar .char c4)), (.int (0 : Int32)), (.int (0 : Int32)), (.int (0 : Int32)), (.int (0 : Int32)), (.int (0 : Int32)), (.int (0 : Int32)), (.int (0 : Int32)), (.int (0 : Int32)), (.int (0 : Int32)), (.int (0 : Int32)), (.int (0 : Int32)), (.int (0 : Int32)), (.int (0 : Int32)), (.int (0 : Int32)), (.int (0 : Int32)), (.int (0 : Int32)), (.int (0 : Int32)), (.int (0 : Int32)), (.int (0 : Int32)), (.int (0 : Int32)), (.int (0 : Int32)), (.int (0 : Int32)), (.int (0 : Int32)), (.int (0 : Int32)), (.int (0 : Int32)), (.int (0 : Int32)), (.int (0 : Int32)), (.int (0 : Int32)), (.int (0 : Int32)), (.int (0 : Int32)), (.int (0 : Int32))] (.int (0 : Int32)) := Arv.set Ar122 q122 S122 Nn122 H122 G122 (fits_nar_char _) W122 31 rfl (Nat.le_of_ble_eq_true rfl)
            replace S_COMPACT_STRINGS := Sta.wr W122 S_COMPACT_STRINGS
            replace S_SIOOBE_FORMATTER := Sta.wr W122 S_SIOOBE_FORMATTER
            replace E_b58 := E_b58.wr W122
            have Z123 : n0 ≤ h122.size := Nat.le_trans Z121 (Keep.of_wr W122).1
            refine W.go st122 ?_
            have N122 := Fr.snoc X122 N120 g_b58
            show W p e below _ (T122.setTop (mkF m 335 #[.val (.int p0), .val (.int p1), .val (.int p2), .val (.int p3), .val (.int p4), .val (.int c1), .val (.int c2), .val (.int c3), .val (.int c4), .val (.int kk), .unset, .unset] [(.ref b58)]))
            refine W.go (fun _ hr => XS.dup X122.here hx rfl (hb hby at_335) rfl rfl hr) ?_
            show W p e below _ (T122.setTop (mkF m 336 #[.val (.int p0), .val (.int p1), .val (.int p2), .val (.int p3), .val (.int p4), .val (.int c1), .val (.int c2), .val (.int c3), .val (.int c4), .val (.int kk), .unset, .unset] [(.ref b58), (.ref b58)]))
            refine W.go (fun _ hr => XS.bipush X122.here hx rfl (hb hby at_336) hr) ?_
            show W p e below _ (T122.setTop (mkF m 338 #[.val (.int p0), .val (.int p1), .val (.int p2), .val (.int p3), .val (.int p4), .val (.int c1), .val (.int c2), .val (.int c3), .val (.int c4), .val (.int kk), .unset, .unset] [(.int (32 : Int32)), (.ref b58), (.ref b58)]))
            refine W.go (fun _ hr => XS.iload X122.here hx rfl (hb hby at_338) rfl hr) ?_
            show W p e below _ (T122.setTop (mkF m 340 #[.val (.int p0), .val (.int p1), .val (.int p2), .val (.int p3), .val (.int p4), .val (.int c1), .val (.int c2), .val (.int c3), .val (.int c4), .val (.int kk), .unset, .unset] [(.int c1), (.int (32 : Int32)), (.ref b58), (.ref b58)]))
            obtain ⟨cl124, Ar124, q124, S124, Nn124, H124, G124⟩ := V_b58
            have hin124 : ¬ ((32 : Int32) < 0 ∨ cl124.slots.size ≤ ((32 : Int32)).toNatClampNeg) := inb_of S124 ⟨by decide, by decide⟩
            obtain ⟨T124, h124, X124, e124, W124, st124⟩ := stC X122 hx hZ e122 Ar124 (j := (32 : Int32)) hin124 (g := (mkF m 340 #[.val (.int p0), .val (.int p1), .val (.int p2), .val (.int p3), .val (.int p4), .val (.int c1), .val (.int c2), .val (.int c3), .val (.int c4), .val (.int kk), .unset, .unset] [(.int c1), (.int (32 : Int32)), (.ref b58), (.ref b58)])) rfl rfl (hb hby at_340)
            replace V_b58 : Arv Z h124 b58 k58 .char (63 : Int32) [(.int (nar .char c1)), (.int (nar .char c2)), (.int (nar .char c3)), (.int (nar .char c4)), (.int (nar .char c1)), (.int (nar .char c2)), (.int (nar .char c3)), (.int (nar .char c4)), (.int (nar .char c1)), (.int (nar .char c2)), (.int (nar .char c3)), (.int (nar .char c4)), (.int (nar .char c1)), (.int (nar .char c2)), (.int (nar .char c3)), (.int (nar .char c4)), (.int (nar .char c1)), (.int (nar .char c2)), (.int (nar .char c3)), (.int (nar .char c4)), (.int (nar .char c1)), (.int (nar .char c2)), (.int (nar .char c3)), (.int (nar .char c4)), (.int (nar .char c1)), (.int (nar .char c2)), (.int (nar .char c3)), (.int (nar .char c4)), (.int (nar .char c1)), (.int (nar .char c2)), (.int (nar .char c3)), (.int (nar .char c4)), (.int (nar .char c1)), (.int (0 : Int32)), (.int (0 : Int32)), (.int (0 : Int32)), (.int (0 : Int32)), (.int (0 : Int32)), (.int (0 : Int32)), (.int (0 : Int32)), (.int (0 : Int32)), (.int (0 : Int32)), (.int (0 : Int32)), (.int (0 : Int32)), (.int (0 : Int32)), (.int (0 : Int32)), (.int (0 : Int32)), (.int (0 : Int32)), (.int (0 : Int32)), (.int (0 : Int32)), (.int (0 : Int32)), (.int (0 : Int32)), (.int (0 : Int32)), (.int (0 : Int32)), (.int (0 : Int32)), (.int (0 : Int32)), (.int (0 : Int32)), (.int (0 : Int32)), (.int (0 : Int32)), (.int (0 : Int32)), (.int (0 : Int32)), (.int (0 : Int32)), (.int (0 : Int32))] (.int (0 : Int32)) := Arv.set Ar124 q124 S124 Nn124 H124 G124 (fits_nar_char _) W124 32 rfl (Nat.le_of_ble_eq_true rfl)
            replace S_COMPACT_STRINGS := Sta.wr W124 S_COMPACT_STRINGS
            replace S_SIOOBE_FORMATTER := Sta.wr W124 S_SIOOBE_FORMATTER
            replace E_b58 := E_b58.wr W124
            have Z125 : n0 ≤ h124.size := Nat.le_trans Z123 (Keep.of_wr W124).1
            refine W.go st124 ?_
            have N124 := Fr.snoc X124 N122 g_b58
            show W p e below _ (T124.setTop (mkF m 341 #[.val (.int p0), .val (.int p1), .val (.int p2), .val (.int p3), .val (.int p4), .val (.int c1), .val (.int c2), .val (.int c3), .val (.int c4), .val (.int kk), .unset, .unset] [(.ref b58)]))
            refine W.go (fun _ hr => XS.dup X124.here hx rfl (hb hby at_341) rfl rfl hr) ?_
            show W p e below _ (T124.setTop (mkF m 342 #[.val (.int p0), .val (.int p1), .val (.int p2), .val (.int p3), .val (.int p4), .val (.int c1), .val (.int c2), .val (.int c3), .val (.int c4), .val (.int kk), .unset, .unset] [(.ref b58), (.ref b58)]))
            refine W.go (fun _ hr => XS.bipush X124.here hx rfl (hb hby at_342) hr) ?_
            show W p e below _ (T124.setTop (mkF m 344 #[.val (.int p0), .val (.int p1), .val (.int p2), .val (.int p3), .val (.int p4), .val (.int c1), .val (.int c2), .val (.int c3), .val (.int c4), .val (.int kk), .unset, .unset] [(.int (33 : Int32)), (.ref b58), (.ref b58)]))
            refine W.go (fun _ hr => XS.iload X124.here hx rfl (hb hby at_344) rfl hr) ?_
            show W p e below _ (T124.setTop (mkF m 346 #[.val (.int p0), .val (.int p1), .val (.int p2), .val (.int p3), .val (.int p4), .val (.int c1), .val (.int c2), .val (.int c3), .val (.int c4), .val (.int kk), .unset, .unset] [(.int c2), (.int (33 : Int32)), (.ref b58), (.ref b58)]))
            obtain ⟨cl126, Ar126, q126, S126, Nn126, H126, G126⟩ := V_b58
            have hin126 : ¬ ((33 : Int32) < 0 ∨ cl126.slots.size ≤ ((33 : Int32)).toNatClampNeg) := inb_of S126 ⟨by decide, by decide⟩
            obtain ⟨T126, h126, X126, e126, W126, st126⟩ := stC X124 hx hZ e124 Ar126 (j := (33 : Int32)) hin126 (g := (mkF m 346 #[.val (.int p0), .val (.int p1), .val (.int p2), .val (.int p3), .val (.int p4), .val (.int c1), .val (.int c2), .val (.int c3), .val (.int c4), .val (.int kk), .unset, .unset] [(.int c2), (.int (33 : Int32)), (.ref b58), (.ref b58)])) rfl rfl (hb hby at_346)
            replace V_b58 : Arv Z h126 b58 k58 .char (63 : Int32) [(.int (nar .char c1)), (.int (nar .char c2)), (.int (nar .char c3)), (.int (nar .char c4)), (.int (nar .char c1)), (.int (nar .char c2)), (.int (nar .char c3)), (.int (nar .char c4)), (.int (nar .char c1)), (.int (nar .char c2)), (.int (nar .char c3)), (.int (nar .char c4)), (.int (nar .char c1)), (.int (nar .char c2)), (.int (nar .char c3)), (.int (nar .char c4)), (.int (nar .char c1)), (.int (nar .char c2)), (.int (nar .char c3)), (.int (nar .char c4)), (.int (nar .char c1)), (.int (nar .char c2)), (.int (nar .char c3)), (.int (nar .char c4)), (.int (nar .char c1)), (.int (nar .char c2)), (.int (nar .char c3)), (.int (nar .char c4)), (.int (nar .char c1)), (.int (nar .char c2)), (.int (nar .char c3)), (.int (nar .char c4)), (.int (nar .char c1)), (.int (nar .char c2)), (.int (0 : Int32)), (.int (0 : Int32)), (.int (0 : Int32)), (.int (0 : Int32)), (.int (0 : Int32)), (.int (0 : Int32)), (.int (0 : Int32)), (.int (0 : Int32)), (.int (0 : Int32)), (.int (0 : Int32)), (.int (0 : Int32)), (.int (0 : Int32)), (.int (0 : Int32)), (.int (0 : Int32)), (.int (0 : Int32)), (.int (0 : Int32)), (.int (0 : Int32)), (.int (0 : Int32)), (.int (0 : Int32)), (.int (0 : Int32)), (.int (0 : Int32)), (.int (0 : Int32)), (.int (0 : Int32)), (.int (0 : Int32)), (.int (0 : Int32)), (.int (0 : Int32)), (.int (0 : Int32)), (.int (0 : Int32)), (.int (0 : Int32))] (.int (0 : Int32)) := Arv.set Ar126 q126 S126 Nn126 H126 G126 (fits_nar_char _) W126 33 rfl (Nat.le_of_ble_eq_true rfl)
            replace S_COMPACT_STRINGS := Sta.wr W126 S_COMPACT_STRINGS
            replace S_SIOOBE_FORMATTER := Sta.wr W126 S_SIOOBE_FORMATTER
            replace E_b58 := E_b58.wr W126
            have Z127 : n0 ≤ h126.size := Nat.le_trans Z125 (Keep.of_wr W126).1
            refine W.go st126 ?_
            have N126 := Fr.snoc X126 N124 g_b58
            show W p e below _ (T126.setTop (mkF m 347 #[.val (.int p0), .val (.int p1), .val (.int p2), .val (.int p3), .val (.int p4), .val (.int c1), .val (.int c2), .val (.int c3), .val (.int c4), .val (.int kk), .unset, .unset] [(.ref b58)]))
            refine W.go (fun _ hr => XS.dup X126.here hx rfl (hb hby at_347) rfl rfl hr) ?_
            show W p e below _ (T126.setTop (mkF m 348 #[.val (.int p0), .val (.int p1), .val (.int p2), .val (.int p3), .val (.int p4), .val (.int c1), .val (.int c2), .val (.int c3), .val (.int c4), .val (.int kk), .unset, .unset] [(.ref b58), (.ref b58)]))
            refine W.go (fun _ hr => XS.bipush X126.here hx rfl (hb hby at_348) hr) ?_
            show W p e below _ (T126.setTop (mkF m 350 #[.val (.int p0), .val (.int p1), .val (.int p2), .val (.int p3), .val (.int p4), .val (.int c1), .val (.int c2), .val (.int c3), .val (.int c4), .val (.int kk), .unset, .unset] [(.int (34 : Int32)), (.ref b58), (.ref b58)]))
            refine W.go (fun _ hr => XS.iload X126.here hx rfl (hb hby at_350) rfl hr) ?_
            show W p e below _ (T126.setTop (mkF m 352 #[.val (.int p0), .val (.int p1), .val (.int p2), .val (.int p3), .val (.int p4), .val (.int c1), .val (.int c2), .val (.int c3), .val (.int c4), .val (.int kk), .unset, .unset] [(.int c3), (.int (34 : Int32)), (.ref b58), (.ref b58)]))
            obtain ⟨cl128, Ar128, q128, S128, Nn128, H128, G128⟩ := V_b58
            have hin128 : ¬ ((34 : Int32) < 0 ∨ cl128.slots.size ≤ ((34 : Int32)).toNatClampNeg) := inb_of S128 ⟨by decide, by decide⟩
            obtain ⟨T128, h128, X128, e128, W128, st128⟩ := stC X126 hx hZ e126 Ar128 (j := (34 : Int32)) hin128 (g := (mkF m 352 #[.val (.int p0), .val (.int p1), .val (.int p2), .val (.int p3), .val (.int p4), .val (.int c1), .val (.int c2), .val (.int c3), .val (.int c4), .val (.int kk), .unset, .unset] [(.int c3), (.int (34 : Int32)), (.ref b58), (.ref b58)])) rfl rfl (hb hby at_352)
            replace V_b58 : Arv Z h128 b58 k58 .char (63 : Int32) [(.int (nar .char c1)), (.int (nar .char c2)), (.int (nar .char c3)), (.int (nar .char c4)), (.int (nar .char c1)), (.int (nar .char c2)), (.int (nar .char c3)), (.int (nar .char c4)), (.int (nar .char c1)), (.int (nar .char c2)), (.int (nar .char c3)), (.int (nar .char c4)), (.int (nar .char c1)), (.int (nar .char c2)), (.int (nar .char c3)), (.int (nar .char c4)), (.int (nar .char c1)), (.int (nar .char c2)), (.int (nar .char c3)), (.int (nar .char c4)), (.int (nar .char c1)), (.int (nar .char c2)), (.int (nar .char c3)), (.int (nar .char c4)), (.int (nar .char c1)), (.int (nar .char c2)), (.int (nar .char c3)), (.int (nar .char c4)), (.int (nar .char c1)), (.int (nar .char c2)), (.int (nar .char c3)), (.int (nar .char c4)), (.int (nar .char c1)), (.int (nar .char c2)), (.int (nar .char c3)), (.int (0 : Int32)), (.int (0 : Int32)), (.int (0 : Int32)), (.int (0 : Int32)), (.int (0 : Int32)), (.int (0 : Int32)), (.int (0 : Int32)), (.int (0 : Int32)), (.int (0 : Int32)), (.int (0 : Int32)), (.int (0 : Int32)), (.int (0 : Int32)), (.int (0 : Int32)), (.int (0 : Int32)), (.int (0 : Int32)), (.int (0 : Int32)), (.int (0 : Int32)), (.int (0 : Int32)), (.int (0 : Int32)), (.int (0 : Int32)), (.int (0 : Int32)), (.int (0 : Int32)), (.int (0 : Int32)), (.int (0 : Int32)), (.int (0 : Int32)), (.int (0 : Int32)), (.int (0 : Int32)), (.int (0 : Int32))] (.int (0 : Int32)) := Arv.set Ar128 q128 S128 Nn128 H128 G128 (fits_nar_char _) W128 34 rfl (Nat.le_of_ble_eq_true rfl)
            replace S_COMPACT_STRINGS := Sta.wr W128 S_COMPACT_STRINGS
            replace S_SIOOBE_FORMATTER := Sta.wr W128 S_SIOOBE_FORMATTER
            replace E_b58 := E_b58.wr W128
            have Z129 : n0 ≤ h128.size := Nat.le_trans Z127 (Keep.of_wr W128).1
            refine W.go st128 ?_
            have N128 := Fr.snoc X128 N126 g_b58
            show W p e below _ (T128.setTop (mkF m 353 #[.val (.int p0), .val (.int p1), .val (.int p2), .val (.int p3), .val (.int p4), .val (.int c1), .val (.int c2), .val (.int c3), .val (.int c4), .val (.int kk), .unset, .unset] [(.ref b58)]))
            refine W.go (fun _ hr => XS.dup X128.here hx rfl (hb hby at_353) rfl rfl hr) ?_
            show W p e below _ (T128.setTop (mkF m 354 #[.val (.int p0), .val (.int p1), .val (.int p2), .val (.int p3), .val (.int p4), .val (.int c1), .val (.int c2), .val (.int c3), .val (.int c4), .val (.int kk), .unset, .unset] [(.ref b58), (.ref b58)]))
            refine W.go (fun _ hr => XS.bipush X128.here hx rfl (hb hby at_354) hr) ?_
            show W p e below _ (T128.setTop (mkF m 356 #[.val (.int p0), .val (.int p1), .val (.int p2), .val (.int p3), .val (.int p4), .val (.int c1), .val (.int c2), .val (.int c3), .val (.int c4), .val (.int kk), .unset, .unset] [(.int (35 : Int32)), (.ref b58), (.ref b58)]))
            refine W.go (fun _ hr => XS.iload X128.here hx rfl (hb hby at_356) rfl hr) ?_
            show W p e below _ (T128.setTop (mkF m 358 #[.val (.int p0), .val (.int p1), .val (.int p2), .val (.int p3), .val (.int p4), .val (.int c1), .val (.int c2), .val (.int c3), .val (.int c4), .val (.int kk), .unset, .unset] [(.int c4), (.int (35 : Int32)), (.ref b58), (.ref b58)]))
            obtain ⟨cl130, Ar130, q130, S130, Nn130, H130, G130⟩ := V_b58
            have hin130 : ¬ ((35 : Int32) < 0 ∨ cl130.slots.size ≤ ((35 : Int32)).toNatClampNeg) := inb_of S130 ⟨by decide, by decide⟩
            obtain ⟨T130, h130, X130, e130, W130, st130⟩ := stC X128 hx hZ e128 Ar130 (j := (35 : Int32)) hin130 (g := (mkF m 358 #[.val (.int p0), .val (.int p1), .val (.int p2), .val (.int p3), .val (.int p4), .val (.int c1), .val (.int c2), .val (.int c3), .val (.int c4), .val (.int kk), .unset, .unset] [(.int c4), (.int (35 : Int32)), (.ref b58), (.ref b58)])) rfl rfl (hb hby at_358)
            replace V_b58 : Arv Z h130 b58 k58 .char (63 : Int32) [(.int (nar .char c1)), (.int (nar .char c2)), (.int (nar .char c3)), (.int (nar .char c4)), (.int (nar .char c1)), (.int (nar .char c2)), (.int (nar .char c3)), (.int (nar .char c4)), (.int (nar .char c1)), (.int (nar .char c2)), (.int (nar .char c3)), (.int (nar .char c4)), (.int (nar .char c1)), (.int (nar .char c2)), (.int (nar .char c3)), (.int (nar .char c4)), (.int (nar .char c1)), (.int (nar .char c2)), (.int (nar .char c3)), (.int (nar .char c4)), (.int (nar .char c1)), (.int (nar .char c2)), (.int (nar .char c3)), (.int (nar .char c4)), (.int (nar .char c1)), (.int (nar .char c2)), (.int (nar .char c3)), (.int (nar .char c4)), (.int (nar .char c1)), (.int (nar .char c2)), (.int (nar .char c3)), (.int (nar .char c4)), (.int (nar .char c1)), (.int (nar .char c2)), (.int (nar .char c3)), (.int (nar .char c4)), (.int (0 : Int32)), (.int (0 : Int32)), (.int (0 : Int32)), (.int (0 : Int32)), (.int (0 : Int32)), (.int (0 : Int32)), (.int (0 : Int32)), (.int (0 : Int32)), (.int (0 : Int32)), (.int (0 : Int32)), (.int (0 : Int32)), (.int (0 : Int32)), (.int (0 : Int32)), (.int (0 : Int32)), (.int (0 : Int32)), (.int (0 : Int32)), (.int (0 : Int32)), (.int (0 : Int32)), (.int (0 : Int32)), (.int (0 : Int32)), (.int (0 : Int32)), (.int (0 : Int32)), (.int (0 : Int32)), (.int (0 : Int32)), (.int (0 : Int32)), (.int (0 : Int32)), (.int (0 : Int32))] (.int (0 : Int32)) := Arv.set Ar130 q130 S130 Nn130 H130 G130 (fits_nar_char _) W130 35 rfl (Nat.le_of_ble_eq_true rfl)
            replace S_COMPACT_STRINGS := Sta.wr W130 S_COMPACT_STRINGS
            replace S_SIOOBE_FORMATTER := Sta.wr W130 S_SIOOBE_FORMATTER
            replace E_b58 := E_b58.wr W130
            have Z131 : n0 ≤ h130.size := Nat.le_trans Z129 (Keep.of_wr W130).1
            refine W.go st130 ?_
            have N130 := Fr.snoc X130 N128 g_b58
            show W p e below _ (T130.setTop (mkF m 359 #[.val (.int p0), .val (.int p1), .val (.int p2), .val (.int p3), .val (.int p4), .val (.int c1), .val (.int c2), .val (.int c3), .val (.int c4), .val (.int kk), .unset, .unset] [(.ref b58)]))
            refine W.go (fun _ hr => XS.dup X130.here hx rfl (hb hby at_359) rfl rfl hr) ?_
            show W p e below _ (T130.setTop (mkF m 360 #[.val (.int p0), .val (.int p1), .val (.int p2), .val (.int p3), .val (.int p4), .val (.int c1), .val (.int c2), .val (.int c3), .val (.int c4), .val (.int kk), .unset, .unset] [(.ref b58), (.ref b58)]))
            refine W.go (fun _ hr => XS.bipush X130.here hx rfl (hb hby at_360) hr) ?_
            show W p e below _ (T130.setTop (mkF m 362 #[.val (.int p0), .val (.int p1), .val (.int p2), .val (.int p3), .val (.int p4), .val (.int c1), .val (.int c2), .val (.int c3), .val (.int c4), .val (.int kk), .unset, .unset] [(.int (36 : Int32)), (.ref b58), (.ref b58)]))
            refine W.go (fun _ hr => XS.iload X130.here hx rfl (hb hby at_362) rfl hr) ?_
            show W p e below _ (T130.setTop (mkF m 364 #[.val (.int p0), .val (.int p1), .val (.int p2), .val (.int p3), .val (.int p4), .val (.int c1), .val (.int c2), .val (.int c3), .val (.int c4), .val (.int kk), .unset, .unset] [(.int c1), (.int (36 : Int32)), (.ref b58), (.ref b58)]))
            obtain ⟨cl132, Ar132, q132, S132, Nn132, H132, G132⟩ := V_b58
            have hin132 : ¬ ((36 : Int32) < 0 ∨ cl132.slots.size ≤ ((36 : Int32)).toNatClampNeg) := inb_of S132 ⟨by decide, by decide⟩
            obtain ⟨T132, h132, X132, e132, W132, st132⟩ := stC X130 hx hZ e130 Ar132 (j := (36 : Int32)) hin132 (g := (mkF m 364 #[.val (.int p0), .val (.int p1), .val (.int p2), .val (.int p3), .val (.int p4), .val (.int c1), .val (.int c2), .val (.int c3), .val (.int c4), .val (.int kk), .unset, .unset] [(.int c1), (.int (36 : Int32)), (.ref b58), (.ref b58)])) rfl rfl (hb hby at_364)
            replace V_b58 : Arv Z h132 b58 k58 .char (63 : Int32) [(.int (nar .char c1)), (.int (nar .char c2)), (.int (nar .char c3)), (.int (nar .char c4)), (.int (nar .char c1)), (.int (nar .char c2)), (.int (nar .char c3)), (.int (nar .char c4)), (.int (nar .char c1)), (.int (nar .char c2)), (.int (nar .char c3)), (.int (nar .char c4)), (.int (nar .char c1)), (.int (nar .char c2)), (.int (nar .char c3)), (.int (nar .char c4)), (.int (nar .char c1)), (.int (nar .char c2)), (.int (nar .char c3)), (.int (nar .char c4)), (.int (nar .char c1)), (.int (nar .char c2)), (.int (nar .char c3)), (.int (nar .char c4)), (.int (nar .char c1)), (.int (nar .char c2)), (.int (nar .char c3)), (.int (nar .char c4)), (.int (nar .char c1)), (.int (nar .char c2)), (.int (nar .char c3)), (.int (nar .char c4)), (.int (nar .char c1)), (.int (nar .char c2)), (.int (nar .char c3)), (.int (nar .char c4)), (.int (nar .char c1)), (.int (0 : Int32)), (.int (0 : Int32)), (.int (0 : Int32)), (.int (0 : Int32)), (.int (0 : Int32)), (.int (0 : Int32)), (.int (0 : Int32)), (.int (0 : Int32)), (.int (0 : Int32)), (.int (0 : Int32)), (.int (0 : Int32)), (.int (0 : Int32)), (.int (0 : Int32)), (.int (0 : Int32)), (.int (0 : Int32)), (.int (0 : Int32)), (.int (0 : Int32)), (.int (0 : Int32)), (.int (0 : Int32)), (.int (0 : Int32)), (.int (0 : Int32)), (.int (0 : Int32)), (.int (0 : Int32)), (.int (0 : Int32)), (.int (0 : Int32)), (.int (0 : Int32))] (.int (0 : Int32)) := Arv.set Ar132 q132 S132 Nn132 H132 G132 (fits_nar_char _) W132 36 rfl (Nat.le_of_ble_eq_true rfl)
            replace S_COMPACT_STRINGS := Sta.wr W132 S_COMPACT_STRINGS
            replace S_SIOOBE_FORMATTER := Sta.wr W132 S_SIOOBE_FORMATTER
            replace E_b58 := E_b58.wr W132
            have Z133 : n0 ≤ h132.size := Nat.le_trans Z131 (Keep.of_wr W132).1
            refine W.go st132 ?_
            have N132 := Fr.snoc X132 N130 g_b58
            show W p e below _ (T132.setTop (mkF m 365 #[.val (.int p0), .val (.int p1), .val (.int p2), .val (.int p3), .val (.int p4), .val (.int c1), .val (.int c2), .val (.int c3), .val (.int c4), .val (.int kk), .unset, .unset] [(.ref b58)]))
            refine W.go (fun _ hr => XS.dup X132.here hx rfl (hb hby at_365) rfl rfl hr) ?_
            show W p e below _ (T132.setTop (mkF m 366 #[.val (.int p0), .val (.int p1), .val (.int p2), .val (.int p3), .val (.int p4), .val (.int c1), .val (.int c2), .val (.int c3), .val (.int c4), .val (.int kk), .unset, .unset] [(.ref b58), (.ref b58)]))
            refine W.go (fun _ hr => XS.bipush X132.here hx rfl (hb hby at_366) hr) ?_
            show W p e below _ (T132.setTop (mkF m 368 #[.val (.int p0), .val (.int p1), .val (.int p2), .val (.int p3), .val (.int p4), .val (.int c1), .val (.int c2), .val (.int c3), .val (.int c4), .val (.int kk), .unset, .unset] [(.int (37 : Int32)), (.ref b58), (.ref b58)]))
            refine W.go (fun _ hr => XS.iload X132.here hx rfl (hb hby at_368) rfl hr) ?_
            show W p e below _ (T132.setTop (mkF m 370 #[.val (.int p0), .val (.int p1), .val (.int p2), .val (.int p3), .val (.int p4), .val (.int c1), .val (.int c2), .val (.int c3), .val (.int c4), .val (.int kk), .unset, .unset] [(.int c2), (.int (37 : Int32)), (.ref b58), (.ref b58)]))
            obtain ⟨cl134, Ar134, q134, S134, Nn134, H134, G134⟩ := V_b58
            have hin134 : ¬ ((37 : Int32) < 0 ∨ cl134.slots.size ≤ ((37 : Int32)).toNatClampNeg) := inb_of S134 ⟨by decide, by decide⟩
            obtain ⟨T134, h134, X134, e134, W134, st134⟩ := stC X132 hx hZ e132 Ar134 (j := (37 : Int32)) hin134 (g := (mkF m 370 #[.val (.int p0), .val (.int p1), .val (.int p2), .val (.int p3), .val (.int p4), .val (.int c1), .val (.int c2), .val (.int c3), .val (.int c4), .val (.int kk), .unset, .unset] [(.int c2), (.int (37 : Int32)), (.ref b58), (.ref b58)])) rfl rfl (hb hby at_370)
            replace V_b58 : Arv Z h134 b58 k58 .char (63 : Int32) [(.int (nar .char c1)), (.int (nar .char c2)), (.int (nar .char c3)), (.int (nar .char c4)), (.int (nar .char c1)), (.int (nar .char c2)), (.int (nar .char c3)), (.int (nar .char c4)), (.int (nar .char c1)), (.int (nar .char c2)), (.int (nar .char c3)), (.int (nar .char c4)), (.int (nar .char c1)), (.int (nar .char c2)), (.int (nar .char c3)), (.int (nar .char c4)), (.int (nar .char c1)), (.int (nar .char c2)), (.int (nar .char c3)), (.int (nar .char c4)), (.int (nar .char c1)), (.int (nar .char c2)), (.int (nar .char c3)), (.int (nar .char c4)), (.int (nar .char c1)), (.int (nar .char c2)), (.int (nar .char c3)), (.int (nar .char c4)), (.int (nar .char c1)), (.int (nar .char c2)), (.int (nar .char c3)), (.int (nar .char c4)), (.int (nar .char c1)), (.int (nar .char c2)), (.int (nar .char c3)), (.int (nar .char c4)), (.int (nar .char c1)), (.int (nar .char c2)), (.int (0 : Int32)), (.int (0 : Int32)), (.int (0 : Int32)), (.int (0 : Int32)), (.int (0 : Int32)), (.int (0 : Int32)), (.int (0 : Int32)), (.int (0 : Int32)), (.int (0 : Int32)), (.int (0 : Int32)), (.int (0 : Int32)), (.int (0 : Int32)), (.int (0 : Int32)), (.int (0 : Int32)), (.int (0 : Int32)), (.int (0 : Int32)), (.int (0 : Int32)), (.int (0 : Int32)), (.int (0 : Int32)), (.int (0 : Int32)), (.int (0 : Int32)), (.int (0 : Int32)), (.int (0 : Int32)), (.int (0 : Int32)), (.int (0 : Int32))] (.int (0 : Int32)) := Arv.set Ar134 q134 S134 Nn134 H134 G134 (fits_nar_char _) W134 37 rfl (Nat.le_of_ble_eq_true rfl)
            replace S_COMPACT_STRINGS := Sta.wr W134 S_COMPACT_STRINGS
            replace S_SIOOBE_FORMATTER := Sta.wr W134 S_SIOOBE_FORMATTER
            replace E_b58 := E_b58.wr W134
            have Z135 : n0 ≤ h134.size := Nat.le_trans Z133 (Keep.of_wr W134).1
            refine W.go st134 ?_
            have N134 := Fr.snoc X134 N132 g_b58
            show W p e below _ (T134.setTop (mkF m 371 #[.val (.int p0), .val (.int p1), .val (.int p2), .val (.int p3), .val (.int p4), .val (.int c1), .val (.int c2), .val (.int c3), .val (.int c4), .val (.int kk), .unset, .unset] [(.ref b58)]))
            refine W.go (fun _ hr => XS.dup X134.here hx rfl (hb hby at_371) rfl rfl hr) ?_
            show W p e below _ (T134.setTop (mkF m 372 #[.val (.int p0), .val (.int p1), .val (.int p2), .val (.int p3), .val (.int p4), .val (.int c1), .val (.int c2), .val (.int c3), .val (.int c4), .val (.int kk), .unset, .unset] [(.ref b58), (.ref b58)]))
            refine W.go (fun _ hr => XS.bipush X134.here hx rfl (hb hby at_372) hr) ?_
            show W p e below _ (T134.setTop (mkF m 374 #[.val (.int p0), .val (.int p1), .val (.int p2), .val (.int p3), .val (.int p4), .val (.int c1), .val (.int c2), .val (.int c3), .val (.int c4), .val (.int kk), .unset, .unset] [(.int (38 : Int32)), (.ref b58), (.ref b58)]))
            refine W.go (fun _ hr => XS.iload X134.here hx rfl (hb hby at_374) rfl hr) ?_
            show W p e below _ (T134.setTop (mkF m 376 #[.val (.int p0), .val (.int p1), .val (.int p2), .val (.int p3), .val (.int p4), .val (.int c1), .val (.int c2), .val (.int c3), .val (.int c4), .val (.int kk), .unset, .unset] [(.int c3), (.int (38 : Int32)), (.ref b58), (.ref b58)]))
            obtain ⟨cl136, Ar136, q136, S136, Nn136, H136, G136⟩ := V_b58
            have hin136 : ¬ ((38 : Int32) < 0 ∨ cl136.slots.size ≤ ((38 : Int32)).toNatClampNeg) := inb_of S136 ⟨by decide, by decide⟩
            obtain ⟨T136, h136, X136, e136, W136, st136⟩ := stC X134 hx hZ e134 Ar136 (j := (38 : Int32)) hin136 (g := (mkF m 376 #[.val (.int p0), .val (.int p1), .val (.int p2), .val (.int p3), .val (.int p4), .val (.int c1), .val (.int c2), .val (.int c3), .val (.int c4), .val (.int kk), .unset, .unset] [(.int c3), (.int (38 : Int32)), (.ref b58), (.ref b58)])) rfl rfl (hb hby at_376)
            replace V_b58 : Arv Z h136 b58 k58 .char (63 : Int32) [(.int (nar .char c1)), (.int (nar .char c2)), (.int (nar .char c3)), (.int (nar .char c4)), (.int (nar .char c1)), (.int (nar .char c2)), (.int (nar .char c3)), (.int (nar .char c4)), (.int (nar .char c1)), (.int (nar .char c2)), (.int (nar .char c3)), (.int (nar .char c4)), (.int (nar .char c1)), (.int (nar .char c2)), (.int (nar .char c3)), (.int (nar .char c4)), (.int (nar .char c1)), (.int (nar .char c2)), (.int (nar .char c3)), (.int (nar .char c4)), (.int (nar .char c1)), (.int (nar .char c2)), (.int (nar .char c3)), (.int (nar .char c4)), (.int (nar .char c1)), (.int (nar .char c2)), (.int (nar .char c3)), (.int (nar .char c4)), (.int (nar .char c1)), (.int (nar .char c2)), (.int (nar .char c3)), (.int (nar .char c4)), (.int (nar .char c1)), (.int (nar .char c2)), (.int (nar .char c3)), (.int (nar .char c4)), (.int (nar .char c1)), (.int (nar .char c2)), (.int (nar .char c3)), (.int (0 : Int32)), (.int (0 : Int32)), (.int (0 : Int32)), (.int (0 : Int32)), (.int (0 : Int32)), (.int (0 : Int32)), (.int (0 : Int32)), (.int (0 : Int32)), (.int (0 : Int32)), (.int (0 : Int32)), (.int (0 : Int32)), (.int (0 : Int32)), (.int (0 : Int32)), (.int (0 : Int32)), (.int (0 : Int32)), (.int (0 : Int32)), (.int (0 : Int32)), (.int (0 : Int32)), (.int (0 : Int32)), (.int (0 : Int32)), (.int (0 : Int32)), (.int (0 : Int32)), (.int (0 : Int32)), (.int (0 : Int32))] (.int (0 : Int32)) := Arv.set Ar136 q136 S136 Nn136 H136 G136 (fits_nar_char _) W136 38 rfl (Nat.le_of_ble_eq_true rfl)
            replace S_COMPACT_STRINGS := Sta.wr W136 S_COMPACT_STRINGS
            replace S_SIOOBE_FORMATTER := Sta.wr W136 S_SIOOBE_FORMATTER
            replace E_b58 := E_b58.wr W136
            have Z137 : n0 ≤ h136.size := Nat.le_trans Z135 (Keep.of_wr W136).1
            refine W.go st136 ?_
            have N136 := Fr.snoc X136 N134 g_b58
            show W p e below _ (T136.setTop (mkF m 377 #[.val (.int p0), .val (.int p1), .val (.int p2), .val (.int p3), .val (.int p4), .val (.int c1), .val (.int c2), .val (.int c3), .val (.int c4), .val (.int kk), .unset, .unset] [(.ref b58)]))
            refine W.go (fun _ hr => XS.dup X136.here hx rfl (hb hby at_377) rfl rfl hr) ?_
            show W p e below _ (T136.setTop (mkF m 378 #[.val (.int p0), .val (.int p1), .val (.int p2), .val (.int p3), .val (.int p4), .val (.int c1), .val (.int c2), .val (.int c3), .val (.int c4), .val (.int kk), .unset, .unset] [(.ref b58), (.ref b58)]))
            refine W.go (fun _ hr => XS.bipush X136.here hx rfl (hb hby at_378) hr) ?_
            show W p e below _ (T136.setTop (mkF m 380 #[.val (.int p0), .val (.int p1), .val (.int p2), .val (.int p3), .val (.int p4), .val (.int c1), .val (.int c2), .val (.int c3), .val (.int c4), .val (.int kk), .unset, .unset] [(.int (39 : Int32)), (.ref b58), (.ref b58)]))
            refine W.go (fun _ hr => XS.iload X136.here hx rfl (hb hby at_380) rfl hr) ?_
            show W p e below _ (T136.setTop (mkF m 382 #[.val (.int p0), .val (.int p1), .val (.int p2), .val (.int p3), .val (.int p4), .val (.int c1), .val (.int c2), .val (.int c3), .val (.int c4), .val (.int kk), .unset, .unset] [(.int c4), (.int (39 : Int32)), (.ref b58), (.ref b58)]))
            obtain ⟨cl138, Ar138, q138, S138, Nn138, H138, G138⟩ := V_b58
            have hin138 : ¬ ((39 : Int32) < 0 ∨ cl138.slots.size ≤ ((39 : Int32)).toNatClampNeg) := inb_of S138 ⟨by decide, by decide⟩
            obtain ⟨T138, h138, X138, e138, W138, st138⟩ := stC X136 hx hZ e136 Ar138 (j := (39 : Int32)) hin138 (g := (mkF m 382 #[.val (.int p0), .val (.int p1), .val (.int p2), .val (.int p3), .val (.int p4), .val (.int c1), .val (.int c2), .val (.int c3), .val (.int c4), .val (.int kk), .unset, .unset] [(.int c4), (.int (39 : Int32)), (.ref b58), (.ref b58)])) rfl rfl (hb hby at_382)
            replace V_b58 : Arv Z h138 b58 k58 .char (63 : Int32) [(.int (nar .char c1)), (.int (nar .char c2)), (.int (nar .char c3)), (.int (nar .char c4)), (.int (nar .char c1)), (.int (nar .char c2)), (.int (nar .char c3)), (.int (nar .char c4)), (.int (nar .char c1)), (.int (nar .char c2)), (.int (nar .char c3)), (.int (nar .char c4)), (.int (nar .char c1)), (.int (nar .char c2)), (.int (nar .char c3)), (.int (nar .char c4)), (.int (nar .char c1)), (.int (nar .char c2)), (.int (nar .char c3)), (.int (nar .char c4)), (.int (nar .char c1)), (.int (nar .char c2)), (.int (nar .char c3)), (.int (nar .char c4)), (.int (nar .char c1)), (.int (nar .char c2)), (.int (nar .char c3)), (.int (nar .char c4)), (.int (nar .char c1)), (.int (nar .char c2)), (.int (nar .char c3)), (.int (nar .char c4)), (.int (nar .char c1)), (.int (nar .char c2)), (.int (nar .char c3)), (.int (nar .char c4)), (.int (nar .char c1)), (.int (nar .char c2)), (.int (nar .char c3)), (.int (nar .char c4)), (.int (0 : Int32)), (.int (0 : Int32)), (.int (0 : Int32)), (.int (0 : Int32)), (.int (0 : Int32)), (.int (0 : Int32)), (.int (0 : Int32)), (.int (0 : Int32)), (.int (0 : Int32)), (.int (0 : Int32)), (.int (0 : Int32)), (.int (0 : Int32)), (.int (0 : Int32)), (.int (0 : Int32)), (.int (0 : Int32)), (.int (0 : Int32)), (.int (0 : Int32)), (.int (0 : Int32)), (.int (0 : Int32)), (.int (0 : Int32)), (.int (0 : Int32)), (.int (0 : Int32)), (.int (0 : Int32))] (.int (0 : Int32)) := Arv.set Ar138 q138 S138 Nn138 H138 G138 (fits_nar_char _) W138 39 rfl (Nat.le_of_ble_eq_true rfl)
            replace S_COMPACT_STRINGS := Sta.wr W138 S_COMPACT_STRINGS
            replace S_SIOOBE_FORMATTER := Sta.wr W138 S_SIOOBE_FORMATTER
            replace E_b58 := E_b58.wr W138
            have Z139 : n0 ≤ h138.size := Nat.le_trans Z137 (Keep.of_wr W138).1
            refine W.go st138 ?_
            have N138 := Fr.snoc X138 N136 g_b58
            show W p e below _ (T138.setTop (mkF m 383 #[.val (.int p0), .val (.int p1), .val (.int p2), .val (.int p3), .val (.int p4), .val (.int c1), .val (.int c2), .val (.int c3), .val (.int c4), .val (.int kk), .unset, .unset] [(.ref b58)]))
            refine W.go (fun _ hr => XS.dup X138.here hx rfl (hb hby at_383) rfl rfl hr) ?_
            show W p e below _ (T138.setTop (mkF m 384 #[.val (.int p0), .val (.int p1), .val (.int p2), .val (.int p3), .val (.int p4), .val (.int c1), .val (.int c2), .val (.int c3), .val (.int c4), .val (.int kk), .unset, .unset] [(.ref b58), (.ref b58)]))
            refine W.go (fun _ hr => XS.bipush X138.here hx rfl (hb hby at_384) hr) ?_
            show W p e below _ (T138.setTop (mkF m 386 #[.val (.int p0), .val (.int p1), .val (.int p2), .val (.int p3), .val (.int p4), .val (.int c1), .val (.int c2), .val (.int c3), .val (.int c4), .val (.int kk), .unset, .unset] [(.int (40 : Int32)), (.ref b58), (.ref b58)]))
            refine W.go (fun _ hr => XS.iload X138.here hx rfl (hb hby at_386) rfl hr) ?_
            show W p e below _ (T138.setTop (mkF m 388 #[.val (.int p0), .val (.int p1), .val (.int p2), .val (.int p3), .val (.int p4), .val (.int c1), .val (.int c2), .val (.int c3), .val (.int c4), .val (.int kk), .unset, .unset] [(.int c1), (.int (40 : Int32)), (.ref b58), (.ref b58)]))
            obtain ⟨cl140, Ar140, q140, S140, Nn140, H140, G140⟩ := V_b58
            have hin140 : ¬ ((40 : Int32) < 0 ∨ cl140.slots.size ≤ ((40 : Int32)).toNatClampNeg) := inb_of S140 ⟨by decide, by decide⟩
            obtain ⟨T140, h140, X140, e140, W140, st140⟩ := stC X138 hx hZ e138 Ar140 (j := (40 : Int32)) hin140 (g := (mkF m 388 #[.val (.int p0), .val (.int p1), .val (.int p2), .val (.int p3), .val (.int p4), .val (.int c1), .val (.int c2), .val (.int c3), .val (.int c4), .val (.int kk), .unset, .unset] [(.int c1), (.int (40 : Int32)), (.ref b58), (.ref b58)])) rfl rfl (hb hby at_388)
            replace V_b58 : Arv Z h140 b58 k58 .char (63 : Int32) [(.int (nar .char c1)), (.int (nar .char c2)), (.int (nar .char c3)), (.int (nar .char c4)), (.int (nar .char c1)), (.int (nar .char c2)), (.int (nar .char c3)), (.int (nar .char c4)), (.int (nar .char c1)), (.int (nar .char c2)), (.int (nar .char c3)), (.int (nar .char c4)), (.int (nar .char c1)), (.int (nar .char c2)), (.int (nar .char c3)), (.int (nar .char c4)), (.int (nar .char c1)), (.int (nar .char c2)), (.int (nar .char c3)), (.int (nar .char c4)), (.int (nar .char c1)), (.int (nar .char c2)), (.int (nar .char c3)), (.int (nar .char c4)), (.int (nar .char c1)), (.int (nar .char c2)), (.int (nar .char c3)), (.int (nar .char c4)), (.int (nar .char c1)), (.int (nar .char c2)), (.int (nar .char c3)), (.int (nar .char c4)), (.int (nar .char c1)), (.int (nar .char c2)), (.int (nar .char c3)), (.int (nar .char c4)), (.int (nar .char c1)), (.int (nar .char c2)), (.int (nar .char c3)), (.int (nar .char c4)), (.int (nar .char c1)), (.int (0 : Int32)), (.int (0 : Int32)), (.int (0 : Int32)), (.int (0 : Int32)), (.int (0 : Int32)), (.int (0 : Int32)), (.int (0 : Int32)), (.int (0 : Int32)), (.int (0 : Int32)), (.int (0 : Int32)), (.int (0 : Int32)), (.int (0 : Int32)), (.int (0 : Int32)), (.int (0 : Int32)), (.int (0 : Int32)), (.int (0 : Int32)), (.int (0 : Int32)), (.int (0 : Int32)), (.int (0 : Int32)), (.int (0 : Int32)), (.int (0 : Int32)), (.int (0 : Int32))] (.int (0 : Int32)) := Arv.set Ar140 q140 S140 Nn140 H140 G140 (fits_nar_char _) W140 40 rfl (Nat.le_of_ble_eq_true rfl)
            replace S_COMPACT_STRINGS := Sta.wr W140 S_COMPACT_STRINGS
            replace S_SIOOBE_FORMATTER := Sta.wr W140 S_SIOOBE_FORMATTER
            replace E_b58 := E_b58.wr W140
            have Z141 : n0 ≤ h140.size := Nat.le_trans Z139 (Keep.of_wr W140).1
            refine W.go st140 ?_
            have N140 := Fr.snoc X140 N138 g_b58
            show W p e below _ (T140.setTop (mkF m 389 #[.val (.int p0), .val (.int p1), .val (.int p2), .val (.int p3), .val (.int p4), .val (.int c1), .val (.int c2), .val (.int c3), .val (.int c4), .val (.int kk), .unset, .unset] [(.ref b58)]))
            refine W.go (fun _ hr => XS.dup X140.here hx rfl (hb hby at_389) rfl rfl hr) ?_
            show W p e below _ (T140.setTop (mkF m 390 #[.val (.int p0), .val (.int p1), .val (.int p2), .val (.int p3), .val (.int p4), .val (.int c1), .val (.int c2), .val (.int c3), .val (.int c4), .val (.int kk), .unset, .unset] [(.ref b58), (.ref b58)]))
            refine W.go (fun _ hr => XS.bipush X140.here hx rfl (hb hby at_390) hr) ?_
            show W p e below _ (T140.setTop (mkF m 392 #[.val (.int p0), .val (.int p1), .val (.int p2), .val (.int p3), .val (.int p4), .val (.int c1), .val (.int c2), .val (.int c3), .val (.int c4), .val (.int kk), .unset, .unset] [(.int (41 : Int32)), (.ref b58), (.ref b58)]))
            refine W.go (fun _ hr => XS.iload X140.here hx rfl (hb hby at_392) rfl hr) ?_
            show W p e below _ (T140.setTop (mkF m 394 #[.val (.int p0), .val (.int p1), .val (.int p2), .val (.int p3), .val (.int p4), .val (.int c1), .val (.int c2), .val (.int c3), .val (.int c4), .val (.int kk), .unset, .unset] [(.int c2), (.int (41 : Int32)), (.ref b58), (.ref b58)]))
            obtain ⟨cl142, Ar142, q142, S142, Nn142, H142, G142⟩ := V_b58
            have hin142 : ¬ ((41 : Int32) < 0 ∨ cl142.slots.size ≤ ((41 : Int32)).toNatClampNeg) := inb_of S142 ⟨by decide, by decide⟩
            obtain ⟨T142, h142, X142, e142, W142, st142⟩ := stC X140 hx hZ e140 Ar142 (j := (41 : Int32)) hin142 (g := (mkF m 394 #[.val (.int p0), .val (.int p1), .val (.int p2), .val (.int p3), .val (.int p4), .val (.int c1), .val (.int c2), .val (.int c3), .val (.int c4), .val (.int kk), .unset, .unset] [(.int c2), (.int (41 : Int32)), (.ref b58), (.ref b58)])) rfl rfl (hb hby at_394)
            replace V_b58 : Arv Z h142 b58 k58 .char (63 : Int32) [(.int (nar .char c1)), (.int (nar .char c2)), (.int (nar .char c3)), (.int (nar .char c4)), (.int (nar .char c1)), (.int (nar .char c2)), (.int (nar .char c3)), (.int (nar .char c4)), (.int (nar .char c1)), (.int (nar .char c2)), (.int (nar .char c3)), (.int (nar .char c4)), (.int (nar .char c1)), (.int (nar .char c2)), (.int (nar .char c3)), (.int (nar .char c4)), (.int (nar .char c1)), (.int (nar .char c2)), (.int (nar .char c3)), (.int (nar .char c4)), (.int (nar .char c1)), (.int (nar .char c2)), (.int (nar .char c3)), (.int (nar .char c4)), (.int (nar .char c1)), (.int (nar .char c2)), (.int (nar .char c3)), (.int (nar .char c4)), (.int (nar .char c1)), (.int (nar .char c2)), (.int (nar .char c3)), (.int (nar .char c4)), (.int (nar .char c1)), (.int (nar .char c2)), (.int (nar .char c3)), (.int (nar .char c4)), (.int (nar .char c1)), (.int (nar .char c2)), (.int (nar .char c3)), (.int (nar .char c4)), (.int (nar .char c1)), (.int (nar .char c2)), (.int (0 : Int32)), (.int (0 : Int32)), (.int (0 : Int32)), (.int (0 : Int32)), (.int (0 : Int32)), (.int (0 : Int32)), (.int (0 : Int32)), (.int (0 : Int32)), (.int (0 : Int32)), (.int (0 : Int32)), (.int (0 : Int32)), (.int (0 : Int32)), (.int (0 : Int32)), (.int (0 : Int32)), (.int (0 : Int32)), (.int (0 : Int32)), (.int (0 : Int32)), (.int (0 : Int32)), (.int (0 : Int32)), (.int (0 : Int32)), (.int (0 : Int32))] (.int (0 : Int32)) := Arv.set Ar142 q142 S142 Nn142 H142 G142 (fits_nar_char _) W142 41 rfl (Nat.le_of_ble_eq_true rfl)
            replace S_COMPACT_STRINGS := Sta.wr W142 S_COMPACT_STRINGS
            replace S_SIOOBE_FORMATTER := Sta.wr W142 S_SIOOBE_FORMATTER
            replace E_b58 := E_b58.wr W142
            have Z143 : n0 ≤ h142.size := Nat.le_trans Z141 (Keep.of_wr W142).1
            refine W.go st142 ?_
            have N142 := Fr.snoc X142 N140 g_b58
            show W p e below _ (T142.setTop (mkF m 395 #[.val (.int p0), .val (.int p1), .val (.int p2), .val (.int p3), .val (.int p4), .val (.int c1), .val (.int c2), .val (.int c3), .val (.int c4), .val (.int kk), .unset, .unset] [(.ref b58)]))
            refine W.go (fun _ hr => XS.dup X142.here hx rfl (hb hby at_395) rfl rfl hr) ?_
            show W p e below _ (T142.setTop (mkF m 396 #[.val (.int p0), .val (.int p1), .val (.int p2), .val (.int p3), .val (.int p4), .val (.int c1), .val (.int c2), .val (.int c3), .val (.int c4), .val (.int kk), .unset, .unset] [(.ref b58), (.ref b58)]))
            refine W.go (fun _ hr => XS.bipush X142.here hx rfl (hb hby at_396) hr) ?_
            show W p e below _ (T142.setTop (mkF m 398 #[.val (.int p0), .val (.int p1), .val (.int p2), .val (.int p3), .val (.int p4), .val (.int c1), .val (.int c2), .val (.int c3), .val (.int c4), .val (.int kk), .unset, .unset] [(.int (42 : Int32)), (.ref b58), (.ref b58)]))
            refine W.go (fun _ hr => XS.iload X142.here hx rfl (hb hby at_398) rfl hr) ?_
            show W p e below _ (T142.setTop (mkF m 400 #[.val (.int p0), .val (.int p1), .val (.int p2), .val (.int p3), .val (.int p4), .val (.int c1), .val (.int c2), .val (.int c3), .val (.int c4), .val (.int kk), .unset, .unset] [(.int c3), (.int (42 : Int32)), (.ref b58), (.ref b58)]))
            obtain ⟨cl144, Ar144, q144, S144, Nn144, H144, G144⟩ := V_b58
            have hin144 : ¬ ((42 : Int32) < 0 ∨ cl144.slots.size ≤ ((42 : Int32)).toNatClampNeg) := inb_of S144 ⟨by decide, by decide⟩
            obtain ⟨T144, h144, X144, e144, W144, st144⟩ := stC X142 hx hZ e142 Ar144 (j := (42 : Int32)) hin144 (g := (mkF m 400 #[.val (.int p0), .val (.int p1), .val (.int p2), .val (.int p3), .val (.int p4), .val (.int c1), .val (.int c2), .val (.int c3), .val (.int c4), .val (.int kk), .unset, .unset] [(.int c3), (.int (42 : Int32)), (.ref b58), (.ref b58)])) rfl rfl (hb hby at_400)
            replace V_b58 : Arv Z h144 b58 k58 .char (63 : Int32) [(.int (nar .char c1)), (.int (nar .char c2)), (.int (nar .char c3)), (.int (nar .char c4)), (.int (nar .char c1)), (.int (nar .char c2)), (.int (nar .char c3)), (.int (nar .char c4)), (.int (nar .char c1)), (.int (nar .char c2)), (.int (nar .char c3)), (.int (nar .char c4)), (.int (nar .char c1)), (.int (nar .char c2)), (.int (nar .char c3)), (.int (nar .char c4)), (.int (nar .char c1)), (.int (nar .char c2)), (.int (nar .char c3)), (.int (nar .char c4)), (.int (nar .char c1)), (.int (nar .char c2)), (.int (nar .char c3)), (.int (nar .char c4)), (.int (nar .char c1)), (.int (nar .char c2)), (.int (nar .char c3)), (.int (nar .char c4)), (.int (nar .char c1)), (.int (nar .char c2)), (.int (nar .char c3)), (.int (nar .char c4)), (.int (nar .char c1)), (.int (nar .char c2)), (.int (nar .char c3)), (.int (nar .char c4)), (.int (nar .char c1)), (.int (nar .char c2)), (.int (nar .char c3)), (.int (nar .char c4)), (.int (nar .char c1)), (.int (nar .char c2)), (.int (nar .char c3)), (.int (0 : Int32)), (.int (0 : Int32)), (.int (0 : Int32)), (.int (0 : Int32)), (.int (0 : Int32)), (.int (0 : Int32)), (.int (0 : Int32)), (.int (0 : Int32)), (.int (0 : Int32)), (.int (0 : Int32)), (.int (0 : Int32)), (.int (0 : Int32)), (.int (0 : Int32)), (.int (0 : Int32)), (.int (0 : Int32)), (.int (0 : Int32)), (.int (0 : Int32)), (.int (0 : Int32)), (.int (0 : Int32)), (.int (0 : Int32))] (.int (0 : Int32)) := Arv.set Ar144 q144 S144 Nn144 H144 G144 (fits_nar_char _) W144 42 rfl (Nat.le_of_ble_eq_true rfl)
            replace S_COMPACT_STRINGS := Sta.wr W144 S_COMPACT_STRINGS
            replace S_SIOOBE_FORMATTER := Sta.wr W144 S_SIOOBE_FORMATTER
            replace E_b58 := E_b58.wr W144
            have Z145 : n0 ≤ h144.size := Nat.le_trans Z143 (Keep.of_wr W144).1
            refine W.go st144 ?_
            have N144 := Fr.snoc X144 N142 g_b58
            show W p e below _ (T144.setTop (mkF m 401 #[.val (.int p0), .val (.int p1), .val (.int p2), .val (.int p3), .val (.int p4), .val (.int c1), .val (.int c2), .val (.int c3), .val (.int c4), .val (.int kk), .unset, .unset] [(.ref b58)]))
            refine W.go (fun _ hr => XS.dup X144.here hx rfl (hb hby at_401) rfl rfl hr) ?_
            show W p e below _ (T144.setTop (mkF m 402 #[.val (.int p0), .val (.int p1), .val (.int p2), .val (.int p3), .val (.int p4), .val (.int c1), .val (.int c2), .val (.int c3), .val (.int c4), .val (.int kk), .unset, .unset] [(.ref b58), (.ref b58)]))
            refine W.go (fun _ hr => XS.bipush X144.here hx rfl (hb hby at_402) hr) ?_
            show W p e below _ (T144.setTop (mkF m 404 #[.val (.int p0), .val (.int p1), .val (.int p2), .val (.int p3), .val (.int p4), .val (.int c1), .val (.int c2), .val (.int c3), .val (.int c4), .val (.int kk), .unset, .unset] [(.int (43 : Int32)), (.ref b58), (.ref b58)]))
            refine W.go (fun _ hr => XS.iload X144.here hx rfl (hb hby at_404) rfl hr) ?_
            show W p e below _ (T144.setTop (mkF m 406 #[.val (.int p0), .val (.int p1), .val (.int p2), .val (.int p3), .val (.int p4), .val (.int c1), .val (.int c2), .val (.int c3), .val (.int c4), .val (.int kk), .unset, .unset] [(.int c4), (.int (43 : Int32)), (.ref b58), (.ref b58)]))
            obtain ⟨cl146, Ar146, q146, S146, Nn146, H146, G146⟩ := V_b58
            have hin146 : ¬ ((43 : Int32) < 0 ∨ cl146.slots.size ≤ ((43 : Int32)).toNatClampNeg) := inb_of S146 ⟨by decide, by decide⟩
            obtain ⟨T146, h146, X146, e146, W146, st146⟩ := stC X144 hx hZ e144 Ar146 (j := (43 : Int32)) hin146 (g := (mkF m 406 #[.val (.int p0), .val (.int p1), .val (.int p2), .val (.int p3), .val (.int p4), .val (.int c1), .val (.int c2), .val (.int c3), .val (.int c4), .val (.int kk), .unset, .unset] [(.int c4), (.int (43 : Int32)), (.ref b58), (.ref b58)])) rfl rfl (hb hby at_406)
            replace V_b58 : Arv Z h146 b58 k58 .char (63 : Int32) [(.int (nar .char c1)), (.int (nar .char c2)), (.int (nar .char c3)), (.int (nar .char c4)), (.int (nar .char c1)), (.int (nar .char c2)), (.int (nar .char c3)), (.int (nar .char c4)), (.int (nar .char c1)), (.int (nar .char c2)), (.int (nar .char c3)), (.int (nar .char c4)), (.int (nar .char c1)), (.int (nar .char c2)), (.int (nar .char c3)), (.int (nar .char c4)), (.int (nar .char c1)), (.int (nar .char c2)), (.int (nar .char c3)), (.int (nar .char c4)), (.int (nar .char c1)), (.int (nar .char c2)), (.int (nar .char c3)), (.int (nar .char c4)), (.int (nar .char c1)), (.int (nar .char c2)), (.int (nar .char c3)), (.int (nar .char c4)), (.int (nar .char c1)), (.int (nar .char c2)), (.int (nar .char c3)), (.int (nar .char c4)), (.int (nar .char c1)), (.int (nar .char c2)), (.int (nar .char c3)), (.int (nar .char c4)), (.int (nar .char c1)), (.int (nar .char c2)), (.int (nar .char c3)), (.int (nar .char c4)), (.int (nar .char c1)), (.int (nar .char c2)), (.int (nar .char c3)), (.int (nar .char c4)), (.int (0 : Int32)), (.int (0 : Int32)), (.int (0 : Int32)), (.int (0 : Int32)), (.int (0 : Int32)), (.int (0 : Int32)), (.int (0 : Int32)), (.int (0 : Int32)), (.int (0 : Int32)), (.int (0 : Int32)), (.int (0 : Int32)), (.int (0 : Int32)), (.int (0 : Int32)), (.int (0 : Int32)), (.int (0 : Int32)), (.int (0 : Int32)), (.int (0 : Int32)), (.int (0 : Int32)), (.int (0 : Int32))] (.int (0 : Int32)) := Arv.set Ar146 q146 S146 Nn146 H146 G146 (fits_nar_char _) W146 43 rfl (Nat.le_of_ble_eq_true rfl)
            replace S_COMPACT_STRINGS := Sta.wr W146 S_COMPACT_STRINGS
            replace S_SIOOBE_FORMATTER := Sta.wr W146 S_SIOOBE_FORMATTER
            replace E_b58 := E_b58.wr W146
            have Z147 : n0 ≤ h146.size := Nat.le_trans Z145 (Keep.of_wr W146).1
            refine W.go st146 ?_
            have N146 := Fr.snoc X146 N144 g_b58
            show W p e below _ (T146.setTop (mkF m 407 #[.val (.int p0), .val (.int p1), .val (.int p2), .val (.int p3), .val (.int p4), .val (.int c1), .val (.int c2), .val (.int c3), .val (.int c4), .val (.int kk), .unset, .unset] [(.ref b58)]))
            refine W.go (fun _ hr => XS.dup X146.here hx rfl (hb hby at_407) rfl rfl hr) ?_
            show W p e below _ (T146.setTop (mkF m 408 #[.val (.int p0), .val (.int p1), .val (.int p2), .val (.int p3), .val (.int p4), .val (.int c1), .val (.int c2), .val (.int c3), .val (.int c4), .val (.int kk), .unset, .unset] [(.ref b58), (.ref b58)]))
            refine W.go (fun _ hr => XS.bipush X146.here hx rfl (hb hby at_408) hr) ?_
            show W p e below _ (T146.setTop (mkF m 410 #[.val (.int p0), .val (.int p1), .val (.int p2), .val (.int p3), .val (.int p4), .val (.int c1), .val (.int c2), .val (.int c3), .val (.int c4), .val (.int kk), .unset, .unset] [(.int (44 : Int32)), (.ref b58), (.ref b58)]))
            refine W.go (fun _ hr => XS.iload X146.here hx rfl (hb hby at_410) rfl hr) ?_
            show W p e below _ (T146.setTop (mkF m 412 #[.val (.int p0), .val (.int p1), .val (.int p2), .val (.int p3), .val (.int p4), .val (.int c1), .val (.int c2), .val (.int c3), .val (.int c4), .val (.int kk), .unset, .unset] [(.int c1), (.int (44 : Int32)), (.ref b58), (.ref b58)]))
            obtain ⟨cl148, Ar148, q148, S148, Nn148, H148, G148⟩ := V_b58
            have hin148 : ¬ ((44 : Int32) < 0 ∨ cl148.slots.size ≤ ((44 : Int32)).toNatClampNeg) := inb_of S148 ⟨by decide, by decide⟩
            obtain ⟨T148, h148, X148, e148, W148, st148⟩ := stC X146 hx hZ e146 Ar148 (j := (44 : Int32)) hin148 (g := (mkF m 412 #[.val (.int p0), .val (.int p1), .val (.int p2), .val (.int p3), .val (.int p4), .val (.int c1), .val (.int c2), .val (.int c3), .val (.int c4), .val (.int kk), .unset, .unset] [(.int c1), (.int (44 : Int32)), (.ref b58), (.ref b58)])) rfl rfl (hb hby at_412)
            replace V_b58 : Arv Z h148 b58 k58 .char (63 : Int32) [(.int (nar .char c1)), (.int (nar .char c2)), (.int (nar .char c3)), (.int (nar .char c4)), (.int (nar .char c1)), (.int (nar .char c2)), (.int (nar .char c3)), (.int (nar .char c4)), (.int (nar .char c1)), (.int (nar .char c2)), (.int (nar .char c3)), (.int (nar .char c4)), (.int (nar .char c1)), (.int (nar .char c2)), (.int (nar .char c3)), (.int (nar .char c4)), (.int (nar .char c1)), (.int (nar .char c2)), (.int (nar .char c3)), (.int (nar .char c4)), (.int (nar .char c1)), (.int (nar .char c2)), (.int (nar .char c3)), (.int (nar .char c4)), (.int (nar .char c1)), (.int (nar .char c2)), (.int (nar .char c3)), (.int (nar .char c4)), (.int (nar .char c1)), (.int (nar .char c2)), (.int (nar .char c3)), (.int (nar .char c4)), (.int (nar .char c1)), (.int (nar .char c2)), (.int (nar .char c3)), (.int (nar .char c4)), (.int (nar .char c1)), (.int (nar .char c2)), (.int (nar .char c3)), (.int (nar .char c4)), (.int (nar .char c1)), (.int (nar .char c2)), (.int (nar .char c3)), (.int (nar .char c4)), (.int (nar .char c1)), (.int (0 : Int32)), (.int (0 : Int32)), (.int (0 : Int32)), (.int (0 : Int32)), (.int (0 : Int32)), (.int (0 : Int32)), (.int (0 : Int32)), (.int (0 : Int32)), (.int (0 : Int32)), (.int (0 : Int32)), (.int (0 : Int32)), (.int (0 : Int32)), (.int (0 : Int32)), (.int (0 : Int32)), (.int (0 : Int32)), (.int (0 : Int32)), (.int (0 : Int32)), (.int (0 : Int32))] (.int (0 : Int32)) := Arv.set Ar148 q148 S148 Nn148 H148 G148 (fits_nar_char _) W148 44 rfl (Nat.le_of_ble_eq_true rfl)
            replace S_COMPACT_STRINGS := Sta.wr W148 S_COMPACT_STRINGS
            replace S_SIOOBE_FORMATTER := Sta.wr W148 S_SIOOBE_FORMATTER
            replace E_b58 := E_b58.wr W148
            have Z149 : n0 ≤ h148.size := Nat.le_trans Z147 (Keep.of_wr W148).1
            refine W.go st148 ?_
            have N148 := Fr.snoc X148 N146 g_b58
            show W p e below _ (T148.setTop (mkF m 413 #[.val (.int p0), .val (.int p1), .val (.int p2), .val (.int p3), .val (.int p4), .val (.int c1), .val (.int c2), .val (.int c3), .val (.int c4), .val (.int kk), .unset, .unset] [(.ref b58)]))
            refine W.go (fun _ hr => XS.dup X148.here hx rfl (hb hby at_413) rfl rfl hr) ?_
            show W p e below _ (T148.setTop (mkF m 414 #[.val (.int p0), .val (.int p1), .val (.int p2), .val (.int p3), .val (.int p4), .val (.int c1), .val (.int c2), .val (.int c3), .val (.int c4), .val (.int kk), .unset, .unset] [(.ref b58), (.ref b58)]))
            refine W.go (fun _ hr => XS.bipush X148.here hx rfl (hb hby at_414) hr) ?_
            show W p e below _ (T148.setTop (mkF m 416 #[.val (.int p0), .val (.int p1), .val (.int p2), .val (.int p3), .val (.int p4), .val (.int c1), .val (.int c2), .val (.int c3), .val (.int c4), .val (.int kk), .unset, .unset] [(.int (45 : Int32)), (.ref b58), (.ref b58)]))
            refine W.go (fun _ hr => XS.iload X148.here hx rfl (hb hby at_416) rfl hr) ?_
            show W p e below _ (T148.setTop (mkF m 418 #[.val (.int p0), .val (.int p1), .val (.int p2), .val (.int p3), .val (.int p4), .val (.int c1), .val (.int c2), .val (.int c3), .val (.int c4), .val (.int kk), .unset, .unset] [(.int c2), (.int (45 : Int32)), (.ref b58), (.ref b58)]))
            obtain ⟨cl150, Ar150, q150, S150, Nn150, H150, G150⟩ := V_b58
            have hin150 : ¬ ((45 : Int32) < 0 ∨ cl150.slots.size ≤ ((45 : Int32)).toNatClampNeg) := inb_of S150 ⟨by decide, by decide⟩
            obtain ⟨T150, h150, X150, e150, W150, st150⟩ := stC X148 hx hZ e148 Ar150 (j := (45 : Int32)) hin150 (g := (mkF m 418 #[.val (.int p0), .val (.int p1), .val (.int p2), .val (.int p3), .val (.int p4), .val (.int c1), .val (.int c2), .val (.int c3), .val (.int c4), .val (.int kk), .unset, .unset] [(.int c2), (.int (45 : Int32)), (.ref b58), (.ref b58)])) rfl rfl (hb hby at_418)
            replace V_b58 : Arv Z h150 b58 k58 .char (63 : Int32) [(.int (nar .char c1)), (.int (nar .char c2)), (.int (nar .char c3)), (.int (nar .char c4)), (.int (nar .char c1)), (.int (nar .char c2)), (.int (nar .char c3)), (.int (nar .char c4)), (.int (nar .char c1)), (.int (nar .char c2)), (.int (nar .char c3)), (.int (nar .char c4)), (.int (nar .char c1)), (.int (nar .char c2)), (.int (nar .char c3)), (.int (nar .char c4)), (.int (nar .char c1)), (.int (nar .char c2)), (.int (nar .char c3)), (.int (nar .char c4)), (.int (nar .char c1)), (.int (nar .char c2)), (.int (nar .char c3)), (.int (nar .char c4)), (.int (nar .char c1)), (.int (nar .char c2)), (.int (nar .char c3)), (.int (nar .char c4)), (.int (nar .char c1)), (.int (nar .char c2)), (.int (nar .char c3)), (.int (nar .char c4)), (.int (nar .char c1)), (.int (nar .char c2)), (.int (nar .char c3)), (.int (nar .char c4)), (.int (nar .char c1)), (.int (nar .char c2)), (.int (nar .char c3)), (.int (nar .char c4)), (.int (nar .char c1)), (.int (nar .char c2)), (.int (nar .char c3)), (.int (nar .char c4)), (.int (nar .char c1)), (.int (nar .char c2)), (.int (0 : Int32)), (.int (0 : Int32)), (.int (0 : Int32)), (.int (0 : Int32)), (.int (0 : Int32)), (.int (0 : Int32)), (.int (0 : Int32)), (.int (0 : Int32)), (.int (0 : Int32)), (.int (0 : Int32)), (.int (0 : Int32)), (.int (0 : Int32)), (.int (0 : Int32)), (.int (0 : Int32)), (.int (0 : Int32)), (.int (0 : Int32)), (.int (0 : Int32))] (.int (0 : Int32)) := Arv.set Ar150 q150 S150 Nn150 H150 G150 (fits_nar_char _) W150 45 rfl (Nat.le_of_ble_eq_true rfl)
            replace S_COMPACT_STRINGS := Sta.wr W150 S_COMPACT_STRINGS
            replace S_SIOOBE_FORMATTER := Sta.wr W150 S_SIOOBE_FORMATTER
            replace E_b58 := E_b58.wr W150
            have Z151 : n0 ≤ h150.size := Nat.le_trans Z149 (Keep.of_wr W150).1
            refine W.go st150 ?_
            have N150 := Fr.snoc X150 N148 g_b58
            show W p e below _ (T150.setTop (mkF m 419 #[.val (.int p0), .val (.int p1), .val (.int p2), .val (.int p3), .val (.int p4), .val (.int c1), .val (.int c2), .val (.int c3), .val (.int c4), .val (.int kk), .unset, .unset] [(.ref b58)]))
            refine W.go (fun _ hr => XS.dup X150.here hx rfl (hb hby at_419) rfl rfl hr) ?_
            show W p e below _ (T150.setTop (mkF m 420 #[.val (.int p0), .val (.int p1), .val (.int p2), .val (.int p3), .val (.int p4), .val (.int c1), .val (.int c2), .val (.int c3), .val (.int c4), .val (.int kk), .unset, .unset] [(.ref b58), (.ref b58)]))
            refine W.go (fun _ hr => XS.bipush X150.here hx rfl (hb hby at_420) hr) ?_
            show W p e below _ (T150.setTop (mkF m 422 #[.val (.int p0), .val (.int p1), .val (.int p2), .val (.int p3), .val (.int p4), .val (.int c1), .val (.int c2), .val (.int c3), .val (.int c4), .val (.int kk), .unset, .unset] [(.int (46 : Int32)), (.ref b58), (.ref b58)]))
            refine W.go (fun _ hr => XS.iload X150.here hx rfl (hb hby at_422) rfl hr) ?_
            show W p e below _ (T150.setTop (mkF m 424 #[.val (.int p0), .val (.int p1), .val (.int p2), .val (.int p3), .val (.int p4), .val (.int c1), .val (.int c2), .val (.int c3), .val (.int c4), .val (.int kk), .unset, .unset] [(.int c3), (.int (46 : Int32)), (.ref b58), (.ref b58)]))
            obtain ⟨cl152, Ar152, q152, S152, Nn152, H152, G152⟩ := V_b58
            have hin152 : ¬ ((46 : Int32) < 0 ∨ cl152.slots.size ≤ ((46 : Int32)).toNatClampNeg) := inb_of S152 ⟨by decide, by decide⟩
            obtain ⟨T152, h152, X152, e152, W152, st152⟩ := stC X150 hx hZ e150 Ar152 (j := (46 : Int32)) hin152 (g := (mkF m 424 #[.val (.int p0), .val (.int p1), .val (.int p2), .val (.int p3), .val (.int p4), .val (.int c1), .val (.int c2), .val (.int c3), .val (.int c4), .val (.int kk), .unset, .unset] [(.int c3), (.int (46 : Int32)), (.ref b58), (.ref b58)])) rfl rfl (hb hby at_424)
            replace V_b58 : Arv Z h152 b58 k58 .char (63 : Int32) [(.int (nar .char c1)), (.int (nar .char c2)), (.int (nar .char c3)), (.int (nar .char c4)), (.int (nar .char c1)), (.int (nar .char c2)), (.int (nar .char c3)), (.int (nar .char c4)), (.int (nar .char c1)), (.int (nar .char c2)), (.int (nar .char c3)), (.int (nar .char c4)), (.int (nar .char c1)), (.int (nar .char c2)), (.int (nar .char c3)), (.int (nar .char c4)), (.int (nar .char c1)), (.int (nar .char c2)), (.int (nar .char c3)), (.int (nar .char c4)), (.int (nar .char c1)), (.int (nar .char c2)), (.int (nar .char c3)), (.int (nar .char c4)), (.int (nar .char c1)), (.int (nar .char c2)), (.int (nar .char c3)), (.int (nar .char c4)), (.int (nar .char c1)), (.int (nar .char c2)), (.int (nar .char c3)), (.int (nar .char c4)), (.int (nar .char c1)), (.int (nar .char c2)), (.int (nar .char c3)), (.int (nar .char c4)), (.int (nar .char c1)), (.int (nar .char c2)), (.int (nar .char c3)), (.int (nar .char c4)), (.int (nar .char c1)), (.int (nar .char c2)), (.int (nar .char c3)), (.int (nar .char c4)), (.int (nar .char c1)), (.int (nar .char c2)), (.int (nar .char c3)), (.int (0 : Int32)), (.int (0 : Int32)), (.int (0 : Int32)), (.int (0 : Int32)), (.int (0 : Int32)), (.int (0 : Int32)), (.int (0 : Int32)), (.int (0 : Int32)), (.int (0 : Int32)), (.int (0 : Int32)), (.int (0 : Int32)), (.int (0 : Int32)), (.int (0 : Int32)), (.int (0 : Int32)), (.int (0 : Int32)), (.int (0 : Int32))] (.int (0 : Int32)) := Arv.set Ar152 q152 S152 Nn152 H152 G152 (fits_nar_char _) W152 46 rfl (Nat.le_of_ble_eq_true rfl)
            replace S_COMPACT_STRINGS := Sta.wr W152 S_COMPACT_STRINGS
            replace S_SIOOBE_FORMATTER := Sta.wr W152 S_SIOOBE_FORMATTER
            replace E_b58 := E_b58.wr W152
            have Z153 : n0 ≤ h152.size := Nat.le_trans Z151 (Keep.of_wr W152).1
            refine W.go st152 ?_
            have N152 := Fr.snoc X152 N150 g_b58
            show W p e below _ (T152.setTop (mkF m 425 #[.val (.int p0), .val (.int p1), .val (.int p2), .val (.int p3), .val (.int p4), .val (.int c1), .val (.int c2), .val (.int c3), .val (.int c4), .val (.int kk), .unset, .unset] [(.ref b58)]))
            refine W.go (fun _ hr => XS.dup X152.here hx rfl (hb hby at_425) rfl rfl hr) ?_
            show W p e below _ (T152.setTop (mkF m 426 #[.val (.int p0), .val (.int p1), .val (.int p2), .val (.int p3), .val (.int p4), .val (.int c1), .val (.int c2), .val (.int c3), .val (.int c4), .val (.int kk), .unset, .unset] [(.ref b58), (.ref b58)]))
            refine W.go (fun _ hr => XS.bipush X152.here hx rfl (hb hby at_426) hr) ?_
            show W p e below _ (T152.setTop (mkF m 428 #[.val (.int p0), .val (.int p1), .val (.int p2), .val (.int p3), .val (.int p4), .val (.int c1), .val (.int c2), .val (.int c3), .val (.int c4), .val (.int kk), .unset, .unset] [(.int (47 : Int32)), (.ref b58), (.ref b58)]))
            refine W.go (fun _ hr => XS.iload X152.here hx rfl (hb hby at_428) rfl hr) ?_
            show W p e below _ (T152.setTop (mkF m 430 #[.val (.int p0), .val (.int p1), .val (.int p2), .val (.int p3), .val (.int p4), .val (.int c1), .val (.int c2), .val (.int c3), .val (.int c4), .val (.int kk), .unset, .unset] [(.int c4), (.int (47 : Int32)), (.ref b58), (.ref b58)]))
            obtain ⟨cl154, Ar154, q154, S154, Nn154, H154, G154⟩ := V_b58
            have hin154 : ¬ ((47 : Int32) < 0 ∨ cl154.slots.size ≤ ((47 : Int32)).toNatClampNeg) := inb_of S154 ⟨by decide, by decide⟩
            obtain ⟨T154, h154, X154, e154, W154, st154⟩ := stC X152 hx hZ e152 Ar154 (j := (47 : Int32)) hin154 (g := (mkF m 430 #[.val (.int p0), .val (.int p1), .val (.int p2), .val (.int p3), .val (.int p4), .val (.int c1), .val (.int c2), .val (.int c3), .val (.int c4), .val (.int kk), .unset, .unset] [(.int c4), (.int (47 : Int32)), (.ref b58), (.ref b58)])) rfl rfl (hb hby at_430)
            replace V_b58 : Arv Z h154 b58 k58 .char (63 : Int32) [(.int (nar .char c1)), (.int (nar .char c2)), (.int (nar .char c3)), (.int (nar .char c4)), (.int (nar .char c1)), (.int (nar .char c2)), (.int (nar .char c3)), (.int (nar .char c4)), (.int (nar .char c1)), (.int (nar .char c2)), (.int (nar .char c3)), (.int (nar .char c4)), (.int (nar .char c1)), (.int (nar .char c2)), (.int (nar .char c3)), (.int (nar .char c4)), (.int (nar .char c1)), (.int (nar .char c2)), (.int (nar .char c3)), (.int (nar .char c4)), (.int (nar .char c1)), (.int (nar .char c2)), (.int (nar .char c3)), (.int (nar .char c4)), (.int (nar .char c1)), (.int (nar .char c2)), (.int (nar .char c3)), (.int (nar .char c4)), (.int (nar .char c1)), (.int (nar .char c2)), (.int (nar .char c3)), (.int (nar .char c4)), (.int (nar .char c1)), (.int (nar .char c2)), (.int (nar .char c3)), (.int (nar .char c4)), (.int (nar .char c1)), (.int (nar .char c2)), (.int (nar .char c3)), (.int (nar .char c4)), (.int (nar .char c1)), (.int (nar .char c2)), (.int (nar .char c3)), (.int (nar .char c4)), (.int (nar .char c1)), (.int (nar .char c2)), (.int (nar .char c3)), (.int (nar .char c4)), (.int (0 : Int32)), (.int (0 : Int32)), (.int (0 : Int32)), (.int (0 : Int32)), (.int (0 : Int32)), (.int (0 : Int32)), (.int (0 : Int32)), (.int (0 : Int32)), (.int (0 : Int32)), (.int (0 : Int32)), (.int (0 : Int32)), (.int (0 : Int32)), (.int (0 : Int32)), (.int (0 : Int32)), (.int (0 : Int32))] (.int (0 : Int32)) := Arv.set Ar154 q154 S154 Nn154 H154 G154 (fits_nar_char _) W154 47 rfl (Nat.le_of_ble_eq_true rfl)
            replace S_COMPACT_STRINGS := Sta.wr W154 S_COMPACT_STRINGS
            replace S_SIOOBE_FORMATTER := Sta.wr W154 S_SIOOBE_FORMATTER
            replace E_b58 := E_b58.wr W154
            have Z155 : n0 ≤ h154.size := Nat.le_trans Z153 (Keep.of_wr W154).1
            refine W.go st154 ?_
            have N154 := Fr.snoc X154 N152 g_b58
            show W p e below _ (T154.setTop (mkF m 431 #[.val (.int p0), .val (.int p1), .val (.int p2), .val (.int p3), .val (.int p4), .val (.int c1), .val (.int c2), .val (.int c3), .val (.int c4), .val (.int kk), .unset, .unset] [(.ref b58)]))
            refine W.go (fun _ hr => XS.dup X154.here hx rfl (hb hby at_431) rfl rfl hr) ?_
            show W p e below _ (T154.setTop (mkF m 432 #[.val (.int p0), .val (.int p1), .val (.int p2), .val (.int p3), .val (.int p4), .val (.int c1), .val (.int c2), .val (.int c3), .val (.int c4), .val (.int kk), .unset, .unset] [(.ref b58), (.ref b58)]))
            refine W.go (fun _ hr => XS.bipush X154.here hx rfl (hb hby at_432) hr) ?_
            show W p e below _ (T154.setTop (mkF m 434 #[.val (.int p0), .val (.int p1), .val (.int p2), .val (.int p3), .val (.int p4), .val (.int c1), .val (.int c2), .val (.int c3), .val (.int c4), .val (.int kk), .unset, .unset] [(.int (48 : Int32)), (.ref b58), (.ref b58)]))
            refine W.go (fun _ hr => XS.iload X154.here hx rfl (hb hby at_434) rfl hr) ?_
            show W p e below _ (T154.setTop (mkF m 436 #[.val (.int p0), .val (.int p1), .val (.int p2), .val (.int p3), .val (.int p4), .val (.int c1), .val (.int c2), .val (.int c3), .val (.int c4), .val (.int kk), .unset, .unset] [(.int c1), (.int (48 : Int32)), (.ref b58), (.ref b58)]))
            obtain ⟨cl156, Ar156, q156, S156, Nn156, H156, G156⟩ := V_b58
            have hin156 : ¬ ((48 : Int32) < 0 ∨ cl156.slots.size ≤ ((48 : Int32)).toNatClampNeg) := inb_of S156 ⟨by decide, by decide⟩
            obtain ⟨T156, h156, X156, e156, W156, st156⟩ := stC X154 hx hZ e154 Ar156 (j := (48 : Int32)) hin156 (g := (mkF m 436 #[.val (.int p0), .val (.int p1), .val (.int p2), .val (.int p3), .val (.int p4), .val (.int c1), .val (.int c2), .val (.int c3), .val (.int c4), .val (.int kk), .unset, .unset] [(.int c1), (.int (48 : Int32)), (.ref b58), (.ref b58)])) rfl rfl (hb hby at_436)
            replace V_b58 : Arv Z h156 b58 k58 .char (63 : Int32) [(.int (nar .char c1)), (.int (nar .char c2)), (.int (nar .char c3)), (.int (nar .char c4)), (.int (nar .char c1)), (.int (nar .char c2)), (.int (nar .char c3)), (.int (nar .char c4)), (.int (nar .char c1)), (.int (nar .char c2)), (.int (nar .char c3)), (.int (nar .char c4)), (.int (nar .char c1)), (.int (nar .char c2)), (.int (nar .char c3)), (.int (nar .char c4)), (.int (nar .char c1)), (.int (nar .char c2)), (.int (nar .char c3)), (.int (nar .char c4)), (.int (nar .char c1)), (.int (nar .char c2)), (.int (nar .char c3)), (.int (nar .char c4)), (.int (nar .char c1)), (.int (nar .char c2)), (.int (nar .char c3)), (.int (nar .char c4)), (.int (nar .char c1)), (.int (nar .char c2)), (.int (nar .char c3)), (.int (nar .char c4)), (.int (nar .char c1)), (.int (nar .char c2)), (.int (nar .char c3)), (.int (nar .char c4)), (.int (nar .char c1)), (.int (nar .char c2)), (.int (nar .char c3)), (.int (nar .char c4)), (.int (nar .char c1)), (.int (nar .char c2)), (.int (nar .char c3)), (.int (nar .char c4)), (.int (nar .char c1)), (.int (nar .char c2)), (.int (nar .char c3)), (.int (nar .char c4)), (.int (nar .char c1)), (.int (0 : Int32)), (.int (0 : Int32)), (.int (0 : Int32)), (.int (0 : Int32)), (.int (0 : Int32)), (.int (0 : Int32)), (.int (0 : Int32)), (.int (0 : Int32)), (.int (0 : Int32)), (.int (0 : Int32)), (.int (0 : Int32)), (.int (0 : Int32)), (.int (0 : Int32)), (.int (0 : Int32))] (.int (0 : Int32)) := Arv.set Ar156 q156 S156 Nn156 H156 G156 (fits_nar_char _) W156 48 rfl (Nat.le_of_ble_eq_true rfl)
            replace S_COMPACT_STRINGS := Sta.wr W156 S_COMPACT_STRINGS
            replace S_SIOOBE_FORMATTER := Sta.wr W156 S_SIOOBE_FORMATTER
            replace E_b58 := E_b58.wr W156
            have Z157 : n0 ≤ h156.size := Nat.le_trans Z155 (Keep.of_wr W156).1
            refine W.go st156 ?_
            have N156 := Fr.snoc X156 N154 g_b58
            show W p e below _ (T156.setTop (mkF m 437 #[.val (.int p0), .val (.int p1), .val (.int p2), .val (.int p3), .val (.int p4), .val (.int c1), .val (.int c2), .val (.int c3), .val (.int c4), .val (.int kk), .unset, .unset] [(.ref b58)]))
            refine W.go (fun _ hr => XS.dup X156.here hx rfl (hb hby at_437) rfl rfl hr) ?_
            show W p e below _ (T156.setTop (mkF m 438 #[.val (.int p0), .val (.int p1), .val (.int p2), .val (.int p3), .val (.int p4), .val (.int c1), .val (.int c2), .val (.int c3), .val (.int c4), .val (.int kk), .unset, .unset] [(.ref b58), (.ref b58)]))
            refine W.go (fun _ hr => XS.bipush X156.here hx rfl (hb hby at_438) hr) ?_
            show W p e below _ (T156.setTop (mkF m 440 #[.val (.int p0), .val (.int p1), .val (.int p2), .val (.int p3), .val (.int p4), .val (.int c1), .val (.int c2), .val (.int c3), .val (.int c4), .val (.int kk), .unset, .unset] [(.int (49 : Int32)), (.ref b58), (.ref b58)]))
            refine W.go (fun _ hr => XS.iload X156.here hx rfl (hb hby at_440) rfl hr) ?_
            show W p e below _ (T156.setTop (mkF m 442 #[.val (.int p0), .val (.int p1), .val (.int p2), .val (.int p3), .val (.int p4), .val (.int c1), .val (.int c2), .val (.int c3), .val (.int c4), .val (.int kk), .unset, .unset] [(.int c2), (.int (49 : Int32)), (.ref b58), (.ref b58)]))
            obtain ⟨cl158, Ar158, q158, S158, Nn158, H158, G158⟩ := V_b58
            have hin158 : ¬ ((49 : Int32) < 0 ∨ cl158.slots.size ≤ ((49 : Int32)).toNatClampNeg) := inb_of S158 ⟨by decide, by decide⟩
            obtain ⟨T158, h158, X158, e158, W158, st158⟩ := stC X156 hx hZ e156 Ar158 (j := (49 : Int32)) hin158 (g := (mkF m 442 #[.val (.int p0), .val (.int p1), .val (.int p2), .val (.int p3), .val (.int p4), .val (.int c1), .val (.int c2), .val (.int c3), .val (.int c4), .val (.int kk), .unset, .unset] [(.int c2), (.int (49 : Int32)), (.ref b58), (.ref b58)])) rfl rfl (hb hby at_442)
            replace V_b58 : Arv Z h158 b58 k58 .char (63 : Int32) [(.int (nar .char c1)), (.int (nar .char c2)), (.int (nar .char c3)), (.int (nar .char c4)), (.int (nar .char c1)), (.int (nar .char c2)), (.int (nar .char c3)), (.int (nar .char c4)), (.int (nar .char c1)), (.int (nar .char c2)), (.int (nar .char c3)), (.int (nar .char c4)), (.int (nar .char c1)), (.int (nar .char c2)), (.int (nar .char c3)), (.int (nar .char c4)), (.int (nar .char c1)), (.int (nar .char c2)), (.int (nar .char c3)), (.int (nar .char c4)), (.int (nar .char c1)), (.int (nar .char c2)), (.int (nar .char c3)), (.int (nar .char c4)), (.int (nar .char c1)), (.int (nar .char c2)), (.int (nar .char c3)), (.int (nar .char c4)), (.int (nar .char c1)), (.int (nar .char c2)), (.int (nar .char c3)), (.int (nar .char c4)), (.int (nar .char c1)), (.int (nar .char c2)), (.int (nar .char c3)), (.int (nar .char c4)), (.int (nar .char c1)), (.int (nar .char c2)), (.int (nar .char c3)), (.int (nar .char c4)), (.int (nar .char c1)), (.int (nar .char c2)), (.int (nar .char c3)), (.int (nar .char c4)), (.int (nar .char c1)), (.int (nar .char c2)), (.int (nar .char c3)), (.int (nar .char c4)), (.int (nar .char c1)), (.int (nar .char c2)), (.int (0 : Int32)), (.int (0 : Int32)), (.int (0 : Int32)), (.int (0 : Int32)), (.int (0 : Int32)), (.int (0 : Int32)), (.int (0 : Int32)), (.int (0 : Int32)), (.int (0 : Int32)), (.int (0 : Int32)), (.int (0 : Int32)), (.int (0 : Int32)), (.int (0 : Int32))] (.int (0 : Int32)) := Arv.set Ar158 q158 S158 Nn158 H158 G158 (fits_nar_char _) W158 49 rfl (Nat.le_of_ble_eq_true rfl)
            replace S_COMPACT_STRINGS := Sta.wr W158 S_COMPACT_STRINGS
            replace S_SIOOBE_FORMATTER := Sta.wr W158 S_SIOOBE_FORMATTER
            replace E_b58 := E_b58.wr W158
            have Z159 : n0 ≤ h158.size := Nat.le_trans Z157 (Keep.of_wr W158).1
            refine W.go st158 ?_
            have N158 := Fr.snoc X158 N156 g_b58
            show W p e below _ (T158.setTop (mkF m 443 #[.val (.int p0), .val (.int p1), .val (.int p2), .val (.int p3), .val (.int p4), .val (.int c1), .val (.int c2), .val (.int c3), .val (.int c4), .val (.int kk), .unset, .unset] [(.ref b58)]))
            refine W.go (fun _ hr => XS.dup X158.here hx rfl (hb hby at_443) rfl rfl hr) ?_
            show W p e below _ (T158.setTop (mkF m 444 #[.val (.int p0), .val (.int p1), .val (.int p2), .val (.int p3), .val (.int p4), .val (.int c1), .val (.int c2), .val (.int c3), .val (.int c4), .val (.int kk), .unset, .unset] [(.ref b58), (.ref b58)]))
            refine W.go (fun _ hr => XS.bipush X158.here hx rfl (hb hby at_444) hr) ?_
            show W p e below _ (T158.setTop (mkF m 446 #[.val (.int p0), .val (.int p1), .val (.int p2), .val (.int p3), .val (.int p4), .val (.int c1), .val (.int c2), .val (.int c3), .val (.int c4), .val (.int kk), .unset, .unset] [(.int (50 : Int32)), (.ref b58), (.ref b58)]))
            refine W.go (fun _ hr => XS.iload X158.here hx rfl (hb hby at_446) rfl hr) ?_
            show W p e below _ (T158.setTop (mkF m 448 #[.val (.int p0), .val (.int p1), .val (.int p2), .val (.int p3), .val (.int p4), .val (.int c1), .val (.int c2), .val (.int c3), .val (.int c4), .val (.int kk), .unset, .unset] [(.int c3), (.int (50 : Int32)), (.ref b58), (.ref b58)]))
            obtain ⟨cl160, Ar160, q160, S160, Nn160, H160, G160⟩ := V_b58
            have hin160 : ¬ ((50 : Int32) < 0 ∨ cl160.slots.size ≤ ((50 : Int32)).toNatClampNeg) := inb_of S160 ⟨by decide, by decide⟩
            obtain ⟨T160, h160, X160, e160, W160, st160⟩ := stC X158 hx hZ e158 Ar160 (j := (50 : Int32)) hin160 (g := (mkF m 448 #[.val (.int p0), .val (.int p1), .val (.int p2), .val (.int p3), .val (.int p4), .val (.int c1), .val (.int c2), .val (.int c3), .val (.int c4), .val (.int kk), .unset, .unset] [(.int c3), (.int (50 : Int32)), (.ref b58), (.ref b58)])) rfl rfl (hb hby at_448)
            replace V_b58 : Arv Z h160 b58 k58 .char (63 : Int32) [(.int (nar .char c1)), (.int (nar .char c2)), (.int (nar .char c3)), (.int (nar .char c4)), (.int (nar .char c1)), (.int (nar .char c2)), (.int (nar .char c3)), (.int (nar .char c4)), (.int (nar .char c1)), (.int (nar .char c2)), (.int (nar .char c3)), (.int (nar .char c4)), (.int (nar .char c1)), (.int (nar .char c2)), (.int (nar .char c3)), (.int (nar .char c4)), (.int (nar .char c1)), (.int (nar .char c2)), (.int (nar .char c3)), (.int (nar .char c4)), (.int (nar .char c1)), (.int (nar .char c2)), (.int (nar .char c3)), (.int (nar .char c4)), (.int (nar .char c1)), (.int (nar .char c2)), (.int (nar .char c3)), (.int (nar .char c4)), (.int (nar .char c1)), (.int (nar .char c2)), (.int (nar .char c3)), (.int (nar .char c4)), (.int (nar .char c1)), (.int (nar .char c2)), (.int (nar .char c3)), (.int (nar .char c4)), (.int (nar .char c1)), (.int (nar .char c2)), (.int (nar .char c3)), (.int (nar .char c4)), (.int (nar .char c1)), (.int (nar .char c2)), (.int (nar .char c3)), (.int (nar .char c4)), (.int (nar .char c1)), (.int (nar .char c2)), (.int (nar .char c3)), (.int (nar .char c4)), (.int (nar .char c1)), (.int (nar .char c2)), (.int (nar .char c3)), (.int (0 : Int32)), (.int (0 : Int32)), (.int (0 : Int32)), (.int (0 : Int32)), (.int (0 : Int32)), (.int (0 : Int32)), (.int (0 : Int32)), (.int (0 : Int32)), (.int (0 : Int32)), (.int (0 : Int32)), (.int (0 : Int32)), (.int (0 : Int32))] (.int (0 : Int32)) := Arv.set Ar160 q160 S160 Nn160 H160 G160 (fits_nar_char _) W160 50 rfl (Nat.le_of_ble_eq_true rfl)
            replace S_COMPACT_STRINGS := Sta.wr W160 S_COMPACT_STRINGS
            replace S_SIOOBE_FORMATTER := Sta.wr W160 S_SIOOBE_FORMATTER
            replace E_b58 := E_b58.wr W160
            have Z161 : n0 ≤ h160.size := Nat.le_trans Z159 (Keep.of_wr W160).1
            refine W.go st160 ?_
            have N160 := Fr.snoc X160 N158 g_b58
            show W p e below _ (T160.setTop (mkF m 449 #[.val (.int p0), .val (.int p1), .val (.int p2), .val (.int p3), .val (.int p4), .val (.int c1), .val (.int c2), .val (.int c3), .val (.int c4), .val (.int kk), .unset, .unset] [(.ref b58)]))
            refine W.go (fun _ hr => XS.dup X160.here hx rfl (hb hby at_449) rfl rfl hr) ?_
            show W p e below _ (T160.setTop (mkF m 450 #[.val (.int p0), .val (.int p1), .val (.int p2), .val (.int p3), .val (.int p4), .val (.int c1), .val (.int c2), .val (.int c3), .val (.int c4), .val (.int kk), .unset, .unset] [(.ref b58), (.ref b58)]))
            refine W.go (fun _ hr => XS.bipush X160.here hx rfl (hb hby at_450) hr) ?_
            show W p e below _ (T160.setTop (mkF m 452 #[.val (.int p0), .val (.int p1), .val (.int p2), .val (.int p3), .val (.int p4), .val (.int c1), .val (.int c2), .val (.int c3), .val (.int c4), .val (.int kk), .unset, .unset] [(.int (51 : Int32)), (.ref b58), (.ref b58)]))
            refine W.go (fun _ hr => XS.iload X160.here hx rfl (hb hby at_452) rfl hr) ?_
            show W p e below _ (T160.setTop (mkF m 454 #[.val (.int p0), .val (.int p1), .val (.int p2), .val (.int p3), .val (.int p4), .val (.int c1), .val (.int c2), .val (.int c3), .val (.int c4), .val (.int kk), .unset, .unset] [(.int c4), (.int (51 : Int32)), (.ref b58), (.ref b58)]))
            obtain ⟨cl162, Ar162, q162, S162, Nn162, H162, G162⟩ := V_b58
            have hin162 : ¬ ((51 : Int32) < 0 ∨ cl162.slots.size ≤ ((51 : Int32)).toNatClampNeg) := inb_of S162 ⟨by decide, by decide⟩
            obtain ⟨T162, h162, X162, e162, W162, st162⟩ := stC X160 hx hZ e160 Ar162 (j := (51 : Int32)) hin162 (g := (mkF m 454 #[.val (.int p0), .val (.int p1), .val (.int p2), .val (.int p3), .val (.int p4), .val (.int c1), .val (.int c2), .val (.int c3), .val (.int c4), .val (.int kk), .unset, .unset] [(.int c4), (.int (51 : Int32)), (.ref b58), (.ref b58)])) rfl rfl (hb hby at_454)
            replace V_b58 : Arv Z h162 b58 k58 .char (63 : Int32) [(.int (nar .char c1)), (.int (nar .char c2)), (.int (nar .char c3)), (.int (nar .char c4)), (.int (nar .char c1)), (.int (nar .char c2)), (.int (nar .char c3)), (.int (nar .char c4)), (.int (nar .char c1)), (.int (nar .char c2)), (.int (nar .char c3)), (.int (nar .char c4)), (.int (nar .char c1)), (.int (nar .char c2)), (.int (nar .char c3)), (.int (nar .char c4)), (.int (nar .char c1)), (.int (nar .char c2)), (.int (nar .char c3)), (.int (nar .char c4)), (.int (nar .char c1)), (.int (nar .char c2)), (.int (nar .char c3)), (.int (nar .char c4)), (.int (nar .char c1)), (.int (nar .char c2)), (.int (nar .char c3)), (.int (nar .char c4)), (.int (nar .char c1)), (.int (nar .char c2)), (.int (nar .char c3)), (.int (nar .char c4)), (.int (nar .char c1)), (.int (nar .char c2)), (.int (nar .char c3)), (.int (nar .char c4)), (.int (nar .char c1)), (.int (nar .char c2)), (.int (nar .char c3)), (.int (nar .char c4)), (.int (nar .char c1)), (.int (nar .char c2)), (.int (nar .char c3)), (.int (nar .char c4)), (.int (nar .char c1)), (.int (nar .char c2)), (.int (nar .char c3)), (.int (nar .char c4)), (.int (nar .char c1)), (.int (nar .char c2)), (.int (nar .char c3)), (.int (nar .char c4)), (.int (0 : Int32)), (.int (0 : Int32)), (.int (0 : Int32)), (.int (0 : Int32)), (.int (0 : Int32)), (.int (0 : Int32)), (.int (0 : Int32)), (.int (0 : Int32)), (.int (0 : Int32)), (.int (0 : Int32)), (.int (0 : Int32))] (.int (0 : Int32)) := Arv.set Ar162 q162 S162 Nn162 H162 G162 (fits_nar_char _) W162 51 rfl (Nat.le_of_ble_eq_true rfl)
            replace S_COMPACT_STRINGS := Sta.wr W162 S_COMPACT_STRINGS
            replace S_SIOOBE_FORMATTER := Sta.wr W162 S_SIOOBE_FORMATTER
            replace E_b58 := E_b58.wr W162
            have Z163 : n0 ≤ h162.size := Nat.le_trans Z161 (Keep.of_wr W162).1
            refine W.go st162 ?_
            have N162 := Fr.snoc X162 N160 g_b58
            show W p e below _ (T162.setTop (mkF m 455 #[.val (.int p0), .val (.int p1), .val (.int p2), .val (.int p3), .val (.int p4), .val (.int c1), .val (.int c2), .val (.int c3), .val (.int c4), .val (.int kk), .unset, .unset] [(.ref b58)]))
            refine W.go (fun _ hr => XS.dup X162.here hx rfl (hb hby at_455) rfl rfl hr) ?_
            show W p e below _ (T162.setTop (mkF m 456 #[.val (.int p0), .val (.int p1), .val (.int p2), .val (.int p3), .val (.int p4), .val (.int c1), .val (.int c2), .val (.int c3), .val (.int c4), .val (.int kk), .unset, .unset] [(.ref b58), (.ref b58)]))
            refine W.go (fun _ hr => XS.bipush X162.here hx rfl (hb hby at_456) hr) ?_
            show W p e below _ (T162.setTop (mkF m 458 #[.val (.int p0), .val (.int p1), .val (.int p2), .val (.int p3), .val (.int p4), .val (.int c1), .val (.int c2), .val (.int c3), .val (.int c4), .val (.int kk), .unset, .unset] [(.int (52 : Int32)), (.ref b58), (.ref b58)]))
            refine W.go (fun _ hr => XS.iload X162.here hx rfl (hb hby at_458) rfl hr) ?_
            show W p e below _ (T162.setTop (mkF m 460 #[.val (.int p0), .val (.int p1), .val (.int p2), .val (.int p3), .val (.int p4), .val (.int c1), .val (.int c2), .val (.int c3), .val (.int c4), .val (.int kk), .unset, .unset] [(.int c1), (.int (52 : Int32)), (.ref b58), (.ref b58)]))
            obtain ⟨cl164, Ar164, q164, S164, Nn164, H164, G164⟩ := V_b58
            have hin164 : ¬ ((52 : Int32) < 0 ∨ cl164.slots.size ≤ ((52 : Int32)).toNatClampNeg) := inb_of S164 ⟨by decide, by decide⟩
            obtain ⟨T164, h164, X164, e164, W164, st164⟩ := stC X162 hx hZ e162 Ar164 (j := (52 : Int32)) hin164 (g := (mkF m 460 #[.val (.int p0), .val (.int p1), .val (.int p2), .val (.int p3), .val (.int p4), .val (.int c1), .val (.int c2), .val (.int c3), .val (.int c4), .val (.int kk), .unset, .unset] [(.int c1), (.int (52 : Int32)), (.ref b58), (.ref b58)])) rfl rfl (hb hby at_460)
            replace V_b58 : Arv Z h164 b58 k58 .char (63 : Int32) [(.int (nar .char c1)), (.int (nar .char c2)), (.int (nar .char c3)), (.int (nar .char c4)), (.int (nar .char c1)), (.int (nar .char c2)), (.int (nar .char c3)), (.int (nar .char c4)), (.int (nar .char c1)), (.int (nar .char c2)), (.int (nar .char c3)), (.int (nar .char c4)), (.int (nar .char c1)), (.int (nar .char c2)), (.int (nar .char c3)), (.int (nar .char c4)), (.int (nar .char c1)), (.int (nar .char c2)), (.int (nar .char c3)), (.int (nar .char c4)), (.int (nar .char c1)), (.int (nar .char c2)), (.int (nar .char c3)), (.int (nar .char c4)), (.int (nar .char c1)), (.int (nar .char c2)), (.int (nar .char c3)), (.int (nar .char c4)), (.int (nar .char c1)), (.int (nar .char c2)), (.int (nar .char c3)), (.int (nar .char c4)), (.int (nar .char c1)), (.int (nar .char c2)), (.int (nar .char c3)), (.int (nar .char c4)), (.int (nar .char c1)), (.int (nar .char c2)), (.int (nar .char c3)), (.int (nar .char c4)), (.int (nar .char c1)), (.int (nar .char c2)), (.int (nar .char c3)), (.int (nar .char c4)), (.int (nar .char c1)), (.int (nar .char c2)), (.int (nar .char c3)), (.int (nar .char c4)), (.int (nar .char c1)), (.int (nar .char c2)), (.int (nar .char c3)), (.int (nar .char c4)), (.int (nar .char c1)), (.int (0 : Int32)), (.int (0 : Int32)), (.int (0 : Int32)), (.int (0 : Int32)), (.int (0 : Int32)), (.int (0 : Int32)), (.int (0 : Int32)), (.int (0 : Int32)), (.int (0 : Int32)), (.int (0 : Int32))] (.int (0 : Int32)) := Arv.set Ar164 q164 S164 Nn164 H164 G164 (fits_nar_char _) W164 52 rfl (Nat.le_of_ble_eq_true rfl)
            replace S_COMPACT_STRINGS := Sta.wr W164 S_COMPACT_STRINGS
            replace S_SIOOBE_FORMATTER := Sta.wr W164 S_SIOOBE_FORMATTER
            replace E_b58 := E_b58.wr W164
            have Z165 : n0 ≤ h164.size := Nat.le_trans Z163 (Keep.of_wr W164).1
            refine W.go st164 ?_
            have N164 := Fr.snoc X164 N162 g_b58
            show W p e below _ (T164.setTop (mkF m 461 #[.val (.int p0), .val (.int p1), .val (.int p2), .val (.int p3), .val (.int p4), .val (.int c1), .val (.int c2), .val (.int c3), .val (.int c4), .val (.int kk), .unset, .unset] [(.ref b58)]))
            refine W.go (fun _ hr => XS.dup X164.here hx rfl (hb hby at_461) rfl rfl hr) ?_
            show W p e below _ (T164.setTop (mkF m 462 #[.val (.int p0), .val (.int p1), .val (.int p2), .val (.int p3), .val (.int p4), .val (.int c1), .val (.int c2), .val (.int c3), .val (.int c4), .val (.int kk), .unset, .unset] [(.ref b58), (.ref b58)]))
            refine W.go (fun _ hr => XS.bipush X164.here hx rfl (hb hby at_462) hr) ?_
            show W p e below _ (T164.setTop (mkF m 464 #[.val (.int p0), .val (.int p1), .val (.int p2), .val (.int p3), .val (.int p4), .val (.int c1), .val (.int c2), .val (.int c3), .val (.int c4), .val (.int kk), .unset, .unset] [(.int (53 : Int32)), (.ref b58), (.ref b58)]))
            refine W.go (fun _ hr => XS.iload X164.here hx rfl (hb hby at_464) rfl hr) ?_
            show W p e below _ (T164.setTop (mkF m 466 #[.val (.int p0), .val (.int p1), .val (.int p2), .val (.int p3), .val (.int p4), .val (.int c1), .val (.int c2), .val (.int c3), .val (.int c4), .val (.int kk), .unset, .unset] [(.int c2), (.int (53 : Int32)), (.ref b58), (.ref b58)]))
            obtain ⟨cl166, Ar166, q166, S166, Nn166, H166, G166⟩ := V_b58
            have hin166 : ¬ ((53 : Int32) < 0 ∨ cl166.slots.size ≤ ((53 : Int32)).toNatClampNeg) := inb_of S166 ⟨by decide, by decide⟩
            obtain ⟨T166, h166, X166, e166, W166, st166⟩ := stC X164 hx hZ e164 Ar166 (j := (53 : Int32)) hin166 (g := (mkF m 466 #[.val (.int p0), .val (.int p1), .val (.int p2), .val (.int p3), .val (.int p4), .val (.int c1), .val (.int c2), .val (.int c3), .val (.int c4), .val (.int kk), .unset, .unset] [(.int c2), (.int (53 : Int32)), (.ref b58), (.ref b58)])) rfl rfl (hb hby at_466)
            replace V_b58 : Arv Z h166 b58 k58 .char (63 : Int32) [(.int (nar .char c1)), (.int (nar .char c2)), (.int (nar .char c3)), (.int (nar .char c4)), (.int (nar .char c1)), (.int (nar .char c2)), (.int (nar .char c3)), (.int (nar .char c4)), (.int (nar .char c1)), (.int (nar .char c2)), (.int (nar .char c3)), (.int (nar .char c4)), (.int (nar .char c1)), (.int (nar .char c2)), (.int (nar .char c3)), (.int (nar .char c4)), (.int (nar .char c1)), (.int (nar .char c2)), (.int (nar .char c3)), (.int (nar .char c4)), (.int (nar .char c1)), (.int (nar .char c2)), (.int (nar .char c3)), (.int (nar .char c4)), (.int (nar .char c1)), (.int (nar .char c2)), (.int (nar .char c3)), (.int (nar .char c4)), (.int (nar .char c1)), (.int (nar .char c2)), (.int (nar .char c3)), (.int (nar .char c4)), (.int (nar .char c1)), (.int (nar .char c2)), (.int (nar .char c3)), (.int (nar .char c4)), (.int (nar .char c1)), (.int (nar .char c2)), (.int (nar .char c3)), (.int (nar .char c4)), (.int (nar .char c1)), (.int (nar .char c2)), (.int (nar .char c3)), (.int (nar .char c4)), (.int (nar .char c1)), (.int (nar .char c2)), (.int (nar .char c3)), (.int (nar .char c4)), (.int (nar .char c1)), (.int (nar .char c2)), (.int (nar .char c3)), (.int (nar .char c4)), (.int (nar .char c1)), (.int (nar .char c2)), (.int (0 : Int32)), (.int (0 : Int32)), (.int (0 : Int32)), (.int (0 : Int32)), (.int (0 : Int32)), (.int (0 : Int32)), (.int (0 : Int32)), (.int (0 : Int32)), (.int (0 : Int32))] (.int (0 : Int32)) := Arv.set Ar166 q166 S166 Nn166 H166 G166 (fits_nar_char _) W166 53 rfl (Nat.le_of_ble_eq_true rfl)
            replace S_COMPACT_STRINGS := Sta.wr W166 S_COMPACT_STRINGS
            replace S_SIOOBE_FORMATTER := Sta.wr W166 S_SIOOBE_FORMATTER
            replace E_b58 := E_b58.wr W166
            have Z167 : n0 ≤ h166.size := Nat.le_trans Z165 (Keep.of_wr W166).1
            refine W.go st166 ?_
            have N166 := Fr.snoc X166 N164 g_b58
            show W p e below _ (T166.setTop (mkF m 467 #[.val (.int p0), .val (.int p1), .val (.int p2), .val (.int p3), .val (.int p4), .val (.int c1), .val (.int c2), .val (.int c3), .val (.int c4), .val (.int kk), .unset, .unset] [(.ref b58)]))
            refine W.go (fun _ hr => XS.dup X166.here hx rfl (hb hby at_467) rfl rfl hr) ?_
            show W p e below _ (T166.setTop (mkF m 468 #[.val (.int p0), .val (.int p1), .val (.int p2), .val (.int p3), .val (.int p4), .val (.int c1), .val (.int c2), .val (.int c3), .val (.int c4), .val (.int kk), .unset, .unset] [(.ref b58), (.ref b58)]))
            refine W.go (fun _ hr => XS.bipush X166.here hx rfl (hb hby at_468) hr) ?_
            show W p e below _ (T166.setTop (mkF m 470 #[.val (.int p0), .val (.int p1), .val (.int p2), .val (.int p3), .val (.int p4), .val (.int c1), .val (.int c2), .val (.int c3), .val (.int c4), .val (.int kk), .unset, .unset] [(.int (54 : Int32)), (.ref b58), (.ref b58)]))
            refine W.go (fun _ hr => XS.iload X166.here hx rfl (hb hby at_470) rfl hr) ?_
            show W p e below _ (T166.setTop (mkF m 472 #[.val (.int p0), .val (.int p1), .val (.int p2), .val (.int p3), .val (.int p4), .val (.int c1), .val (.int c2), .val (.int c3), .val (.int c4), .val (.int kk), .unset, .unset] [(.int c3), (.int (54 : Int32)), (.ref b58), (.ref b58)]))
            obtain ⟨cl168, Ar168, q168, S168, Nn168, H168, G168⟩ := V_b58
            have hin168 : ¬ ((54 : Int32) < 0 ∨ cl168.slots.size ≤ ((54 : Int32)).toNatClampNeg) := inb_of S168 ⟨by decide, by decide⟩
            obtain ⟨T168, h168, X168, e168, W168, st168⟩ := stC X166 hx hZ e166 Ar168 (j := (54 : Int32)) hin168 (g := (mkF m 472 #[.val (.int p0), .val (.int p1), .val (.int p2), .val (.int p3), .val (.int p4), .val (.int c1), .val (.int c2), .val (.int c3), .val (.int c4), .val (.int kk), .unset, .unset] [(.int c3), (.int (54 : Int32)), (.ref b58), (.ref b58)])) rfl rfl (hb hby at_472)
            replace V_b58 : Arv Z h168 b58 k58 .char (63 : Int32) [(.int (nar .char c1)), (.int (nar .char c2)), (.int (nar .char c3)), (.int (nar .char c4)), (.int (nar .char c1)), (.int (nar .char c2)), (.int (nar .char c3)), (.int (nar .char c4)), (.int (nar .char c1)), (.int (nar .char c2)), (.int (nar .char c3)), (.int (nar .char c4)), (.int (nar .char c1)), (.int (nar .char c2)), (.int (nar .char c3)), (.int (nar .char c4)), (.int (nar .char c1)), (.int (nar .char c2)), (.int (nar .char c3)), (.int (nar .char c4)), (.int (nar .char c1)), (.int (nar .char c2)), (.int (nar .char c3)), (.int (nar .char c4)), (.int (nar .char c1)), (.int (nar .char c2)), (.int (nar .char c3)), (.int (nar .char c4)), (.int (nar .char c1)), (.int (nar .char c2)), (.int (nar .char c3)), (.int (nar .char c4)), (.int (nar .char c1)), (.int (nar .char c2)), (.int (nar .char c3)), (.int (nar .char c4)), (.int (nar .char c1)), (.int (nar .char c2)), (.int (nar .char c3)), (.int (nar .char c4)), (.int (nar .char c1)), (.int (nar .char c2)), (.int (nar .char c3)), (.int (nar .char c4)), (.int (nar .char c1)), (.int (nar .char c2)), (.int (nar .char c3)), (.int (nar .char c4)), (.int (nar .char c1)), (.int (nar .char c2)), (.int (nar .char c3)), (.int (nar .char c4)), (.int (nar .char c1)), (.int (nar .char c2)), (.int (nar .char c3)), (.int (0 : Int32)), (.int (0 : Int32)), (.int (0 : Int32)), (.int (0 : Int32)), (.int (0 : Int32)), (.int (0 : Int32)), (.int (0 : Int32)), (.int (0 : Int32))] (.int (0 : Int32)) := Arv.set Ar168 q168 S168 Nn168 H168 G168 (fits_nar_char _) W168 54 rfl (Nat.le_of_ble_eq_true rfl)
            replace S_COMPACT_STRINGS := Sta.wr W168 S_COMPACT_STRINGS
            replace S_SIOOBE_FORMATTER := Sta.wr W168 S_SIOOBE_FORMATTER
            replace E_b58 := E_b58.wr W168
            have Z169 : n0 ≤ h168.size := Nat.le_trans Z167 (Keep.of_wr W168).1
            refine W.go st168 ?_
            have N168 := Fr.snoc X168 N166 g_b58
            show W p e below _ (T168.setTop (mkF m 473 #[.val (.int p0), .val (.int p1), .val (.int p2), .val (.int p3), .val (.int p4), .val (.int c1), .val (.int c2), .val (.int c3), .val (.int c4), .val (.int kk), .unset, .unset] [(.ref b58)]))
            refine W.go (fun _ hr => XS.dup X168.here hx rfl (hb hby at_473) rfl rfl hr) ?_
            show W p e below _ (T168.setTop (mkF m 474 #[.val (.int p0), .val (.int p1), .val (.int p2), .val (.int p3), .val (.int p4), .val (.int c1), .val (.int c2), .val (.int c3), .val (.int c4), .val (.int kk), .unset, .unset] [(.ref b58), (.ref b58)]))
            refine W.go (fun _ hr => XS.bipush X168.here hx rfl (hb hby at_474) hr) ?_
            show W p e below _ (T168.setTop (mkF m 476 #[.val (.int p0), .val (.int p1), .val (.int p2), .val (.int p3), .val (.int p4), .val (.int c1), .val (.int c2), .val (.int c3), .val (.int c4), .val (.int kk), .unset, .unset] [(.int (55 : Int32)), (.ref b58), (.ref b58)]))
            refine W.go (fun _ hr => XS.iload X168.here hx rfl (hb hby at_476) rfl hr) ?_
            show W p e below _ (T168.setTop (mkF m 478 #[.val (.int p0), .val (.int p1), .val (.int p2), .val (.int p3), .val (.int p4), .val (.int c1), .val (.int c2), .val (.int c3), .val (.int c4), .val (.int kk), .unset, .unset] [(.int c4), (.int (55 : Int32)), (.ref b58), (.ref b58)]))
            obtain ⟨cl170, Ar170, q170, S170, Nn170, H170, G170⟩ := V_b58
            have hin170 : ¬ ((55 : Int32) < 0 ∨ cl170.slots.size ≤ ((55 : Int32)).toNatClampNeg) := inb_of S170 ⟨by decide, by decide⟩
            obtain ⟨T170, h170, X170, e170, W170, st170⟩ := stC X168 hx hZ e168 Ar170 (j := (55 : Int32)) hin170 (g := (mkF m 478 #[.val (.int p0), .val (.int p1), .val (.int p2), .val (.int p3), .val (.int p4), .val (.int c1), .val (.int c2), .val (.int c3), .val (.int c4), .val (.int kk), .unset, .unset] [(.int c4), (.int (55 : Int32)), (.ref b58), (.ref b58)])) rfl rfl (hb hby at_478)
            replace V_b58 : Arv Z h170 b58 k58 .char (63 : Int32) [(.int (nar .char c1)), (.int (nar .char c2)), (.int (nar .char c3)), (.int (nar .char c4)), (.int (nar .char c1)), (.int (nar .char c2)), (.int (nar .char c3)), (.int (nar .char c4)), (.int (nar .char c1)), (.int (nar .char c2)), (.int (nar .char c3)), (.int (nar .char c4)), (.int (nar .char c1)), (.int (nar .char c2)), (.int (nar .char c3)), (.int (nar .char c4)), (.int (nar .char c1)), (.int (nar .char c2)), (.int (nar .char c3)), (.int (nar .char c4)), (.int (nar .char c1)), (.int (nar .char c2)), (.int (nar .char c3)), (.int (nar .char c4)), (.int (nar .char c1)), (.int (nar .char c2)), (.int (nar .char c3)), (.int (nar .char c4)), (.int (nar .char c1)), (.int (nar .char c2)), (.int (nar .char c3)), (.int (nar .char c4)), (.int (nar .char c1)), (.int (nar .char c2)), (.int (nar .char c3)), (.int (nar .char c4)), (.int (nar .char c1)), (.int (nar .char c2)), (.int (nar .char c3)), (.int (nar .char c4)), (.int (nar .char c1)), (.int (nar .char c2)), (.int (nar .char c3)), (.int (nar .char c4)), (.int (nar .char c1)), (.int (nar .char c2)), (.int (nar .char c3)), (.int (nar .char c4)), (.int (nar .char c1)), (.int (nar .char c2)), (.int (nar .char c3)), (.int (nar .char c4)), (.int (nar .char c1)), (.int (nar .char c2)), (.int (nar .char c3)), (.int (nar .char c4)), (.int (0 : Int32)), (.int (0 : Int32)), (.int (0 : Int32)), (.int (0 : Int32)), (.int (0 : Int32)), (.int (0 : Int32)), (.int (0 : Int32))] (.int (0 : Int32)) := Arv.set Ar170 q170 S170 Nn170 H170 G170 (fits_nar_char _) W170 55 rfl (Nat.le_of_ble_eq_true rfl)
            replace S_COMPACT_STRINGS := Sta.wr W170 S_COMPACT_STRINGS
            replace S_SIOOBE_FORMATTER := Sta.wr W170 S_SIOOBE_FORMATTER
            replace E_b58 := E_b58.wr W170
            have Z171 : n0 ≤ h170.size := Nat.le_trans Z169 (Keep.of_wr W170).1
            refine W.go st170 ?_
            have N170 := Fr.snoc X170 N168 g_b58
            show W p e below _ (T170.setTop (mkF m 479 #[.val (.int p0), .val (.int p1), .val (.int p2), .val (.int p3), .val (.int p4), .val (.int c1), .val (.int c2), .val (.int c3), .val (.int c4), .val (.int kk), .unset, .unset] [(.ref b58)]))
            refine W.go (fun _ hr => XS.dup X170.here hx rfl (hb hby at_479) rfl rfl hr) ?_
            show W p e below _ (T170.setTop (mkF m 480 #[.val (.int p0), .val (.int p1), .val (.int p2), .val (.int p3), .val (.int p4), .val (.int c1), .val (.int c2), .val (.int c3), .val (.int c4), .val (.int kk), .unset, .unset] [(.ref b58), (.ref b58)]))
            refine W.go (fun _ hr => XS.bipush X170.here hx rfl (hb hby at_480) hr) ?_
            show W p e below _ (T170.setTop (mkF m 482 #[.val (.int p0), .val (.int p1), .val (.int p2), .val (.int p3), .val (.int p4), .val (.int c1), .val (.int c2), .val (.int c3), .val (.int c4), .val (.int kk), .unset, .unset] [(.int (56 : Int32)), (.ref b58), (.ref b58)]))
            refine W.go (fun _ hr => XS.iload X170.here hx rfl (hb hby at_482) rfl hr) ?_
            show W p e below _ (T170.setTop (mkF m 484 #[.val (.int p0), .val (.int p1), .val (.int p2), .val (.int p3), .val (.int p4), .val (.int c1), .val (.int c2), .val (.int c3), .val (.int c4), .val (.int kk), .unset, .unset] [(.int c1), (.int (56 : Int32)), (.ref b58), (.ref b58)]))
            obtain ⟨cl172, Ar172, q172, S172, Nn172, H172, G172⟩ := V_b58
            have hin172 : ¬ ((56 : Int32) < 0 ∨ cl172.slots.size ≤ ((56 : Int32)).toNatClampNeg) := inb_of S172 ⟨by decide, by decide⟩
            obtain ⟨T172, h172, X172, e172, W172, st172⟩ := stC X170 hx hZ e170 Ar172 (j := (56 : Int32)) hin172 (g := (mkF m 484 #[.val (.int p0), .val (.int p1), .val (.int p2), .val (.int p3), .val (.int p4), .val (.int c1), .val (.int c2), .val (.int c3), .val (.int c4), .val (.int kk), .unset, .unset] [(.int c1), (.int (56 : Int32)), (.ref b58), (.ref b58)])) rfl rfl (hb hby at_484)
            replace V_b58 : Arv Z h172 b58 k58 .char (63 : Int32) [(.int (nar .char c1)), (.int (nar .char c2)), (.int (nar .char c3)), (.int (nar .char c4)), (.int (nar .char c1)), (.int (nar .char c2)), (.int (nar .char c3)), (.int (nar .char c4)), (.int (nar .char c1)), (.int (nar .char c2)), (.int (nar .char c3)), (.int (nar .char c4)), (.int (nar .char c1)), (.int (nar .char c2)), (.int (nar .char c3)), (.int (nar .char c4)), (.int (nar .char c1)), (.int (nar .char c2)), (.int (nar .char c3)), (.int (nar .char c4)), (.int (nar .char c1)), (.int (nar .char c2)), (.int (nar .char c3)), (.int (nar .char c4)), (.int (nar .char c1)), (.int (nar .char c2)), (.int (nar .char c3)), (.int (nar .char c4)), (.int (nar .char c1)), (.int (nar .char c2)), (.int (nar .char c3)), (.int (nar .char c4)), (.int (nar .char c1)), (.int (nar .char c2)), (.int (nar .char c3)), (.int (nar .char c4)), (.int (nar .char c1)), (.int (nar .char c2)), (.int (nar .char c3)), (.int (nar .char c4)), (.int (nar .char c1)), (.int (nar .char c2)), (.int (nar .char c3)), (.int (nar .char c4)), (.int (nar .char c1)), (.int (nar .char c2)), (.int (nar .char c3)), (.int (nar .char c4)), (.int (nar .char c1)), (.int (nar .char c2)), (.int (nar .char c3)), (.int (nar .char c4)), (.int (nar .char c1)), (.int (nar .char c2)), (.int (nar .char c3)), (.int (nar .char c4)), (.int (nar .char c1)), (.int (0 : Int32)), (.int (0 : Int32)), (.int (0 : Int32)), (.int (0 : Int32)), (.int (0 : Int32)), (.int (0 : Int32))] (.int (0 : Int32)) := Arv.set Ar172 q172 S172 Nn172 H172 G172 (fits_nar_char _) W172 56 rfl (Nat.le_of_ble_eq_true rfl)
            replace S_COMPACT_STRINGS := Sta.wr W172 S_COMPACT_STRINGS
            replace S_SIOOBE_FORMATTER := Sta.wr W172 S_SIOOBE_FORMATTER
            replace E_b58 := E_b58.wr W172
            have Z173 : n0 ≤ h172.size := Nat.le_trans Z171 (Keep.of_wr W172).1
            refine W.go st172 ?_
            have N172 := Fr.snoc X172 N170 g_b58
            show W p e below _ (T172.setTop (mkF m 485 #[.val (.int p0), .val (.int p1), .val (.int p2), .val (.int p3), .val (.int p4), .val (.int c1), .val (.int c2), .val (.int c3), .val (.int c4), .val (.int kk), .unset, .unset] [(.ref b58)]))
            refine W.go (fun _ hr => XS.dup X172.here hx rfl (hb hby at_485) rfl rfl hr) ?_
            show W p e below _ (T172.setTop (mkF m 486 #[.val (.int p0), .val (.int p1), .val (.int p2), .val (.int p3), .val (.int p4), .val (.int c1), .val (.int c2), .val (.int c3), .val (.int c4), .val (.int kk), .unset, .unset] [(.ref b58), (.ref b58)]))
            refine W.go (fun _ hr => XS.bipush X172.here hx rfl (hb hby at_486) hr) ?_
            show W p e below _ (T172.setTop (mkF m 488 #[.val (.int p0), .val (.int p1), .val (.int p2), .val (.int p3), .val (.int p4), .val (.int c1), .val (.int c2), .val (.int c3), .val (.int c4), .val (.int kk), .unset, .unset] [(.int (57 : Int32)), (.ref b58), (.ref b58)]))
            refine W.go (fun _ hr => XS.iload X172.here hx rfl (hb hby at_488) rfl hr) ?_
            show W p e below _ (T172.setTop (mkF m 490 #[.val (.int p0), .val (.int p1), .val (.int p2), .val (.int p3), .val (.int p4), .val (.int c1), .val (.int c2), .val (.int c3), .val (.int c4), .val (.int kk), .unset, .unset] [(.int c2), (.int (57 : Int32)), (.ref b58), (.ref b58)]))
            obtain ⟨cl174, Ar174, q174, S174, Nn174, H174, G174⟩ := V_b58
            have hin174 : ¬ ((57 : Int32) < 0 ∨ cl174.slots.size ≤ ((57 : Int32)).toNatClampNeg) := inb_of S174 ⟨by decide, by decide⟩
            obtain ⟨T174, h174, X174, e174, W174, st174⟩ := stC X172 hx hZ e172 Ar174 (j := (57 : Int32)) hin174 (g := (mkF m 490 #[.val (.int p0), .val (.int p1), .val (.int p2), .val (.int p3), .val (.int p4), .val (.int c1), .val (.int c2), .val (.int c3), .val (.int c4), .val (.int kk), .unset, .unset] [(.int c2), (.int (57 : Int32)), (.ref b58), (.ref b58)])) rfl rfl (hb hby at_490)
            replace V_b58 : Arv Z h174 b58 k58 .char (63 : Int32) [(.int (nar .char c1)), (.int (nar .char c2)), (.int (nar .char c3)), (.int (nar .char c4)), (.int (nar .char c1)), (.int (nar .char c2)), (.int (nar .char c3)), (.int (nar .char c4)), (.int (nar .char c1)), (.int (nar .char c2)), (.int (nar .char c3)), (.int (nar .char c4)), (.int (nar .char c1)), (.int (nar .char c2)), (.int (nar .char c3)), (.int (nar .char c4)), (.int (nar .char c1)), (.int (nar .char c2)), (.int (nar .char c3)), (.int (nar .char c4)), (.int (nar .char c1)), (.int (nar .char c2)), (.int (nar .char c3)), (.int (nar .char c4)), (.int (nar .char c1)), (.int (nar .char c2)), (.int (nar .char c3)), (.int (nar .char c4)), (.int (nar .char c1)), (.int (nar .char c2)), (.int (nar .char c3)), (.int (nar .char c4)), (.int (nar .char c1)), (.int (nar .char c2)), (.int (nar .char c3)), (.int (nar .char c4)), (.int (nar .char c1)), (.int (nar .char c2)), (.int (nar .char c3)), (.int (nar .char c4)), (.int (nar .char c1)), (.int (nar .char c2)), (.int (nar .char c3)), (.int (nar .char c4)), (.int (nar .char c1)), (.int (nar .char c2)), (.int (nar .char c3)), (.int (nar .char c4)), (.int (nar .char c1)), (.int (nar .char c2)), (.int (nar .char c3)), (.int (nar .char c4)), (.int (nar .char c1)), (.int (nar .char c2)), (.int (nar .char c3)), (.int (nar .char c4)), (.int (nar .char c1)), (.int (nar .char c2)), (.int (0 : Int32)), (.int (0 : Int32)), (.int (0 : Int32)), (.int (0 : Int32)), (.int (0 : Int32))] (.int (0 : Int32)) := Arv.set Ar174 q174 S174 Nn174 H174 G174 (fits_nar_char _) W174 57 rfl (Nat.le_of_ble_eq_true rfl)
            replace S_COMPACT_STRINGS := Sta.wr W174 S_COMPACT_STRINGS
            replace S_SIOOBE_FORMATTER := Sta.wr W174 S_SIOOBE_FORMATTER
            replace E_b58 := E_b58.wr W174
            have Z175 : n0 ≤ h174.size := Nat.le_trans Z173 (Keep.of_wr W174).1
            refine W.go st174 ?_
            have N174 := Fr.snoc X174 N172 g_b58
            show W p e below _ (T174.setTop (mkF m 491 #[.val (.int p0), .val (.int p1), .val (.int p2), .val (.int p3), .val (.int p4), .val (.int c1), .val (.int c2), .val (.int c3), .val (.int c4), .val (.int kk), .unset, .unset] [(.ref b58)]))
            refine W.go (fun _ hr => XS.dup X174.here hx rfl (hb hby at_491) rfl rfl hr) ?_
            show W p e below _ (T174.setTop (mkF m 492 #[.val (.int p0), .val (.int p1), .val (.int p2), .val (.int p3), .val (.int p4), .val (.int c1), .val (.int c2), .val (.int c3), .val (.int c4), .val (.int kk), .unset, .unset] [(.ref b58), (.ref b58)]))
            refine W.go (fun _ hr => XS.bipush X174.here hx rfl (hb hby at_492) hr) ?_
            show W p e below _ (T174.setTop (mkF m 494 #[.val (.int p0), .val (.int p1), .val (.int p2), .val (.int p3), .val (.int p4), .val (.int c1), .val (.int c2), .val (.int c3), .val (.int c4), .val (.int kk), .unset, .unset] [(.int (58 : Int32)), (.ref b58), (.ref b58)]))
            refine W.go (fun _ hr => XS.iload X174.here hx rfl (hb hby at_494) rfl hr) ?_
            show W p e below _ (T174.setTop (mkF m 496 #[.val (.int p0), .val (.int p1), .val (.int p2), .val (.int p3), .val (.int p4), .val (.int c1), .val (.int c2), .val (.int c3), .val (.int c4), .val (.int kk), .unset, .unset] [(.int c3), (.int (58 : Int32)), (.ref b58), (.ref b58)]))
            obtain ⟨cl176, Ar176, q176, S176, Nn176, H176, G176⟩ := V_b58
            have hin176 : ¬ ((58 : Int32) < 0 ∨ cl176.slots.size ≤ ((58 : Int32)).toNatClampNeg) := inb_of S176 ⟨by decide, by decide⟩
            obtain ⟨T176, h176, X176, e176, W176, st176⟩ := stC X174 hx hZ e174 Ar176 (j := (58 : Int32)) hin176 (g := (mkF m 496 #[.val (.int p0), .val (.int p1), .val (.int p2), .val (.int p3), .val (.int p4), .val (.int c1), .val (.int c2), .val (.int c3), .val (.int c4), .val (.int kk), .unset, .unset] [(.int c3), (.int (58 : Int32)), (.ref b58), (.ref b58)])) rfl rfl (hb hby at_496)
            replace V_b58 : Arv Z h176 b58 k58 .char (63 : Int32) [(.int (nar .char c1)), (.int (nar .char c2)), (.int (nar .char c3)), (.int (nar .char c4)), (.int (nar .char c1)), (.int (nar .char c2)), (.int (nar .char c3)), (.int (nar .char c4)), (.int (nar .char c1)), (.int (nar .char c2)), (.int (nar .char c3)), (.int (nar .char c4)), (.int (nar .char c1)), (.int (nar .char c2)), (.int (nar .char c3)), (.int (nar .char c4)), (.int (nar .char c1)), (.int (nar .char c2)), (.int (nar .char c3)), (.int (nar .char c4)), (.int (nar .char c1)), (.int (nar .char c2)), (.int (nar .char c3)), (.int (nar .char c4)), (.int (nar .char c1)), (.int (nar .char c2)), (.int (nar .char c3)), (.int (nar .char c4)), (.int (nar .char c1)), (.int (nar .char c2)), (.int (nar .char c3)), (.int (nar .char c4)), (.int (nar .char c1)), (.int (nar .char c2)), (.int (nar .char c3)), (.int (nar .char c4)), (.int (nar .char c1)), (.int (nar .char c2)), (.int (nar .char c3)), (.int (nar .char c4)), (.int (nar .char c1)), (.int (nar .char c2)), (.int (nar .char c3)), (.int (nar .char c4)), (.int (nar .char c1)), (.int (nar .char c2)), (.int (nar .char c3)), (.int (nar .char c4)), (.int (nar .char c1)), (.int (nar .char c2)), (.int (nar .char c3)), (.int (nar .char c4)), (.int (nar .char c1)), (.int (nar .char c2)), (.int (nar .char c3)), (.int (nar .char c4)), (.int (nar .char c1)), (.int (nar .char c2)), (.int (nar .char c3)), (.int (0 : Int32)), (.int (0 : Int32)), (.int (0 : Int32)), (.int (0 : Int32))] (.int (0 : Int32)) := Arv.set Ar176 q176 S176 Nn176 H176 G176 (fits_nar_char _) W176 58 rfl (Nat.le_of_ble_eq_true rfl)
            replace S_COMPACT_STRINGS := Sta.wr W176 S_COMPACT_STRINGS
            replace S_SIOOBE_FORMATTER := Sta.wr W176 S_SIOOBE_FORMATTER
            replace E_b58 := E_b58.wr W176
            have Z177 : n0 ≤ h176.size := Nat.le_trans Z175 (Keep.of_wr W176).1
            refine W.go st176 ?_
            have N176 := Fr.snoc X176 N174 g_b58
            show W p e below _ (T176.setTop (mkF m 497 #[.val (.int p0), .val (.int p1), .val (.int p2), .val (.int p3), .val (.int p4), .val (.int c1), .val (.int c2), .val (.int c3), .val (.int c4), .val (.int kk), .unset, .unset] [(.ref b58)]))
            refine W.go (fun _ hr => XS.dup X176.here hx rfl (hb hby at_497) rfl rfl hr) ?_
            show W p e below _ (T176.setTop (mkF m 498 #[.val (.int p0), .val (.int p1), .val (.int p2), .val (.int p3), .val (.int p4), .val (.int c1), .val (.int c2), .val (.int c3), .val (.int c4), .val (.int kk), .unset, .unset] [(.ref b58), (.ref b58)]))
            refine W.go (fun _ hr => XS.bipush X176.here hx rfl (hb hby at_498) hr) ?_
            show W p e below _ (T176.setTop (mkF m 500 #[.val (.int p0), .val (.int p1), .val (.int p2), .val (.int p3), .val (.int p4), .val (.int c1), .val (.int c2), .val (.int c3), .val (.int c4), .val (.int kk), .unset, .unset] [(.int (59 : Int32)), (.ref b58), (.ref b58)]))
            refine W.go (fun _ hr => XS.iload X176.here hx rfl (hb hby at_500) rfl hr) ?_
            show W p e below _ (T176.setTop (mkF m 502 #[.val (.int p0), .val (.int p1), .val (.int p2), .val (.int p3), .val (.int p4), .val (.int c1), .val (.int c2), .val (.int c3), .val (.int c4), .val (.int kk), .unset, .unset] [(.int c4), (.int (59 : Int32)), (.ref b58), (.ref b58)]))
            obtain ⟨cl178, Ar178, q178, S178, Nn178, H178, G178⟩ := V_b58
            have hin178 : ¬ ((59 : Int32) < 0 ∨ cl178.slots.size ≤ ((59 : Int32)).toNatClampNeg) := inb_of S178 ⟨by decide, by decide⟩
            obtain ⟨T178, h178, X178, e178, W178, st178⟩ := stC X176 hx hZ e176 Ar178 (j := (59 : Int32)) hin178 (g := (mkF m 502 #[.val (.int p0), .val (.int p1), .val (.int p2), .val (.int p3), .val (.int p4), .val (.int c1), .val (.int c2), .val (.int c3), .val (.int c4), .val (.int kk), .unset, .unset] [(.int c4), (.int (59 : Int32)), (.ref b58), (.ref b58)])) rfl rfl (hb hby at_502)
            replace V_b58 : Arv Z h178 b58 k58 .char (63 : Int32) [(.int (nar .char c1)), (.int (nar .char c2)), (.int (nar .char c3)), (.int (nar .char c4)), (.int (nar .char c1)), (.int (nar .char c2)), (.int (nar .char c3)), (.int (nar .char c4)), (.int (nar .char c1)), (.int (nar .char c2)), (.int (nar .char c3)), (.int (nar .char c4)), (.int (nar .char c1)), (.int (nar .char c2)), (.int (nar .char c3)), (.int (nar .char c4)), (.int (nar .char c1)), (.int (nar .char c2)), (.int (nar .char c3)), (.int (nar .char c4)), (.int (nar .char c1)), (.int (nar .char c2)), (.int (nar .char c3)), (.int (nar .char c4)), (.int (nar .char c1)), (.int (nar .char c2)), (.int (nar .char c3)), (.int (nar .char c4)), (.int (nar .char c1)), (.int (nar .char c2)), (.int (nar .char c3)), (.int (nar .char c4)), (.int (nar .char c1)), (.int (nar .char c2)), (.int (nar .char c3)), (.int (nar .char c4)), (.int (nar .char c1)), (.int (nar .char c2)), (.int (nar .char c3)), (.int (nar .char c4)), (.int (nar .char c1)), (.int (nar .char c2)), (.int (nar .char c3)), (.int (nar .char c4)), (.int (nar .char c1)), (.int (nar .char c2)), (.int (nar .char c3)), (.int (nar .char c4)), (.int (nar .char c1)), (.int (nar .char c2)), (.int (nar .char c3)), (.int (nar .char c4)), (.int (nar .char c1)), (.int (nar .char c2)), (.int (nar .char c3)), (.int (nar .char c4)), (.int (nar .char c1)), (.int (nar .char c2)), (.int (nar .char c3)), (.int (nar .char c4)), (.int (0 : Int32)), (.int (0 : Int32)), (.int (0 : Int32))] (.int (0 : Int32)) := Arv.set Ar178 q178 S178 Nn178 H178 G178 (fits_nar_char _) W178 59 rfl (Nat.le_of_ble_eq_true rfl)
            replace S_COMPACT_STRINGS := Sta.wr W178 S_COMPACT_STRINGS
            replace S_SIOOBE_FORMATTER := Sta.wr W178 S_SIOOBE_FORMATTER
            replace E_b58 := E_b58.wr W178
            have Z179 : n0 ≤ h178.size := Nat.le_trans Z177 (Keep.of_wr W178).1
            refine W.go st178 ?_
            have N178 := Fr.snoc X178 N176 g_b58
            show W p e below _ (T178.setTop (mkF m 503 #[.val (.int p0), .val (.int p1), .val (.int p2), .val (.int p3), .val (.int p4), .val (.int c1), .val (.int c2), .val (.int c3), .val (.int c4), .val (.int kk), .unset, .unset] [(.ref b58)]))
            refine W.go (fun _ hr => XS.dup X178.here hx rfl (hb hby at_503) rfl rfl hr) ?_
            show W p e below _ (T178.setTop (mkF m 504 #[.val (.int p0), .val (.int p1), .val (.int p2), .val (.int p3), .val (.int p4), .val (.int c1), .val (.int c2), .val (.int c3), .val (.int c4), .val (.int kk), .unset, .unset] [(.ref b58), (.ref b58)]))
            refine W.go (fun _ hr => XS.bipush X178.here hx rfl (hb hby at_504) hr) ?_
            show W p e below _ (T178.setTop (mkF m 506 #[.val (.int p0), .val (.int p1), .val (.int p2), .val (.int p3), .val (.int p4), .val (.int c1), .val (.int c2), .val (.int c3), .val (.int c4), .val (.int kk), .unset, .unset] [(.int (60 : Int32)), (.ref b58), (.ref b58)]))
            refine W.go (fun _ hr => XS.iload X178.here hx rfl (hb hby at_506) rfl hr) ?_
            show W p e below _ (T178.setTop (mkF m 508 #[.val (.int p0), .val (.int p1), .val (.int p2), .val (.int p3), .val (.int p4), .val (.int c1), .val (.int c2), .val (.int c3), .val (.int c4), .val (.int kk), .unset, .unset] [(.int c1), (.int (60 : Int32)), (.ref b58), (.ref b58)]))
            obtain ⟨cl180, Ar180, q180, S180, Nn180, H180, G180⟩ := V_b58
            have hin180 : ¬ ((60 : Int32) < 0 ∨ cl180.slots.size ≤ ((60 : Int32)).toNatClampNeg) := inb_of S180 ⟨by decide, by decide⟩
            obtain ⟨T180, h180, X180, e180, W180, st180⟩ := stC X178 hx hZ e178 Ar180 (j := (60 : Int32)) hin180 (g := (mkF m 508 #[.val (.int p0), .val (.int p1), .val (.int p2), .val (.int p3), .val (.int p4), .val (.int c1), .val (.int c2), .val (.int c3), .val (.int c4), .val (.int kk), .unset, .unset] [(.int c1), (.int (60 : Int32)), (.ref b58), (.ref b58)])) rfl rfl (hb hby at_508)
            replace V_b58 : Arv Z h180 b58 k58 .char (63 : Int32) [(.int (nar .char c1)), (.int (nar .char c2)), (.int (nar .char c3)), (.int (nar .char c4)), (.int (nar .char c1)), (.int (nar .char c2)), (.int (nar .char c3)), (.int (nar .char c4)), (.int (nar .char c1)), (.int (nar .char c2)), (.int (nar .char c3)), (.int (nar .char c4)), (.int (nar .char c1)), (.int (nar .char c2)), (.int (nar .char c3)), (.int (nar .char c4)), (.int (nar .char c1)), (.int (nar .char c2)), (.int (nar .char c3)), (.int (nar .char c4)), (.int (nar .char c1)), (.int (nar .char c2)), (.int (nar .char c3)), (.int (nar .char c4)), (.int (nar .char c1)), (.int (nar .char c2)), (.int (nar .char c3)), (.int (nar .char c4)), (.int (nar .char c1)), (.int (nar .char c2)), (.int (nar .char c3)), (.int (nar .char c4)), (.int (nar .char c1)), (.int (nar .char c2)), (.int (nar .char c3)), (.int (nar .char c4)), (.int (nar .char c1)), (.int (nar .char c2)), (.int (nar .char c3)), (.int (nar .char c4)), (.int (nar .char c1)), (.int (nar .char c2)), (.int (nar .char c3)), (.int (nar .char c4)), (.int (nar .char c1)), (.int (nar .char c2)), (.int (nar .char c3)), (.int (nar .char c4)), (.int (nar .char c1)), (.int (nar .char c2)), (.int (nar .char c3)), (.int (nar .char c4)), (.int (nar .char c1)), (.int (nar .char c2)), (.int (nar .char c3)), (.int (nar .char c4)), (.int (nar .char c1)), (.int (nar .char c2)), (.int (nar .char c3)), (.int (nar .char c4)), (.int (nar .char c1)), (.int (0 : Int32)), (.int (0 : Int32))] (.int (0 : Int32)) := Arv.set Ar180 q180 S180 Nn180 H180 G180 (fits_nar_char _) W180 60 rfl (Nat.le_of_ble_eq_true rfl)
            replace S_COMPACT_STRINGS := Sta.wr W180 S_COMPACT_STRINGS
            replace S_SIOOBE_FORMATTER := Sta.wr W180 S_SIOOBE_FORMATTER
            replace E_b58 := E_b58.wr W180
            have Z181 : n0 ≤ h180.size := Nat.le_trans Z179 (Keep.of_wr W180).1
            refine W.go st180 ?_
            have N180 := Fr.snoc X180 N178 g_b58
            show W p e below _ (T180.setTop (mkF m 509 #[.val (.int p0), .val (.int p1), .val (.int p2), .val (.int p3), .val (.int p4), .val (.int c1), .val (.int c2), .val (.int c3), .val (.int c4), .val (.int kk), .unset, .unset] [(.ref b58)]))
            refine W.go (fun _ hr => XS.dup X180.here hx rfl (hb hby at_509) rfl rfl hr) ?_
            show W p e below _ (T180.setTop (mkF m 510 #[.val (.int p0), .val (.int p1), .val (.int p2), .val (.int p3), .val (.int p4), .val (.int c1), .val (.int c2), .val (.int c3), .val (.int c4), .val (.int kk), .unset, .unset] [(.ref b58), (.ref b58)]))
            refine W.go (fun _ hr => XS.bipush X180.here hx rfl (hb hby at_510) hr) ?_
            show W p e below _ (T180.setTop (mkF m 512 #[.val (.int p0), .val (.int p1), .val (.int p2), .val (.int p3), .val (.int p4), .val (.int c1), .val (.int c2), .val (.int c3), .val (.int c4), .val (.int kk), .unset, .unset] [(.int (61 : Int32)), (.ref b58), (.ref b58)]))
            refine W.go (fun _ hr => XS.iload X180.here hx rfl (hb hby at_512) rfl hr) ?_
            show W p e below _ (T180.setTop (mkF m 514 #[.val (.int p0), .val (.int p1), .val (.int p2), .val (.int p3), .val (.int p4), .val (.int c1), .val (.int c2), .val (.int c3), .val (.int c4), .val (.int kk), .unset, .unset] [(.int c2), (.int (61 : Int32)), (.ref b58), (.ref b58)]))
            obtain ⟨cl182, Ar182, q182, S182, Nn182, H182, G182⟩ := V_b58
            have hin182 : ¬ ((61 : Int32) < 0 ∨ cl182.slots.size ≤ ((61 : Int32)).toNatClampNeg) := inb_of S182 ⟨by decide, by decide⟩
            obtain ⟨T182, h182, X182, e182, W182, st182⟩ := stC X180 hx hZ e180 Ar182 (j := (61 : Int32)) hin182 (g := (mkF m 514 #[.val (.int p0), .val (.int p1), .val (.int p2), .val (.int p3), .val (.int p4), .val (.int c1), .val (.int c2), .val (.int c3), .val (.int c4), .val (.int kk), .unset, .unset] [(.int c2), (.int (61 : Int32)), (.ref b58), (.ref b58)])) rfl rfl (hb hby at_514)
            replace V_b58 : Arv Z h182 b58 k58 .char (63 : Int32) [(.int (nar .char c1)), (.int (nar .char c2)), (.int (nar .char c3)), (.int (nar .char c4)), (.int (nar .char c1)), (.int (nar .char c2)), (.int (nar .char c3)), (.int (nar .char c4)), (.int (nar .char c1)), (.int (nar .char c2)), (.int (nar .char c3)), (.int (nar .char c4)), (.int (nar .char c1)), (.int (nar .char c2)), (.int (nar .char c3)), (.int (nar .char c4)), (.int (nar .char c1)), (.int (nar .char c2)), (.int (nar .char c3)), (.int (nar .char c4)), (.int (nar .char c1)), (.int (nar .char c2)), (.int (nar .char c3)), (.int (nar .char c4)), (.int (nar .char c1)), (.int (nar .char c2)), (.int (nar .char c3)), (.int (nar .char c4)), (.int (nar .char c1)), (.int (nar .char c2)), (.int (nar .char c3)), (.int (nar .char c4)), (.int (nar .char c1)), (.int (nar .char c2)), (.int (nar .char c3)), (.int (nar .char c4)), (.int (nar .char c1)), (.int (nar .char c2)), (.int (nar .char c3)), (.int (nar .char c4)), (.int (nar .char c1)), (.int (nar .char c2)), (.int (nar .char c3)), (.int (nar .char c4)), (.int (nar .char c1)), (.int (nar .char c2)), (.int (nar .char c3)), (.int (nar .char c4)), (.int (nar .char c1)), (.int (nar .char c2)), (.int (nar .char c3)), (.int (nar .char c4)), (.int (nar .char c1)), (.int (nar .char c2)), (.int (nar .char c3)), (.int (nar .char c4)), (.int (nar .char c1)), (.int (nar .char c2)), (.int (nar .char c3)), (.int (nar .char c4)), (.int (nar .char c1)), (.int (nar .char c2)), (.int (0 : Int32))] (.int (0 : Int32)) := Arv.set Ar182 q182 S182 Nn182 H182 G182 (fits_nar_char _) W182 61 rfl (Nat.le_of_ble_eq_true rfl)
            replace S_COMPACT_STRINGS := Sta.wr W182 S_COMPACT_STRINGS
            replace S_SIOOBE_FORMATTER := Sta.wr W182 S_SIOOBE_FORMATTER
            replace E_b58 := E_b58.wr W182
            have Z183 : n0 ≤ h182.size := Nat.le_trans Z181 (Keep.of_wr W182).1
            refine W.go st182 ?_
            have N182 := Fr.snoc X182 N180 g_b58
            show W p e below _ (T182.setTop (mkF m 515 #[.val (.int p0), .val (.int p1), .val (.int p2), .val (.int p3), .val (.int p4), .val (.int c1), .val (.int c2), .val (.int c3), .val (.int c4), .val (.int kk), .unset, .unset] [(.ref b58)]))
            refine W.go (fun _ hr => XS.dup X182.here hx rfl (hb hby at_515) rfl rfl hr) ?_
            show W p e below _ (T182.setTop (mkF m 516 #[.val (.int p0), .val (.int p1), .val (.int p2), .val (.int p3), .val (.int p4), .val (.int c1), .val (.int c2), .val (.int c3), .val (.int c4), .val (.int kk), .unset, .unset] [(.ref b58), (.ref b58)]))
            refine W.go (fun _ hr => XS.bipush X182.here hx rfl (hb hby at_516) hr) ?_
            show W p e below _ (T182.setTop (mkF m 518 #[.val (.int p0), .val (.int p1), .val (.int p2), .val (.int p3), .val (.int p4), .val (.int c1), .val (.int c2), .val (.int c3), .val (.int c4), .val (.int kk), .unset, .unset] [(.int (62 : Int32)), (.ref b58), (.ref b58)]))
            refine W.go (fun _ hr => XS.iload X182.here hx rfl (hb hby at_518) rfl hr) ?_
            show W p e below _ (T182.setTop (mkF m 520 #[.val (.int p0), .val (.int p1), .val (.int p2), .val (.int p3), .val (.int p4), .val (.int c1), .val (.int c2), .val (.int c3), .val (.int c4), .val (.int kk), .unset, .unset] [(.int c3), (.int (62 : Int32)), (.ref b58), (.ref b58)]))
            obtain ⟨cl184, Ar184, q184, S184, Nn184, H184, G184⟩ := V_b58
            have hin184 : ¬ ((62 : Int32) < 0 ∨ cl184.slots.size ≤ ((62 : Int32)).toNatClampNeg) := inb_of S184 ⟨by decide, by decide⟩
            obtain ⟨T184, h184, X184, e184, W184, st184⟩ := stC X182 hx hZ e182 Ar184 (j := (62 : Int32)) hin184 (g := (mkF m 520 #[.val (.int p0), .val (.int p1), .val (.int p2), .val (.int p3), .val (.int p4), .val (.int c1), .val (.int c2), .val (.int c3), .val (.int c4), .val (.int kk), .unset, .unset] [(.int c3), (.int (62 : Int32)), (.ref b58), (.ref b58)])) rfl rfl (hb hby at_520)
            replace V_b58 : Arv Z h184 b58 k58 .char (63 : Int32) [(.int (nar .char c1)), (.int (nar .char c2)), (.int (nar .char c3)), (.int (nar .char c4)), (.int (nar .char c1)), (.int (nar .char c2)), (.int (nar .char c3)), (.int (nar .char c4)), (.int (nar .char c1)), (.int (nar .char c2)), (.int (nar .char c3)), (.int (nar .char c4)), (.int (nar .char c1)), (.int (nar .char c2)), (.int (nar .char c3)), (.int (nar .char c4)), (.int (nar .char c1)), (.int (nar .char c2)), (.int (nar .char c3)), (.int (nar .char c4)), (.int (nar .char c1)), (.int (nar .char c2)), (.int (nar .char c3)), (.int (nar .char c4)), (.int (nar .char c1)), (.int (nar .char c2)), (.int (nar .char c3)), (.int (nar .char c4)), (.int (nar .char c1)), (.int (nar .char c2)), (.int (nar .char c3)), (.int (nar .char c4)), (.int (nar .char c1)), (.int (nar .char c2)), (.int (nar .char c3)), (.int (nar .char c4)), (.int (nar .char c1)), (.int (nar .char c2)), (.int (nar .char c3)), (.int (nar .char c4)), (.int (nar .char c1)), (.int (nar .char c2)), (.int (nar .char c3)), (.int (nar .char c4)), (.int (nar .char c1)), (.int (nar .char c2)), (.int (nar .char c3)), (.int (nar .char c4)), (.int (nar .char c1)), (.int (nar .char c2)), (.int (nar .char c3)), (.int (nar .char c4)), (.int (nar .char c1)), (.int (nar .char c2)), (.int (nar .char c3)), (.int (nar .char c4)), (.int (nar .char c1)), (.int (nar .char c2)), (.int (nar .char c3)), (.int (nar .char c4)), (.int (nar .char c1)), (.int (nar .char c2)), (.int (nar .char c3))] (.int (0 : Int32)) := Arv.set Ar184 q184 S184 Nn184 H184 G184 (fits_nar_char _) W184 62 rfl (Nat.le_of_ble_eq_true rfl)
            replace S_COMPACT_STRINGS := Sta.wr W184 S_COMPACT_STRINGS
            replace S_SIOOBE_FORMATTER := Sta.wr W184 S_SIOOBE_FORMATTER
            replace E_b58 := E_b58.wr W184
            have Z185 : n0 ≤ h184.size := Nat.le_trans Z183 (Keep.of_wr W184).1
            refine W.go st184 ?_
            have N184 := Fr.snoc X184 N182 g_b58
            show W p e below _ (T184.setTop (mkF m 521 #[.val (.int p0), .val (.int p1), .val (.int p2), .val (.int p3), .val (.int p4), .val (.int c1), .val (.int c2), .val (.int c3), .val (.int c4), .val (.int kk), .unset, .unset] [(.ref b58)]))
            refine W.go (fun _ hr => XS.astore X184.here hx rfl (hb hby at_521) rfl rfl (l' := #[.val (.int p0), .val (.int p1), .val (.int p2), .val (.int p3), .val (.int p4), .val (.int c1), .val (.int c2), .val (.int c3), .val (.int c4), .val (.int kk), .val (.ref b58), .unset]) rfl hr) ?_
            show W p e below _ (T184.setTop (mkF m 523 #[.val (.int p0), .val (.int p1), .val (.int p2), .val (.int p3), .val (.int p4), .val (.int c1), .val (.int c2), .val (.int c3), .val (.int c4), .val (.int kk), .val (.ref b58), .unset] []))
            refine W.go (fun _ hr => XS.goto X184.here hx rfl (pc0 := 523) (pc' := 910) rfl (hb hby at_523) (by decide) (by decide) hr) ?_
            show W p e below _ (T184.setTop (mkF m 910 #[.val (.int p0), .val (.int p1), .val (.int p2), .val (.int p3), .val (.int p4), .val (.int c1), .val (.int c2), .val (.int c3), .val (.int c4), .val (.int kk), .val (.ref b58), .unset] []))
            obtain ⟨T186, h186, X186, e186, E186, E_b186, D186, U186, st186⟩ := newO X184 hx hZ hown (hw _ (List.mem_of_getElem? (i := 6) rfl)) (hw _ (List.mem_of_getElem? (i := 7) rfl)) (hw _ (List.mem_of_getElem? (i := 8) rfl)) e184 (g := (mkF m 910 #[.val (.int p0), .val (.int p1), .val (.int p2), .val (.int p3), .val (.int p4), .val (.int c1), .val (.int c2), .val (.int c3), .val (.int c4), .val (.int kk), .val (.ref b58), .unset] [])) rfl (hb hby at_910) (by decide) (by decide)
            obtain ⟨b186, g186⟩ : ∃ z, z = h184.size := ⟨_, rfl⟩
            rw [← g186] at E_b186 D186 U186 st186
            have ne_b58_b186 : b58 ≠ b186 := Nat.ne_of_lt (Nat.lt_of_lt_of_le E_b58.lt (Nat.le_of_eq g186.symm))
            have g_b186 : n0 ≤ b186 := Nat.le_trans Z185 (Nat.le_of_eq g186.symm)
            replace S_COMPACT_STRINGS := Sta.ext E186 S_COMPACT_STRINGS
            replace S_SIOOBE_FORMATTER := Sta.ext E186 S_SIOOBE_FORMATTER
            replace E_b58 := E_b58.ext E186
            replace V_b58 := V_b58.ext E186
            have Z187 : n0 ≤ h186.size := Nat.le_trans Z185 E186.1
            have F_coder_b186 : Fld Z h186 b186 "java/lang/String" "coder" "B" (.int (0 : Int32)) := D186 (Or.inr (hw _ (List.mem_of_getElem? (i := 32) rfl))) (ty := .byte) (by decide)
            have F_value_b186 : Fld Z h186 b186 "java/lang/String" "value" "[B" .null := D186 (Or.inr (hw _ (List.mem_of_getElem? (i := 34) rfl))) (ty := (.array .byte)) (by decide)
            refine W.go st186 ?_
            show W p e below _ (T186.setTop (mkF m 913 #[.val (.int p0), .val (.int p1), .val (.int p2), .val (.int p3), .val (.int p4), .val (.int c1), .val (.int c2), .val (.int c3), .val (.int c4), .val (.int kk), .val (.ref b58), .unset] [(.ref b186)]))
            refine W.go (fun _ hr => XS.dup X186.here hx rfl (hb hby at_913) rfl rfl hr) ?_
            show W p e below _ (T186.setTop (mkF m 914 #[.val (.int p0), .val (.int p1), .val (.int p2), .val (.int p3), .val (.int p4), .val (.int c1), .val (.int c2), .val (.int c3), .val (.int c4), .val (.int kk), .val (.ref b58), .unset] [(.ref b186), (.ref b186)]))
            refine W.go (fun _ hr => XS.aload X186.here hx rfl (hb hby at_914) rfl rfl hr) ?_
            show W p e below _ (T186.setTop (mkF m 916 #[.val (.int p0), .val (.int p1), .val (.int p2), .val (.int p3), .val (.int p4), .val (.int c1), .val (.int c2), .val (.int c3), .val (.int c4), .val (.int kk), .val (.ref b58), .unset] [(.ref b58), (.ref b186), (.ref b186)]))
            obtain ⟨cs188, ecs188⟩ : ∃ z : List Int32, z = [(nar .char c1), (nar .char c2), (nar .char c3), (nar .char c4), (nar .char c1), (nar .char c2), (nar .char c3), (nar .char c4), (nar .char c1), (nar .char c2), (nar .char c3), (nar .char c4), (nar .char c1), (nar .char c2), (nar .char c3), (nar .char c4), (nar .char c1), (nar .char c2), (nar .char c3), (nar .char c4), (nar .char c1), (nar .char c2), (nar .char c3), (nar .char c4), (nar .char c1), (nar .char c2), (nar .char c3), (nar .char c4), (nar .char c1), (nar .char c2), (nar .char c3), (nar .char c4), (nar .char c1), (nar .char c2), (nar .char c3), (nar .char c4), (nar .char c1), (nar .char c2), (nar .char c3), (nar .char c4), (nar .char c1), (nar .char c2), (nar .char c3), (nar .char c4), (nar .char c1), (nar .char c2), (nar .char c3), (nar .char c4), (nar .char c1), (nar .char c2), (nar .char c3), (nar .char c4), (nar .char c1), (nar .char c2), (nar .char c3), (nar .char c4), (nar .char c1), (nar .char c2), (nar .char c3), (nar .char c4), (nar .char c1), (nar .char c2), (nar .char c3)] := ⟨_, rfl⟩
            have lcs188 : cs188.length = 63 := by rw [ecs188]; rfl
            have Vcs188 : Arv Z h186 b58 k58 .char (63 : Int32) (cs188.map Value.int) (.int (0 : Int32)) := by rw [ecs188]; exact V_b58
            have hlat188 : ∀ c ∈ cs188, own_ok c := by
              rw [ecs188]
              intro c hc
              simp only [List.mem_cons, List.not_mem_nil, or_false] at hc
              rcases hc with rfl | rfl | rfl | rfl | rfl | rfl | rfl | rfl | rfl | rfl | rfl | rfl | rfl | rfl | rfl | rfl | rfl | rfl | rfl | rfl | rfl | rfl | rfl | rfl | rfl | rfl | rfl | rfl | rfl | rfl | rfl | rfl | rfl | rfl | rfl | rfl | rfl | rfl | rfl | rfl | rfl | rfl | rfl | rfl | rfl | rfl | rfl | rfl | rfl | rfl | rfl | rfl | rfl | rfl | rfl | rfl | rfl | rfl | rfl | rfl | rfl | rfl | rfl
              · exact okn1
              · exact okn2
              · exact okn3
              · exact okn4
              · exact okn1
              · exact okn2
              · exact okn3
              · exact okn4
              · exact okn1
              · exact okn2
              · exact okn3
              · exact okn4
              · exact okn1
              · exact okn2
              · exact okn3
              · exact okn4
              · exact okn1
              · exact okn2
              · exact okn3
              · exact okn4
              · exact okn1
              · exact okn2
              · exact okn3
              · exact okn4
              · exact okn1
              · exact okn2
              · exact okn3
              · exact okn4
              · exact okn1
              · exact okn2
              · exact okn3
              · exact okn4
              · exact okn1
              · exact okn2
              · exact okn3
              · exact okn4
              · exact okn1
              · exact okn2
              · exact okn3
              · exact okn4
              · exact okn1
              · exact okn2
              · exact okn3
              · exact okn4
              · exact okn1
              · exact okn2
              · exact okn3
              · exact okn4
              · exact okn1
              · exact okn2
              · exact okn3
              · exact okn4
              · exact okn1
              · exact okn2
              · exact okn3
              · exact okn4
              · exact okn1
              · exact okn2
              · exact okn3
              · exact okn4
              · exact okn1
              · exact okn2
              · exact okn3
            refine W.callIK X186 hx hZ hown (g := (mkF m 916 #[.val (.int p0), .val (.int p1), .val (.int p2), .val (.int p3), .val (.int p4), .val (.int c1), .val (.int c2), .val (.int c3), .val (.int c4), .val (.int kk), .val (.ref b58), .unset] [(.ref b58), (.ref b186), (.ref b186)])) (by rw [hml]; rfl) (hw _ (List.mem_of_getElem? (i := 9) rfl)) (hw _ (List.mem_of_getElem? (i := 10) rfl)) (hw _ (List.mem_of_getElem? (i := 11) rfl)) e186 (StrChars.Road.backV (W := 1) hZ (fun d hd => hw d (own_ws d hd)) (kI := 4) (hw _ (List.mem_of_getElem? (i := 7) rfl)) (cs := cs188) (bs := cs188.map fun c => c.toInt8.toInt32) (n := 63) g_b186 Z187 E_b186 F_value_b186 F_coder_b186 Vcs188 S_COMPACT_STRINGS hCS lcs188 rfl (by decide) (by decide) (fun c hc => own_ok_lat (hlat188 c hc)) rfl (by decide) (by decide)) rfl (by decide) pd_171 rfl (b := b186) (argsL := [(.ref b58)]) (rest := [(.ref b186)]) rfl rfl rfl (hb hby at_916) (W0 := 1) rfl (by decide) (by decide) (fun v188 T188 h188 L188 X188 e188 hQ188 => ?_)
            obtain ⟨rfl, N188q, K188, Ee188, Fc188, t188, kb188, gt188, st188, nt188, Fv188, V_t188⟩ := hQ188
            have N188 := Fr.app N184 N188q
            have ne_b58_t188 : b58 ≠ t188 := Nat.ne_of_lt (Nat.lt_of_lt_of_le E_b58.lt st188)
            have ne_b186_t188 : b186 ≠ t188 := Nat.ne_of_lt (Nat.lt_of_lt_of_le E_b186.lt st188)
            have g_t188 : n0 ≤ t188 := Nat.le_trans Z187 st188
            have nsK188 := (nsS E_b186.nostat ns0)
            replace S_COMPACT_STRINGS := Sta.keep S_COMPACT_STRINGS K188 nsK188
            replace S_SIOOBE_FORMATTER := Sta.keep S_SIOOBE_FORMATTER K188 nsK188
            replace E_b58 := E_b58.keep K188
            replace V_b58 := V_b58.keep K188 (ninS ne_b58_b186 nin0)
            replace E_b186 := E_b186.keep K188
            have Z189 : n0 ≤ h188.size := Nat.le_trans Z187 K188.1
            have F_value_b186 := Fv188
            have F_coder_b186 := Fc188
            show W p e below _ (T188.setTop (mkF m 919 #[.val (.int p0), .val (.int p1), .val (.int p2), .val (.int p3), .val (.int p4), .val (.int c1), .val (.int c2), .val (.int c3), .val (.int c4), .val (.int kk), .val (.ref b58), .unset] [(.ref b186)]))
            refine W.go (fun _ hr => XS.astore X188.here hx rfl (hb hby at_919) rfl rfl (l' := #[.val (.int p0), .val (.int p1), .val (.int p2), .val (.int p3), .val (.int p4), .val (.int c1), .val (.int c2), .val (.int c3), .val (.int c4), .val (.int kk), .val (.ref b58), .val (.ref b186)]) rfl hr) ?_
            show W p e below _ (T188.setTop (mkF m 921 #[.val (.int p0), .val (.int p1), .val (.int p2), .val (.int p3), .val (.int p4), .val (.int c1), .val (.int c2), .val (.int c3), .val (.int c4), .val (.int kk), .val (.ref b58), .val (.ref b186)] []))
            refine W.go (fun _ hr => XS.aload X188.here hx rfl (hb hby at_921) rfl rfl hr) ?_
            show W p e below _ (T188.setTop (mkF m 923 #[.val (.int p0), .val (.int p1), .val (.int p2), .val (.int p3), .val (.int p4), .val (.int c1), .val (.int c2), .val (.int c3), .val (.int c4), .val (.int kk), .val (.ref b58), .val (.ref b186)] [(.ref b186)]))
            refine W.callS X188 hx hZ hown (g := (mkF m 923 #[.val (.int p0), .val (.int p1), .val (.int p2), .val (.int p3), .val (.int p4), .val (.int c1), .val (.int c2), .val (.int c3), .val (.int c4), .val (.int kk), .val (.ref b58), .val (.ref b186)] [(.ref b186)])) (by rw [hml]; rfl) (hw _ (List.mem_of_getElem? (i := 35) rfl)) (hw _ (List.mem_of_getElem? (i := 36) rfl)) (hw _ (List.mem_of_getElem? (i := 37) rfl)) (hw _ (List.mem_of_getElem? (i := 38) rfl)) e188 (rm8 l Z a0 hw b186 t188 kb188 (63 : Int32) ((cs188.map fun c => c.toInt8.toInt32).map Value.int) (.int (0 : Int32)) zCS wSF h188 n0 Z189 E_b186 F_value_b186 F_coder_b186 V_t188 S_COMPACT_STRINGS hCS S_SIOOBE_FORMATTER hSF (by decide) (own_all cs188 (by rw [lcs188]; rfl) hlat188)) (by decide) pd_172 rfl (argsL := [(.ref b186)]) (rest := []) rfl rfl rfl (hb hby at_923) (W0 := 0) rfl (by decide) (by decide) (by decide) (by decide) (fun v190 T190 h190 L190 X190 e190 hQ190 => ?_)
            obtain ⟨rfl, N190q, hh190⟩ := hQ190
            obtain rfl := hh190.symm
            have N190 := Fr.app N188 N190q
            show W p e below _ (T190.setTop (mkF m 926 #[.val (.int p0), .val (.int p1), .val (.int p2), .val (.int p3), .val (.int p4), .val (.int c1), .val (.int c2), .val (.int c3), .val (.int c4), .val (.int kk), .val (.ref b58), .val (.ref b186)] []))
            refine W.go (fun _ hr => XS.iconst X190.here hx rfl (hb hby at_926) hr) ?_
            show W p e below _ (T190.setTop (mkF m 927 #[.val (.int p0), .val (.int p1), .val (.int p2), .val (.int p3), .val (.int p4), .val (.int c1), .val (.int c2), .val (.int c3), .val (.int c4), .val (.int kk), .val (.ref b58), .val (.ref b186)] [(.int (1 : Int32))]))
            exact W.retB X190 hx hlk (t := .boolean) hret (by simp) (hb hby at_927) (by decide) (by decide) e190 ⟨rfl, N190⟩
          · refine W.go (fun _ hr => XS.icmpYes X4.here hx rfl (pc0 := 142) (pc' := 526) rfl (hb hby at_142) rfl (feq hc142_57).2 (by decide) (by decide) hr) ?_
            show W p e below _ (T4.setTop (mkF m 526 #[.val (.int p0), .val (.int p1), .val (.int p2), .val (.int p3), .val (.int p4), .val (.int c1), .val (.int c2), .val (.int c3), .val (.int c4), .val (.int kk), .unset, .unset] []))
            refine W.go (fun _ hr => XS.bipush X4.here hx rfl (hb hby at_526) hr) ?_
            show W p e below _ (T4.setTop (mkF m 528 #[.val (.int p0), .val (.int p1), .val (.int p2), .val (.int p3), .val (.int p4), .val (.int c1), .val (.int c2), .val (.int c3), .val (.int c4), .val (.int kk), .unset, .unset] [(.int (64 : Int32))]))
            obtain ⟨T191, h191, k191, X191, e191, E191, A191, E_b191, st191⟩ := newPE X4 hx hZ (hw _ (List.mem_of_getElem? (i := 5) rfl)) e4 (g := (mkF m 528 #[.val (.int p0), .val (.int p1), .val (.int p2), .val (.int p3), .val (.int p4), .val (.int c1), .val (.int c2), .val (.int c3), .val (.int c4), .val (.int kk), .unset, .unset] [(.int (64 : Int32))])) rfl (hb hby at_528) rfl (by decide) (cap := 64) (by decide) (by decide) (by decide) (by decide) (ad := "[C") (by decide)
            obtain ⟨b191, g191⟩ : ∃ z, z = h0.size := ⟨_, rfl⟩
            rw [← g191] at A191 E_b191 st191
            have g_b191 : n0 ≤ b191 := Nat.le_trans Z0 (Nat.le_of_eq g191.symm)
            replace S_COMPACT_STRINGS := Sta.ext E191 S_COMPACT_STRINGS
            replace S_SIOOBE_FORMATTER := Sta.ext E191 S_SIOOBE_FORMATTER
            have Z192 : n0 ≤ h191.size := Nat.le_trans Z0 E191.1
            have V_b191 : Arv Z h191 b191 k191 .char (64 : Int32) [(.int (0 : Int32)), (.int (0 : Int32)), (.int (0 : Int32)), (.int (0 : Int32)), (.int (0 : Int32)), (.int (0 : Int32)), (.int (0 : Int32)), (.int (0 : Int32)), (.int (0 : Int32)), (.int (0 : Int32)), (.int (0 : Int32)), (.int (0 : Int32)), (.int (0 : Int32)), (.int (0 : Int32)), (.int (0 : Int32)), (.int (0 : Int32)), (.int (0 : Int32)), (.int (0 : Int32)), (.int (0 : Int32)), (.int (0 : Int32)), (.int (0 : Int32)), (.int (0 : Int32)), (.int (0 : Int32)), (.int (0 : Int32)), (.int (0 : Int32)), (.int (0 : Int32)), (.int (0 : Int32)), (.int (0 : Int32)), (.int (0 : Int32)), (.int (0 : Int32)), (.int (0 : Int32)), (.int (0 : Int32)), (.int (0 : Int32)), (.int (0 : Int32)), (.int (0 : Int32)), (.int (0 : Int32)), (.int (0 : Int32)), (.int (0 : Int32)), (.int (0 : Int32)), (.int (0 : Int32)), (.int (0 : Int32)), (.int (0 : Int32)), (.int (0 : Int32)), (.int (0 : Int32)), (.int (0 : Int32)), (.int (0 : Int32)), (.int (0 : Int32)), (.int (0 : Int32)), (.int (0 : Int32)), (.int (0 : Int32)), (.int (0 : Int32)), (.int (0 : Int32)), (.int (0 : Int32)), (.int (0 : Int32)), (.int (0 : Int32)), (.int (0 : Int32)), (.int (0 : Int32)), (.int (0 : Int32)), (.int (0 : Int32)), (.int (0 : Int32)), (.int (0 : Int32)), (.int (0 : Int32)), (.int (0 : Int32)), (.int (0 : Int32))] (.int (0 : Int32)) := (Arv.new A191 (by decide)).pad (pad_rep [] (.int (0 : Int32)) 64)
            refine W.go st191 ?_
            show W p e below _ (T191.setTop (mkF m 530 #[.val (.int p0), .val (.int p1), .val (.int p2), .val (.int p3), .val (.int p4), .val (.int c1), .val (.int c2), .val (.int c3), .val (.int c4), .val (.int kk), .unset, .unset] [(.ref b191)]))
            refine W.go (fun _ hr => XS.dup X191.here hx rfl (hb hby at_530) rfl rfl hr) ?_
            show W p e below _ (T191.setTop (mkF m 531 #[.val (.int p0), .val (.int p1), .val (.int p2), .val (.int p3), .val (.int p4), .val (.int c1), .val (.int c2), .val (.int c3), .val (.int c4), .val (.int kk), .unset, .unset] [(.ref b191), (.ref b191)]))
            refine W.go (fun _ hr => XS.iconst X191.here hx rfl (hb hby at_531) hr) ?_
            show W p e below _ (T191.setTop (mkF m 532 #[.val (.int p0), .val (.int p1), .val (.int p2), .val (.int p3), .val (.int p4), .val (.int c1), .val (.int c2), .val (.int c3), .val (.int c4), .val (.int kk), .unset, .unset] [(.int (0 : Int32)), (.ref b191), (.ref b191)]))
            refine W.go (fun _ hr => XS.iload X191.here hx rfl (hb hby at_532) rfl hr) ?_
            show W p e below _ (T191.setTop (mkF m 534 #[.val (.int p0), .val (.int p1), .val (.int p2), .val (.int p3), .val (.int p4), .val (.int c1), .val (.int c2), .val (.int c3), .val (.int c4), .val (.int kk), .unset, .unset] [(.int c1), (.int (0 : Int32)), (.ref b191), (.ref b191)]))
            obtain ⟨cl193, Ar193, q193, S193, Nn193, H193, G193⟩ := V_b191
            have hin193 : ¬ ((0 : Int32) < 0 ∨ cl193.slots.size ≤ ((0 : Int32)).toNatClampNeg) := inb_of S193 ⟨by decide, by decide⟩
            obtain ⟨T193, h193, X193, e193, W193, st193⟩ := stC X191 hx hZ e191 Ar193 (j := (0 : Int32)) hin193 (g := (mkF m 534 #[.val (.int p0), .val (.int p1), .val (.int p2), .val (.int p3), .val (.int p4), .val (.int c1), .val (.int c2), .val (.int c3), .val (.int c4), .val (.int kk), .unset, .unset] [(.int c1), (.int (0 : Int32)), (.ref b191), (.ref b191)])) rfl rfl (hb hby at_534)
            replace V_b191 : Arv Z h193 b191 k191 .char (64 : Int32) [(.int (nar .char c1)), (.int (0 : Int32)), (.int (0 : Int32)), (.int (0 : Int32)), (.int (0 : Int32)), (.int (0 : Int32)), (.int (0 : Int32)), (.int (0 : Int32)), (.int (0 : Int32)), (.int (0 : Int32)), (.int (0 : Int32)), (.int (0 : Int32)), (.int (0 : Int32)), (.int (0 : Int32)), (.int (0 : Int32)), (.int (0 : Int32)), (.int (0 : Int32)), (.int (0 : Int32)), (.int (0 : Int32)), (.int (0 : Int32)), (.int (0 : Int32)), (.int (0 : Int32)), (.int (0 : Int32)), (.int (0 : Int32)), (.int (0 : Int32)), (.int (0 : Int32)), (.int (0 : Int32)), (.int (0 : Int32)), (.int (0 : Int32)), (.int (0 : Int32)), (.int (0 : Int32)), (.int (0 : Int32)), (.int (0 : Int32)), (.int (0 : Int32)), (.int (0 : Int32)), (.int (0 : Int32)), (.int (0 : Int32)), (.int (0 : Int32)), (.int (0 : Int32)), (.int (0 : Int32)), (.int (0 : Int32)), (.int (0 : Int32)), (.int (0 : Int32)), (.int (0 : Int32)), (.int (0 : Int32)), (.int (0 : Int32)), (.int (0 : Int32)), (.int (0 : Int32)), (.int (0 : Int32)), (.int (0 : Int32)), (.int (0 : Int32)), (.int (0 : Int32)), (.int (0 : Int32)), (.int (0 : Int32)), (.int (0 : Int32)), (.int (0 : Int32)), (.int (0 : Int32)), (.int (0 : Int32)), (.int (0 : Int32)), (.int (0 : Int32)), (.int (0 : Int32)), (.int (0 : Int32)), (.int (0 : Int32)), (.int (0 : Int32))] (.int (0 : Int32)) := Arv.set Ar193 q193 S193 Nn193 H193 G193 (fits_nar_char _) W193 0 rfl (Nat.le_of_ble_eq_true rfl)
            replace S_COMPACT_STRINGS := Sta.wr W193 S_COMPACT_STRINGS
            replace S_SIOOBE_FORMATTER := Sta.wr W193 S_SIOOBE_FORMATTER
            replace E_b191 := E_b191.wr W193
            have Z194 : n0 ≤ h193.size := Nat.le_trans Z192 (Keep.of_wr W193).1
            refine W.go st193 ?_
            have N193 := Fr.snoc X193 N4 g_b191
            show W p e below _ (T193.setTop (mkF m 535 #[.val (.int p0), .val (.int p1), .val (.int p2), .val (.int p3), .val (.int p4), .val (.int c1), .val (.int c2), .val (.int c3), .val (.int c4), .val (.int kk), .unset, .unset] [(.ref b191)]))
            refine W.go (fun _ hr => XS.dup X193.here hx rfl (hb hby at_535) rfl rfl hr) ?_
            show W p e below _ (T193.setTop (mkF m 536 #[.val (.int p0), .val (.int p1), .val (.int p2), .val (.int p3), .val (.int p4), .val (.int c1), .val (.int c2), .val (.int c3), .val (.int c4), .val (.int kk), .unset, .unset] [(.ref b191), (.ref b191)]))
            refine W.go (fun _ hr => XS.iconst X193.here hx rfl (hb hby at_536) hr) ?_
            show W p e below _ (T193.setTop (mkF m 537 #[.val (.int p0), .val (.int p1), .val (.int p2), .val (.int p3), .val (.int p4), .val (.int c1), .val (.int c2), .val (.int c3), .val (.int c4), .val (.int kk), .unset, .unset] [(.int (1 : Int32)), (.ref b191), (.ref b191)]))
            refine W.go (fun _ hr => XS.iload X193.here hx rfl (hb hby at_537) rfl hr) ?_
            show W p e below _ (T193.setTop (mkF m 539 #[.val (.int p0), .val (.int p1), .val (.int p2), .val (.int p3), .val (.int p4), .val (.int c1), .val (.int c2), .val (.int c3), .val (.int c4), .val (.int kk), .unset, .unset] [(.int c2), (.int (1 : Int32)), (.ref b191), (.ref b191)]))
            obtain ⟨cl195, Ar195, q195, S195, Nn195, H195, G195⟩ := V_b191
            have hin195 : ¬ ((1 : Int32) < 0 ∨ cl195.slots.size ≤ ((1 : Int32)).toNatClampNeg) := inb_of S195 ⟨by decide, by decide⟩
            obtain ⟨T195, h195, X195, e195, W195, st195⟩ := stC X193 hx hZ e193 Ar195 (j := (1 : Int32)) hin195 (g := (mkF m 539 #[.val (.int p0), .val (.int p1), .val (.int p2), .val (.int p3), .val (.int p4), .val (.int c1), .val (.int c2), .val (.int c3), .val (.int c4), .val (.int kk), .unset, .unset] [(.int c2), (.int (1 : Int32)), (.ref b191), (.ref b191)])) rfl rfl (hb hby at_539)
            replace V_b191 : Arv Z h195 b191 k191 .char (64 : Int32) [(.int (nar .char c1)), (.int (nar .char c2)), (.int (0 : Int32)), (.int (0 : Int32)), (.int (0 : Int32)), (.int (0 : Int32)), (.int (0 : Int32)), (.int (0 : Int32)), (.int (0 : Int32)), (.int (0 : Int32)), (.int (0 : Int32)), (.int (0 : Int32)), (.int (0 : Int32)), (.int (0 : Int32)), (.int (0 : Int32)), (.int (0 : Int32)), (.int (0 : Int32)), (.int (0 : Int32)), (.int (0 : Int32)), (.int (0 : Int32)), (.int (0 : Int32)), (.int (0 : Int32)), (.int (0 : Int32)), (.int (0 : Int32)), (.int (0 : Int32)), (.int (0 : Int32)), (.int (0 : Int32)), (.int (0 : Int32)), (.int (0 : Int32)), (.int (0 : Int32)), (.int (0 : Int32)), (.int (0 : Int32)), (.int (0 : Int32)), (.int (0 : Int32)), (.int (0 : Int32)), (.int (0 : Int32)), (.int (0 : Int32)), (.int (0 : Int32)), (.int (0 : Int32)), (.int (0 : Int32)), (.int (0 : Int32)), (.int (0 : Int32)), (.int (0 : Int32)), (.int (0 : Int32)), (.int (0 : Int32)), (.int (0 : Int32)), (.int (0 : Int32)), (.int (0 : Int32)), (.int (0 : Int32)), (.int (0 : Int32)), (.int (0 : Int32)), (.int (0 : Int32)), (.int (0 : Int32)), (.int (0 : Int32)), (.int (0 : Int32)), (.int (0 : Int32)), (.int (0 : Int32)), (.int (0 : Int32)), (.int (0 : Int32)), (.int (0 : Int32)), (.int (0 : Int32)), (.int (0 : Int32)), (.int (0 : Int32)), (.int (0 : Int32))] (.int (0 : Int32)) := Arv.set Ar195 q195 S195 Nn195 H195 G195 (fits_nar_char _) W195 1 rfl (Nat.le_of_ble_eq_true rfl)
            replace S_COMPACT_STRINGS := Sta.wr W195 S_COMPACT_STRINGS
            replace S_SIOOBE_FORMATTER := Sta.wr W195 S_SIOOBE_FORMATTER
            replace E_b191 := E_b191.wr W195
            have Z196 : n0 ≤ h195.size := Nat.le_trans Z194 (Keep.of_wr W195).1
            refine W.go st195 ?_
            have N195 := Fr.snoc X195 N193 g_b191
            show W p e below _ (T195.setTop (mkF m 540 #[.val (.int p0), .val (.int p1), .val (.int p2), .val (.int p3), .val (.int p4), .val (.int c1), .val (.int c2), .val (.int c3), .val (.int c4), .val (.int kk), .unset, .unset] [(.ref b191)]))
            refine W.go (fun _ hr => XS.dup X195.here hx rfl (hb hby at_540) rfl rfl hr) ?_
            show W p e below _ (T195.setTop (mkF m 541 #[.val (.int p0), .val (.int p1), .val (.int p2), .val (.int p3), .val (.int p4), .val (.int c1), .val (.int c2), .val (.int c3), .val (.int c4), .val (.int kk), .unset, .unset] [(.ref b191), (.ref b191)]))
            refine W.go (fun _ hr => XS.iconst X195.here hx rfl (hb hby at_541) hr) ?_
            show W p e below _ (T195.setTop (mkF m 542 #[.val (.int p0), .val (.int p1), .val (.int p2), .val (.int p3), .val (.int p4), .val (.int c1), .val (.int c2), .val (.int c3), .val (.int c4), .val (.int kk), .unset, .unset] [(.int (2 : Int32)), (.ref b191), (.ref b191)]))
            refine W.go (fun _ hr => XS.iload X195.here hx rfl (hb hby at_542) rfl hr) ?_
            show W p e below _ (T195.setTop (mkF m 544 #[.val (.int p0), .val (.int p1), .val (.int p2), .val (.int p3), .val (.int p4), .val (.int c1), .val (.int c2), .val (.int c3), .val (.int c4), .val (.int kk), .unset, .unset] [(.int c3), (.int (2 : Int32)), (.ref b191), (.ref b191)]))
            obtain ⟨cl197, Ar197, q197, S197, Nn197, H197, G197⟩ := V_b191
            have hin197 : ¬ ((2 : Int32) < 0 ∨ cl197.slots.size ≤ ((2 : Int32)).toNatClampNeg) := inb_of S197 ⟨by decide, by decide⟩
            obtain ⟨T197, h197, X197, e197, W197, st197⟩ := stC X195 hx hZ e195 Ar197 (j := (2 : Int32)) hin197 (g := (mkF m 544 #[.val (.int p0), .val (.int p1), .val (.int p2), .val (.int p3), .val (.int p4), .val (.int c1), .val (.int c2), .val (.int c3), .val (.int c4), .val (.int kk), .unset, .unset] [(.int c3), (.int (2 : Int32)), (.ref b191), (.ref b191)])) rfl rfl (hb hby at_544)
            replace V_b191 : Arv Z h197 b191 k191 .char (64 : Int32) [(.int (nar .char c1)), (.int (nar .char c2)), (.int (nar .char c3)), (.int (0 : Int32)), (.int (0 : Int32)), (.int (0 : Int32)), (.int (0 : Int32)), (.int (0 : Int32)), (.int (0 : Int32)), (.int (0 : Int32)), (.int (0 : Int32)), (.int (0 : Int32)), (.int (0 : Int32)), (.int (0 : Int32)), (.int (0 : Int32)), (.int (0 : Int32)), (.int (0 : Int32)), (.int (0 : Int32)), (.int (0 : Int32)), (.int (0 : Int32)), (.int (0 : Int32)), (.int (0 : Int32)), (.int (0 : Int32)), (.int (0 : Int32)), (.int (0 : Int32)), (.int (0 : Int32)), (.int (0 : Int32)), (.int (0 : Int32)), (.int (0 : Int32)), (.int (0 : Int32)), (.int (0 : Int32)), (.int (0 : Int32)), (.int (0 : Int32)), (.int (0 : Int32)), (.int (0 : Int32)), (.int (0 : Int32)), (.int (0 : Int32)), (.int (0 : Int32)), (.int (0 : Int32)), (.int (0 : Int32)), (.int (0 : Int32)), (.int (0 : Int32)), (.int (0 : Int32)), (.int (0 : Int32)), (.int (0 : Int32)), (.int (0 : Int32)), (.int (0 : Int32)), (.int (0 : Int32)), (.int (0 : Int32)), (.int (0 : Int32)), (.int (0 : Int32)), (.int (0 : Int32)), (.int (0 : Int32)), (.int (0 : Int32)), (.int (0 : Int32)), (.int (0 : Int32)), (.int (0 : Int32)), (.int (0 : Int32)), (.int (0 : Int32)), (.int (0 : Int32)), (.int (0 : Int32)), (.int (0 : Int32)), (.int (0 : Int32)), (.int (0 : Int32))] (.int (0 : Int32)) := Arv.set Ar197 q197 S197 Nn197 H197 G197 (fits_nar_char _) W197 2 rfl (Nat.le_of_ble_eq_true rfl)
            replace S_COMPACT_STRINGS := Sta.wr W197 S_COMPACT_STRINGS
            replace S_SIOOBE_FORMATTER := Sta.wr W197 S_SIOOBE_FORMATTER
            replace E_b191 := E_b191.wr W197
            have Z198 : n0 ≤ h197.size := Nat.le_trans Z196 (Keep.of_wr W197).1
            refine W.go st197 ?_
            have N197 := Fr.snoc X197 N195 g_b191
            show W p e below _ (T197.setTop (mkF m 545 #[.val (.int p0), .val (.int p1), .val (.int p2), .val (.int p3), .val (.int p4), .val (.int c1), .val (.int c2), .val (.int c3), .val (.int c4), .val (.int kk), .unset, .unset] [(.ref b191)]))
            refine W.go (fun _ hr => XS.dup X197.here hx rfl (hb hby at_545) rfl rfl hr) ?_
            show W p e below _ (T197.setTop (mkF m 546 #[.val (.int p0), .val (.int p1), .val (.int p2), .val (.int p3), .val (.int p4), .val (.int c1), .val (.int c2), .val (.int c3), .val (.int c4), .val (.int kk), .unset, .unset] [(.ref b191), (.ref b191)]))
            refine W.go (fun _ hr => XS.iconst X197.here hx rfl (hb hby at_546) hr) ?_
            show W p e below _ (T197.setTop (mkF m 547 #[.val (.int p0), .val (.int p1), .val (.int p2), .val (.int p3), .val (.int p4), .val (.int c1), .val (.int c2), .val (.int c3), .val (.int c4), .val (.int kk), .unset, .unset] [(.int (3 : Int32)), (.ref b191), (.ref b191)]))
            refine W.go (fun _ hr => XS.iload X197.here hx rfl (hb hby at_547) rfl hr) ?_
            show W p e below _ (T197.setTop (mkF m 549 #[.val (.int p0), .val (.int p1), .val (.int p2), .val (.int p3), .val (.int p4), .val (.int c1), .val (.int c2), .val (.int c3), .val (.int c4), .val (.int kk), .unset, .unset] [(.int c4), (.int (3 : Int32)), (.ref b191), (.ref b191)]))
            obtain ⟨cl199, Ar199, q199, S199, Nn199, H199, G199⟩ := V_b191
            have hin199 : ¬ ((3 : Int32) < 0 ∨ cl199.slots.size ≤ ((3 : Int32)).toNatClampNeg) := inb_of S199 ⟨by decide, by decide⟩
            obtain ⟨T199, h199, X199, e199, W199, st199⟩ := stC X197 hx hZ e197 Ar199 (j := (3 : Int32)) hin199 (g := (mkF m 549 #[.val (.int p0), .val (.int p1), .val (.int p2), .val (.int p3), .val (.int p4), .val (.int c1), .val (.int c2), .val (.int c3), .val (.int c4), .val (.int kk), .unset, .unset] [(.int c4), (.int (3 : Int32)), (.ref b191), (.ref b191)])) rfl rfl (hb hby at_549)
            replace V_b191 : Arv Z h199 b191 k191 .char (64 : Int32) [(.int (nar .char c1)), (.int (nar .char c2)), (.int (nar .char c3)), (.int (nar .char c4)), (.int (0 : Int32)), (.int (0 : Int32)), (.int (0 : Int32)), (.int (0 : Int32)), (.int (0 : Int32)), (.int (0 : Int32)), (.int (0 : Int32)), (.int (0 : Int32)), (.int (0 : Int32)), (.int (0 : Int32)), (.int (0 : Int32)), (.int (0 : Int32)), (.int (0 : Int32)), (.int (0 : Int32)), (.int (0 : Int32)), (.int (0 : Int32)), (.int (0 : Int32)), (.int (0 : Int32)), (.int (0 : Int32)), (.int (0 : Int32)), (.int (0 : Int32)), (.int (0 : Int32)), (.int (0 : Int32)), (.int (0 : Int32)), (.int (0 : Int32)), (.int (0 : Int32)), (.int (0 : Int32)), (.int (0 : Int32)), (.int (0 : Int32)), (.int (0 : Int32)), (.int (0 : Int32)), (.int (0 : Int32)), (.int (0 : Int32)), (.int (0 : Int32)), (.int (0 : Int32)), (.int (0 : Int32)), (.int (0 : Int32)), (.int (0 : Int32)), (.int (0 : Int32)), (.int (0 : Int32)), (.int (0 : Int32)), (.int (0 : Int32)), (.int (0 : Int32)), (.int (0 : Int32)), (.int (0 : Int32)), (.int (0 : Int32)), (.int (0 : Int32)), (.int (0 : Int32)), (.int (0 : Int32)), (.int (0 : Int32)), (.int (0 : Int32)), (.int (0 : Int32)), (.int (0 : Int32)), (.int (0 : Int32)), (.int (0 : Int32)), (.int (0 : Int32)), (.int (0 : Int32)), (.int (0 : Int32)), (.int (0 : Int32)), (.int (0 : Int32))] (.int (0 : Int32)) := Arv.set Ar199 q199 S199 Nn199 H199 G199 (fits_nar_char _) W199 3 rfl (Nat.le_of_ble_eq_true rfl)
            replace S_COMPACT_STRINGS := Sta.wr W199 S_COMPACT_STRINGS
            replace S_SIOOBE_FORMATTER := Sta.wr W199 S_SIOOBE_FORMATTER
            replace E_b191 := E_b191.wr W199
            have Z200 : n0 ≤ h199.size := Nat.le_trans Z198 (Keep.of_wr W199).1
            refine W.go st199 ?_
            have N199 := Fr.snoc X199 N197 g_b191
            show W p e below _ (T199.setTop (mkF m 550 #[.val (.int p0), .val (.int p1), .val (.int p2), .val (.int p3), .val (.int p4), .val (.int c1), .val (.int c2), .val (.int c3), .val (.int c4), .val (.int kk), .unset, .unset] [(.ref b191)]))
            refine W.go (fun _ hr => XS.dup X199.here hx rfl (hb hby at_550) rfl rfl hr) ?_
            show W p e below _ (T199.setTop (mkF m 551 #[.val (.int p0), .val (.int p1), .val (.int p2), .val (.int p3), .val (.int p4), .val (.int c1), .val (.int c2), .val (.int c3), .val (.int c4), .val (.int kk), .unset, .unset] [(.ref b191), (.ref b191)]))
            refine W.go (fun _ hr => XS.iconst X199.here hx rfl (hb hby at_551) hr) ?_
            show W p e below _ (T199.setTop (mkF m 552 #[.val (.int p0), .val (.int p1), .val (.int p2), .val (.int p3), .val (.int p4), .val (.int c1), .val (.int c2), .val (.int c3), .val (.int c4), .val (.int kk), .unset, .unset] [(.int (4 : Int32)), (.ref b191), (.ref b191)]))
            refine W.go (fun _ hr => XS.iload X199.here hx rfl (hb hby at_552) rfl hr) ?_
            show W p e below _ (T199.setTop (mkF m 554 #[.val (.int p0), .val (.int p1), .val (.int p2), .val (.int p3), .val (.int p4), .val (.int c1), .val (.int c2), .val (.int c3), .val (.int c4), .val (.int kk), .unset, .unset] [(.int c1), (.int (4 : Int32)), (.ref b191), (.ref b191)]))
            obtain ⟨cl201, Ar201, q201, S201, Nn201, H201, G201⟩ := V_b191
            have hin201 : ¬ ((4 : Int32) < 0 ∨ cl201.slots.size ≤ ((4 : Int32)).toNatClampNeg) := inb_of S201 ⟨by decide, by decide⟩
            obtain ⟨T201, h201, X201, e201, W201, st201⟩ := stC X199 hx hZ e199 Ar201 (j := (4 : Int32)) hin201 (g := (mkF m 554 #[.val (.int p0), .val (.int p1), .val (.int p2), .val (.int p3), .val (.int p4), .val (.int c1), .val (.int c2), .val (.int c3), .val (.int c4), .val (.int kk), .unset, .unset] [(.int c1), (.int (4 : Int32)), (.ref b191), (.ref b191)])) rfl rfl (hb hby at_554)
            replace V_b191 : Arv Z h201 b191 k191 .char (64 : Int32) [(.int (nar .char c1)), (.int (nar .char c2)), (.int (nar .char c3)), (.int (nar .char c4)), (.int (nar .char c1)), (.int (0 : Int32)), (.int (0 : Int32)), (.int (0 : Int32)), (.int (0 : Int32)), (.int (0 : Int32)), (.int (0 : Int32)), (.int (0 : Int32)), (.int (0 : Int32)), (.int (0 : Int32)), (.int (0 : Int32)), (.int (0 : Int32)), (.int (0 : Int32)), (.int (0 : Int32)), (.int (0 : Int32)), (.int (0 : Int32)), (.int (0 : Int32)), (.int (0 : Int32)), (.int (0 : Int32)), (.int (0 : Int32)), (.int (0 : Int32)), (.int (0 : Int32)), (.int (0 : Int32)), (.int (0 : Int32)), (.int (0 : Int32)), (.int (0 : Int32)), (.int (0 : Int32)), (.int (0 : Int32)), (.int (0 : Int32)), (.int (0 : Int32)), (.int (0 : Int32)), (.int (0 : Int32)), (.int (0 : Int32)), (.int (0 : Int32)), (.int (0 : Int32)), (.int (0 : Int32)), (.int (0 : Int32)), (.int (0 : Int32)), (.int (0 : Int32)), (.int (0 : Int32)), (.int (0 : Int32)), (.int (0 : Int32)), (.int (0 : Int32)), (.int (0 : Int32)), (.int (0 : Int32)), (.int (0 : Int32)), (.int (0 : Int32)), (.int (0 : Int32)), (.int (0 : Int32)), (.int (0 : Int32)), (.int (0 : Int32)), (.int (0 : Int32)), (.int (0 : Int32)), (.int (0 : Int32)), (.int (0 : Int32)), (.int (0 : Int32)), (.int (0 : Int32)), (.int (0 : Int32)), (.int (0 : Int32)), (.int (0 : Int32))] (.int (0 : Int32)) := Arv.set Ar201 q201 S201 Nn201 H201 G201 (fits_nar_char _) W201 4 rfl (Nat.le_of_ble_eq_true rfl)
            replace S_COMPACT_STRINGS := Sta.wr W201 S_COMPACT_STRINGS
            replace S_SIOOBE_FORMATTER := Sta.wr W201 S_SIOOBE_FORMATTER
            replace E_b191 := E_b191.wr W201
            have Z202 : n0 ≤ h201.size := Nat.le_trans Z200 (Keep.of_wr W201).1
            refine W.go st201 ?_
            have N201 := Fr.snoc X201 N199 g_b191
            show W p e below _ (T201.setTop (mkF m 555 #[.val (.int p0), .val (.int p1), .val (.int p2), .val (.int p3), .val (.int p4), .val (.int c1), .val (.int c2), .val (.int c3), .val (.int c4), .val (.int kk), .unset, .unset] [(.ref b191)]))
            refine W.go (fun _ hr => XS.dup X201.here hx rfl (hb hby at_555) rfl rfl hr) ?_
            show W p e below _ (T201.setTop (mkF m 556 #[.val (.int p0), .val (.int p1), .val (.int p2), .val (.int p3), .val (.int p4), .val (.int c1), .val (.int c2), .val (.int c3), .val (.int c4), .val (.int kk), .unset, .unset] [(.ref b191), (.ref b191)]))
            refine W.go (fun _ hr => XS.iconst X201.here hx rfl (hb hby at_556) hr) ?_
            show W p e below _ (T201.setTop (mkF m 557 #[.val (.int p0), .val (.int p1), .val (.int p2), .val (.int p3), .val (.int p4), .val (.int c1), .val (.int c2), .val (.int c3), .val (.int c4), .val (.int kk), .unset, .unset] [(.int (5 : Int32)), (.ref b191), (.ref b191)]))
            refine W.go (fun _ hr => XS.iload X201.here hx rfl (hb hby at_557) rfl hr) ?_
            show W p e below _ (T201.setTop (mkF m 559 #[.val (.int p0), .val (.int p1), .val (.int p2), .val (.int p3), .val (.int p4), .val (.int c1), .val (.int c2), .val (.int c3), .val (.int c4), .val (.int kk), .unset, .unset] [(.int c2), (.int (5 : Int32)), (.ref b191), (.ref b191)]))
            obtain ⟨cl203, Ar203, q203, S203, Nn203, H203, G203⟩ := V_b191
            have hin203 : ¬ ((5 : Int32) < 0 ∨ cl203.slots.size ≤ ((5 : Int32)).toNatClampNeg) := inb_of S203 ⟨by decide, by decide⟩
            obtain ⟨T203, h203, X203, e203, W203, st203⟩ := stC X201 hx hZ e201 Ar203 (j := (5 : Int32)) hin203 (g := (mkF m 559 #[.val (.int p0), .val (.int p1), .val (.int p2), .val (.int p3), .val (.int p4), .val (.int c1), .val (.int c2), .val (.int c3), .val (.int c4), .val (.int kk), .unset, .unset] [(.int c2), (.int (5 : Int32)), (.ref b191), (.ref b191)])) rfl rfl (hb hby at_559)
            replace V_b191 : Arv Z h203 b191 k191 .char (64 : Int32) [(.int (nar .char c1)), (.int (nar .char c2)), (.int (nar .char c3)), (.int (nar .char c4)), (.int (nar .char c1)), (.int (nar .char c2)), (.int (0 : Int32)), (.int (0 : Int32)), (.int (0 : Int32)), (.int (0 : Int32)), (.int (0 : Int32)), (.int (0 : Int32)), (.int (0 : Int32)), (.int (0 : Int32)), (.int (0 : Int32)), (.int (0 : Int32)), (.int (0 : Int32)), (.int (0 : Int32)), (.int (0 : Int32)), (.int (0 : Int32)), (.int (0 : Int32)), (.int (0 : Int32)), (.int (0 : Int32)), (.int (0 : Int32)), (.int (0 : Int32)), (.int (0 : Int32)), (.int (0 : Int32)), (.int (0 : Int32)), (.int (0 : Int32)), (.int (0 : Int32)), (.int (0 : Int32)), (.int (0 : Int32)), (.int (0 : Int32)), (.int (0 : Int32)), (.int (0 : Int32)), (.int (0 : Int32)), (.int (0 : Int32)), (.int (0 : Int32)), (.int (0 : Int32)), (.int (0 : Int32)), (.int (0 : Int32)), (.int (0 : Int32)), (.int (0 : Int32)), (.int (0 : Int32)), (.int (0 : Int32)), (.int (0 : Int32)), (.int (0 : Int32)), (.int (0 : Int32)), (.int (0 : Int32)), (.int (0 : Int32)), (.int (0 : Int32)), (.int (0 : Int32)), (.int (0 : Int32)), (.int (0 : Int32)), (.int (0 : Int32)), (.int (0 : Int32)), (.int (0 : Int32)), (.int (0 : Int32)), (.int (0 : Int32)), (.int (0 : Int32)), (.int (0 : Int32)), (.int (0 : Int32)), (.int (0 : Int32)), (.int (0 : Int32))] (.int (0 : Int32)) := Arv.set Ar203 q203 S203 Nn203 H203 G203 (fits_nar_char _) W203 5 rfl (Nat.le_of_ble_eq_true rfl)
            replace S_COMPACT_STRINGS := Sta.wr W203 S_COMPACT_STRINGS
            replace S_SIOOBE_FORMATTER := Sta.wr W203 S_SIOOBE_FORMATTER
            replace E_b191 := E_b191.wr W203
            have Z204 : n0 ≤ h203.size := Nat.le_trans Z202 (Keep.of_wr W203).1
            refine W.go st203 ?_
            have N203 := Fr.snoc X203 N201 g_b191
            show W p e below _ (T203.setTop (mkF m 560 #[.val (.int p0), .val (.int p1), .val (.int p2), .val (.int p3), .val (.int p4), .val (.int c1), .val (.int c2), .val (.int c3), .val (.int c4), .val (.int kk), .unset, .unset] [(.ref b191)]))
            refine W.go (fun _ hr => XS.dup X203.here hx rfl (hb hby at_560) rfl rfl hr) ?_
            show W p e below _ (T203.setTop (mkF m 561 #[.val (.int p0), .val (.int p1), .val (.int p2), .val (.int p3), .val (.int p4), .val (.int c1), .val (.int c2), .val (.int c3), .val (.int c4), .val (.int kk), .unset, .unset] [(.ref b191), (.ref b191)]))
            refine W.go (fun _ hr => XS.bipush X203.here hx rfl (hb hby at_561) hr) ?_
            show W p e below _ (T203.setTop (mkF m 563 #[.val (.int p0), .val (.int p1), .val (.int p2), .val (.int p3), .val (.int p4), .val (.int c1), .val (.int c2), .val (.int c3), .val (.int c4), .val (.int kk), .unset, .unset] [(.int (6 : Int32)), (.ref b191), (.ref b191)]))
            refine W.go (fun _ hr => XS.iload X203.here hx rfl (hb hby at_563) rfl hr) ?_
            show W p e below _ (T203.setTop (mkF m 565 #[.val (.int p0), .val (.int p1), .val (.int p2), .val (.int p3), .val (.int p4), .val (.int c1), .val (.int c2), .val (.int c3), .val (.int c4), .val (.int kk), .unset, .unset] [(.int c3), (.int (6 : Int32)), (.ref b191), (.ref b191)]))
            obtain ⟨cl205, Ar205, q205, S205, Nn205, H205, G205⟩ := V_b191
            have hin205 : ¬ ((6 : Int32) < 0 ∨ cl205.slots.size ≤ ((6 : Int32)).toNatClampNeg) := inb_of S205 ⟨by decide, by decide⟩
            obtain ⟨T205, h205, X205, e205, W205, st205⟩ := stC X203 hx hZ e203 Ar205 (j := (6 : Int32)) hin205 (g := (mkF m 565 #[.val (.int p0), .val (.int p1), .val (.int p2), .val (.int p3), .val (.int p4), .val (.int c1), .val (.int c2), .val (.int c3), .val (.int c4), .val (.int kk), .unset, .unset] [(.int c3), (.int (6 : Int32)), (.ref b191), (.ref b191)])) rfl rfl (hb hby at_565)
            replace V_b191 : Arv Z h205 b191 k191 .char (64 : Int32) [(.int (nar .char c1)), (.int (nar .char c2)), (.int (nar .char c3)), (.int (nar .char c4)), (.int (nar .char c1)), (.int (nar .char c2)), (.int (nar .char c3)), (.int (0 : Int32)), (.int (0 : Int32)), (.int (0 : Int32)), (.int (0 : Int32)), (.int (0 : Int32)), (.int (0 : Int32)), (.int (0 : Int32)), (.int (0 : Int32)), (.int (0 : Int32)), (.int (0 : Int32)), (.int (0 : Int32)), (.int (0 : Int32)), (.int (0 : Int32)), (.int (0 : Int32)), (.int (0 : Int32)), (.int (0 : Int32)), (.int (0 : Int32)), (.int (0 : Int32)), (.int (0 : Int32)), (.int (0 : Int32)), (.int (0 : Int32)), (.int (0 : Int32)), (.int (0 : Int32)), (.int (0 : Int32)), (.int (0 : Int32)), (.int (0 : Int32)), (.int (0 : Int32)), (.int (0 : Int32)), (.int (0 : Int32)), (.int (0 : Int32)), (.int (0 : Int32)), (.int (0 : Int32)), (.int (0 : Int32)), (.int (0 : Int32)), (.int (0 : Int32)), (.int (0 : Int32)), (.int (0 : Int32)), (.int (0 : Int32)), (.int (0 : Int32)), (.int (0 : Int32)), (.int (0 : Int32)), (.int (0 : Int32)), (.int (0 : Int32)), (.int (0 : Int32)), (.int (0 : Int32)), (.int (0 : Int32)), (.int (0 : Int32)), (.int (0 : Int32)), (.int (0 : Int32)), (.int (0 : Int32)), (.int (0 : Int32)), (.int (0 : Int32)), (.int (0 : Int32)), (.int (0 : Int32)), (.int (0 : Int32)), (.int (0 : Int32)), (.int (0 : Int32))] (.int (0 : Int32)) := Arv.set Ar205 q205 S205 Nn205 H205 G205 (fits_nar_char _) W205 6 rfl (Nat.le_of_ble_eq_true rfl)
            replace S_COMPACT_STRINGS := Sta.wr W205 S_COMPACT_STRINGS
            replace S_SIOOBE_FORMATTER := Sta.wr W205 S_SIOOBE_FORMATTER
            replace E_b191 := E_b191.wr W205
            have Z206 : n0 ≤ h205.size := Nat.le_trans Z204 (Keep.of_wr W205).1
            refine W.go st205 ?_
            have N205 := Fr.snoc X205 N203 g_b191
            show W p e below _ (T205.setTop (mkF m 566 #[.val (.int p0), .val (.int p1), .val (.int p2), .val (.int p3), .val (.int p4), .val (.int c1), .val (.int c2), .val (.int c3), .val (.int c4), .val (.int kk), .unset, .unset] [(.ref b191)]))
            refine W.go (fun _ hr => XS.dup X205.here hx rfl (hb hby at_566) rfl rfl hr) ?_
            show W p e below _ (T205.setTop (mkF m 567 #[.val (.int p0), .val (.int p1), .val (.int p2), .val (.int p3), .val (.int p4), .val (.int c1), .val (.int c2), .val (.int c3), .val (.int c4), .val (.int kk), .unset, .unset] [(.ref b191), (.ref b191)]))
            refine W.go (fun _ hr => XS.bipush X205.here hx rfl (hb hby at_567) hr) ?_
            show W p e below _ (T205.setTop (mkF m 569 #[.val (.int p0), .val (.int p1), .val (.int p2), .val (.int p3), .val (.int p4), .val (.int c1), .val (.int c2), .val (.int c3), .val (.int c4), .val (.int kk), .unset, .unset] [(.int (7 : Int32)), (.ref b191), (.ref b191)]))
            refine W.go (fun _ hr => XS.iload X205.here hx rfl (hb hby at_569) rfl hr) ?_
            show W p e below _ (T205.setTop (mkF m 571 #[.val (.int p0), .val (.int p1), .val (.int p2), .val (.int p3), .val (.int p4), .val (.int c1), .val (.int c2), .val (.int c3), .val (.int c4), .val (.int kk), .unset, .unset] [(.int c4), (.int (7 : Int32)), (.ref b191), (.ref b191)]))
            obtain ⟨cl207, Ar207, q207, S207, Nn207, H207, G207⟩ := V_b191
            have hin207 : ¬ ((7 : Int32) < 0 ∨ cl207.slots.size ≤ ((7 : Int32)).toNatClampNeg) := inb_of S207 ⟨by decide, by decide⟩
            obtain ⟨T207, h207, X207, e207, W207, st207⟩ := stC X205 hx hZ e205 Ar207 (j := (7 : Int32)) hin207 (g := (mkF m 571 #[.val (.int p0), .val (.int p1), .val (.int p2), .val (.int p3), .val (.int p4), .val (.int c1), .val (.int c2), .val (.int c3), .val (.int c4), .val (.int kk), .unset, .unset] [(.int c4), (.int (7 : Int32)), (.ref b191), (.ref b191)])) rfl rfl (hb hby at_571)
            replace V_b191 : Arv Z h207 b191 k191 .char (64 : Int32) [(.int (nar .char c1)), (.int (nar .char c2)), (.int (nar .char c3)), (.int (nar .char c4)), (.int (nar .char c1)), (.int (nar .char c2)), (.int (nar .char c3)), (.int (nar .char c4)), (.int (0 : Int32)), (.int (0 : Int32)), (.int (0 : Int32)), (.int (0 : Int32)), (.int (0 : Int32)), (.int (0 : Int32)), (.int (0 : Int32)), (.int (0 : Int32)), (.int (0 : Int32)), (.int (0 : Int32)), (.int (0 : Int32)), (.int (0 : Int32)), (.int (0 : Int32)), (.int (0 : Int32)), (.int (0 : Int32)), (.int (0 : Int32)), (.int (0 : Int32)), (.int (0 : Int32)), (.int (0 : Int32)), (.int (0 : Int32)), (.int (0 : Int32)), (.int (0 : Int32)), (.int (0 : Int32)), (.int (0 : Int32)), (.int (0 : Int32)), (.int (0 : Int32)), (.int (0 : Int32)), (.int (0 : Int32)), (.int (0 : Int32)), (.int (0 : Int32)), (.int (0 : Int32)), (.int (0 : Int32)), (.int (0 : Int32)), (.int (0 : Int32)), (.int (0 : Int32)), (.int (0 : Int32)), (.int (0 : Int32)), (.int (0 : Int32)), (.int (0 : Int32)), (.int (0 : Int32)), (.int (0 : Int32)), (.int (0 : Int32)), (.int (0 : Int32)), (.int (0 : Int32)), (.int (0 : Int32)), (.int (0 : Int32)), (.int (0 : Int32)), (.int (0 : Int32)), (.int (0 : Int32)), (.int (0 : Int32)), (.int (0 : Int32)), (.int (0 : Int32)), (.int (0 : Int32)), (.int (0 : Int32)), (.int (0 : Int32)), (.int (0 : Int32))] (.int (0 : Int32)) := Arv.set Ar207 q207 S207 Nn207 H207 G207 (fits_nar_char _) W207 7 rfl (Nat.le_of_ble_eq_true rfl)
            replace S_COMPACT_STRINGS := Sta.wr W207 S_COMPACT_STRINGS
            replace S_SIOOBE_FORMATTER := Sta.wr W207 S_SIOOBE_FORMATTER
            replace E_b191 := E_b191.wr W207
            have Z208 : n0 ≤ h207.size := Nat.le_trans Z206 (Keep.of_wr W207).1
            refine W.go st207 ?_
            have N207 := Fr.snoc X207 N205 g_b191
            show W p e below _ (T207.setTop (mkF m 572 #[.val (.int p0), .val (.int p1), .val (.int p2), .val (.int p3), .val (.int p4), .val (.int c1), .val (.int c2), .val (.int c3), .val (.int c4), .val (.int kk), .unset, .unset] [(.ref b191)]))
            refine W.go (fun _ hr => XS.dup X207.here hx rfl (hb hby at_572) rfl rfl hr) ?_
            show W p e below _ (T207.setTop (mkF m 573 #[.val (.int p0), .val (.int p1), .val (.int p2), .val (.int p3), .val (.int p4), .val (.int c1), .val (.int c2), .val (.int c3), .val (.int c4), .val (.int kk), .unset, .unset] [(.ref b191), (.ref b191)]))
            refine W.go (fun _ hr => XS.bipush X207.here hx rfl (hb hby at_573) hr) ?_
            show W p e below _ (T207.setTop (mkF m 575 #[.val (.int p0), .val (.int p1), .val (.int p2), .val (.int p3), .val (.int p4), .val (.int c1), .val (.int c2), .val (.int c3), .val (.int c4), .val (.int kk), .unset, .unset] [(.int (8 : Int32)), (.ref b191), (.ref b191)]))
            refine W.go (fun _ hr => XS.iload X207.here hx rfl (hb hby at_575) rfl hr) ?_
            show W p e below _ (T207.setTop (mkF m 577 #[.val (.int p0), .val (.int p1), .val (.int p2), .val (.int p3), .val (.int p4), .val (.int c1), .val (.int c2), .val (.int c3), .val (.int c4), .val (.int kk), .unset, .unset] [(.int c1), (.int (8 : Int32)), (.ref b191), (.ref b191)]))
            obtain ⟨cl209, Ar209, q209, S209, Nn209, H209, G209⟩ := V_b191
            have hin209 : ¬ ((8 : Int32) < 0 ∨ cl209.slots.size ≤ ((8 : Int32)).toNatClampNeg) := inb_of S209 ⟨by decide, by decide⟩
            obtain ⟨T209, h209, X209, e209, W209, st209⟩ := stC X207 hx hZ e207 Ar209 (j := (8 : Int32)) hin209 (g := (mkF m 577 #[.val (.int p0), .val (.int p1), .val (.int p2), .val (.int p3), .val (.int p4), .val (.int c1), .val (.int c2), .val (.int c3), .val (.int c4), .val (.int kk), .unset, .unset] [(.int c1), (.int (8 : Int32)), (.ref b191), (.ref b191)])) rfl rfl (hb hby at_577)
            replace V_b191 : Arv Z h209 b191 k191 .char (64 : Int32) [(.int (nar .char c1)), (.int (nar .char c2)), (.int (nar .char c3)), (.int (nar .char c4)), (.int (nar .char c1)), (.int (nar .char c2)), (.int (nar .char c3)), (.int (nar .char c4)), (.int (nar .char c1)), (.int (0 : Int32)), (.int (0 : Int32)), (.int (0 : Int32)), (.int (0 : Int32)), (.int (0 : Int32)), (.int (0 : Int32)), (.int (0 : Int32)), (.int (0 : Int32)), (.int (0 : Int32)), (.int (0 : Int32)), (.int (0 : Int32)), (.int (0 : Int32)), (.int (0 : Int32)), (.int (0 : Int32)), (.int (0 : Int32)), (.int (0 : Int32)), (.int (0 : Int32)), (.int (0 : Int32)), (.int (0 : Int32)), (.int (0 : Int32)), (.int (0 : Int32)), (.int (0 : Int32)), (.int (0 : Int32)), (.int (0 : Int32)), (.int (0 : Int32)), (.int (0 : Int32)), (.int (0 : Int32)), (.int (0 : Int32)), (.int (0 : Int32)), (.int (0 : Int32)), (.int (0 : Int32)), (.int (0 : Int32)), (.int (0 : Int32)), (.int (0 : Int32)), (.int (0 : Int32)), (.int (0 : Int32)), (.int (0 : Int32)), (.int (0 : Int32)), (.int (0 : Int32)), (.int (0 : Int32)), (.int (0 : Int32)), (.int (0 : Int32)), (.int (0 : Int32)), (.int (0 : Int32)), (.int (0 : Int32)), (.int (0 : Int32)), (.int (0 : Int32)), (.int (0 : Int32)), (.int (0 : Int32)), (.int (0 : Int32)), (.int (0 : Int32)), (.int (0 : Int32)), (.int (0 : Int32)), (.int (0 : Int32)), (.int (0 : Int32))] (.int (0 : Int32)) := Arv.set Ar209 q209 S209 Nn209 H209 G209 (fits_nar_char _) W209 8 rfl (Nat.le_of_ble_eq_true rfl)
            replace S_COMPACT_STRINGS := Sta.wr W209 S_COMPACT_STRINGS
            replace S_SIOOBE_FORMATTER := Sta.wr W209 S_SIOOBE_FORMATTER
            replace E_b191 := E_b191.wr W209
            have Z210 : n0 ≤ h209.size := Nat.le_trans Z208 (Keep.of_wr W209).1
            refine W.go st209 ?_
            have N209 := Fr.snoc X209 N207 g_b191
            show W p e below _ (T209.setTop (mkF m 578 #[.val (.int p0), .val (.int p1), .val (.int p2), .val (.int p3), .val (.int p4), .val (.int c1), .val (.int c2), .val (.int c3), .val (.int c4), .val (.int kk), .unset, .unset] [(.ref b191)]))
            refine W.go (fun _ hr => XS.dup X209.here hx rfl (hb hby at_578) rfl rfl hr) ?_
            show W p e below _ (T209.setTop (mkF m 579 #[.val (.int p0), .val (.int p1), .val (.int p2), .val (.int p3), .val (.int p4), .val (.int c1), .val (.int c2), .val (.int c3), .val (.int c4), .val (.int kk), .unset, .unset] [(.ref b191), (.ref b191)]))
            refine W.go (fun _ hr => XS.bipush X209.here hx rfl (hb hby at_579) hr) ?_
            show W p e below _ (T209.setTop (mkF m 581 #[.val (.int p0), .val (.int p1), .val (.int p2), .val (.int p3), .val (.int p4), .val (.int c1), .val (.int c2), .val (.int c3), .val (.int c4), .val (.int kk), .unset, .unset] [(.int (9 : Int32)), (.ref b191), (.ref b191)]))
            refine W.go (fun _ hr => XS.iload X209.here hx rfl (hb hby at_581) rfl hr) ?_
            show W p e below _ (T209.setTop (mkF m 583 #[.val (.int p0), .val (.int p1), .val (.int p2), .val (.int p3), .val (.int p4), .val (.int c1), .val (.int c2), .val (.int c3), .val (.int c4), .val (.int kk), .unset, .unset] [(.int c2), (.int (9 : Int32)), (.ref b191), (.ref b191)]))
            obtain ⟨cl211, Ar211, q211, S211, Nn211, H211, G211⟩ := V_b191
            have hin211 : ¬ ((9 : Int32) < 0 ∨ cl211.slots.size ≤ ((9 : Int32)).toNatClampNeg) := inb_of S211 ⟨by decide, by decide⟩
            obtain ⟨T211, h211, X211, e211, W211, st211⟩ := stC X209 hx hZ e209 Ar211 (j := (9 : Int32)) hin211 (g := (mkF m 583 #[.val (.int p0), .val (.int p1), .val (.int p2), .val (.int p3), .val (.int p4), .val (.int c1), .val (.int c2), .val (.int c3), .val (.int c4), .val (.int kk), .unset, .unset] [(.int c2), (.int (9 : Int32)), (.ref b191), (.ref b191)])) rfl rfl (hb hby at_583)
            replace V_b191 : Arv Z h211 b191 k191 .char (64 : Int32) [(.int (nar .char c1)), (.int (nar .char c2)), (.int (nar .char c3)), (.int (nar .char c4)), (.int (nar .char c1)), (.int (nar .char c2)), (.int (nar .char c3)), (.int (nar .char c4)), (.int (nar .char c1)), (.int (nar .char c2)), (.int (0 : Int32)), (.int (0 : Int32)), (.int (0 : Int32)), (.int (0 : Int32)), (.int (0 : Int32)), (.int (0 : Int32)), (.int (0 : Int32)), (.int (0 : Int32)), (.int (0 : Int32)), (.int (0 : Int32)), (.int (0 : Int32)), (.int (0 : Int32)), (.int (0 : Int32)), (.int (0 : Int32)), (.int (0 : Int32)), (.int (0 : Int32)), (.int (0 : Int32)), (.int (0 : Int32)), (.int (0 : Int32)), (.int (0 : Int32)), (.int (0 : Int32)), (.int (0 : Int32)), (.int (0 : Int32)), (.int (0 : Int32)), (.int (0 : Int32)), (.int (0 : Int32)), (.int (0 : Int32)), (.int (0 : Int32)), (.int (0 : Int32)), (.int (0 : Int32)), (.int (0 : Int32)), (.int (0 : Int32)), (.int (0 : Int32)), (.int (0 : Int32)), (.int (0 : Int32)), (.int (0 : Int32)), (.int (0 : Int32)), (.int (0 : Int32)), (.int (0 : Int32)), (.int (0 : Int32)), (.int (0 : Int32)), (.int (0 : Int32)), (.int (0 : Int32)), (.int (0 : Int32)), (.int (0 : Int32)), (.int (0 : Int32)), (.int (0 : Int32)), (.int (0 : Int32)), (.int (0 : Int32)), (.int (0 : Int32)), (.int (0 : Int32)), (.int (0 : Int32)), (.int (0 : Int32)), (.int (0 : Int32))] (.int (0 : Int32)) := Arv.set Ar211 q211 S211 Nn211 H211 G211 (fits_nar_char _) W211 9 rfl (Nat.le_of_ble_eq_true rfl)
            replace S_COMPACT_STRINGS := Sta.wr W211 S_COMPACT_STRINGS
            replace S_SIOOBE_FORMATTER := Sta.wr W211 S_SIOOBE_FORMATTER
            replace E_b191 := E_b191.wr W211
            have Z212 : n0 ≤ h211.size := Nat.le_trans Z210 (Keep.of_wr W211).1
            refine W.go st211 ?_
            have N211 := Fr.snoc X211 N209 g_b191
            show W p e below _ (T211.setTop (mkF m 584 #[.val (.int p0), .val (.int p1), .val (.int p2), .val (.int p3), .val (.int p4), .val (.int c1), .val (.int c2), .val (.int c3), .val (.int c4), .val (.int kk), .unset, .unset] [(.ref b191)]))
            refine W.go (fun _ hr => XS.dup X211.here hx rfl (hb hby at_584) rfl rfl hr) ?_
            show W p e below _ (T211.setTop (mkF m 585 #[.val (.int p0), .val (.int p1), .val (.int p2), .val (.int p3), .val (.int p4), .val (.int c1), .val (.int c2), .val (.int c3), .val (.int c4), .val (.int kk), .unset, .unset] [(.ref b191), (.ref b191)]))
            refine W.go (fun _ hr => XS.bipush X211.here hx rfl (hb hby at_585) hr) ?_
            show W p e below _ (T211.setTop (mkF m 587 #[.val (.int p0), .val (.int p1), .val (.int p2), .val (.int p3), .val (.int p4), .val (.int c1), .val (.int c2), .val (.int c3), .val (.int c4), .val (.int kk), .unset, .unset] [(.int (10 : Int32)), (.ref b191), (.ref b191)]))
            refine W.go (fun _ hr => XS.iload X211.here hx rfl (hb hby at_587) rfl hr) ?_
            show W p e below _ (T211.setTop (mkF m 589 #[.val (.int p0), .val (.int p1), .val (.int p2), .val (.int p3), .val (.int p4), .val (.int c1), .val (.int c2), .val (.int c3), .val (.int c4), .val (.int kk), .unset, .unset] [(.int c3), (.int (10 : Int32)), (.ref b191), (.ref b191)]))
            obtain ⟨cl213, Ar213, q213, S213, Nn213, H213, G213⟩ := V_b191
            have hin213 : ¬ ((10 : Int32) < 0 ∨ cl213.slots.size ≤ ((10 : Int32)).toNatClampNeg) := inb_of S213 ⟨by decide, by decide⟩
            obtain ⟨T213, h213, X213, e213, W213, st213⟩ := stC X211 hx hZ e211 Ar213 (j := (10 : Int32)) hin213 (g := (mkF m 589 #[.val (.int p0), .val (.int p1), .val (.int p2), .val (.int p3), .val (.int p4), .val (.int c1), .val (.int c2), .val (.int c3), .val (.int c4), .val (.int kk), .unset, .unset] [(.int c3), (.int (10 : Int32)), (.ref b191), (.ref b191)])) rfl rfl (hb hby at_589)
            replace V_b191 : Arv Z h213 b191 k191 .char (64 : Int32) [(.int (nar .char c1)), (.int (nar .char c2)), (.int (nar .char c3)), (.int (nar .char c4)), (.int (nar .char c1)), (.int (nar .char c2)), (.int (nar .char c3)), (.int (nar .char c4)), (.int (nar .char c1)), (.int (nar .char c2)), (.int (nar .char c3)), (.int (0 : Int32)), (.int (0 : Int32)), (.int (0 : Int32)), (.int (0 : Int32)), (.int (0 : Int32)), (.int (0 : Int32)), (.int (0 : Int32)), (.int (0 : Int32)), (.int (0 : Int32)), (.int (0 : Int32)), (.int (0 : Int32)), (.int (0 : Int32)), (.int (0 : Int32)), (.int (0 : Int32)), (.int (0 : Int32)), (.int (0 : Int32)), (.int (0 : Int32)), (.int (0 : Int32)), (.int (0 : Int32)), (.int (0 : Int32)), (.int (0 : Int32)), (.int (0 : Int32)), (.int (0 : Int32)), (.int (0 : Int32)), (.int (0 : Int32)), (.int (0 : Int32)), (.int (0 : Int32)), (.int (0 : Int32)), (.int (0 : Int32)), (.int (0 : Int32)), (.int (0 : Int32)), (.int (0 : Int32)), (.int (0 : Int32)), (.int (0 : Int32)), (.int (0 : Int32)), (.int (0 : Int32)), (.int (0 : Int32)), (.int (0 : Int32)), (.int (0 : Int32)), (.int (0 : Int32)), (.int (0 : Int32)), (.int (0 : Int32)), (.int (0 : Int32)), (.int (0 : Int32)), (.int (0 : Int32)), (.int (0 : Int32)), (.int (0 : Int32)), (.int (0 : Int32)), (.int (0 : Int32)), (.int (0 : Int32)), (.int (0 : Int32)), (.int (0 : Int32)), (.int (0 : Int32))] (.int (0 : Int32)) := Arv.set Ar213 q213 S213 Nn213 H213 G213 (fits_nar_char _) W213 10 rfl (Nat.le_of_ble_eq_true rfl)
            replace S_COMPACT_STRINGS := Sta.wr W213 S_COMPACT_STRINGS
            replace S_SIOOBE_FORMATTER := Sta.wr W213 S_SIOOBE_FORMATTER
            replace E_b191 := E_b191.wr W213
            have Z214 : n0 ≤ h213.size := Nat.le_trans Z212 (Keep.of_wr W213).1
            refine W.go st213 ?_
            have N213 := Fr.snoc X213 N211 g_b191
            show W p e below _ (T213.setTop (mkF m 590 #[.val (.int p0), .val (.int p1), .val (.int p2), .val (.int p3), .val (.int p4), .val (.int c1), .val (.int c2), .val (.int c3), .val (.int c4), .val (.int kk), .unset, .unset] [(.ref b191)]))
            refine W.go (fun _ hr => XS.dup X213.here hx rfl (hb hby at_590) rfl rfl hr) ?_
            show W p e below _ (T213.setTop (mkF m 591 #[.val (.int p0), .val (.int p1), .val (.int p2), .val (.int p3), .val (.int p4), .val (.int c1), .val (.int c2), .val (.int c3), .val (.int c4), .val (.int kk), .unset, .unset] [(.ref b191), (.ref b191)]))
            refine W.go (fun _ hr => XS.bipush X213.here hx rfl (hb hby at_591) hr) ?_
            show W p e below _ (T213.setTop (mkF m 593 #[.val (.int p0), .val (.int p1), .val (.int p2), .val (.int p3), .val (.int p4), .val (.int c1), .val (.int c2), .val (.int c3), .val (.int c4), .val (.int kk), .unset, .unset] [(.int (11 : Int32)), (.ref b191), (.ref b191)]))
            refine W.go (fun _ hr => XS.iload X213.here hx rfl (hb hby at_593) rfl hr) ?_
            show W p e below _ (T213.setTop (mkF m 595 #[.val (.int p0), .val (.int p1), .val (.int p2), .val (.int p3), .val (.int p4), .val (.int c1), .val (.int c2), .val (.int c3), .val (.int c4), .val (.int kk), .unset, .unset] [(.int c4), (.int (11 : Int32)), (.ref b191), (.ref b191)]))
            obtain ⟨cl215, Ar215, q215, S215, Nn215, H215, G215⟩ := V_b191
            have hin215 : ¬ ((11 : Int32) < 0 ∨ cl215.slots.size ≤ ((11 : Int32)).toNatClampNeg) := inb_of S215 ⟨by decide, by decide⟩
            obtain ⟨T215, h215, X215, e215, W215, st215⟩ := stC X213 hx hZ e213 Ar215 (j := (11 : Int32)) hin215 (g := (mkF m 595 #[.val (.int p0), .val (.int p1), .val (.int p2), .val (.int p3), .val (.int p4), .val (.int c1), .val (.int c2), .val (.int c3), .val (.int c4), .val (.int kk), .unset, .unset] [(.int c4), (.int (11 : Int32)), (.ref b191), (.ref b191)])) rfl rfl (hb hby at_595)
            replace V_b191 : Arv Z h215 b191 k191 .char (64 : Int32) [(.int (nar .char c1)), (.int (nar .char c2)), (.int (nar .char c3)), (.int (nar .char c4)), (.int (nar .char c1)), (.int (nar .char c2)), (.int (nar .char c3)), (.int (nar .char c4)), (.int (nar .char c1)), (.int (nar .char c2)), (.int (nar .char c3)), (.int (nar .char c4)), (.int (0 : Int32)), (.int (0 : Int32)), (.int (0 : Int32)), (.int (0 : Int32)), (.int (0 : Int32)), (.int (0 : Int32)), (.int (0 : Int32)), (.int (0 : Int32)), (.int (0 : Int32)), (.int (0 : Int32)), (.int (0 : Int32)), (.int (0 : Int32)), (.int (0 : Int32)), (.int (0 : Int32)), (.int (0 : Int32)), (.int (0 : Int32)), (.int (0 : Int32)), (.int (0 : Int32)), (.int (0 : Int32)), (.int (0 : Int32)), (.int (0 : Int32)), (.int (0 : Int32)), (.int (0 : Int32)), (.int (0 : Int32)), (.int (0 : Int32)), (.int (0 : Int32)), (.int (0 : Int32)), (.int (0 : Int32)), (.int (0 : Int32)), (.int (0 : Int32)), (.int (0 : Int32)), (.int (0 : Int32)), (.int (0 : Int32)), (.int (0 : Int32)), (.int (0 : Int32)), (.int (0 : Int32)), (.int (0 : Int32)), (.int (0 : Int32)), (.int (0 : Int32)), (.int (0 : Int32)), (.int (0 : Int32)), (.int (0 : Int32)), (.int (0 : Int32)), (.int (0 : Int32)), (.int (0 : Int32)), (.int (0 : Int32)), (.int (0 : Int32)), (.int (0 : Int32)), (.int (0 : Int32)), (.int (0 : Int32)), (.int (0 : Int32)), (.int (0 : Int32))] (.int (0 : Int32)) := Arv.set Ar215 q215 S215 Nn215 H215 G215 (fits_nar_char _) W215 11 rfl (Nat.le_of_ble_eq_true rfl)
            replace S_COMPACT_STRINGS := Sta.wr W215 S_COMPACT_STRINGS
            replace S_SIOOBE_FORMATTER := Sta.wr W215 S_SIOOBE_FORMATTER
            replace E_b191 := E_b191.wr W215
            have Z216 : n0 ≤ h215.size := Nat.le_trans Z214 (Keep.of_wr W215).1
            refine W.go st215 ?_
            have N215 := Fr.snoc X215 N213 g_b191
            show W p e below _ (T215.setTop (mkF m 596 #[.val (.int p0), .val (.int p1), .val (.int p2), .val (.int p3), .val (.int p4), .val (.int c1), .val (.int c2), .val (.int c3), .val (.int c4), .val (.int kk), .unset, .unset] [(.ref b191)]))
            refine W.go (fun _ hr => XS.dup X215.here hx rfl (hb hby at_596) rfl rfl hr) ?_
            show W p e below _ (T215.setTop (mkF m 597 #[.val (.int p0), .val (.int p1), .val (.int p2), .val (.int p3), .val (.int p4), .val (.int c1), .val (.int c2), .val (.int c3), .val (.int c4), .val (.int kk), .unset, .unset] [(.ref b191), (.ref b191)]))
            refine W.go (fun _ hr => XS.bipush X215.here hx rfl (hb hby at_597) hr) ?_
            show W p e below _ (T215.setTop (mkF m 599 #[.val (.int p0), .val (.int p1), .val (.int p2), .val (.int p3), .val (.int p4), .val (.int c1), .val (.int c2), .val (.int c3), .val (.int c4), .val (.int kk), .unset, .unset] [(.int (12 : Int32)), (.ref b191), (.ref b191)]))
            refine W.go (fun _ hr => XS.iload X215.here hx rfl (hb hby at_599) rfl hr) ?_
            show W p e below _ (T215.setTop (mkF m 601 #[.val (.int p0), .val (.int p1), .val (.int p2), .val (.int p3), .val (.int p4), .val (.int c1), .val (.int c2), .val (.int c3), .val (.int c4), .val (.int kk), .unset, .unset] [(.int c1), (.int (12 : Int32)), (.ref b191), (.ref b191)]))
            obtain ⟨cl217, Ar217, q217, S217, Nn217, H217, G217⟩ := V_b191
            have hin217 : ¬ ((12 : Int32) < 0 ∨ cl217.slots.size ≤ ((12 : Int32)).toNatClampNeg) := inb_of S217 ⟨by decide, by decide⟩
            obtain ⟨T217, h217, X217, e217, W217, st217⟩ := stC X215 hx hZ e215 Ar217 (j := (12 : Int32)) hin217 (g := (mkF m 601 #[.val (.int p0), .val (.int p1), .val (.int p2), .val (.int p3), .val (.int p4), .val (.int c1), .val (.int c2), .val (.int c3), .val (.int c4), .val (.int kk), .unset, .unset] [(.int c1), (.int (12 : Int32)), (.ref b191), (.ref b191)])) rfl rfl (hb hby at_601)
            replace V_b191 : Arv Z h217 b191 k191 .char (64 : Int32) [(.int (nar .char c1)), (.int (nar .char c2)), (.int (nar .char c3)), (.int (nar .char c4)), (.int (nar .char c1)), (.int (nar .char c2)), (.int (nar .char c3)), (.int (nar .char c4)), (.int (nar .char c1)), (.int (nar .char c2)), (.int (nar .char c3)), (.int (nar .char c4)), (.int (nar .char c1)), (.int (0 : Int32)), (.int (0 : Int32)), (.int (0 : Int32)), (.int (0 : Int32)), (.int (0 : Int32)), (.int (0 : Int32)), (.int (0 : Int32)), (.int (0 : Int32)), (.int (0 : Int32)), (.int (0 : Int32)), (.int (0 : Int32)), (.int (0 : Int32)), (.int (0 : Int32)), (.int (0 : Int32)), (.int (0 : Int32)), (.int (0 : Int32)), (.int (0 : Int32)), (.int (0 : Int32)), (.int (0 : Int32)), (.int (0 : Int32)), (.int (0 : Int32)), (.int (0 : Int32)), (.int (0 : Int32)), (.int (0 : Int32)), (.int (0 : Int32)), (.int (0 : Int32)), (.int (0 : Int32)), (.int (0 : Int32)), (.int (0 : Int32)), (.int (0 : Int32)), (.int (0 : Int32)), (.int (0 : Int32)), (.int (0 : Int32)), (.int (0 : Int32)), (.int (0 : Int32)), (.int (0 : Int32)), (.int (0 : Int32)), (.int (0 : Int32)), (.int (0 : Int32)), (.int (0 : Int32)), (.int (0 : Int32)), (.int (0 : Int32)), (.int (0 : Int32)), (.int (0 : Int32)), (.int (0 : Int32)), (.int (0 : Int32)), (.int (0 : Int32)), (.int (0 : Int32)), (.int (0 : Int32)), (.int (0 : Int32)), (.int (0 : Int32))] (.int (0 : Int32)) := Arv.set Ar217 q217 S217 Nn217 H217 G217 (fits_nar_char _) W217 12 rfl (Nat.le_of_ble_eq_true rfl)
            replace S_COMPACT_STRINGS := Sta.wr W217 S_COMPACT_STRINGS
            replace S_SIOOBE_FORMATTER := Sta.wr W217 S_SIOOBE_FORMATTER
            replace E_b191 := E_b191.wr W217
            have Z218 : n0 ≤ h217.size := Nat.le_trans Z216 (Keep.of_wr W217).1
            refine W.go st217 ?_
            have N217 := Fr.snoc X217 N215 g_b191
            show W p e below _ (T217.setTop (mkF m 602 #[.val (.int p0), .val (.int p1), .val (.int p2), .val (.int p3), .val (.int p4), .val (.int c1), .val (.int c2), .val (.int c3), .val (.int c4), .val (.int kk), .unset, .unset] [(.ref b191)]))
            refine W.go (fun _ hr => XS.dup X217.here hx rfl (hb hby at_602) rfl rfl hr) ?_
            show W p e below _ (T217.setTop (mkF m 603 #[.val (.int p0), .val (.int p1), .val (.int p2), .val (.int p3), .val (.int p4), .val (.int c1), .val (.int c2), .val (.int c3), .val (.int c4), .val (.int kk), .unset, .unset] [(.ref b191), (.ref b191)]))
            refine W.go (fun _ hr => XS.bipush X217.here hx rfl (hb hby at_603) hr) ?_
            show W p e below _ (T217.setTop (mkF m 605 #[.val (.int p0), .val (.int p1), .val (.int p2), .val (.int p3), .val (.int p4), .val (.int c1), .val (.int c2), .val (.int c3), .val (.int c4), .val (.int kk), .unset, .unset] [(.int (13 : Int32)), (.ref b191), (.ref b191)]))
            refine W.go (fun _ hr => XS.iload X217.here hx rfl (hb hby at_605) rfl hr) ?_
            show W p e below _ (T217.setTop (mkF m 607 #[.val (.int p0), .val (.int p1), .val (.int p2), .val (.int p3), .val (.int p4), .val (.int c1), .val (.int c2), .val (.int c3), .val (.int c4), .val (.int kk), .unset, .unset] [(.int c2), (.int (13 : Int32)), (.ref b191), (.ref b191)]))
            obtain ⟨cl219, Ar219, q219, S219, Nn219, H219, G219⟩ := V_b191
            have hin219 : ¬ ((13 : Int32) < 0 ∨ cl219.slots.size ≤ ((13 : Int32)).toNatClampNeg) := inb_of S219 ⟨by decide, by decide⟩
            obtain ⟨T219, h219, X219, e219, W219, st219⟩ := stC X217 hx hZ e217 Ar219 (j := (13 : Int32)) hin219 (g := (mkF m 607 #[.val (.int p0), .val (.int p1), .val (.int p2), .val (.int p3), .val (.int p4), .val (.int c1), .val (.int c2), .val (.int c3), .val (.int c4), .val (.int kk), .unset, .unset] [(.int c2), (.int (13 : Int32)), (.ref b191), (.ref b191)])) rfl rfl (hb hby at_607)
            replace V_b191 : Arv Z h219 b191 k191 .char (64 : Int32) [(.int (nar .char c1)), (.int (nar .char c2)), (.int (nar .char c3)), (.int (nar .char c4)), (.int (nar .char c1)), (.int (nar .char c2)), (.int (nar .char c3)), (.int (nar .char c4)), (.int (nar .char c1)), (.int (nar .char c2)), (.int (nar .char c3)), (.int (nar .char c4)), (.int (nar .char c1)), (.int (nar .char c2)), (.int (0 : Int32)), (.int (0 : Int32)), (.int (0 : Int32)), (.int (0 : Int32)), (.int (0 : Int32)), (.int (0 : Int32)), (.int (0 : Int32)), (.int (0 : Int32)), (.int (0 : Int32)), (.int (0 : Int32)), (.int (0 : Int32)), (.int (0 : Int32)), (.int (0 : Int32)), (.int (0 : Int32)), (.int (0 : Int32)), (.int (0 : Int32)), (.int (0 : Int32)), (.int (0 : Int32)), (.int (0 : Int32)), (.int (0 : Int32)), (.int (0 : Int32)), (.int (0 : Int32)), (.int (0 : Int32)), (.int (0 : Int32)), (.int (0 : Int32)), (.int (0 : Int32)), (.int (0 : Int32)), (.int (0 : Int32)), (.int (0 : Int32)), (.int (0 : Int32)), (.int (0 : Int32)), (.int (0 : Int32)), (.int (0 : Int32)), (.int (0 : Int32)), (.int (0 : Int32)), (.int (0 : Int32)), (.int (0 : Int32)), (.int (0 : Int32)), (.int (0 : Int32)), (.int (0 : Int32)), (.int (0 : Int32)), (.int (0 : Int32)), (.int (0 : Int32)), (.int (0 : Int32)), (.int (0 : Int32)), (.int (0 : Int32)), (.int (0 : Int32)), (.int (0 : Int32)), (.int (0 : Int32)), (.int (0 : Int32))] (.int (0 : Int32)) := Arv.set Ar219 q219 S219 Nn219 H219 G219 (fits_nar_char _) W219 13 rfl (Nat.le_of_ble_eq_true rfl)
            replace S_COMPACT_STRINGS := Sta.wr W219 S_COMPACT_STRINGS
            replace S_SIOOBE_FORMATTER := Sta.wr W219 S_SIOOBE_FORMATTER
            replace E_b191 := E_b191.wr W219
            have Z220 : n0 ≤ h219.size := Nat.le_trans Z218 (Keep.of_wr W219).1
            refine W.go st219 ?_
            have N219 := Fr.snoc X219 N217 g_b191
            show W p e below _ (T219.setTop (mkF m 608 #[.val (.int p0), .val (.int p1), .val (.int p2), .val (.int p3), .val (.int p4), .val (.int c1), .val (.int c2), .val (.int c3), .val (.int c4), .val (.int kk), .unset, .unset] [(.ref b191)]))
            refine W.go (fun _ hr => XS.dup X219.here hx rfl (hb hby at_608) rfl rfl hr) ?_
            show W p e below _ (T219.setTop (mkF m 609 #[.val (.int p0), .val (.int p1), .val (.int p2), .val (.int p3), .val (.int p4), .val (.int c1), .val (.int c2), .val (.int c3), .val (.int c4), .val (.int kk), .unset, .unset] [(.ref b191), (.ref b191)]))
            refine W.go (fun _ hr => XS.bipush X219.here hx rfl (hb hby at_609) hr) ?_
            show W p e below _ (T219.setTop (mkF m 611 #[.val (.int p0), .val (.int p1), .val (.int p2), .val (.int p3), .val (.int p4), .val (.int c1), .val (.int c2), .val (.int c3), .val (.int c4), .val (.int kk), .unset, .unset] [(.int (14 : Int32)), (.ref b191), (.ref b191)]))
            refine W.go (fun _ hr => XS.iload X219.here hx rfl (hb hby at_611) rfl hr) ?_
            show W p e below _ (T219.setTop (mkF m 613 #[.val (.int p0), .val (.int p1), .val (.int p2), .val (.int p3), .val (.int p4), .val (.int c1), .val (.int c2), .val (.int c3), .val (.int c4), .val (.int kk), .unset, .unset] [(.int c3), (.int (14 : Int32)), (.ref b191), (.ref b191)]))
            obtain ⟨cl221, Ar221, q221, S221, Nn221, H221, G221⟩ := V_b191
            have hin221 : ¬ ((14 : Int32) < 0 ∨ cl221.slots.size ≤ ((14 : Int32)).toNatClampNeg) := inb_of S221 ⟨by decide, by decide⟩
            obtain ⟨T221, h221, X221, e221, W221, st221⟩ := stC X219 hx hZ e219 Ar221 (j := (14 : Int32)) hin221 (g := (mkF m 613 #[.val (.int p0), .val (.int p1), .val (.int p2), .val (.int p3), .val (.int p4), .val (.int c1), .val (.int c2), .val (.int c3), .val (.int c4), .val (.int kk), .unset, .unset] [(.int c3), (.int (14 : Int32)), (.ref b191), (.ref b191)])) rfl rfl (hb hby at_613)
            replace V_b191 : Arv Z h221 b191 k191 .char (64 : Int32) [(.int (nar .char c1)), (.int (nar .char c2)), (.int (nar .char c3)), (.int (nar .char c4)), (.int (nar .char c1)), (.int (nar .char c2)), (.int (nar .char c3)), (.int (nar .char c4)), (.int (nar .char c1)), (.int (nar .char c2)), (.int (nar .char c3)), (.int (nar .char c4)), (.int (nar .char c1)), (.int (nar .char c2)), (.int (nar .char c3)), (.int (0 : Int32)), (.int (0 : Int32)), (.int (0 : Int32)), (.int (0 : Int32)), (.int (0 : Int32)), (.int (0 : Int32)), (.int (0 : Int32)), (.int (0 : Int32)), (.int (0 : Int32)), (.int (0 : Int32)), (.int (0 : Int32)), (.int (0 : Int32)), (.int (0 : Int32)), (.int (0 : Int32)), (.int (0 : Int32)), (.int (0 : Int32)), (.int (0 : Int32)), (.int (0 : Int32)), (.int (0 : Int32)), (.int (0 : Int32)), (.int (0 : Int32)), (.int (0 : Int32)), (.int (0 : Int32)), (.int (0 : Int32)), (.int (0 : Int32)), (.int (0 : Int32)), (.int (0 : Int32)), (.int (0 : Int32)), (.int (0 : Int32)), (.int (0 : Int32)), (.int (0 : Int32)), (.int (0 : Int32)), (.int (0 : Int32)), (.int (0 : Int32)), (.int (0 : Int32)), (.int (0 : Int32)), (.int (0 : Int32)), (.int (0 : Int32)), (.int (0 : Int32)), (.int (0 : Int32)), (.int (0 : Int32)), (.int (0 : Int32)), (.int (0 : Int32)), (.int (0 : Int32)), (.int (0 : Int32)), (.int (0 : Int32)), (.int (0 : Int32)), (.int (0 : Int32)), (.int (0 : Int32))] (.int (0 : Int32)) := Arv.set Ar221 q221 S221 Nn221 H221 G221 (fits_nar_char _) W221 14 rfl (Nat.le_of_ble_eq_true rfl)
            replace S_COMPACT_STRINGS := Sta.wr W221 S_COMPACT_STRINGS
            replace S_SIOOBE_FORMATTER := Sta.wr W221 S_SIOOBE_FORMATTER
            replace E_b191 := E_b191.wr W221
            have Z222 : n0 ≤ h221.size := Nat.le_trans Z220 (Keep.of_wr W221).1
            refine W.go st221 ?_
            have N221 := Fr.snoc X221 N219 g_b191
            show W p e below _ (T221.setTop (mkF m 614 #[.val (.int p0), .val (.int p1), .val (.int p2), .val (.int p3), .val (.int p4), .val (.int c1), .val (.int c2), .val (.int c3), .val (.int c4), .val (.int kk), .unset, .unset] [(.ref b191)]))
            refine W.go (fun _ hr => XS.dup X221.here hx rfl (hb hby at_614) rfl rfl hr) ?_
            show W p e below _ (T221.setTop (mkF m 615 #[.val (.int p0), .val (.int p1), .val (.int p2), .val (.int p3), .val (.int p4), .val (.int c1), .val (.int c2), .val (.int c3), .val (.int c4), .val (.int kk), .unset, .unset] [(.ref b191), (.ref b191)]))
            refine W.go (fun _ hr => XS.bipush X221.here hx rfl (hb hby at_615) hr) ?_
            show W p e below _ (T221.setTop (mkF m 617 #[.val (.int p0), .val (.int p1), .val (.int p2), .val (.int p3), .val (.int p4), .val (.int c1), .val (.int c2), .val (.int c3), .val (.int c4), .val (.int kk), .unset, .unset] [(.int (15 : Int32)), (.ref b191), (.ref b191)]))
            refine W.go (fun _ hr => XS.iload X221.here hx rfl (hb hby at_617) rfl hr) ?_
            show W p e below _ (T221.setTop (mkF m 619 #[.val (.int p0), .val (.int p1), .val (.int p2), .val (.int p3), .val (.int p4), .val (.int c1), .val (.int c2), .val (.int c3), .val (.int c4), .val (.int kk), .unset, .unset] [(.int c4), (.int (15 : Int32)), (.ref b191), (.ref b191)]))
            obtain ⟨cl223, Ar223, q223, S223, Nn223, H223, G223⟩ := V_b191
            have hin223 : ¬ ((15 : Int32) < 0 ∨ cl223.slots.size ≤ ((15 : Int32)).toNatClampNeg) := inb_of S223 ⟨by decide, by decide⟩
            obtain ⟨T223, h223, X223, e223, W223, st223⟩ := stC X221 hx hZ e221 Ar223 (j := (15 : Int32)) hin223 (g := (mkF m 619 #[.val (.int p0), .val (.int p1), .val (.int p2), .val (.int p3), .val (.int p4), .val (.int c1), .val (.int c2), .val (.int c3), .val (.int c4), .val (.int kk), .unset, .unset] [(.int c4), (.int (15 : Int32)), (.ref b191), (.ref b191)])) rfl rfl (hb hby at_619)
            replace V_b191 : Arv Z h223 b191 k191 .char (64 : Int32) [(.int (nar .char c1)), (.int (nar .char c2)), (.int (nar .char c3)), (.int (nar .char c4)), (.int (nar .char c1)), (.int (nar .char c2)), (.int (nar .char c3)), (.int (nar .char c4)), (.int (nar .char c1)), (.int (nar .char c2)), (.int (nar .char c3)), (.int (nar .char c4)), (.int (nar .char c1)), (.int (nar .char c2)), (.int (nar .char c3)), (.int (nar .char c4)), (.int (0 : Int32)), (.int (0 : Int32)), (.int (0 : Int32)), (.int (0 : Int32)), (.int (0 : Int32)), (.int (0 : Int32)), (.int (0 : Int32)), (.int (0 : Int32)), (.int (0 : Int32)), (.int (0 : Int32)), (.int (0 : Int32)), (.int (0 : Int32)), (.int (0 : Int32)), (.int (0 : Int32)), (.int (0 : Int32)), (.int (0 : Int32)), (.int (0 : Int32)), (.int (0 : Int32)), (.int (0 : Int32)), (.int (0 : Int32)), (.int (0 : Int32)), (.int (0 : Int32)), (.int (0 : Int32)), (.int (0 : Int32)), (.int (0 : Int32)), (.int (0 : Int32)), (.int (0 : Int32)), (.int (0 : Int32)), (.int (0 : Int32)), (.int (0 : Int32)), (.int (0 : Int32)), (.int (0 : Int32)), (.int (0 : Int32)), (.int (0 : Int32)), (.int (0 : Int32)), (.int (0 : Int32)), (.int (0 : Int32)), (.int (0 : Int32)), (.int (0 : Int32)), (.int (0 : Int32)), (.int (0 : Int32)), (.int (0 : Int32)), (.int (0 : Int32)), (.int (0 : Int32)), (.int (0 : Int32)), (.int (0 : Int32)), (.int (0 : Int32)), (.int (0 : Int32))] (.int (0 : Int32)) := Arv.set Ar223 q223 S223 Nn223 H223 G223 (fits_nar_char _) W223 15 rfl (Nat.le_of_ble_eq_true rfl)
            replace S_COMPACT_STRINGS := Sta.wr W223 S_COMPACT_STRINGS
            replace S_SIOOBE_FORMATTER := Sta.wr W223 S_SIOOBE_FORMATTER
            replace E_b191 := E_b191.wr W223
            have Z224 : n0 ≤ h223.size := Nat.le_trans Z222 (Keep.of_wr W223).1
            refine W.go st223 ?_
            have N223 := Fr.snoc X223 N221 g_b191
            show W p e below _ (T223.setTop (mkF m 620 #[.val (.int p0), .val (.int p1), .val (.int p2), .val (.int p3), .val (.int p4), .val (.int c1), .val (.int c2), .val (.int c3), .val (.int c4), .val (.int kk), .unset, .unset] [(.ref b191)]))
            refine W.go (fun _ hr => XS.dup X223.here hx rfl (hb hby at_620) rfl rfl hr) ?_
            show W p e below _ (T223.setTop (mkF m 621 #[.val (.int p0), .val (.int p1), .val (.int p2), .val (.int p3), .val (.int p4), .val (.int c1), .val (.int c2), .val (.int c3), .val (.int c4), .val (.int kk), .unset, .unset] [(.ref b191), (.ref b191)]))
            refine W.go (fun _ hr => XS.bipush X223.here hx rfl (hb hby at_621) hr) ?_
            show W p e below _ (T223.setTop (mkF m 623 #[.val (.int p0), .val (.int p1), .val (.int p2), .val (.int p3), .val (.int p4), .val (.int c1), .val (.int c2), .val (.int c3), .val (.int c4), .val (.int kk), .unset, .unset] [(.int (16 : Int32)), (.ref b191), (.ref b191)]))
            refine W.go (fun _ hr => XS.iload X223.here hx rfl (hb hby at_623) rfl hr) ?_
            show W p e below _ (T223.setTop (mkF m 625 #[.val (.int p0), .val (.int p1), .val (.int p2), .val (.int p3), .val (.int p4), .val (.int c1), .val (.int c2), .val (.int c3), .val (.int c4), .val (.int kk), .unset, .unset] [(.int c1), (.int (16 : Int32)), (.ref b191), (.ref b191)]))
            obtain ⟨cl225, Ar225, q225, S225, Nn225, H225, G225⟩ := V_b191
            have hin225 : ¬ ((16 : Int32) < 0 ∨ cl225.slots.size ≤ ((16 : Int32)).toNatClampNeg) := inb_of S225 ⟨by decide, by decide⟩
            obtain ⟨T225, h225, X225, e225, W225, st225⟩ := stC X223 hx hZ e223 Ar225 (j := (16 : Int32)) hin225 (g := (mkF m 625 #[.val (.int p0), .val (.int p1), .val (.int p2), .val (.int p3), .val (.int p4), .val (.int c1), .val (.int c2), .val (.int c3), .val (.int c4), .val (.int kk), .unset, .unset] [(.int c1), (.int (16 : Int32)), (.ref b191), (.ref b191)])) rfl rfl (hb hby at_625)
            replace V_b191 : Arv Z h225 b191 k191 .char (64 : Int32) [(.int (nar .char c1)), (.int (nar .char c2)), (.int (nar .char c3)), (.int (nar .char c4)), (.int (nar .char c1)), (.int (nar .char c2)), (.int (nar .char c3)), (.int (nar .char c4)), (.int (nar .char c1)), (.int (nar .char c2)), (.int (nar .char c3)), (.int (nar .char c4)), (.int (nar .char c1)), (.int (nar .char c2)), (.int (nar .char c3)), (.int (nar .char c4)), (.int (nar .char c1)), (.int (0 : Int32)), (.int (0 : Int32)), (.int (0 : Int32)), (.int (0 : Int32)), (.int (0 : Int32)), (.int (0 : Int32)), (.int (0 : Int32)), (.int (0 : Int32)), (.int (0 : Int32)), (.int (0 : Int32)), (.int (0 : Int32)), (.int (0 : Int32)), (.int (0 : Int32)), (.int (0 : Int32)), (.int (0 : Int32)), (.int (0 : Int32)), (.int (0 : Int32)), (.int (0 : Int32)), (.int (0 : Int32)), (.int (0 : Int32)), (.int (0 : Int32)), (.int (0 : Int32)), (.int (0 : Int32)), (.int (0 : Int32)), (.int (0 : Int32)), (.int (0 : Int32)), (.int (0 : Int32)), (.int (0 : Int32)), (.int (0 : Int32)), (.int (0 : Int32)), (.int (0 : Int32)), (.int (0 : Int32)), (.int (0 : Int32)), (.int (0 : Int32)), (.int (0 : Int32)), (.int (0 : Int32)), (.int (0 : Int32)), (.int (0 : Int32)), (.int (0 : Int32)), (.int (0 : Int32)), (.int (0 : Int32)), (.int (0 : Int32)), (.int (0 : Int32)), (.int (0 : Int32)), (.int (0 : Int32)), (.int (0 : Int32)), (.int (0 : Int32))] (.int (0 : Int32)) := Arv.set Ar225 q225 S225 Nn225 H225 G225 (fits_nar_char _) W225 16 rfl (Nat.le_of_ble_eq_true rfl)
            replace S_COMPACT_STRINGS := Sta.wr W225 S_COMPACT_STRINGS
            replace S_SIOOBE_FORMATTER := Sta.wr W225 S_SIOOBE_FORMATTER
            replace E_b191 := E_b191.wr W225
            have Z226 : n0 ≤ h225.size := Nat.le_trans Z224 (Keep.of_wr W225).1
            refine W.go st225 ?_
            have N225 := Fr.snoc X225 N223 g_b191
            show W p e below _ (T225.setTop (mkF m 626 #[.val (.int p0), .val (.int p1), .val (.int p2), .val (.int p3), .val (.int p4), .val (.int c1), .val (.int c2), .val (.int c3), .val (.int c4), .val (.int kk), .unset, .unset] [(.ref b191)]))
            refine W.go (fun _ hr => XS.dup X225.here hx rfl (hb hby at_626) rfl rfl hr) ?_
            show W p e below _ (T225.setTop (mkF m 627 #[.val (.int p0), .val (.int p1), .val (.int p2), .val (.int p3), .val (.int p4), .val (.int c1), .val (.int c2), .val (.int c3), .val (.int c4), .val (.int kk), .unset, .unset] [(.ref b191), (.ref b191)]))
            refine W.go (fun _ hr => XS.bipush X225.here hx rfl (hb hby at_627) hr) ?_
            show W p e below _ (T225.setTop (mkF m 629 #[.val (.int p0), .val (.int p1), .val (.int p2), .val (.int p3), .val (.int p4), .val (.int c1), .val (.int c2), .val (.int c3), .val (.int c4), .val (.int kk), .unset, .unset] [(.int (17 : Int32)), (.ref b191), (.ref b191)]))
            refine W.go (fun _ hr => XS.iload X225.here hx rfl (hb hby at_629) rfl hr) ?_
            show W p e below _ (T225.setTop (mkF m 631 #[.val (.int p0), .val (.int p1), .val (.int p2), .val (.int p3), .val (.int p4), .val (.int c1), .val (.int c2), .val (.int c3), .val (.int c4), .val (.int kk), .unset, .unset] [(.int c2), (.int (17 : Int32)), (.ref b191), (.ref b191)]))
            obtain ⟨cl227, Ar227, q227, S227, Nn227, H227, G227⟩ := V_b191
            have hin227 : ¬ ((17 : Int32) < 0 ∨ cl227.slots.size ≤ ((17 : Int32)).toNatClampNeg) := inb_of S227 ⟨by decide, by decide⟩
            obtain ⟨T227, h227, X227, e227, W227, st227⟩ := stC X225 hx hZ e225 Ar227 (j := (17 : Int32)) hin227 (g := (mkF m 631 #[.val (.int p0), .val (.int p1), .val (.int p2), .val (.int p3), .val (.int p4), .val (.int c1), .val (.int c2), .val (.int c3), .val (.int c4), .val (.int kk), .unset, .unset] [(.int c2), (.int (17 : Int32)), (.ref b191), (.ref b191)])) rfl rfl (hb hby at_631)
            replace V_b191 : Arv Z h227 b191 k191 .char (64 : Int32) [(.int (nar .char c1)), (.int (nar .char c2)), (.int (nar .char c3)), (.int (nar .char c4)), (.int (nar .char c1)), (.int (nar .char c2)), (.int (nar .char c3)), (.int (nar .char c4)), (.int (nar .char c1)), (.int (nar .char c2)), (.int (nar .char c3)), (.int (nar .char c4)), (.int (nar .char c1)), (.int (nar .char c2)), (.int (nar .char c3)), (.int (nar .char c4)), (.int (nar .char c1)), (.int (nar .char c2)), (.int (0 : Int32)), (.int (0 : Int32)), (.int (0 : Int32)), (.int (0 : Int32)), (.int (0 : Int32)), (.int (0 : Int32)), (.int (0 : Int32)), (.int (0 : Int32)), (.int (0 : Int32)), (.int (0 : Int32)), (.int (0 : Int32)), (.int (0 : Int32)), (.int (0 : Int32)), (.int (0 : Int32)), (.int (0 : Int32)), (.int (0 : Int32)), (.int (0 : Int32)), (.int (0 : Int32)), (.int (0 : Int32)), (.int (0 : Int32)), (.int (0 : Int32)), (.int (0 : Int32)), (.int (0 : Int32)), (.int (0 : Int32)), (.int (0 : Int32)), (.int (0 : Int32)), (.int (0 : Int32)), (.int (0 : Int32)), (.int (0 : Int32)), (.int (0 : Int32)), (.int (0 : Int32)), (.int (0 : Int32)), (.int (0 : Int32)), (.int (0 : Int32)), (.int (0 : Int32)), (.int (0 : Int32)), (.int (0 : Int32)), (.int (0 : Int32)), (.int (0 : Int32)), (.int (0 : Int32)), (.int (0 : Int32)), (.int (0 : Int32)), (.int (0 : Int32)), (.int (0 : Int32)), (.int (0 : Int32)), (.int (0 : Int32))] (.int (0 : Int32)) := Arv.set Ar227 q227 S227 Nn227 H227 G227 (fits_nar_char _) W227 17 rfl (Nat.le_of_ble_eq_true rfl)
            replace S_COMPACT_STRINGS := Sta.wr W227 S_COMPACT_STRINGS
            replace S_SIOOBE_FORMATTER := Sta.wr W227 S_SIOOBE_FORMATTER
            replace E_b191 := E_b191.wr W227
            have Z228 : n0 ≤ h227.size := Nat.le_trans Z226 (Keep.of_wr W227).1
            refine W.go st227 ?_
            have N227 := Fr.snoc X227 N225 g_b191
            show W p e below _ (T227.setTop (mkF m 632 #[.val (.int p0), .val (.int p1), .val (.int p2), .val (.int p3), .val (.int p4), .val (.int c1), .val (.int c2), .val (.int c3), .val (.int c4), .val (.int kk), .unset, .unset] [(.ref b191)]))
            refine W.go (fun _ hr => XS.dup X227.here hx rfl (hb hby at_632) rfl rfl hr) ?_
            show W p e below _ (T227.setTop (mkF m 633 #[.val (.int p0), .val (.int p1), .val (.int p2), .val (.int p3), .val (.int p4), .val (.int c1), .val (.int c2), .val (.int c3), .val (.int c4), .val (.int kk), .unset, .unset] [(.ref b191), (.ref b191)]))
            refine W.go (fun _ hr => XS.bipush X227.here hx rfl (hb hby at_633) hr) ?_
            show W p e below _ (T227.setTop (mkF m 635 #[.val (.int p0), .val (.int p1), .val (.int p2), .val (.int p3), .val (.int p4), .val (.int c1), .val (.int c2), .val (.int c3), .val (.int c4), .val (.int kk), .unset, .unset] [(.int (18 : Int32)), (.ref b191), (.ref b191)]))
            refine W.go (fun _ hr => XS.iload X227.here hx rfl (hb hby at_635) rfl hr) ?_
            show W p e below _ (T227.setTop (mkF m 637 #[.val (.int p0), .val (.int p1), .val (.int p2), .val (.int p3), .val (.int p4), .val (.int c1), .val (.int c2), .val (.int c3), .val (.int c4), .val (.int kk), .unset, .unset] [(.int c3), (.int (18 : Int32)), (.ref b191), (.ref b191)]))
            obtain ⟨cl229, Ar229, q229, S229, Nn229, H229, G229⟩ := V_b191
            have hin229 : ¬ ((18 : Int32) < 0 ∨ cl229.slots.size ≤ ((18 : Int32)).toNatClampNeg) := inb_of S229 ⟨by decide, by decide⟩
            obtain ⟨T229, h229, X229, e229, W229, st229⟩ := stC X227 hx hZ e227 Ar229 (j := (18 : Int32)) hin229 (g := (mkF m 637 #[.val (.int p0), .val (.int p1), .val (.int p2), .val (.int p3), .val (.int p4), .val (.int c1), .val (.int c2), .val (.int c3), .val (.int c4), .val (.int kk), .unset, .unset] [(.int c3), (.int (18 : Int32)), (.ref b191), (.ref b191)])) rfl rfl (hb hby at_637)
            replace V_b191 : Arv Z h229 b191 k191 .char (64 : Int32) [(.int (nar .char c1)), (.int (nar .char c2)), (.int (nar .char c3)), (.int (nar .char c4)), (.int (nar .char c1)), (.int (nar .char c2)), (.int (nar .char c3)), (.int (nar .char c4)), (.int (nar .char c1)), (.int (nar .char c2)), (.int (nar .char c3)), (.int (nar .char c4)), (.int (nar .char c1)), (.int (nar .char c2)), (.int (nar .char c3)), (.int (nar .char c4)), (.int (nar .char c1)), (.int (nar .char c2)), (.int (nar .char c3)), (.int (0 : Int32)), (.int (0 : Int32)), (.int (0 : Int32)), (.int (0 : Int32)), (.int (0 : Int32)), (.int (0 : Int32)), (.int (0 : Int32)), (.int (0 : Int32)), (.int (0 : Int32)), (.int (0 : Int32)), (.int (0 : Int32)), (.int (0 : Int32)), (.int (0 : Int32)), (.int (0 : Int32)), (.int (0 : Int32)), (.int (0 : Int32)), (.int (0 : Int32)), (.int (0 : Int32)), (.int (0 : Int32)), (.int (0 : Int32)), (.int (0 : Int32)), (.int (0 : Int32)), (.int (0 : Int32)), (.int (0 : Int32)), (.int (0 : Int32)), (.int (0 : Int32)), (.int (0 : Int32)), (.int (0 : Int32)), (.int (0 : Int32)), (.int (0 : Int32)), (.int (0 : Int32)), (.int (0 : Int32)), (.int (0 : Int32)), (.int (0 : Int32)), (.int (0 : Int32)), (.int (0 : Int32)), (.int (0 : Int32)), (.int (0 : Int32)), (.int (0 : Int32)), (.int (0 : Int32)), (.int (0 : Int32)), (.int (0 : Int32)), (.int (0 : Int32)), (.int (0 : Int32)), (.int (0 : Int32))] (.int (0 : Int32)) := Arv.set Ar229 q229 S229 Nn229 H229 G229 (fits_nar_char _) W229 18 rfl (Nat.le_of_ble_eq_true rfl)
            replace S_COMPACT_STRINGS := Sta.wr W229 S_COMPACT_STRINGS
            replace S_SIOOBE_FORMATTER := Sta.wr W229 S_SIOOBE_FORMATTER
            replace E_b191 := E_b191.wr W229
            have Z230 : n0 ≤ h229.size := Nat.le_trans Z228 (Keep.of_wr W229).1
            refine W.go st229 ?_
            have N229 := Fr.snoc X229 N227 g_b191
            show W p e below _ (T229.setTop (mkF m 638 #[.val (.int p0), .val (.int p1), .val (.int p2), .val (.int p3), .val (.int p4), .val (.int c1), .val (.int c2), .val (.int c3), .val (.int c4), .val (.int kk), .unset, .unset] [(.ref b191)]))
            refine W.go (fun _ hr => XS.dup X229.here hx rfl (hb hby at_638) rfl rfl hr) ?_
            show W p e below _ (T229.setTop (mkF m 639 #[.val (.int p0), .val (.int p1), .val (.int p2), .val (.int p3), .val (.int p4), .val (.int c1), .val (.int c2), .val (.int c3), .val (.int c4), .val (.int kk), .unset, .unset] [(.ref b191), (.ref b191)]))
            refine W.go (fun _ hr => XS.bipush X229.here hx rfl (hb hby at_639) hr) ?_
            show W p e below _ (T229.setTop (mkF m 641 #[.val (.int p0), .val (.int p1), .val (.int p2), .val (.int p3), .val (.int p4), .val (.int c1), .val (.int c2), .val (.int c3), .val (.int c4), .val (.int kk), .unset, .unset] [(.int (19 : Int32)), (.ref b191), (.ref b191)]))
            refine W.go (fun _ hr => XS.iload X229.here hx rfl (hb hby at_641) rfl hr) ?_
            show W p e below _ (T229.setTop (mkF m 643 #[.val (.int p0), .val (.int p1), .val (.int p2), .val (.int p3), .val (.int p4), .val (.int c1), .val (.int c2), .val (.int c3), .val (.int c4), .val (.int kk), .unset, .unset] [(.int c4), (.int (19 : Int32)), (.ref b191), (.ref b191)]))
            obtain ⟨cl231, Ar231, q231, S231, Nn231, H231, G231⟩ := V_b191
            have hin231 : ¬ ((19 : Int32) < 0 ∨ cl231.slots.size ≤ ((19 : Int32)).toNatClampNeg) := inb_of S231 ⟨by decide, by decide⟩
            obtain ⟨T231, h231, X231, e231, W231, st231⟩ := stC X229 hx hZ e229 Ar231 (j := (19 : Int32)) hin231 (g := (mkF m 643 #[.val (.int p0), .val (.int p1), .val (.int p2), .val (.int p3), .val (.int p4), .val (.int c1), .val (.int c2), .val (.int c3), .val (.int c4), .val (.int kk), .unset, .unset] [(.int c4), (.int (19 : Int32)), (.ref b191), (.ref b191)])) rfl rfl (hb hby at_643)
            replace V_b191 : Arv Z h231 b191 k191 .char (64 : Int32) [(.int (nar .char c1)), (.int (nar .char c2)), (.int (nar .char c3)), (.int (nar .char c4)), (.int (nar .char c1)), (.int (nar .char c2)), (.int (nar .char c3)), (.int (nar .char c4)), (.int (nar .char c1)), (.int (nar .char c2)), (.int (nar .char c3)), (.int (nar .char c4)), (.int (nar .char c1)), (.int (nar .char c2)), (.int (nar .char c3)), (.int (nar .char c4)), (.int (nar .char c1)), (.int (nar .char c2)), (.int (nar .char c3)), (.int (nar .char c4)), (.int (0 : Int32)), (.int (0 : Int32)), (.int (0 : Int32)), (.int (0 : Int32)), (.int (0 : Int32)), (.int (0 : Int32)), (.int (0 : Int32)), (.int (0 : Int32)), (.int (0 : Int32)), (.int (0 : Int32)), (.int (0 : Int32)), (.int (0 : Int32)), (.int (0 : Int32)), (.int (0 : Int32)), (.int (0 : Int32)), (.int (0 : Int32)), (.int (0 : Int32)), (.int (0 : Int32)), (.int (0 : Int32)), (.int (0 : Int32)), (.int (0 : Int32)), (.int (0 : Int32)), (.int (0 : Int32)), (.int (0 : Int32)), (.int (0 : Int32)), (.int (0 : Int32)), (.int (0 : Int32)), (.int (0 : Int32)), (.int (0 : Int32)), (.int (0 : Int32)), (.int (0 : Int32)), (.int (0 : Int32)), (.int (0 : Int32)), (.int (0 : Int32)), (.int (0 : Int32)), (.int (0 : Int32)), (.int (0 : Int32)), (.int (0 : Int32)), (.int (0 : Int32)), (.int (0 : Int32)), (.int (0 : Int32)), (.int (0 : Int32)), (.int (0 : Int32)), (.int (0 : Int32))] (.int (0 : Int32)) := Arv.set Ar231 q231 S231 Nn231 H231 G231 (fits_nar_char _) W231 19 rfl (Nat.le_of_ble_eq_true rfl)
            replace S_COMPACT_STRINGS := Sta.wr W231 S_COMPACT_STRINGS
            replace S_SIOOBE_FORMATTER := Sta.wr W231 S_SIOOBE_FORMATTER
            replace E_b191 := E_b191.wr W231
            have Z232 : n0 ≤ h231.size := Nat.le_trans Z230 (Keep.of_wr W231).1
            refine W.go st231 ?_
            have N231 := Fr.snoc X231 N229 g_b191
            show W p e below _ (T231.setTop (mkF m 644 #[.val (.int p0), .val (.int p1), .val (.int p2), .val (.int p3), .val (.int p4), .val (.int c1), .val (.int c2), .val (.int c3), .val (.int c4), .val (.int kk), .unset, .unset] [(.ref b191)]))
            refine W.go (fun _ hr => XS.dup X231.here hx rfl (hb hby at_644) rfl rfl hr) ?_
            show W p e below _ (T231.setTop (mkF m 645 #[.val (.int p0), .val (.int p1), .val (.int p2), .val (.int p3), .val (.int p4), .val (.int c1), .val (.int c2), .val (.int c3), .val (.int c4), .val (.int kk), .unset, .unset] [(.ref b191), (.ref b191)]))
            refine W.go (fun _ hr => XS.bipush X231.here hx rfl (hb hby at_645) hr) ?_
            show W p e below _ (T231.setTop (mkF m 647 #[.val (.int p0), .val (.int p1), .val (.int p2), .val (.int p3), .val (.int p4), .val (.int c1), .val (.int c2), .val (.int c3), .val (.int c4), .val (.int kk), .unset, .unset] [(.int (20 : Int32)), (.ref b191), (.ref b191)]))
            refine W.go (fun _ hr => XS.iload X231.here hx rfl (hb hby at_647) rfl hr) ?_
            show W p e below _ (T231.setTop (mkF m 649 #[.val (.int p0), .val (.int p1), .val (.int p2), .val (.int p3), .val (.int p4), .val (.int c1), .val (.int c2), .val (.int c3), .val (.int c4), .val (.int kk), .unset, .unset] [(.int c1), (.int (20 : Int32)), (.ref b191), (.ref b191)]))
            obtain ⟨cl233, Ar233, q233, S233, Nn233, H233, G233⟩ := V_b191
            have hin233 : ¬ ((20 : Int32) < 0 ∨ cl233.slots.size ≤ ((20 : Int32)).toNatClampNeg) := inb_of S233 ⟨by decide, by decide⟩
            obtain ⟨T233, h233, X233, e233, W233, st233⟩ := stC X231 hx hZ e231 Ar233 (j := (20 : Int32)) hin233 (g := (mkF m 649 #[.val (.int p0), .val (.int p1), .val (.int p2), .val (.int p3), .val (.int p4), .val (.int c1), .val (.int c2), .val (.int c3), .val (.int c4), .val (.int kk), .unset, .unset] [(.int c1), (.int (20 : Int32)), (.ref b191), (.ref b191)])) rfl rfl (hb hby at_649)
            replace V_b191 : Arv Z h233 b191 k191 .char (64 : Int32) [(.int (nar .char c1)), (.int (nar .char c2)), (.int (nar .char c3)), (.int (nar .char c4)), (.int (nar .char c1)), (.int (nar .char c2)), (.int (nar .char c3)), (.int (nar .char c4)), (.int (nar .char c1)), (.int (nar .char c2)), (.int (nar .char c3)), (.int (nar .char c4)), (.int (nar .char c1)), (.int (nar .char c2)), (.int (nar .char c3)), (.int (nar .char c4)), (.int (nar .char c1)), (.int (nar .char c2)), (.int (nar .char c3)), (.int (nar .char c4)), (.int (nar .char c1)), (.int (0 : Int32)), (.int (0 : Int32)), (.int (0 : Int32)), (.int (0 : Int32)), (.int (0 : Int32)), (.int (0 : Int32)), (.int (0 : Int32)), (.int (0 : Int32)), (.int (0 : Int32)), (.int (0 : Int32)), (.int (0 : Int32)), (.int (0 : Int32)), (.int (0 : Int32)), (.int (0 : Int32)), (.int (0 : Int32)), (.int (0 : Int32)), (.int (0 : Int32)), (.int (0 : Int32)), (.int (0 : Int32)), (.int (0 : Int32)), (.int (0 : Int32)), (.int (0 : Int32)), (.int (0 : Int32)), (.int (0 : Int32)), (.int (0 : Int32)), (.int (0 : Int32)), (.int (0 : Int32)), (.int (0 : Int32)), (.int (0 : Int32)), (.int (0 : Int32)), (.int (0 : Int32)), (.int (0 : Int32)), (.int (0 : Int32)), (.int (0 : Int32)), (.int (0 : Int32)), (.int (0 : Int32)), (.int (0 : Int32)), (.int (0 : Int32)), (.int (0 : Int32)), (.int (0 : Int32)), (.int (0 : Int32)), (.int (0 : Int32)), (.int (0 : Int32))] (.int (0 : Int32)) := Arv.set Ar233 q233 S233 Nn233 H233 G233 (fits_nar_char _) W233 20 rfl (Nat.le_of_ble_eq_true rfl)
            replace S_COMPACT_STRINGS := Sta.wr W233 S_COMPACT_STRINGS
            replace S_SIOOBE_FORMATTER := Sta.wr W233 S_SIOOBE_FORMATTER
            replace E_b191 := E_b191.wr W233
            have Z234 : n0 ≤ h233.size := Nat.le_trans Z232 (Keep.of_wr W233).1
            refine W.go st233 ?_
            have N233 := Fr.snoc X233 N231 g_b191
            show W p e below _ (T233.setTop (mkF m 650 #[.val (.int p0), .val (.int p1), .val (.int p2), .val (.int p3), .val (.int p4), .val (.int c1), .val (.int c2), .val (.int c3), .val (.int c4), .val (.int kk), .unset, .unset] [(.ref b191)]))
            refine W.go (fun _ hr => XS.dup X233.here hx rfl (hb hby at_650) rfl rfl hr) ?_
            show W p e below _ (T233.setTop (mkF m 651 #[.val (.int p0), .val (.int p1), .val (.int p2), .val (.int p3), .val (.int p4), .val (.int c1), .val (.int c2), .val (.int c3), .val (.int c4), .val (.int kk), .unset, .unset] [(.ref b191), (.ref b191)]))
            refine W.go (fun _ hr => XS.bipush X233.here hx rfl (hb hby at_651) hr) ?_
            show W p e below _ (T233.setTop (mkF m 653 #[.val (.int p0), .val (.int p1), .val (.int p2), .val (.int p3), .val (.int p4), .val (.int c1), .val (.int c2), .val (.int c3), .val (.int c4), .val (.int kk), .unset, .unset] [(.int (21 : Int32)), (.ref b191), (.ref b191)]))
            refine W.go (fun _ hr => XS.iload X233.here hx rfl (hb hby at_653) rfl hr) ?_
            show W p e below _ (T233.setTop (mkF m 655 #[.val (.int p0), .val (.int p1), .val (.int p2), .val (.int p3), .val (.int p4), .val (.int c1), .val (.int c2), .val (.int c3), .val (.int c4), .val (.int kk), .unset, .unset] [(.int c2), (.int (21 : Int32)), (.ref b191), (.ref b191)]))
            obtain ⟨cl235, Ar235, q235, S235, Nn235, H235, G235⟩ := V_b191
            have hin235 : ¬ ((21 : Int32) < 0 ∨ cl235.slots.size ≤ ((21 : Int32)).toNatClampNeg) := inb_of S235 ⟨by decide, by decide⟩
            obtain ⟨T235, h235, X235, e235, W235, st235⟩ := stC X233 hx hZ e233 Ar235 (j := (21 : Int32)) hin235 (g := (mkF m 655 #[.val (.int p0), .val (.int p1), .val (.int p2), .val (.int p3), .val (.int p4), .val (.int c1), .val (.int c2), .val (.int c3), .val (.int c4), .val (.int kk), .unset, .unset] [(.int c2), (.int (21 : Int32)), (.ref b191), (.ref b191)])) rfl rfl (hb hby at_655)
            replace V_b191 : Arv Z h235 b191 k191 .char (64 : Int32) [(.int (nar .char c1)), (.int (nar .char c2)), (.int (nar .char c3)), (.int (nar .char c4)), (.int (nar .char c1)), (.int (nar .char c2)), (.int (nar .char c3)), (.int (nar .char c4)), (.int (nar .char c1)), (.int (nar .char c2)), (.int (nar .char c3)), (.int (nar .char c4)), (.int (nar .char c1)), (.int (nar .char c2)), (.int (nar .char c3)), (.int (nar .char c4)), (.int (nar .char c1)), (.int (nar .char c2)), (.int (nar .char c3)), (.int (nar .char c4)), (.int (nar .char c1)), (.int (nar .char c2)), (.int (0 : Int32)), (.int (0 : Int32)), (.int (0 : Int32)), (.int (0 : Int32)), (.int (0 : Int32)), (.int (0 : Int32)), (.int (0 : Int32)), (.int (0 : Int32)), (.int (0 : Int32)), (.int (0 : Int32)), (.int (0 : Int32)), (.int (0 : Int32)), (.int (0 : Int32)), (.int (0 : Int32)), (.int (0 : Int32)), (.int (0 : Int32)), (.int (0 : Int32)), (.int (0 : Int32)), (.int (0 : Int32)), (.int (0 : Int32)), (.int (0 : Int32)), (.int (0 : Int32)), (.int (0 : Int32)), (.int (0 : Int32)), (.int (0 : Int32)), (.int (0 : Int32)), (.int (0 : Int32)), (.int (0 : Int32)), (.int (0 : Int32)), (.int (0 : Int32)), (.int (0 : Int32)), (.int (0 : Int32)), (.int (0 : Int32)), (.int (0 : Int32)), (.int (0 : Int32)), (.int (0 : Int32)), (.int (0 : Int32)), (.int (0 : Int32)), (.int (0 : Int32)), (.int (0 : Int32)), (.int (0 : Int32)), (.int (0 : Int32))] (.int (0 : Int32)) := Arv.set Ar235 q235 S235 Nn235 H235 G235 (fits_nar_char _) W235 21 rfl (Nat.le_of_ble_eq_true rfl)
            replace S_COMPACT_STRINGS := Sta.wr W235 S_COMPACT_STRINGS
            replace S_SIOOBE_FORMATTER := Sta.wr W235 S_SIOOBE_FORMATTER
            replace E_b191 := E_b191.wr W235
            have Z236 : n0 ≤ h235.size := Nat.le_trans Z234 (Keep.of_wr W235).1
            refine W.go st235 ?_
            have N235 := Fr.snoc X235 N233 g_b191
            show W p e below _ (T235.setTop (mkF m 656 #[.val (.int p0), .val (.int p1), .val (.int p2), .val (.int p3), .val (.int p4), .val (.int c1), .val (.int c2), .val (.int c3), .val (.int c4), .val (.int kk), .unset, .unset] [(.ref b191)]))
            refine W.go (fun _ hr => XS.dup X235.here hx rfl (hb hby at_656) rfl rfl hr) ?_
            show W p e below _ (T235.setTop (mkF m 657 #[.val (.int p0), .val (.int p1), .val (.int p2), .val (.int p3), .val (.int p4), .val (.int c1), .val (.int c2), .val (.int c3), .val (.int c4), .val (.int kk), .unset, .unset] [(.ref b191), (.ref b191)]))
            refine W.go (fun _ hr => XS.bipush X235.here hx rfl (hb hby at_657) hr) ?_
            show W p e below _ (T235.setTop (mkF m 659 #[.val (.int p0), .val (.int p1), .val (.int p2), .val (.int p3), .val (.int p4), .val (.int c1), .val (.int c2), .val (.int c3), .val (.int c4), .val (.int kk), .unset, .unset] [(.int (22 : Int32)), (.ref b191), (.ref b191)]))
            refine W.go (fun _ hr => XS.iload X235.here hx rfl (hb hby at_659) rfl hr) ?_
            show W p e below _ (T235.setTop (mkF m 661 #[.val (.int p0), .val (.int p1), .val (.int p2), .val (.int p3), .val (.int p4), .val (.int c1), .val (.int c2), .val (.int c3), .val (.int c4), .val (.int kk), .unset, .unset] [(.int c3), (.int (22 : Int32)), (.ref b191), (.ref b191)]))
            obtain ⟨cl237, Ar237, q237, S237, Nn237, H237, G237⟩ := V_b191
            have hin237 : ¬ ((22 : Int32) < 0 ∨ cl237.slots.size ≤ ((22 : Int32)).toNatClampNeg) := inb_of S237 ⟨by decide, by decide⟩
            obtain ⟨T237, h237, X237, e237, W237, st237⟩ := stC X235 hx hZ e235 Ar237 (j := (22 : Int32)) hin237 (g := (mkF m 661 #[.val (.int p0), .val (.int p1), .val (.int p2), .val (.int p3), .val (.int p4), .val (.int c1), .val (.int c2), .val (.int c3), .val (.int c4), .val (.int kk), .unset, .unset] [(.int c3), (.int (22 : Int32)), (.ref b191), (.ref b191)])) rfl rfl (hb hby at_661)
            replace V_b191 : Arv Z h237 b191 k191 .char (64 : Int32) [(.int (nar .char c1)), (.int (nar .char c2)), (.int (nar .char c3)), (.int (nar .char c4)), (.int (nar .char c1)), (.int (nar .char c2)), (.int (nar .char c3)), (.int (nar .char c4)), (.int (nar .char c1)), (.int (nar .char c2)), (.int (nar .char c3)), (.int (nar .char c4)), (.int (nar .char c1)), (.int (nar .char c2)), (.int (nar .char c3)), (.int (nar .char c4)), (.int (nar .char c1)), (.int (nar .char c2)), (.int (nar .char c3)), (.int (nar .char c4)), (.int (nar .char c1)), (.int (nar .char c2)), (.int (nar .char c3)), (.int (0 : Int32)), (.int (0 : Int32)), (.int (0 : Int32)), (.int (0 : Int32)), (.int (0 : Int32)), (.int (0 : Int32)), (.int (0 : Int32)), (.int (0 : Int32)), (.int (0 : Int32)), (.int (0 : Int32)), (.int (0 : Int32)), (.int (0 : Int32)), (.int (0 : Int32)), (.int (0 : Int32)), (.int (0 : Int32)), (.int (0 : Int32)), (.int (0 : Int32)), (.int (0 : Int32)), (.int (0 : Int32)), (.int (0 : Int32)), (.int (0 : Int32)), (.int (0 : Int32)), (.int (0 : Int32)), (.int (0 : Int32)), (.int (0 : Int32)), (.int (0 : Int32)), (.int (0 : Int32)), (.int (0 : Int32)), (.int (0 : Int32)), (.int (0 : Int32)), (.int (0 : Int32)), (.int (0 : Int32)), (.int (0 : Int32)), (.int (0 : Int32)), (.int (0 : Int32)), (.int (0 : Int32)), (.int (0 : Int32)), (.int (0 : Int32)), (.int (0 : Int32)), (.int (0 : Int32)), (.int (0 : Int32))] (.int (0 : Int32)) := Arv.set Ar237 q237 S237 Nn237 H237 G237 (fits_nar_char _) W237 22 rfl (Nat.le_of_ble_eq_true rfl)
            replace S_COMPACT_STRINGS := Sta.wr W237 S_COMPACT_STRINGS
            replace S_SIOOBE_FORMATTER := Sta.wr W237 S_SIOOBE_FORMATTER
            replace E_b191 := E_b191.wr W237
            have Z238 : n0 ≤ h237.size := Nat.le_trans Z236 (Keep.of_wr W237).1
            refine W.go st237 ?_
            have N237 := Fr.snoc X237 N235 g_b191
            show W p e below _ (T237.setTop (mkF m 662 #[.val (.int p0), .val (.int p1), .val (.int p2), .val (.int p3), .val (.int p4), .val (.int c1), .val (.int c2), .val (.int c3), .val (.int c4), .val (.int kk), .unset, .unset] [(.ref b191)]))
            refine W.go (fun _ hr => XS.dup X237.here hx rfl (hb hby at_662) rfl rfl hr) ?_
            show W p e below _ (T237.setTop (mkF m 663 #[.val (.int p0), .val (.int p1), .val (.int p2), .val (.int p3), .val (.int p4), .val (.int c1), .val (.int c2), .val (.int c3), .val (.int c4), .val (.int kk), .unset, .unset] [(.ref b191), (.ref b191)]))
            refine W.go (fun _ hr => XS.bipush X237.here hx rfl (hb hby at_663) hr) ?_
            show W p e below _ (T237.setTop (mkF m 665 #[.val (.int p0), .val (.int p1), .val (.int p2), .val (.int p3), .val (.int p4), .val (.int c1), .val (.int c2), .val (.int c3), .val (.int c4), .val (.int kk), .unset, .unset] [(.int (23 : Int32)), (.ref b191), (.ref b191)]))
            refine W.go (fun _ hr => XS.iload X237.here hx rfl (hb hby at_665) rfl hr) ?_
            show W p e below _ (T237.setTop (mkF m 667 #[.val (.int p0), .val (.int p1), .val (.int p2), .val (.int p3), .val (.int p4), .val (.int c1), .val (.int c2), .val (.int c3), .val (.int c4), .val (.int kk), .unset, .unset] [(.int c4), (.int (23 : Int32)), (.ref b191), (.ref b191)]))
            obtain ⟨cl239, Ar239, q239, S239, Nn239, H239, G239⟩ := V_b191
            have hin239 : ¬ ((23 : Int32) < 0 ∨ cl239.slots.size ≤ ((23 : Int32)).toNatClampNeg) := inb_of S239 ⟨by decide, by decide⟩
            obtain ⟨T239, h239, X239, e239, W239, st239⟩ := stC X237 hx hZ e237 Ar239 (j := (23 : Int32)) hin239 (g := (mkF m 667 #[.val (.int p0), .val (.int p1), .val (.int p2), .val (.int p3), .val (.int p4), .val (.int c1), .val (.int c2), .val (.int c3), .val (.int c4), .val (.int kk), .unset, .unset] [(.int c4), (.int (23 : Int32)), (.ref b191), (.ref b191)])) rfl rfl (hb hby at_667)
            replace V_b191 : Arv Z h239 b191 k191 .char (64 : Int32) [(.int (nar .char c1)), (.int (nar .char c2)), (.int (nar .char c3)), (.int (nar .char c4)), (.int (nar .char c1)), (.int (nar .char c2)), (.int (nar .char c3)), (.int (nar .char c4)), (.int (nar .char c1)), (.int (nar .char c2)), (.int (nar .char c3)), (.int (nar .char c4)), (.int (nar .char c1)), (.int (nar .char c2)), (.int (nar .char c3)), (.int (nar .char c4)), (.int (nar .char c1)), (.int (nar .char c2)), (.int (nar .char c3)), (.int (nar .char c4)), (.int (nar .char c1)), (.int (nar .char c2)), (.int (nar .char c3)), (.int (nar .char c4)), (.int (0 : Int32)), (.int (0 : Int32)), (.int (0 : Int32)), (.int (0 : Int32)), (.int (0 : Int32)), (.int (0 : Int32)), (.int (0 : Int32)), (.int (0 : Int32)), (.int (0 : Int32)), (.int (0 : Int32)), (.int (0 : Int32)), (.int (0 : Int32)), (.int (0 : Int32)), (.int (0 : Int32)), (.int (0 : Int32)), (.int (0 : Int32)), (.int (0 : Int32)), (.int (0 : Int32)), (.int (0 : Int32)), (.int (0 : Int32)), (.int (0 : Int32)), (.int (0 : Int32)), (.int (0 : Int32)), (.int (0 : Int32)), (.int (0 : Int32)), (.int (0 : Int32)), (.int (0 : Int32)), (.int (0 : Int32)), (.int (0 : Int32)), (.int (0 : Int32)), (.int (0 : Int32)), (.int (0 : Int32)), (.int (0 : Int32)), (.int (0 : Int32)), (.int (0 : Int32)), (.int (0 : Int32)), (.int (0 : Int32)), (.int (0 : Int32)), (.int (0 : Int32)), (.int (0 : Int32))] (.int (0 : Int32)) := Arv.set Ar239 q239 S239 Nn239 H239 G239 (fits_nar_char _) W239 23 rfl (Nat.le_of_ble_eq_true rfl)
            replace S_COMPACT_STRINGS := Sta.wr W239 S_COMPACT_STRINGS
            replace S_SIOOBE_FORMATTER := Sta.wr W239 S_SIOOBE_FORMATTER
            replace E_b191 := E_b191.wr W239
            have Z240 : n0 ≤ h239.size := Nat.le_trans Z238 (Keep.of_wr W239).1
            refine W.go st239 ?_
            have N239 := Fr.snoc X239 N237 g_b191
            show W p e below _ (T239.setTop (mkF m 668 #[.val (.int p0), .val (.int p1), .val (.int p2), .val (.int p3), .val (.int p4), .val (.int c1), .val (.int c2), .val (.int c3), .val (.int c4), .val (.int kk), .unset, .unset] [(.ref b191)]))
            refine W.go (fun _ hr => XS.dup X239.here hx rfl (hb hby at_668) rfl rfl hr) ?_
            show W p e below _ (T239.setTop (mkF m 669 #[.val (.int p0), .val (.int p1), .val (.int p2), .val (.int p3), .val (.int p4), .val (.int c1), .val (.int c2), .val (.int c3), .val (.int c4), .val (.int kk), .unset, .unset] [(.ref b191), (.ref b191)]))
            refine W.go (fun _ hr => XS.bipush X239.here hx rfl (hb hby at_669) hr) ?_
            show W p e below _ (T239.setTop (mkF m 671 #[.val (.int p0), .val (.int p1), .val (.int p2), .val (.int p3), .val (.int p4), .val (.int c1), .val (.int c2), .val (.int c3), .val (.int c4), .val (.int kk), .unset, .unset] [(.int (24 : Int32)), (.ref b191), (.ref b191)]))
            refine W.go (fun _ hr => XS.iload X239.here hx rfl (hb hby at_671) rfl hr) ?_
            show W p e below _ (T239.setTop (mkF m 673 #[.val (.int p0), .val (.int p1), .val (.int p2), .val (.int p3), .val (.int p4), .val (.int c1), .val (.int c2), .val (.int c3), .val (.int c4), .val (.int kk), .unset, .unset] [(.int c1), (.int (24 : Int32)), (.ref b191), (.ref b191)]))
            obtain ⟨cl241, Ar241, q241, S241, Nn241, H241, G241⟩ := V_b191
            have hin241 : ¬ ((24 : Int32) < 0 ∨ cl241.slots.size ≤ ((24 : Int32)).toNatClampNeg) := inb_of S241 ⟨by decide, by decide⟩
            obtain ⟨T241, h241, X241, e241, W241, st241⟩ := stC X239 hx hZ e239 Ar241 (j := (24 : Int32)) hin241 (g := (mkF m 673 #[.val (.int p0), .val (.int p1), .val (.int p2), .val (.int p3), .val (.int p4), .val (.int c1), .val (.int c2), .val (.int c3), .val (.int c4), .val (.int kk), .unset, .unset] [(.int c1), (.int (24 : Int32)), (.ref b191), (.ref b191)])) rfl rfl (hb hby at_673)
            replace V_b191 : Arv Z h241 b191 k191 .char (64 : Int32) [(.int (nar .char c1)), (.int (nar .char c2)), (.int (nar .char c3)), (.int (nar .char c4)), (.int (nar .char c1)), (.int (nar .char c2)), (.int (nar .char c3)), (.int (nar .char c4)), (.int (nar .char c1)), (.int (nar .char c2)), (.int (nar .char c3)), (.int (nar .char c4)), (.int (nar .char c1)), (.int (nar .char c2)), (.int (nar .char c3)), (.int (nar .char c4)), (.int (nar .char c1)), (.int (nar .char c2)), (.int (nar .char c3)), (.int (nar .char c4)), (.int (nar .char c1)), (.int (nar .char c2)), (.int (nar .char c3)), (.int (nar .char c4)), (.int (nar .char c1)), (.int (0 : Int32)), (.int (0 : Int32)), (.int (0 : Int32)), (.int (0 : Int32)), (.int (0 : Int32)), (.int (0 : Int32)), (.int (0 : Int32)), (.int (0 : Int32)), (.int (0 : Int32)), (.int (0 : Int32)), (.int (0 : Int32)), (.int (0 : Int32)), (.int (0 : Int32)), (.int (0 : Int32)), (.int (0 : Int32)), (.int (0 : Int32)), (.int (0 : Int32)), (.int (0 : Int32)), (.int (0 : Int32)), (.int (0 : Int32)), (.int (0 : Int32)), (.int (0 : Int32)), (.int (0 : Int32)), (.int (0 : Int32)), (.int (0 : Int32)), (.int (0 : Int32)), (.int (0 : Int32)), (.int (0 : Int32)), (.int (0 : Int32)), (.int (0 : Int32)), (.int (0 : Int32)), (.int (0 : Int32)), (.int (0 : Int32)), (.int (0 : Int32)), (.int (0 : Int32)), (.int (0 : Int32)), (.int (0 : Int32)), (.int (0 : Int32)), (.int (0 : Int32))] (.int (0 : Int32)) := Arv.set Ar241 q241 S241 Nn241 H241 G241 (fits_nar_char _) W241 24 rfl (Nat.le_of_ble_eq_true rfl)
            replace S_COMPACT_STRINGS := Sta.wr W241 S_COMPACT_STRINGS
            replace S_SIOOBE_FORMATTER := Sta.wr W241 S_SIOOBE_FORMATTER
            replace E_b191 := E_b191.wr W241
            have Z242 : n0 ≤ h241.size := Nat.le_trans Z240 (Keep.of_wr W241).1
            refine W.go st241 ?_
            have N241 := Fr.snoc X241 N239 g_b191
            show W p e below _ (T241.setTop (mkF m 674 #[.val (.int p0), .val (.int p1), .val (.int p2), .val (.int p3), .val (.int p4), .val (.int c1), .val (.int c2), .val (.int c3), .val (.int c4), .val (.int kk), .unset, .unset] [(.ref b191)]))
            refine W.go (fun _ hr => XS.dup X241.here hx rfl (hb hby at_674) rfl rfl hr) ?_
            show W p e below _ (T241.setTop (mkF m 675 #[.val (.int p0), .val (.int p1), .val (.int p2), .val (.int p3), .val (.int p4), .val (.int c1), .val (.int c2), .val (.int c3), .val (.int c4), .val (.int kk), .unset, .unset] [(.ref b191), (.ref b191)]))
            refine W.go (fun _ hr => XS.bipush X241.here hx rfl (hb hby at_675) hr) ?_
            show W p e below _ (T241.setTop (mkF m 677 #[.val (.int p0), .val (.int p1), .val (.int p2), .val (.int p3), .val (.int p4), .val (.int c1), .val (.int c2), .val (.int c3), .val (.int c4), .val (.int kk), .unset, .unset] [(.int (25 : Int32)), (.ref b191), (.ref b191)]))
            refine W.go (fun _ hr => XS.iload X241.here hx rfl (hb hby at_677) rfl hr) ?_
            show W p e below _ (T241.setTop (mkF m 679 #[.val (.int p0), .val (.int p1), .val (.int p2), .val (.int p3), .val (.int p4), .val (.int c1), .val (.int c2), .val (.int c3), .val (.int c4), .val (.int kk), .unset, .unset] [(.int c2), (.int (25 : Int32)), (.ref b191), (.ref b191)]))
            obtain ⟨cl243, Ar243, q243, S243, Nn243, H243, G243⟩ := V_b191
            have hin243 : ¬ ((25 : Int32) < 0 ∨ cl243.slots.size ≤ ((25 : Int32)).toNatClampNeg) := inb_of S243 ⟨by decide, by decide⟩
            obtain ⟨T243, h243, X243, e243, W243, st243⟩ := stC X241 hx hZ e241 Ar243 (j := (25 : Int32)) hin243 (g := (mkF m 679 #[.val (.int p0), .val (.int p1), .val (.int p2), .val (.int p3), .val (.int p4), .val (.int c1), .val (.int c2), .val (.int c3), .val (.int c4), .val (.int kk), .unset, .unset] [(.int c2), (.int (25 : Int32)), (.ref b191), (.ref b191)])) rfl rfl (hb hby at_679)
            replace V_b191 : Arv Z h243 b191 k191 .char (64 : Int32) [(.int (nar .char c1)), (.int (nar .char c2)), (.int (nar .char c3)), (.int (nar .char c4)), (.int (nar .char c1)), (.int (nar .char c2)), (.int (nar .char c3)), (.int (nar .char c4)), (.int (nar .char c1)), (.int (nar .char c2)), (.int (nar .char c3)), (.int (nar .char c4)), (.int (nar .char c1)), (.int (nar .char c2)), (.int (nar .char c3)), (.int (nar .char c4)), (.int (nar .char c1)), (.int (nar .char c2)), (.int (nar .char c3)), (.int (nar .char c4)), (.int (nar .char c1)), (.int (nar .char c2)), (.int (nar .char c3)), (.int (nar .char c4)), (.int (nar .char c1)), (.int (nar .char c2)), (.int (0 : Int32)), (.int (0 : Int32)), (.int (0 : Int32)), (.int (0 : Int32)), (.int (0 : Int32)), (.int (0 : Int32)), (.int (0 : Int32)), (.int (0 : Int32)), (.int (0 : Int32)), (.int (0 : Int32)), (.int (0 : Int32)), (.int (0 : Int32)), (.int (0 : Int32)), (.int (0 : Int32)), (.int (0 : Int32)), (.int (0 : Int32)), (.int (0 : Int32)), (.int (0 : Int32)), (.int (0 : Int32)), (.int (0 : Int32)), (.int (0 : Int32)), (.int (0 : Int32)), (.int (0 : Int32)), (.int (0 : Int32)), (.int (0 : Int32)), (.int (0 : Int32)), (.int (0 : Int32)), (.int (0 : Int32)), (.int (0 : Int32)), (.int (0 : Int32)), (.int (0 : Int32)), (.int (0 : Int32)), (.int (0 : Int32)), (.int (0 : Int32)), (.int (0 : Int32)), (.int (0 : Int32)), (.int (0 : Int32)), (.int (0 : Int32))] (.int (0 : Int32)) := Arv.set Ar243 q243 S243 Nn243 H243 G243 (fits_nar_char _) W243 25 rfl (Nat.le_of_ble_eq_true rfl)
            replace S_COMPACT_STRINGS := Sta.wr W243 S_COMPACT_STRINGS
            replace S_SIOOBE_FORMATTER := Sta.wr W243 S_SIOOBE_FORMATTER
            replace E_b191 := E_b191.wr W243
            have Z244 : n0 ≤ h243.size := Nat.le_trans Z242 (Keep.of_wr W243).1
            refine W.go st243 ?_
            have N243 := Fr.snoc X243 N241 g_b191
            show W p e below _ (T243.setTop (mkF m 680 #[.val (.int p0), .val (.int p1), .val (.int p2), .val (.int p3), .val (.int p4), .val (.int c1), .val (.int c2), .val (.int c3), .val (.int c4), .val (.int kk), .unset, .unset] [(.ref b191)]))
            refine W.go (fun _ hr => XS.dup X243.here hx rfl (hb hby at_680) rfl rfl hr) ?_
            show W p e below _ (T243.setTop (mkF m 681 #[.val (.int p0), .val (.int p1), .val (.int p2), .val (.int p3), .val (.int p4), .val (.int c1), .val (.int c2), .val (.int c3), .val (.int c4), .val (.int kk), .unset, .unset] [(.ref b191), (.ref b191)]))
            refine W.go (fun _ hr => XS.bipush X243.here hx rfl (hb hby at_681) hr) ?_
            show W p e below _ (T243.setTop (mkF m 683 #[.val (.int p0), .val (.int p1), .val (.int p2), .val (.int p3), .val (.int p4), .val (.int c1), .val (.int c2), .val (.int c3), .val (.int c4), .val (.int kk), .unset, .unset] [(.int (26 : Int32)), (.ref b191), (.ref b191)]))
            refine W.go (fun _ hr => XS.iload X243.here hx rfl (hb hby at_683) rfl hr) ?_
            show W p e below _ (T243.setTop (mkF m 685 #[.val (.int p0), .val (.int p1), .val (.int p2), .val (.int p3), .val (.int p4), .val (.int c1), .val (.int c2), .val (.int c3), .val (.int c4), .val (.int kk), .unset, .unset] [(.int c3), (.int (26 : Int32)), (.ref b191), (.ref b191)]))
            obtain ⟨cl245, Ar245, q245, S245, Nn245, H245, G245⟩ := V_b191
            have hin245 : ¬ ((26 : Int32) < 0 ∨ cl245.slots.size ≤ ((26 : Int32)).toNatClampNeg) := inb_of S245 ⟨by decide, by decide⟩
            obtain ⟨T245, h245, X245, e245, W245, st245⟩ := stC X243 hx hZ e243 Ar245 (j := (26 : Int32)) hin245 (g := (mkF m 685 #[.val (.int p0), .val (.int p1), .val (.int p2), .val (.int p3), .val (.int p4), .val (.int c1), .val (.int c2), .val (.int c3), .val (.int c4), .val (.int kk), .unset, .unset] [(.int c3), (.int (26 : Int32)), (.ref b191), (.ref b191)])) rfl rfl (hb hby at_685)
            replace V_b191 : Arv Z h245 b191 k191 .char (64 : Int32) [(.int (nar .char c1)), (.int (nar .char c2)), (.int (nar .char c3)), (.int (nar .char c4)), (.int (nar .char c1)), (.int (nar .char c2)), (.int (nar .char c3)), (.int (nar .char c4)), (.int (nar .char c1)), (.int (nar .char c2)), (.int (nar .char c3)), (.int (nar .char c4)), (.int (nar .char c1)), (.int (nar .char c2)), (.int (nar .char c3)), (.int (nar .char c4)), (.int (nar .char c1)), (.int (nar .char c2)), (.int (nar .char c3)), (.int (nar .char c4)), (.int (nar .char c1)), (.int (nar .char c2)), (.int (nar .char c3)), (.int (nar .char c4)), (.int (nar .char c1)), (.int (nar .char c2)), (.int (nar .char c3)), (.int (0 : Int32)), (.int (0 : Int32)), (.int (0 : Int32)), (.int (0 : Int32)), (.int (0 : Int32)), (.int (0 : Int32)), (.int (0 : Int32)), (.int (0 : Int32)), (.int (0 : Int32)), (.int (0 : Int32)), (.int (0 : Int32)), (.int (0 : Int32)), (.int (0 : Int32)), (.int (0 : Int32)), (.int (0 : Int32)), (.int (0 : Int32)), (.int (0 : Int32)), (.int (0 : Int32)), (.int (0 : Int32)), (.int (0 : Int32)), (.int (0 : Int32)), (.int (0 : Int32)), (.int (0 : Int32)), (.int (0 : Int32)), (.int (0 : Int32)), (.int (0 : Int32)), (.int (0 : Int32)), (.int (0 : Int32)), (.int (0 : Int32)), (.int (0 : Int32)), (.int (0 : Int32)), (.int (0 : Int32)), (.int (0 : Int32)), (.int (0 : Int32)), (.int (0 : Int32)), (.int (0 : Int32)), (.int (0 : Int32))] (.int (0 : Int32)) := Arv.set Ar245 q245 S245 Nn245 H245 G245 (fits_nar_char _) W245 26 rfl (Nat.le_of_ble_eq_true rfl)
            replace S_COMPACT_STRINGS := Sta.wr W245 S_COMPACT_STRINGS
            replace S_SIOOBE_FORMATTER := Sta.wr W245 S_SIOOBE_FORMATTER
            replace E_b191 := E_b191.wr W245
            have Z246 : n0 ≤ h245.size := Nat.le_trans Z244 (Keep.of_wr W245).1
            refine W.go st245 ?_
            have N245 := Fr.snoc X245 N243 g_b191
            show W p e below _ (T245.setTop (mkF m 686 #[.val (.int p0), .val (.int p1), .val (.int p2), .val (.int p3), .val (.int p4), .val (.int c1), .val (.int c2), .val (.int c3), .val (.int c4), .val (.int kk), .unset, .unset] [(.ref b191)]))
            refine W.go (fun _ hr => XS.dup X245.here hx rfl (hb hby at_686) rfl rfl hr) ?_
            show W p e below _ (T245.setTop (mkF m 687 #[.val (.int p0), .val (.int p1), .val (.int p2), .val (.int p3), .val (.int p4), .val (.int c1), .val (.int c2), .val (.int c3), .val (.int c4), .val (.int kk), .unset, .unset] [(.ref b191), (.ref b191)]))
            refine W.go (fun _ hr => XS.bipush X245.here hx rfl (hb hby at_687) hr) ?_
            show W p e below _ (T245.setTop (mkF m 689 #[.val (.int p0), .val (.int p1), .val (.int p2), .val (.int p3), .val (.int p4), .val (.int c1), .val (.int c2), .val (.int c3), .val (.int c4), .val (.int kk), .unset, .unset] [(.int (27 : Int32)), (.ref b191), (.ref b191)]))
            refine W.go (fun _ hr => XS.iload X245.here hx rfl (hb hby at_689) rfl hr) ?_
            show W p e below _ (T245.setTop (mkF m 691 #[.val (.int p0), .val (.int p1), .val (.int p2), .val (.int p3), .val (.int p4), .val (.int c1), .val (.int c2), .val (.int c3), .val (.int c4), .val (.int kk), .unset, .unset] [(.int c4), (.int (27 : Int32)), (.ref b191), (.ref b191)]))
            obtain ⟨cl247, Ar247, q247, S247, Nn247, H247, G247⟩ := V_b191
            have hin247 : ¬ ((27 : Int32) < 0 ∨ cl247.slots.size ≤ ((27 : Int32)).toNatClampNeg) := inb_of S247 ⟨by decide, by decide⟩
            obtain ⟨T247, h247, X247, e247, W247, st247⟩ := stC X245 hx hZ e245 Ar247 (j := (27 : Int32)) hin247 (g := (mkF m 691 #[.val (.int p0), .val (.int p1), .val (.int p2), .val (.int p3), .val (.int p4), .val (.int c1), .val (.int c2), .val (.int c3), .val (.int c4), .val (.int kk), .unset, .unset] [(.int c4), (.int (27 : Int32)), (.ref b191), (.ref b191)])) rfl rfl (hb hby at_691)
            replace V_b191 : Arv Z h247 b191 k191 .char (64 : Int32) [(.int (nar .char c1)), (.int (nar .char c2)), (.int (nar .char c3)), (.int (nar .char c4)), (.int (nar .char c1)), (.int (nar .char c2)), (.int (nar .char c3)), (.int (nar .char c4)), (.int (nar .char c1)), (.int (nar .char c2)), (.int (nar .char c3)), (.int (nar .char c4)), (.int (nar .char c1)), (.int (nar .char c2)), (.int (nar .char c3)), (.int (nar .char c4)), (.int (nar .char c1)), (.int (nar .char c2)), (.int (nar .char c3)), (.int (nar .char c4)), (.int (nar .char c1)), (.int (nar .char c2)), (.int (nar .char c3)), (.int (nar .char c4)), (.int (nar .char c1)), (.int (nar .char c2)), (.int (nar .char c3)), (.int (nar .char c4)), (.int (0 : Int32)), (.int (0 : Int32)), (.int (0 : Int32)), (.int (0 : Int32)), (.int (0 : Int32)), (.int (0 : Int32)), (.int (0 : Int32)), (.int (0 : Int32)), (.int (0 : Int32)), (.int (0 : Int32)), (.int (0 : Int32)), (.int (0 : Int32)), (.int (0 : Int32)), (.int (0 : Int32)), (.int (0 : Int32)), (.int (0 : Int32)), (.int (0 : Int32)), (.int (0 : Int32)), (.int (0 : Int32)), (.int (0 : Int32)), (.int (0 : Int32)), (.int (0 : Int32)), (.int (0 : Int32)), (.int (0 : Int32)), (.int (0 : Int32)), (.int (0 : Int32)), (.int (0 : Int32)), (.int (0 : Int32)), (.int (0 : Int32)), (.int (0 : Int32)), (.int (0 : Int32)), (.int (0 : Int32)), (.int (0 : Int32)), (.int (0 : Int32)), (.int (0 : Int32)), (.int (0 : Int32))] (.int (0 : Int32)) := Arv.set Ar247 q247 S247 Nn247 H247 G247 (fits_nar_char _) W247 27 rfl (Nat.le_of_ble_eq_true rfl)
            replace S_COMPACT_STRINGS := Sta.wr W247 S_COMPACT_STRINGS
            replace S_SIOOBE_FORMATTER := Sta.wr W247 S_SIOOBE_FORMATTER
            replace E_b191 := E_b191.wr W247
            have Z248 : n0 ≤ h247.size := Nat.le_trans Z246 (Keep.of_wr W247).1
            refine W.go st247 ?_
            have N247 := Fr.snoc X247 N245 g_b191
            show W p e below _ (T247.setTop (mkF m 692 #[.val (.int p0), .val (.int p1), .val (.int p2), .val (.int p3), .val (.int p4), .val (.int c1), .val (.int c2), .val (.int c3), .val (.int c4), .val (.int kk), .unset, .unset] [(.ref b191)]))
            refine W.go (fun _ hr => XS.dup X247.here hx rfl (hb hby at_692) rfl rfl hr) ?_
            show W p e below _ (T247.setTop (mkF m 693 #[.val (.int p0), .val (.int p1), .val (.int p2), .val (.int p3), .val (.int p4), .val (.int c1), .val (.int c2), .val (.int c3), .val (.int c4), .val (.int kk), .unset, .unset] [(.ref b191), (.ref b191)]))
            refine W.go (fun _ hr => XS.bipush X247.here hx rfl (hb hby at_693) hr) ?_
            show W p e below _ (T247.setTop (mkF m 695 #[.val (.int p0), .val (.int p1), .val (.int p2), .val (.int p3), .val (.int p4), .val (.int c1), .val (.int c2), .val (.int c3), .val (.int c4), .val (.int kk), .unset, .unset] [(.int (28 : Int32)), (.ref b191), (.ref b191)]))
            refine W.go (fun _ hr => XS.iload X247.here hx rfl (hb hby at_695) rfl hr) ?_
            show W p e below _ (T247.setTop (mkF m 697 #[.val (.int p0), .val (.int p1), .val (.int p2), .val (.int p3), .val (.int p4), .val (.int c1), .val (.int c2), .val (.int c3), .val (.int c4), .val (.int kk), .unset, .unset] [(.int c1), (.int (28 : Int32)), (.ref b191), (.ref b191)]))
            obtain ⟨cl249, Ar249, q249, S249, Nn249, H249, G249⟩ := V_b191
            have hin249 : ¬ ((28 : Int32) < 0 ∨ cl249.slots.size ≤ ((28 : Int32)).toNatClampNeg) := inb_of S249 ⟨by decide, by decide⟩
            obtain ⟨T249, h249, X249, e249, W249, st249⟩ := stC X247 hx hZ e247 Ar249 (j := (28 : Int32)) hin249 (g := (mkF m 697 #[.val (.int p0), .val (.int p1), .val (.int p2), .val (.int p3), .val (.int p4), .val (.int c1), .val (.int c2), .val (.int c3), .val (.int c4), .val (.int kk), .unset, .unset] [(.int c1), (.int (28 : Int32)), (.ref b191), (.ref b191)])) rfl rfl (hb hby at_697)
            replace V_b191 : Arv Z h249 b191 k191 .char (64 : Int32) [(.int (nar .char c1)), (.int (nar .char c2)), (.int (nar .char c3)), (.int (nar .char c4)), (.int (nar .char c1)), (.int (nar .char c2)), (.int (nar .char c3)), (.int (nar .char c4)), (.int (nar .char c1)), (.int (nar .char c2)), (.int (nar .char c3)), (.int (nar .char c4)), (.int (nar .char c1)), (.int (nar .char c2)), (.int (nar .char c3)), (.int (nar .char c4)), (.int (nar .char c1)), (.int (nar .char c2)), (.int (nar .char c3)), (.int (nar .char c4)), (.int (nar .char c1)), (.int (nar .char c2)), (.int (nar .char c3)), (.int (nar .char c4)), (.int (nar .char c1)), (.int (nar .char c2)), (.int (nar .char c3)), (.int (nar .char c4)), (.int (nar .char c1)), (.int (0 : Int32)), (.int (0 : Int32)), (.int (0 : Int32)), (.int (0 : Int32)), (.int (0 : Int32)), (.int (0 : Int32)), (.int (0 : Int32)), (.int (0 : Int32)), (.int (0 : Int32)), (.int (0 : Int32)), (.int (0 : Int32)), (.int (0 : Int32)), (.int (0 : Int32)), (.int (0 : Int32)), (.int (0 : Int32)), (.int (0 : Int32)), (.int (0 : Int32)), (.int (0 : Int32)), (.int (0 : Int32)), (.int (0 : Int32)), (.int (0 : Int32)), (.int (0 : Int32)), (.int (0 : Int32)), (.int (0 : Int32)), (.int (0 : Int32)), (.int (0 : Int32)), (.int (0 : Int32)), (.int (0 : Int32)), (.int (0 : Int32)), (.int (0 : Int32)), (.int (0 : Int32)), (.int (0 : Int32)), (.int (0 : Int32)), (.int (0 : Int32)), (.int (0 : Int32))] (.int (0 : Int32)) := Arv.set Ar249 q249 S249 Nn249 H249 G249 (fits_nar_char _) W249 28 rfl (Nat.le_of_ble_eq_true rfl)
            replace S_COMPACT_STRINGS := Sta.wr W249 S_COMPACT_STRINGS
            replace S_SIOOBE_FORMATTER := Sta.wr W249 S_SIOOBE_FORMATTER
            replace E_b191 := E_b191.wr W249
            have Z250 : n0 ≤ h249.size := Nat.le_trans Z248 (Keep.of_wr W249).1
            refine W.go st249 ?_
            have N249 := Fr.snoc X249 N247 g_b191
            show W p e below _ (T249.setTop (mkF m 698 #[.val (.int p0), .val (.int p1), .val (.int p2), .val (.int p3), .val (.int p4), .val (.int c1), .val (.int c2), .val (.int c3), .val (.int c4), .val (.int kk), .unset, .unset] [(.ref b191)]))
            refine W.go (fun _ hr => XS.dup X249.here hx rfl (hb hby at_698) rfl rfl hr) ?_
            show W p e below _ (T249.setTop (mkF m 699 #[.val (.int p0), .val (.int p1), .val (.int p2), .val (.int p3), .val (.int p4), .val (.int c1), .val (.int c2), .val (.int c3), .val (.int c4), .val (.int kk), .unset, .unset] [(.ref b191), (.ref b191)]))
            refine W.go (fun _ hr => XS.bipush X249.here hx rfl (hb hby at_699) hr) ?_
            show W p e below _ (T249.setTop (mkF m 701 #[.val (.int p0), .val (.int p1), .val (.int p2), .val (.int p3), .val (.int p4), .val (.int c1), .val (.int c2), .val (.int c3), .val (.int c4), .val (.int kk), .unset, .unset] [(.int (29 : Int32)), (.ref b191), (.ref b191)]))
            refine W.go (fun _ hr => XS.iload X249.here hx rfl (hb hby at_701) rfl hr) ?_
            show W p e below _ (T249.setTop (mkF m 703 #[.val (.int p0), .val (.int p1), .val (.int p2), .val (.int p3), .val (.int p4), .val (.int c1), .val (.int c2), .val (.int c3), .val (.int c4), .val (.int kk), .unset, .unset] [(.int c2), (.int (29 : Int32)), (.ref b191), (.ref b191)]))
            obtain ⟨cl251, Ar251, q251, S251, Nn251, H251, G251⟩ := V_b191
            have hin251 : ¬ ((29 : Int32) < 0 ∨ cl251.slots.size ≤ ((29 : Int32)).toNatClampNeg) := inb_of S251 ⟨by decide, by decide⟩
            obtain ⟨T251, h251, X251, e251, W251, st251⟩ := stC X249 hx hZ e249 Ar251 (j := (29 : Int32)) hin251 (g := (mkF m 703 #[.val (.int p0), .val (.int p1), .val (.int p2), .val (.int p3), .val (.int p4), .val (.int c1), .val (.int c2), .val (.int c3), .val (.int c4), .val (.int kk), .unset, .unset] [(.int c2), (.int (29 : Int32)), (.ref b191), (.ref b191)])) rfl rfl (hb hby at_703)
            replace V_b191 : Arv Z h251 b191 k191 .char (64 : Int32) [(.int (nar .char c1)), (.int (nar .char c2)), (.int (nar .char c3)), (.int (nar .char c4)), (.int (nar .char c1)), (.int (nar .char c2)), (.int (nar .char c3)), (.int (nar .char c4)), (.int (nar .char c1)), (.int (nar .char c2)), (.int (nar .char c3)), (.int (nar .char c4)), (.int (nar .char c1)), (.int (nar .char c2)), (.int (nar .char c3)), (.int (nar .char c4)), (.int (nar .char c1)), (.int (nar .char c2)), (.int (nar .char c3)), (.int (nar .char c4)), (.int (nar .char c1)), (.int (nar .char c2)), (.int (nar .char c3)), (.int (nar .char c4)), (.int (nar .char c1)), (.int (nar .char c2)), (.int (nar .char c3)), (.int (nar .char c4)), (.int (nar .char c1)), (.int (nar .char c2)), (.int (0 : Int32)), (.int (0 : Int32)), (.int (0 : Int32)), (.int (0 : Int32)), (.int (0 : Int32)), (.int (0 : Int32)), (.int (0 : Int32)), (.int (0 : Int32)), (.int (0 : Int32)), (.int (0 : Int32)), (.int (0 : Int32)), (.int (0 : Int32)), (.int (0 : Int32)), (.int (0 : Int32)), (.int (0 : Int32)), (.int (0 : Int32)), (.int (0 : Int32)), (.int (0 : Int32)), (.int (0 : Int32)), (.int (0 : Int32)), (.int (0 : Int32)), (.int (0 : Int32)), (.int (0 : Int32)), (.int (0 : Int32)), (.int (0 : Int32)), (.int (0 : Int32)), (.int (0 : Int32)), (.int (0 : Int32)), (.int (0 : Int32)), (.int (0 : Int32)), (.int (0 : Int32)), (.int (0 : Int32)), (.int (0 : Int32)), (.int (0 : Int32))] (.int (0 : Int32)) := Arv.set Ar251 q251 S251 Nn251 H251 G251 (fits_nar_char _) W251 29 rfl (Nat.le_of_ble_eq_true rfl)
            replace S_COMPACT_STRINGS := Sta.wr W251 S_COMPACT_STRINGS
            replace S_SIOOBE_FORMATTER := Sta.wr W251 S_SIOOBE_FORMATTER
            replace E_b191 := E_b191.wr W251
            have Z252 : n0 ≤ h251.size := Nat.le_trans Z250 (Keep.of_wr W251).1
            refine W.go st251 ?_
            have N251 := Fr.snoc X251 N249 g_b191
            show W p e below _ (T251.setTop (mkF m 704 #[.val (.int p0), .val (.int p1), .val (.int p2), .val (.int p3), .val (.int p4), .val (.int c1), .val (.int c2), .val (.int c3), .val (.int c4), .val (.int kk), .unset, .unset] [(.ref b191)]))
            refine W.go (fun _ hr => XS.dup X251.here hx rfl (hb hby at_704) rfl rfl hr) ?_
            show W p e below _ (T251.setTop (mkF m 705 #[.val (.int p0), .val (.int p1), .val (.int p2), .val (.int p3), .val (.int p4), .val (.int c1), .val (.int c2), .val (.int c3), .val (.int c4), .val (.int kk), .unset, .unset] [(.ref b191), (.ref b191)]))
            refine W.go (fun _ hr => XS.bipush X251.here hx rfl (hb hby at_705) hr) ?_
            show W p e below _ (T251.setTop (mkF m 707 #[.val (.int p0), .val (.int p1), .val (.int p2), .val (.int p3), .val (.int p4), .val (.int c1), .val (.int c2), .val (.int c3), .val (.int c4), .val (.int kk), .unset, .unset] [(.int (30 : Int32)), (.ref b191), (.ref b191)]))
            refine W.go (fun _ hr => XS.iload X251.here hx rfl (hb hby at_707) rfl hr) ?_
            show W p e below _ (T251.setTop (mkF m 709 #[.val (.int p0), .val (.int p1), .val (.int p2), .val (.int p3), .val (.int p4), .val (.int c1), .val (.int c2), .val (.int c3), .val (.int c4), .val (.int kk), .unset, .unset] [(.int c3), (.int (30 : Int32)), (.ref b191), (.ref b191)]))
            obtain ⟨cl253, Ar253, q253, S253, Nn253, H253, G253⟩ := V_b191
            have hin253 : ¬ ((30 : Int32) < 0 ∨ cl253.slots.size ≤ ((30 : Int32)).toNatClampNeg) := inb_of S253 ⟨by decide, by decide⟩
            obtain ⟨T253, h253, X253, e253, W253, st253⟩ := stC X251 hx hZ e251 Ar253 (j := (30 : Int32)) hin253 (g := (mkF m 709 #[.val (.int p0), .val (.int p1), .val (.int p2), .val (.int p3), .val (.int p4), .val (.int c1), .val (.int c2), .val (.int c3), .val (.int c4), .val (.int kk), .unset, .unset] [(.int c3), (.int (30 : Int32)), (.ref b191), (.ref b191)])) rfl rfl (hb hby at_709)
            replace V_b191 : Arv Z h253 b191 k191 .char (64 : Int32) [(.int (nar .char c1)), (.int (nar .char c2)), (.int (nar .char c3)), (.int (nar .char c4)), (.int (nar .char c1)), (.int (nar .char c2)), (.int (nar .char c3)), (.int (nar .char c4)), (.int (nar .char c1)), (.int (nar .char c2)), (.int (nar .char c3)), (.int (nar .char c4)), (.int (nar .char c1)), (.int (nar .char c2)), (.int (nar .char c3)), (.int (nar .char c4)), (.int (nar .char c1)), (.int (nar .char c2)), (.int (nar .char c3)), (.int (nar .char c4)), (.int (nar .char c1)), (.int (nar .char c2)), (.int (nar .char c3)), (.int (nar .char c4)), (.int (nar .char c1)), (.int (nar .char c2)), (.int (nar .char c3)), (.int (nar .char c4)), (.int (nar .char c1)), (.int (nar .char c2)), (.int (nar .char c3)), (.int (0 : Int32)), (.int (0 : Int32)), (.int (0 : Int32)), (.int (0 : Int32)), (.int (0 : Int32)), (.int (0 : Int32)), (.int (0 : Int32)), (.int (0 : Int32)), (.int (0 : Int32)), (.int (0 : Int32)), (.int (0 : Int32)), (.int (0 : Int32)), (.int (0 : Int32)), (.int (0 : Int32)), (.int (0 : Int32)), (.int (0 : Int32)), (.int (0 : Int32)), (.int (0 : Int32)), (.int (0 : Int32)), (.int (0 : Int32)), (.int (0 : Int32)), (.int (0 : Int32)), (.int (0 : Int32)), (.int (0 : Int32)), (.int (0 : Int32)), (.int (0 : Int32)), (.int (0 : Int32)), (.int (0 : Int32)), (.int (0 : Int32)), (.int (0 : Int32)), (.int (0 : Int32)), (.int (0 : Int32)), (.int (0 : Int32))] (.int (0 : Int32)) := Arv.set Ar253 q253 S253 Nn253 H253 G253 (fits_nar_char _) W253 30 rfl (Nat.le_of_ble_eq_true rfl)
            replace S_COMPACT_STRINGS := Sta.wr W253 S_COMPACT_STRINGS
            replace S_SIOOBE_FORMATTER := Sta.wr W253 S_SIOOBE_FORMATTER
            replace E_b191 := E_b191.wr W253
            have Z254 : n0 ≤ h253.size := Nat.le_trans Z252 (Keep.of_wr W253).1
            refine W.go st253 ?_
            have N253 := Fr.snoc X253 N251 g_b191
            show W p e below _ (T253.setTop (mkF m 710 #[.val (.int p0), .val (.int p1), .val (.int p2), .val (.int p3), .val (.int p4), .val (.int c1), .val (.int c2), .val (.int c3), .val (.int c4), .val (.int kk), .unset, .unset] [(.ref b191)]))
            refine W.go (fun _ hr => XS.dup X253.here hx rfl (hb hby at_710) rfl rfl hr) ?_
            show W p e below _ (T253.setTop (mkF m 711 #[.val (.int p0), .val (.int p1), .val (.int p2), .val (.int p3), .val (.int p4), .val (.int c1), .val (.int c2), .val (.int c3), .val (.int c4), .val (.int kk), .unset, .unset] [(.ref b191), (.ref b191)]))
            refine W.go (fun _ hr => XS.bipush X253.here hx rfl (hb hby at_711) hr) ?_
            show W p e below _ (T253.setTop (mkF m 713 #[.val (.int p0), .val (.int p1), .val (.int p2), .val (.int p3), .val (.int p4), .val (.int c1), .val (.int c2), .val (.int c3), .val (.int c4), .val (.int kk), .unset, .unset] [(.int (31 : Int32)), (.ref b191), (.ref b191)]))
            refine W.go (fun _ hr => XS.iload X253.here hx rfl (hb hby at_713) rfl hr) ?_
            show W p e below _ (T253.setTop (mkF m 715 #[.val (.int p0), .val (.int p1), .val (.int p2), .val (.int p3), .val (.int p4), .val (.int c1), .val (.int c2), .val (.int c3), .val (.int c4), .val (.int kk), .unset, .unset] [(.int c4), (.int (31 : Int32)), (.ref b191), (.ref b191)]))
            obtain ⟨cl255, Ar255, q255, S255, Nn255, H255, G255⟩ := V_b191
            have hin255 : ¬ ((31 : Int32) < 0 ∨ cl255.slots.size ≤ ((31 : Int32)).toNatClampNeg) := inb_of S255 ⟨by decide, by decide⟩
            obtain ⟨T255, h255, X255, e255, W255, st255⟩ := stC X253 hx hZ e253 Ar255 (j := (31 : Int32)) hin255 (g := (mkF m 715 #[.val (.int p0), .val (.int p1), .val (.int p2), .val (.int p3), .val (.int p4), .val (.int c1), .val (.int c2), .val (.int c3), .val (.int c4), .val (.int kk), .unset, .unset] [(.int c4), (.int (31 : Int32)), (.ref b191), (.ref b191)])) rfl rfl (hb hby at_715)
            replace V_b191 : Arv Z h255 b191 k191 .char (64 : Int32) [(.int (nar .char c1)), (.int (nar .char c2)), (.int (nar .char c3)), (.int (nar .char c4)), (.int (nar .char c1)), (.int (nar .char c2)), (.int (nar .char c3)), (.int (nar .char c4)), (.int (nar .char c1)), (.int (nar .char c2)), (.int (nar .char c3)), (.int (nar .char c4)), (.int (nar .char c1)), (.int (nar .char c2)), (.int (nar .char c3)), (.int (nar .char c4)), (.int (nar .char c1)), (.int (nar .char c2)), (.int (nar .char c3)), (.int (nar .char c4)), (.int (nar .char c1)), (.int (nar .char c2)), (.int (nar .char c3)), (.int (nar .char c4)), (.int (nar .char c1)), (.int (nar .char c2)), (.int (nar .char c3)), (.int (nar .char c4)), (.int (nar .char c1)), (.int (nar .char c2)), (.int (nar .char c3)), (.int (nar .char c4)), (.int (0 : Int32)), (.int (0 : Int32)), (.int (0 : Int32)), (.int (0 : Int32)), (.int (0 : Int32)), (.int (0 : Int32)), (.int (0 : Int32)), (.int (0 : Int32)), (.int (0 : Int32)), (.int (0 : Int32)), (.int (0 : Int32)), (.int (0 : Int32)), (.int (0 : Int32)), (.int (0 : Int32)), (.int (0 : Int32)), (.int (0 : Int32)), (.int (0 : Int32)), (.int (0 : Int32)), (.int (0 : Int32)), (.int (0 : Int32)), (.int (0 : Int32)), (.int (0 : Int32)), (.int (0 : Int32)), (.int (0 : Int32)), (.int (0 : Int32)), (.int (0 : Int32)), (.int (0 : Int32)), (.int (0 : Int32)), (.int (0 : Int32)), (.int (0 : Int32)), (.int (0 : Int32)), (.int (0 : Int32))] (.int (0 : Int32)) := Arv.set Ar255 q255 S255 Nn255 H255 G255 (fits_nar_char _) W255 31 rfl (Nat.le_of_ble_eq_true rfl)
            replace S_COMPACT_STRINGS := Sta.wr W255 S_COMPACT_STRINGS
            replace S_SIOOBE_FORMATTER := Sta.wr W255 S_SIOOBE_FORMATTER
            replace E_b191 := E_b191.wr W255
            have Z256 : n0 ≤ h255.size := Nat.le_trans Z254 (Keep.of_wr W255).1
            refine W.go st255 ?_
            have N255 := Fr.snoc X255 N253 g_b191
            show W p e below _ (T255.setTop (mkF m 716 #[.val (.int p0), .val (.int p1), .val (.int p2), .val (.int p3), .val (.int p4), .val (.int c1), .val (.int c2), .val (.int c3), .val (.int c4), .val (.int kk), .unset, .unset] [(.ref b191)]))
            refine W.go (fun _ hr => XS.dup X255.here hx rfl (hb hby at_716) rfl rfl hr) ?_
            show W p e below _ (T255.setTop (mkF m 717 #[.val (.int p0), .val (.int p1), .val (.int p2), .val (.int p3), .val (.int p4), .val (.int c1), .val (.int c2), .val (.int c3), .val (.int c4), .val (.int kk), .unset, .unset] [(.ref b191), (.ref b191)]))
            refine W.go (fun _ hr => XS.bipush X255.here hx rfl (hb hby at_717) hr) ?_
            show W p e below _ (T255.setTop (mkF m 719 #[.val (.int p0), .val (.int p1), .val (.int p2), .val (.int p3), .val (.int p4), .val (.int c1), .val (.int c2), .val (.int c3), .val (.int c4), .val (.int kk), .unset, .unset] [(.int (32 : Int32)), (.ref b191), (.ref b191)]))
            refine W.go (fun _ hr => XS.iload X255.here hx rfl (hb hby at_719) rfl hr) ?_
            show W p e below _ (T255.setTop (mkF m 721 #[.val (.int p0), .val (.int p1), .val (.int p2), .val (.int p3), .val (.int p4), .val (.int c1), .val (.int c2), .val (.int c3), .val (.int c4), .val (.int kk), .unset, .unset] [(.int c1), (.int (32 : Int32)), (.ref b191), (.ref b191)]))
            obtain ⟨cl257, Ar257, q257, S257, Nn257, H257, G257⟩ := V_b191
            have hin257 : ¬ ((32 : Int32) < 0 ∨ cl257.slots.size ≤ ((32 : Int32)).toNatClampNeg) := inb_of S257 ⟨by decide, by decide⟩
            obtain ⟨T257, h257, X257, e257, W257, st257⟩ := stC X255 hx hZ e255 Ar257 (j := (32 : Int32)) hin257 (g := (mkF m 721 #[.val (.int p0), .val (.int p1), .val (.int p2), .val (.int p3), .val (.int p4), .val (.int c1), .val (.int c2), .val (.int c3), .val (.int c4), .val (.int kk), .unset, .unset] [(.int c1), (.int (32 : Int32)), (.ref b191), (.ref b191)])) rfl rfl (hb hby at_721)
            replace V_b191 : Arv Z h257 b191 k191 .char (64 : Int32) [(.int (nar .char c1)), (.int (nar .char c2)), (.int (nar .char c3)), (.int (nar .char c4)), (.int (nar .char c1)), (.int (nar .char c2)), (.int (nar .char c3)), (.int (nar .char c4)), (.int (nar .char c1)), (.int (nar .char c2)), (.int (nar .char c3)), (.int (nar .char c4)), (.int (nar .char c1)), (.int (nar .char c2)), (.int (nar .char c3)), (.int (nar .char c4)), (.int (nar .char c1)), (.int (nar .char c2)), (.int (nar .char c3)), (.int (nar .char c4)), (.int (nar .char c1)), (.int (nar .char c2)), (.int (nar .char c3)), (.int (nar .char c4)), (.int (nar .char c1)), (.int (nar .char c2)), (.int (nar .char c3)), (.int (nar .char c4)), (.int (nar .char c1)), (.int (nar .char c2)), (.int (nar .char c3)), (.int (nar .char c4)), (.int (nar .char c1)), (.int (0 : Int32)), (.int (0 : Int32)), (.int (0 : Int32)), (.int (0 : Int32)), (.int (0 : Int32)), (.int (0 : Int32)), (.int (0 : Int32)), (.int (0 : Int32)), (.int (0 : Int32)), (.int (0 : Int32)), (.int (0 : Int32)), (.int (0 : Int32)), (.int (0 : Int32)), (.int (0 : Int32)), (.int (0 : Int32)), (.int (0 : Int32)), (.int (0 : Int32)), (.int (0 : Int32)), (.int (0 : Int32)), (.int (0 : Int32)), (.int (0 : Int32)), (.int (0 : Int32)), (.int (0 : Int32)), (.int (0 : Int32)), (.int (0 : Int32)), (.int (0 : Int32)), (.int (0 : Int32)), (.int (0 : Int32)), (.int (0 : Int32)), (.int (0 : Int32)), (.int (0 : Int32))] (.int (0 : Int32)) := Arv.set Ar257 q257 S257 Nn257 H257 G257 (fits_nar_char _) W257 32 rfl (Nat.le_of_ble_eq_true rfl)
            replace S_COMPACT_STRINGS := Sta.wr W257 S_COMPACT_STRINGS
            replace S_SIOOBE_FORMATTER := Sta.wr W257 S_SIOOBE_FORMATTER
            replace E_b191 := E_b191.wr W257
            have Z258 : n0 ≤ h257.size := Nat.le_trans Z256 (Keep.of_wr W257).1
            refine W.go st257 ?_
            have N257 := Fr.snoc X257 N255 g_b191
            show W p e below _ (T257.setTop (mkF m 722 #[.val (.int p0), .val (.int p1), .val (.int p2), .val (.int p3), .val (.int p4), .val (.int c1), .val (.int c2), .val (.int c3), .val (.int c4), .val (.int kk), .unset, .unset] [(.ref b191)]))
            refine W.go (fun _ hr => XS.dup X257.here hx rfl (hb hby at_722) rfl rfl hr) ?_
            show W p e below _ (T257.setTop (mkF m 723 #[.val (.int p0), .val (.int p1), .val (.int p2), .val (.int p3), .val (.int p4), .val (.int c1), .val (.int c2), .val (.int c3), .val (.int c4), .val (.int kk), .unset, .unset] [(.ref b191), (.ref b191)]))
            refine W.go (fun _ hr => XS.bipush X257.here hx rfl (hb hby at_723) hr) ?_
            show W p e below _ (T257.setTop (mkF m 725 #[.val (.int p0), .val (.int p1), .val (.int p2), .val (.int p3), .val (.int p4), .val (.int c1), .val (.int c2), .val (.int c3), .val (.int c4), .val (.int kk), .unset, .unset] [(.int (33 : Int32)), (.ref b191), (.ref b191)]))
            refine W.go (fun _ hr => XS.iload X257.here hx rfl (hb hby at_725) rfl hr) ?_
            show W p e below _ (T257.setTop (mkF m 727 #[.val (.int p0), .val (.int p1), .val (.int p2), .val (.int p3), .val (.int p4), .val (.int c1), .val (.int c2), .val (.int c3), .val (.int c4), .val (.int kk), .unset, .unset] [(.int c2), (.int (33 : Int32)), (.ref b191), (.ref b191)]))
            obtain ⟨cl259, Ar259, q259, S259, Nn259, H259, G259⟩ := V_b191
            have hin259 : ¬ ((33 : Int32) < 0 ∨ cl259.slots.size ≤ ((33 : Int32)).toNatClampNeg) := inb_of S259 ⟨by decide, by decide⟩
            obtain ⟨T259, h259, X259, e259, W259, st259⟩ := stC X257 hx hZ e257 Ar259 (j := (33 : Int32)) hin259 (g := (mkF m 727 #[.val (.int p0), .val (.int p1), .val (.int p2), .val (.int p3), .val (.int p4), .val (.int c1), .val (.int c2), .val (.int c3), .val (.int c4), .val (.int kk), .unset, .unset] [(.int c2), (.int (33 : Int32)), (.ref b191), (.ref b191)])) rfl rfl (hb hby at_727)
            replace V_b191 : Arv Z h259 b191 k191 .char (64 : Int32) [(.int (nar .char c1)), (.int (nar .char c2)), (.int (nar .char c3)), (.int (nar .char c4)), (.int (nar .char c1)), (.int (nar .char c2)), (.int (nar .char c3)), (.int (nar .char c4)), (.int (nar .char c1)), (.int (nar .char c2)), (.int (nar .char c3)), (.int (nar .char c4)), (.int (nar .char c1)), (.int (nar .char c2)), (.int (nar .char c3)), (.int (nar .char c4)), (.int (nar .char c1)), (.int (nar .char c2)), (.int (nar .char c3)), (.int (nar .char c4)), (.int (nar .char c1)), (.int (nar .char c2)), (.int (nar .char c3)), (.int (nar .char c4)), (.int (nar .char c1)), (.int (nar .char c2)), (.int (nar .char c3)), (.int (nar .char c4)), (.int (nar .char c1)), (.int (nar .char c2)), (.int (nar .char c3)), (.int (nar .char c4)), (.int (nar .char c1)), (.int (nar .char c2)), (.int (0 : Int32)), (.int (0 : Int32)), (.int (0 : Int32)), (.int (0 : Int32)), (.int (0 : Int32)), (.int (0 : Int32)), (.int (0 : Int32)), (.int (0 : Int32)), (.int (0 : Int32)), (.int (0 : Int32)), (.int (0 : Int32)), (.int (0 : Int32)), (.int (0 : Int32)), (.int (0 : Int32)), (.int (0 : Int32)), (.int (0 : Int32)), (.int (0 : Int32)), (.int (0 : Int32)), (.int (0 : Int32)), (.int (0 : Int32)), (.int (0 : Int32)), (.int (0 : Int32)), (.int (0 : Int32)), (.int (0 : Int32)), (.int (0 : Int32)), (.int (0 : Int32)), (.int (0 : Int32)), (.int (0 : Int32)), (.int (0 : Int32)), (.int (0 : Int32))] (.int (0 : Int32)) := Arv.set Ar259 q259 S259 Nn259 H259 G259 (fits_nar_char _) W259 33 rfl (Nat.le_of_ble_eq_true rfl)
            replace S_COMPACT_STRINGS := Sta.wr W259 S_COMPACT_STRINGS
            replace S_SIOOBE_FORMATTER := Sta.wr W259 S_SIOOBE_FORMATTER
            replace E_b191 := E_b191.wr W259
            have Z260 : n0 ≤ h259.size := Nat.le_trans Z258 (Keep.of_wr W259).1
            refine W.go st259 ?_
            have N259 := Fr.snoc X259 N257 g_b191
            show W p e below _ (T259.setTop (mkF m 728 #[.val (.int p0), .val (.int p1), .val (.int p2), .val (.int p3), .val (.int p4), .val (.int c1), .val (.int c2), .val (.int c3), .val (.int c4), .val (.int kk), .unset, .unset] [(.ref b191)]))
            refine W.go (fun _ hr => XS.dup X259.here hx rfl (hb hby at_728) rfl rfl hr) ?_
            show W p e below _ (T259.setTop (mkF m 729 #[.val (.int p0), .val (.int p1), .val (.int p2), .val (.int p3), .val (.int p4), .val (.int c1), .val (.int c2), .val (.int c3), .val (.int c4), .val (.int kk), .unset, .unset] [(.ref b191), (.ref b191)]))
            refine W.go (fun _ hr => XS.bipush X259.here hx rfl (hb hby at_729) hr) ?_
            show W p e below _ (T259.setTop (mkF m 731 #[.val (.int p0), .val (.int p1), .val (.int p2), .val (.int p3), .val (.int p4), .val (.int c1), .val (.int c2), .val (.int c3), .val (.int c4), .val (.int kk), .unset, .unset] [(.int (34 : Int32)), (.ref b191), (.ref b191)]))
            refine W.go (fun _ hr => XS.iload X259.here hx rfl (hb hby at_731) rfl hr) ?_
            show W p e below _ (T259.setTop (mkF m 733 #[.val (.int p0), .val (.int p1), .val (.int p2), .val (.int p3), .val (.int p4), .val (.int c1), .val (.int c2), .val (.int c3), .val (.int c4), .val (.int kk), .unset, .unset] [(.int c3), (.int (34 : Int32)), (.ref b191), (.ref b191)]))
            obtain ⟨cl261, Ar261, q261, S261, Nn261, H261, G261⟩ := V_b191
            have hin261 : ¬ ((34 : Int32) < 0 ∨ cl261.slots.size ≤ ((34 : Int32)).toNatClampNeg) := inb_of S261 ⟨by decide, by decide⟩
            obtain ⟨T261, h261, X261, e261, W261, st261⟩ := stC X259 hx hZ e259 Ar261 (j := (34 : Int32)) hin261 (g := (mkF m 733 #[.val (.int p0), .val (.int p1), .val (.int p2), .val (.int p3), .val (.int p4), .val (.int c1), .val (.int c2), .val (.int c3), .val (.int c4), .val (.int kk), .unset, .unset] [(.int c3), (.int (34 : Int32)), (.ref b191), (.ref b191)])) rfl rfl (hb hby at_733)
            replace V_b191 : Arv Z h261 b191 k191 .char (64 : Int32) [(.int (nar .char c1)), (.int (nar .char c2)), (.int (nar .char c3)), (.int (nar .char c4)), (.int (nar .char c1)), (.int (nar .char c2)), (.int (nar .char c3)), (.int (nar .char c4)), (.int (nar .char c1)), (.int (nar .char c2)), (.int (nar .char c3)), (.int (nar .char c4)), (.int (nar .char c1)), (.int (nar .char c2)), (.int (nar .char c3)), (.int (nar .char c4)), (.int (nar .char c1)), (.int (nar .char c2)), (.int (nar .char c3)), (.int (nar .char c4)), (.int (nar .char c1)), (.int (nar .char c2)), (.int (nar .char c3)), (.int (nar .char c4)), (.int (nar .char c1)), (.int (nar .char c2)), (.int (nar .char c3)), (.int (nar .char c4)), (.int (nar .char c1)), (.int (nar .char c2)), (.int (nar .char c3)), (.int (nar .char c4)), (.int (nar .char c1)), (.int (nar .char c2)), (.int (nar .char c3)), (.int (0 : Int32)), (.int (0 : Int32)), (.int (0 : Int32)), (.int (0 : Int32)), (.int (0 : Int32)), (.int (0 : Int32)), (.int (0 : Int32)), (.int (0 : Int32)), (.int (0 : Int32)), (.int (0 : Int32)), (.int (0 : Int32)), (.int (0 : Int32)), (.int (0 : Int32)), (.int (0 : Int32)), (.int (0 : Int32)), (.int (0 : Int32)), (.int (0 : Int32)), (.int (0 : Int32)), (.int (0 : Int32)), (.int (0 : Int32)), (.int (0 : Int32)), (.int (0 : Int32)), (.int (0 : Int32)), (.int (0 : Int32)), (.int (0 : Int32)), (.int (0 : Int32)), (.int (0 : Int32)), (.int (0 : Int32)), (.int (0 : Int32))] (.int (0 : Int32)) := Arv.set Ar261 q261 S261 Nn261 H261 G261 (fits_nar_char _) W261 34 rfl (Nat.le_of_ble_eq_true rfl)
            replace S_COMPACT_STRINGS := Sta.wr W261 S_COMPACT_STRINGS
            replace S_SIOOBE_FORMATTER := Sta.wr W261 S_SIOOBE_FORMATTER
            replace E_b191 := E_b191.wr W261
            have Z262 : n0 ≤ h261.size := Nat.le_trans Z260 (Keep.of_wr W261).1
            refine W.go st261 ?_
            have N261 := Fr.snoc X261 N259 g_b191
            show W p e below _ (T261.setTop (mkF m 734 #[.val (.int p0), .val (.int p1), .val (.int p2), .val (.int p3), .val (.int p4), .val (.int c1), .val (.int c2), .val (.int c3), .val (.int c4), .val (.int kk), .unset, .unset] [(.ref b191)]))
            refine W.go (fun _ hr => XS.dup X261.here hx rfl (hb hby at_734) rfl rfl hr) ?_
            show W p e below _ (T261.setTop (mkF m 735 #[.val (.int p0), .val (.int p1), .val (.int p2), .val (.int p3), .val (.int p4), .val (.int c1), .val (.int c2), .val (.int c3), .val (.int c4), .val (.int kk), .unset, .unset] [(.ref b191), (.ref b191)]))
            refine W.go (fun _ hr => XS.bipush X261.here hx rfl (hb hby at_735) hr) ?_
            show W p e below _ (T261.setTop (mkF m 737 #[.val (.int p0), .val (.int p1), .val (.int p2), .val (.int p3), .val (.int p4), .val (.int c1), .val (.int c2), .val (.int c3), .val (.int c4), .val (.int kk), .unset, .unset] [(.int (35 : Int32)), (.ref b191), (.ref b191)]))
            refine W.go (fun _ hr => XS.iload X261.here hx rfl (hb hby at_737) rfl hr) ?_
            show W p e below _ (T261.setTop (mkF m 739 #[.val (.int p0), .val (.int p1), .val (.int p2), .val (.int p3), .val (.int p4), .val (.int c1), .val (.int c2), .val (.int c3), .val (.int c4), .val (.int kk), .unset, .unset] [(.int c4), (.int (35 : Int32)), (.ref b191), (.ref b191)]))
            obtain ⟨cl263, Ar263, q263, S263, Nn263, H263, G263⟩ := V_b191
            have hin263 : ¬ ((35 : Int32) < 0 ∨ cl263.slots.size ≤ ((35 : Int32)).toNatClampNeg) := inb_of S263 ⟨by decide, by decide⟩
            obtain ⟨T263, h263, X263, e263, W263, st263⟩ := stC X261 hx hZ e261 Ar263 (j := (35 : Int32)) hin263 (g := (mkF m 739 #[.val (.int p0), .val (.int p1), .val (.int p2), .val (.int p3), .val (.int p4), .val (.int c1), .val (.int c2), .val (.int c3), .val (.int c4), .val (.int kk), .unset, .unset] [(.int c4), (.int (35 : Int32)), (.ref b191), (.ref b191)])) rfl rfl (hb hby at_739)
            replace V_b191 : Arv Z h263 b191 k191 .char (64 : Int32) [(.int (nar .char c1)), (.int (nar .char c2)), (.int (nar .char c3)), (.int (nar .char c4)), (.int (nar .char c1)), (.int (nar .char c2)), (.int (nar .char c3)), (.int (nar .char c4)), (.int (nar .char c1)), (.int (nar .char c2)), (.int (nar .char c3)), (.int (nar .char c4)), (.int (nar .char c1)), (.int (nar .char c2)), (.int (nar .char c3)), (.int (nar .char c4)), (.int (nar .char c1)), (.int (nar .char c2)), (.int (nar .char c3)), (.int (nar .char c4)), (.int (nar .char c1)), (.int (nar .char c2)), (.int (nar .char c3)), (.int (nar .char c4)), (.int (nar .char c1)), (.int (nar .char c2)), (.int (nar .char c3)), (.int (nar .char c4)), (.int (nar .char c1)), (.int (nar .char c2)), (.int (nar .char c3)), (.int (nar .char c4)), (.int (nar .char c1)), (.int (nar .char c2)), (.int (nar .char c3)), (.int (nar .char c4)), (.int (0 : Int32)), (.int (0 : Int32)), (.int (0 : Int32)), (.int (0 : Int32)), (.int (0 : Int32)), (.int (0 : Int32)), (.int (0 : Int32)), (.int (0 : Int32)), (.int (0 : Int32)), (.int (0 : Int32)), (.int (0 : Int32)), (.int (0 : Int32)), (.int (0 : Int32)), (.int (0 : Int32)), (.int (0 : Int32)), (.int (0 : Int32)), (.int (0 : Int32)), (.int (0 : Int32)), (.int (0 : Int32)), (.int (0 : Int32)), (.int (0 : Int32)), (.int (0 : Int32)), (.int (0 : Int32)), (.int (0 : Int32)), (.int (0 : Int32)), (.int (0 : Int32)), (.int (0 : Int32)), (.int (0 : Int32))] (.int (0 : Int32)) := Arv.set Ar263 q263 S263 Nn263 H263 G263 (fits_nar_char _) W263 35 rfl (Nat.le_of_ble_eq_true rfl)
            replace S_COMPACT_STRINGS := Sta.wr W263 S_COMPACT_STRINGS
            replace S_SIOOBE_FORMATTER := Sta.wr W263 S_SIOOBE_FORMATTER
            replace E_b191 := E_b191.wr W263
            have Z264 : n0 ≤ h263.size := Nat.le_trans Z262 (Keep.of_wr W263).1
            refine W.go st263 ?_
            have N263 := Fr.snoc X263 N261 g_b191
            show W p e below _ (T263.setTop (mkF m 740 #[.val (.int p0), .val (.int p1), .val (.int p2), .val (.int p3), .val (.int p4), .val (.int c1), .val (.int c2), .val (.int c3), .val (.int c4), .val (.int kk), .unset, .unset] [(.ref b191)]))
            refine W.go (fun _ hr => XS.dup X263.here hx rfl (hb hby at_740) rfl rfl hr) ?_
            show W p e below _ (T263.setTop (mkF m 741 #[.val (.int p0), .val (.int p1), .val (.int p2), .val (.int p3), .val (.int p4), .val (.int c1), .val (.int c2), .val (.int c3), .val (.int c4), .val (.int kk), .unset, .unset] [(.ref b191), (.ref b191)]))
            refine W.go (fun _ hr => XS.bipush X263.here hx rfl (hb hby at_741) hr) ?_
            show W p e below _ (T263.setTop (mkF m 743 #[.val (.int p0), .val (.int p1), .val (.int p2), .val (.int p3), .val (.int p4), .val (.int c1), .val (.int c2), .val (.int c3), .val (.int c4), .val (.int kk), .unset, .unset] [(.int (36 : Int32)), (.ref b191), (.ref b191)]))
            refine W.go (fun _ hr => XS.iload X263.here hx rfl (hb hby at_743) rfl hr) ?_
            show W p e below _ (T263.setTop (mkF m 745 #[.val (.int p0), .val (.int p1), .val (.int p2), .val (.int p3), .val (.int p4), .val (.int c1), .val (.int c2), .val (.int c3), .val (.int c4), .val (.int kk), .unset, .unset] [(.int c1), (.int (36 : Int32)), (.ref b191), (.ref b191)]))
            obtain ⟨cl265, Ar265, q265, S265, Nn265, H265, G265⟩ := V_b191
            have hin265 : ¬ ((36 : Int32) < 0 ∨ cl265.slots.size ≤ ((36 : Int32)).toNatClampNeg) := inb_of S265 ⟨by decide, by decide⟩
            obtain ⟨T265, h265, X265, e265, W265, st265⟩ := stC X263 hx hZ e263 Ar265 (j := (36 : Int32)) hin265 (g := (mkF m 745 #[.val (.int p0), .val (.int p1), .val (.int p2), .val (.int p3), .val (.int p4), .val (.int c1), .val (.int c2), .val (.int c3), .val (.int c4), .val (.int kk), .unset, .unset] [(.int c1), (.int (36 : Int32)), (.ref b191), (.ref b191)])) rfl rfl (hb hby at_745)
            replace V_b191 : Arv Z h265 b191 k191 .char (64 : Int32) [(.int (nar .char c1)), (.int (nar .char c2)), (.int (nar .char c3)), (.int (nar .char c4)), (.int (nar .char c1)), (.int (nar .char c2)), (.int (nar .char c3)), (.int (nar .char c4)), (.int (nar .char c1)), (.int (nar .char c2)), (.int (nar .char c3)), (.int (nar .char c4)), (.int (nar .char c1)), (.int (nar .char c2)), (.int (nar .char c3)), (.int (nar .char c4)), (.int (nar .char c1)), (.int (nar .char c2)), (.int (nar .char c3)), (.int (nar .char c4)), (.int (nar .char c1)), (.int (nar .char c2)), (.int (nar .char c3)), (.int (nar .char c4)), (.int (nar .char c1)), (.int (nar .char c2)), (.int (nar .char c3)), (.int (nar .char c4)), (.int (nar .char c1)), (.int (nar .char c2)), (.int (nar .char c3)), (.int (nar .char c4)), (.int (nar .char c1)), (.int (nar .char c2)), (.int (nar .char c3)), (.int (nar .char c4)), (.int (nar .char c1)), (.int (0 : Int32)), (.int (0 : Int32)), (.int (0 : Int32)), (.int (0 : Int32)), (.int (0 : Int32)), (.int (0 : Int32)), (.int (0 : Int32)), (.int (0 : Int32)), (.int (0 : Int32)), (.int (0 : Int32)), (.int (0 : Int32)), (.int (0 : Int32)), (.int (0 : Int32)), (.int (0 : Int32)), (.int (0 : Int32)), (.int (0 : Int32)), (.int (0 : Int32)), (.int (0 : Int32)), (.int (0 : Int32)), (.int (0 : Int32)), (.int (0 : Int32)), (.int (0 : Int32)), (.int (0 : Int32)), (.int (0 : Int32)), (.int (0 : Int32)), (.int (0 : Int32)), (.int (0 : Int32))] (.int (0 : Int32)) := Arv.set Ar265 q265 S265 Nn265 H265 G265 (fits_nar_char _) W265 36 rfl (Nat.le_of_ble_eq_true rfl)
            replace S_COMPACT_STRINGS := Sta.wr W265 S_COMPACT_STRINGS
            replace S_SIOOBE_FORMATTER := Sta.wr W265 S_SIOOBE_FORMATTER
            replace E_b191 := E_b191.wr W265
            have Z266 : n0 ≤ h265.size := Nat.le_trans Z264 (Keep.of_wr W265).1
            refine W.go st265 ?_
            have N265 := Fr.snoc X265 N263 g_b191
            show W p e below _ (T265.setTop (mkF m 746 #[.val (.int p0), .val (.int p1), .val (.int p2), .val (.int p3), .val (.int p4), .val (.int c1), .val (.int c2), .val (.int c3), .val (.int c4), .val (.int kk), .unset, .unset] [(.ref b191)]))
            refine W.go (fun _ hr => XS.dup X265.here hx rfl (hb hby at_746) rfl rfl hr) ?_
            show W p e below _ (T265.setTop (mkF m 747 #[.val (.int p0), .val (.int p1), .val (.int p2), .val (.int p3), .val (.int p4), .val (.int c1), .val (.int c2), .val (.int c3), .val (.int c4), .val (.int kk), .unset, .unset] [(.ref b191), (.ref b191)]))
            refine W.go (fun _ hr => XS.bipush X265.here hx rfl (hb hby at_747) hr) ?_
            show W p e below _ (T265.setTop (mkF m 749 #[.val (.int p0), .val (.int p1), .val (.int p2), .val (.int p3), .val (.int p4), .val (.int c1), .val (.int c2), .val (.int c3), .val (.int c4), .val (.int kk), .unset, .unset] [(.int (37 : Int32)), (.ref b191), (.ref b191)]))
            refine W.go (fun _ hr => XS.iload X265.here hx rfl (hb hby at_749) rfl hr) ?_
            show W p e below _ (T265.setTop (mkF m 751 #[.val (.int p0), .val (.int p1), .val (.int p2), .val (.int p3), .val (.int p4), .val (.int c1), .val (.int c2), .val (.int c3), .val (.int c4), .val (.int kk), .unset, .unset] [(.int c2), (.int (37 : Int32)), (.ref b191), (.ref b191)]))
            obtain ⟨cl267, Ar267, q267, S267, Nn267, H267, G267⟩ := V_b191
            have hin267 : ¬ ((37 : Int32) < 0 ∨ cl267.slots.size ≤ ((37 : Int32)).toNatClampNeg) := inb_of S267 ⟨by decide, by decide⟩
            obtain ⟨T267, h267, X267, e267, W267, st267⟩ := stC X265 hx hZ e265 Ar267 (j := (37 : Int32)) hin267 (g := (mkF m 751 #[.val (.int p0), .val (.int p1), .val (.int p2), .val (.int p3), .val (.int p4), .val (.int c1), .val (.int c2), .val (.int c3), .val (.int c4), .val (.int kk), .unset, .unset] [(.int c2), (.int (37 : Int32)), (.ref b191), (.ref b191)])) rfl rfl (hb hby at_751)
            replace V_b191 : Arv Z h267 b191 k191 .char (64 : Int32) [(.int (nar .char c1)), (.int (nar .char c2)), (.int (nar .char c3)), (.int (nar .char c4)), (.int (nar .char c1)), (.int (nar .char c2)), (.int (nar .char c3)), (.int (nar .char c4)), (.int (nar .char c1)), (.int (nar .char c2)), (.int (nar .char c3)), (.int (nar .char c4)), (.int (nar .char c1)), (.int (nar .char c2)), (.int (nar .char c3)), (.int (nar .char c4)), (.int (nar .char c1)), (.int (nar .char c2)), (.int (nar .char c3)), (.int (nar .char c4)), (.int (nar .char c1)), (.int (nar .char c2)), (.int (nar .char c3)), (.int (nar .char c4)), (.int (nar .char c1)), (.int (nar .char c2)), (.int (nar .char c3)), (.int (nar .char c4)), (.int (nar .char c1)), (.int (nar .char c2)), (.int (nar .char c3)), (.int (nar .char c4)), (.int (nar .char c1)), (.int (nar .char c2)), (.int (nar .char c3)), (.int (nar .char c4)), (.int (nar .char c1)), (.int (nar .char c2)), (.int (0 : Int32)), (.int (0 : Int32)), (.int (0 : Int32)), (.int (0 : Int32)), (.int (0 : Int32)), (.int (0 : Int32)), (.int (0 : Int32)), (.int (0 : Int32)), (.int (0 : Int32)), (.int (0 : Int32)), (.int (0 : Int32)), (.int (0 : Int32)), (.int (0 : Int32)), (.int (0 : Int32)), (.int (0 : Int32)), (.int (0 : Int32)), (.int (0 : Int32)), (.int (0 : Int32)), (.int (0 : Int32)), (.int (0 : Int32)), (.int (0 : Int32)), (.int (0 : Int32)), (.int (0 : Int32)), (.int (0 : Int32)), (.int (0 : Int32)), (.int (0 : Int32))] (.int (0 : Int32)) := Arv.set Ar267 q267 S267 Nn267 H267 G267 (fits_nar_char _) W267 37 rfl (Nat.le_of_ble_eq_true rfl)
            replace S_COMPACT_STRINGS := Sta.wr W267 S_COMPACT_STRINGS
            replace S_SIOOBE_FORMATTER := Sta.wr W267 S_SIOOBE_FORMATTER
            replace E_b191 := E_b191.wr W267
            have Z268 : n0 ≤ h267.size := Nat.le_trans Z266 (Keep.of_wr W267).1
            refine W.go st267 ?_
            have N267 := Fr.snoc X267 N265 g_b191
            show W p e below _ (T267.setTop (mkF m 752 #[.val (.int p0), .val (.int p1), .val (.int p2), .val (.int p3), .val (.int p4), .val (.int c1), .val (.int c2), .val (.int c3), .val (.int c4), .val (.int kk), .unset, .unset] [(.ref b191)]))
            refine W.go (fun _ hr => XS.dup X267.here hx rfl (hb hby at_752) rfl rfl hr) ?_
            show W p e below _ (T267.setTop (mkF m 753 #[.val (.int p0), .val (.int p1), .val (.int p2), .val (.int p3), .val (.int p4), .val (.int c1), .val (.int c2), .val (.int c3), .val (.int c4), .val (.int kk), .unset, .unset] [(.ref b191), (.ref b191)]))
            refine W.go (fun _ hr => XS.bipush X267.here hx rfl (hb hby at_753) hr) ?_
            show W p e below _ (T267.setTop (mkF m 755 #[.val (.int p0), .val (.int p1), .val (.int p2), .val (.int p3), .val (.int p4), .val (.int c1), .val (.int c2), .val (.int c3), .val (.int c4), .val (.int kk), .unset, .unset] [(.int (38 : Int32)), (.ref b191), (.ref b191)]))
            refine W.go (fun _ hr => XS.iload X267.here hx rfl (hb hby at_755) rfl hr) ?_
            show W p e below _ (T267.setTop (mkF m 757 #[.val (.int p0), .val (.int p1), .val (.int p2), .val (.int p3), .val (.int p4), .val (.int c1), .val (.int c2), .val (.int c3), .val (.int c4), .val (.int kk), .unset, .unset] [(.int c3), (.int (38 : Int32)), (.ref b191), (.ref b191)]))
            obtain ⟨cl269, Ar269, q269, S269, Nn269, H269, G269⟩ := V_b191
            have hin269 : ¬ ((38 : Int32) < 0 ∨ cl269.slots.size ≤ ((38 : Int32)).toNatClampNeg) := inb_of S269 ⟨by decide, by decide⟩
            obtain ⟨T269, h269, X269, e269, W269, st269⟩ := stC X267 hx hZ e267 Ar269 (j := (38 : Int32)) hin269 (g := (mkF m 757 #[.val (.int p0), .val (.int p1), .val (.int p2), .val (.int p3), .val (.int p4), .val (.int c1), .val (.int c2), .val (.int c3), .val (.int c4), .val (.int kk), .unset, .unset] [(.int c3), (.int (38 : Int32)), (.ref b191), (.ref b191)])) rfl rfl (hb hby at_757)
            replace V_b191 : Arv Z h269 b191 k191 .char (64 : Int32) [(.int (nar .char c1)), (.int (nar .char c2)), (.int (nar .char c3)), (.int (nar .char c4)), (.int (nar .char c1)), (.int (nar .char c2)), (.int (nar .char c3)), (.int (nar .char c4)), (.int (nar .char c1)), (.int (nar .char c2)), (.int (nar .char c3)), (.int (nar .char c4)), (.int (nar .char c1)), (.int (nar .char c2)), (.int (nar .char c3)), (.int (nar .char c4)), (.int (nar .char c1)), (.int (nar .char c2)), (.int (nar .char c3)), (.int (nar .char c4)), (.int (nar .char c1)), (.int (nar .char c2)), (.int (nar .char c3)), (.int (nar .char c4)), (.int (nar .char c1)), (.int (nar .char c2)), (.int (nar .char c3)), (.int (nar .char c4)), (.int (nar .char c1)), (.int (nar .char c2)), (.int (nar .char c3)), (.int (nar .char c4)), (.int (nar .char c1)), (.int (nar .char c2)), (.int (nar .char c3)), (.int (nar .char c4)), (.int (nar .char c1)), (.int (nar .char c2)), (.int (nar .char c3)), (.int (0 : Int32)), (.int (0 : Int32)), (.int (0 : Int32)), (.int (0 : Int32)), (.int (0 : Int32)), (.int (0 : Int32)), (.int (0 : Int32)), (.int (0 : Int32)), (.int (0 : Int32)), (.int (0 : Int32)), (.int (0 : Int32)), (.int (0 : Int32)), (.int (0 : Int32)), (.int (0 : Int32)), (.int (0 : Int32)), (.int (0 : Int32)), (.int (0 : Int32)), (.int (0 : Int32)), (.int (0 : Int32)), (.int (0 : Int32)), (.int (0 : Int32)), (.int (0 : Int32)), (.int (0 : Int32)), (.int (0 : Int32)), (.int (0 : Int32))] (.int (0 : Int32)) := Arv.set Ar269 q269 S269 Nn269 H269 G269 (fits_nar_char _) W269 38 rfl (Nat.le_of_ble_eq_true rfl)
            replace S_COMPACT_STRINGS := Sta.wr W269 S_COMPACT_STRINGS
            replace S_SIOOBE_FORMATTER := Sta.wr W269 S_SIOOBE_FORMATTER
            replace E_b191 := E_b191.wr W269
            have Z270 : n0 ≤ h269.size := Nat.le_trans Z268 (Keep.of_wr W269).1
            refine W.go st269 ?_
            have N269 := Fr.snoc X269 N267 g_b191
            show W p e below _ (T269.setTop (mkF m 758 #[.val (.int p0), .val (.int p1), .val (.int p2), .val (.int p3), .val (.int p4), .val (.int c1), .val (.int c2), .val (.int c3), .val (.int c4), .val (.int kk), .unset, .unset] [(.ref b191)]))
            refine W.go (fun _ hr => XS.dup X269.here hx rfl (hb hby at_758) rfl rfl hr) ?_
            show W p e below _ (T269.setTop (mkF m 759 #[.val (.int p0), .val (.int p1), .val (.int p2), .val (.int p3), .val (.int p4), .val (.int c1), .val (.int c2), .val (.int c3), .val (.int c4), .val (.int kk), .unset, .unset] [(.ref b191), (.ref b191)]))
            refine W.go (fun _ hr => XS.bipush X269.here hx rfl (hb hby at_759) hr) ?_
            show W p e below _ (T269.setTop (mkF m 761 #[.val (.int p0), .val (.int p1), .val (.int p2), .val (.int p3), .val (.int p4), .val (.int c1), .val (.int c2), .val (.int c3), .val (.int c4), .val (.int kk), .unset, .unset] [(.int (39 : Int32)), (.ref b191), (.ref b191)]))
            refine W.go (fun _ hr => XS.iload X269.here hx rfl (hb hby at_761) rfl hr) ?_
            show W p e below _ (T269.setTop (mkF m 763 #[.val (.int p0), .val (.int p1), .val (.int p2), .val (.int p3), .val (.int p4), .val (.int c1), .val (.int c2), .val (.int c3), .val (.int c4), .val (.int kk), .unset, .unset] [(.int c4), (.int (39 : Int32)), (.ref b191), (.ref b191)]))
            obtain ⟨cl271, Ar271, q271, S271, Nn271, H271, G271⟩ := V_b191
            have hin271 : ¬ ((39 : Int32) < 0 ∨ cl271.slots.size ≤ ((39 : Int32)).toNatClampNeg) := inb_of S271 ⟨by decide, by decide⟩
            obtain ⟨T271, h271, X271, e271, W271, st271⟩ := stC X269 hx hZ e269 Ar271 (j := (39 : Int32)) hin271 (g := (mkF m 763 #[.val (.int p0), .val (.int p1), .val (.int p2), .val (.int p3), .val (.int p4), .val (.int c1), .val (.int c2), .val (.int c3), .val (.int c4), .val (.int kk), .unset, .unset] [(.int c4), (.int (39 : Int32)), (.ref b191), (.ref b191)])) rfl rfl (hb hby at_763)
            replace V_b191 : Arv Z h271 b191 k191 .char (64 : Int32) [(.int (nar .char c1)), (.int (nar .char c2)), (.int (nar .char c3)), (.int (nar .char c4)), (.int (nar .char c1)), (.int (nar .char c2)), (.int (nar .char c3)), (.int (nar .char c4)), (.int (nar .char c1)), (.int (nar .char c2)), (.int (nar .char c3)), (.int (nar .char c4)), (.int (nar .char c1)), (.int (nar .char c2)), (.int (nar .char c3)), (.int (nar .char c4)), (.int (nar .char c1)), (.int (nar .char c2)), (.int (nar .char c3)), (.int (nar .char c4)), (.int (nar .char c1)), (.int (nar .char c2)), (.int (nar .char c3)), (.int (nar .char c4)), (.int (nar .char c1)), (.int (nar .char c2)), (.int (nar .char c3)), (.int (nar .char c4)), (.int (nar .char c1)), (.int (nar .char c2)), (.int (nar .char c3)), (.int (nar .char c4)), (.int (nar .char c1)), (.int (nar .char c2)), (.int (nar .char c3)), (.int (nar .char c4)), (.int (nar .char c1)), (.int (nar .char c2)), (.int (nar .char c3)), (.int (nar .char c4)), (.int (0 : Int32)), (.int (0 : Int32)), (.int (0 : Int32)), (.int (0 : Int32)), (.int (0 : Int32)), (.int (0 : Int32)), (.int (0 : Int32)), (.int (0 : Int32)), (.int (0 : Int32)), (.int (0 : Int32)), (.int (0 : Int32)), (.int (0 : Int32)), (.int (0 : Int32)), (.int (0 : Int32)), (.int (0 : Int32)), (.int (0 : Int32)), (.int (0 : Int32)), (.int (0 : Int32)), (.int (0 : Int32)), (.int (0 : Int32)), (.int (0 : Int32)), (.int (0 : Int32)), (.int (0 : Int32)), (.int (0 : Int32))] (.int (0 : Int32)) := Arv.set Ar271 q271 S271 Nn271 H271 G271 (fits_nar_char _) W271 39 rfl (Nat.le_of_ble_eq_true rfl)
            replace S_COMPACT_STRINGS := Sta.wr W271 S_COMPACT_STRINGS
            replace S_SIOOBE_FORMATTER := Sta.wr W271 S_SIOOBE_FORMATTER
            replace E_b191 := E_b191.wr W271
            have Z272 : n0 ≤ h271.size := Nat.le_trans Z270 (Keep.of_wr W271).1
            refine W.go st271 ?_
            have N271 := Fr.snoc X271 N269 g_b191
            show W p e below _ (T271.setTop (mkF m 764 #[.val (.int p0), .val (.int p1), .val (.int p2), .val (.int p3), .val (.int p4), .val (.int c1), .val (.int c2), .val (.int c3), .val (.int c4), .val (.int kk), .unset, .unset] [(.ref b191)]))
            refine W.go (fun _ hr => XS.dup X271.here hx rfl (hb hby at_764) rfl rfl hr) ?_
            show W p e below _ (T271.setTop (mkF m 765 #[.val (.int p0), .val (.int p1), .val (.int p2), .val (.int p3), .val (.int p4), .val (.int c1), .val (.int c2), .val (.int c3), .val (.int c4), .val (.int kk), .unset, .unset] [(.ref b191), (.ref b191)]))
            refine W.go (fun _ hr => XS.bipush X271.here hx rfl (hb hby at_765) hr) ?_
            show W p e below _ (T271.setTop (mkF m 767 #[.val (.int p0), .val (.int p1), .val (.int p2), .val (.int p3), .val (.int p4), .val (.int c1), .val (.int c2), .val (.int c3), .val (.int c4), .val (.int kk), .unset, .unset] [(.int (40 : Int32)), (.ref b191), (.ref b191)]))
            refine W.go (fun _ hr => XS.iload X271.here hx rfl (hb hby at_767) rfl hr) ?_
            show W p e below _ (T271.setTop (mkF m 769 #[.val (.int p0), .val (.int p1), .val (.int p2), .val (.int p3), .val (.int p4), .val (.int c1), .val (.int c2), .val (.int c3), .val (.int c4), .val (.int kk), .unset, .unset] [(.int c1), (.int (40 : Int32)), (.ref b191), (.ref b191)]))
            obtain ⟨cl273, Ar273, q273, S273, Nn273, H273, G273⟩ := V_b191
            have hin273 : ¬ ((40 : Int32) < 0 ∨ cl273.slots.size ≤ ((40 : Int32)).toNatClampNeg) := inb_of S273 ⟨by decide, by decide⟩
            obtain ⟨T273, h273, X273, e273, W273, st273⟩ := stC X271 hx hZ e271 Ar273 (j := (40 : Int32)) hin273 (g := (mkF m 769 #[.val (.int p0), .val (.int p1), .val (.int p2), .val (.int p3), .val (.int p4), .val (.int c1), .val (.int c2), .val (.int c3), .val (.int c4), .val (.int kk), .unset, .unset] [(.int c1), (.int (40 : Int32)), (.ref b191), (.ref b191)])) rfl rfl (hb hby at_769)
            replace V_b191 : Arv Z h273 b191 k191 .char (64 : Int32) [(.int (nar .char c1)), (.int (nar .char c2)), (.int (nar .char c3)), (.int (nar .char c4)), (.int (nar .char c1)), (.int (nar .char c2)), (.int (nar .char c3)), (.int (nar .char c4)), (.int (nar .char c1)), (.int (nar .char c2)), (.int (nar .char c3)), (.int (nar .char c4)), (.int (nar .char c1)), (.int (nar .char c2)), (.int (nar .char c3)), (.int (nar .char c4)), (.int (nar .char c1)), (.int (nar .char c2)), (.int (nar .char c3)), (.int (nar .char c4)), (.int (nar .char c1)), (.int (nar .char c2)), (.int (nar .char c3)), (.int (nar .char c4)), (.int (nar .char c1)), (.int (nar .char c2)), (.int (nar .char c3)), (.int (nar .char c4)), (.int (nar .char c1)), (.int (nar .char c2)), (.int (nar .char c3)), (.int (nar .char c4)), (.int (nar .char c1)), (.int (nar .char c2)), (.int (nar .char c3)), (.int (nar .char c4)), (.int (nar .char c1)), (.int (nar .char c2)), (.int (nar .char c3)), (.int (nar .char c4)), (.int (nar .char c1)), (.int (0 : Int32)), (.int (0 : Int32)), (.int (0 : Int32)), (.int (0 : Int32)), (.int (0 : Int32)), (.int (0 : Int32)), (.int (0 : Int32)), (.int (0 : Int32)), (.int (0 : Int32)), (.int (0 : Int32)), (.int (0 : Int32)), (.int (0 : Int32)), (.int (0 : Int32)), (.int (0 : Int32)), (.int (0 : Int32)), (.int (0 : Int32)), (.int (0 : Int32)), (.int (0 : Int32)), (.int (0 : Int32)), (.int (0 : Int32)), (.int (0 : Int32)), (.int (0 : Int32)), (.int (0 : Int32))] (.int (0 : Int32)) := Arv.set Ar273 q273 S273 Nn273 H273 G273 (fits_nar_char _) W273 40 rfl (Nat.le_of_ble_eq_true rfl)
            replace S_COMPACT_STRINGS := Sta.wr W273 S_COMPACT_STRINGS
            replace S_SIOOBE_FORMATTER := Sta.wr W273 S_SIOOBE_FORMATTER
            replace E_b191 := E_b191.wr W273
            have Z274 : n0 ≤ h273.size := Nat.le_trans Z272 (Keep.of_wr W273).1
            refine W.go st273 ?_
            have N273 := Fr.snoc X273 N271 g_b191
            show W p e below _ (T273.setTop (mkF m 770 #[.val (.int p0), .val (.int p1), .val (.int p2), .val (.int p3), .val (.int p4), .val (.int c1), .val (.int c2), .val (.int c3), .val (.int c4), .val (.int kk), .unset, .unset] [(.ref b191)]))
            refine W.go (fun _ hr => XS.dup X273.here hx rfl (hb hby at_770) rfl rfl hr) ?_
            show W p e below _ (T273.setTop (mkF m 771 #[.val (.int p0), .val (.int p1), .val (.int p2), .val (.int p3), .val (.int p4), .val (.int c1), .val (.int c2), .val (.int c3), .val (.int c4), .val (.int kk), .unset, .unset] [(.ref b191), (.ref b191)]))
            refine W.go (fun _ hr => XS.bipush X273.here hx rfl (hb hby at_771) hr) ?_
            show W p e below _ (T273.setTop (mkF m 773 #[.val (.int p0), .val (.int p1), .val (.int p2), .val (.int p3), .val (.int p4), .val (.int c1), .val (.int c2), .val (.int c3), .val (.int c4), .val (.int kk), .unset, .unset] [(.int (41 : Int32)), (.ref b191), (.ref b191)]))
            refine W.go (fun _ hr => XS.iload X273.here hx rfl (hb hby at_773) rfl hr) ?_
            show W p e below _ (T273.setTop (mkF m 775 #[.val (.int p0), .val (.int p1), .val (.int p2), .val (.int p3), .val (.int p4), .val (.int c1), .val (.int c2), .val (.int c3), .val (.int c4), .val (.int kk), .unset, .unset] [(.int c2), (.int (41 : Int32)), (.ref b191), (.ref b191)]))
            obtain ⟨cl275, Ar275, q275, S275, Nn275, H275, G275⟩ := V_b191
            have hin275 : ¬ ((41 : Int32) < 0 ∨ cl275.slots.size ≤ ((41 : Int32)).toNatClampNeg) := inb_of S275 ⟨by decide, by decide⟩
            obtain ⟨T275, h275, X275, e275, W275, st275⟩ := stC X273 hx hZ e273 Ar275 (j := (41 : Int32)) hin275 (g := (mkF m 775 #[.val (.int p0), .val (.int p1), .val (.int p2), .val (.int p3), .val (.int p4), .val (.int c1), .val (.int c2), .val (.int c3), .val (.int c4), .val (.int kk), .unset, .unset] [(.int c2), (.int (41 : Int32)), (.ref b191), (.ref b191)])) rfl rfl (hb hby at_775)
            replace V_b191 : Arv Z h275 b191 k191 .char (64 : Int32) [(.int (nar .char c1)), (.int (nar .char c2)), (.int (nar .char c3)), (.int (nar .char c4)), (.int (nar .char c1)), (.int (nar .char c2)), (.int (nar .char c3)), (.int (nar .char c4)), (.int (nar .char c1)), (.int (nar .char c2)), (.int (nar .char c3)), (.int (nar .char c4)), (.int (nar .char c1)), (.int (nar .char c2)), (.int (nar .char c3)), (.int (nar .char c4)), (.int (nar .char c1)), (.int (nar .char c2)), (.int (nar .char c3)), (.int (nar .char c4)), (.int (nar .char c1)), (.int (nar .char c2)), (.int (nar .char c3)), (.int (nar .char c4)), (.int (nar .char c1)), (.int (nar .char c2)), (.int (nar .char c3)), (.int (nar .char c4)), (.int (nar .char c1)), (.int (nar .char c2)), (.int (nar .char c3)), (.int (nar .char c4)), (.int (nar .char c1)), (.int (nar .char c2)), (.int (nar .char c3)), (.int (nar .char c4)), (.int (nar .char c1)), (.int (nar .char c2)), (.int (nar .char c3)), (.int (nar .char c4)), (.int (nar .char c1)), (.int (nar .char c2)), (.int (0 : Int32)), (.int (0 : Int32)), (.int (0 : Int32)), (.int (0 : Int32)), (.int (0 : Int32)), (.int (0 : Int32)), (.int (0 : Int32)), (.int (0 : Int32)), (.int (0 : Int32)), (.int (0 : Int32)), (.int (0 : Int32)), (.int (0 : Int32)), (.int (0 : Int32)), (.int (0 : Int32)), (.int (0 : Int32)), (.int (0 : Int32)), (.int (0 : Int32)), (.int (0 : Int32)), (.int (0 : Int32)), (.int (0 : Int32)), (.int (0 : Int32)), (.int (0 : Int32))] (.int (0 : Int32)) := Arv.set Ar275 q275 S275 Nn275 H275 G275 (fits_nar_char _) W275 41 rfl (Nat.le_of_ble_eq_true rfl)
            replace S_COMPACT_STRINGS := Sta.wr W275 S_COMPACT_STRINGS
            replace S_SIOOBE_FORMATTER := Sta.wr W275 S_SIOOBE_FORMATTER
            replace E_b191 := E_b191.wr W275
            have Z276 : n0 ≤ h275.size := Nat.le_trans Z274 (Keep.of_wr W275).1
            refine W.go st275 ?_
            have N275 := Fr.snoc X275 N273 g_b191
            show W p e below _ (T275.setTop (mkF m 776 #[.val (.int p0), .val (.int p1), .val (.int p2), .val (.int p3), .val (.int p4), .val (.int c1), .val (.int c2), .val (.int c3), .val (.int c4), .val (.int kk), .unset, .unset] [(.ref b191)]))
            refine W.go (fun _ hr => XS.dup X275.here hx rfl (hb hby at_776) rfl rfl hr) ?_
            show W p e below _ (T275.setTop (mkF m 777 #[.val (.int p0), .val (.int p1), .val (.int p2), .val (.int p3), .val (.int p4), .val (.int c1), .val (.int c2), .val (.int c3), .val (.int c4), .val (.int kk), .unset, .unset] [(.ref b191), (.ref b191)]))
            refine W.go (fun _ hr => XS.bipush X275.here hx rfl (hb hby at_777) hr) ?_
            show W p e below _ (T275.setTop (mkF m 779 #[.val (.int p0), .val (.int p1), .val (.int p2), .val (.int p3), .val (.int p4), .val (.int c1), .val (.int c2), .val (.int c3), .val (.int c4), .val (.int kk), .unset, .unset] [(.int (42 : Int32)), (.ref b191), (.ref b191)]))
            refine W.go (fun _ hr => XS.iload X275.here hx rfl (hb hby at_779) rfl hr) ?_
            show W p e below _ (T275.setTop (mkF m 781 #[.val (.int p0), .val (.int p1), .val (.int p2), .val (.int p3), .val (.int p4), .val (.int c1), .val (.int c2), .val (.int c3), .val (.int c4), .val (.int kk), .unset, .unset] [(.int c3), (.int (42 : Int32)), (.ref b191), (.ref b191)]))
            obtain ⟨cl277, Ar277, q277, S277, Nn277, H277, G277⟩ := V_b191
            have hin277 : ¬ ((42 : Int32) < 0 ∨ cl277.slots.size ≤ ((42 : Int32)).toNatClampNeg) := inb_of S277 ⟨by decide, by decide⟩
            obtain ⟨T277, h277, X277, e277, W277, st277⟩ := stC X275 hx hZ e275 Ar277 (j := (42 : Int32)) hin277 (g := (mkF m 781 #[.val (.int p0), .val (.int p1), .val (.int p2), .val (.int p3), .val (.int p4), .val (.int c1), .val (.int c2), .val (.int c3), .val (.int c4), .val (.int kk), .unset, .unset] [(.int c3), (.int (42 : Int32)), (.ref b191), (.ref b191)])) rfl rfl (hb hby at_781)
            replace V_b191 : Arv Z h277 b191 k191 .char (64 : Int32) [(.int (nar .char c1)), (.int (nar .char c2)), (.int (nar .char c3)), (.int (nar .char c4)), (.int (nar .char c1)), (.int (nar .char c2)), (.int (nar .char c3)), (.int (nar .char c4)), (.int (nar .char c1)), (.int (nar .char c2)), (.int (nar .char c3)), (.int (nar .char c4)), (.int (nar .char c1)), (.int (nar .char c2)), (.int (nar .char c3)), (.int (nar .char c4)), (.int (nar .char c1)), (.int (nar .char c2)), (.int (nar .char c3)), (.int (nar .char c4)), (.int (nar .char c1)), (.int (nar .char c2)), (.int (nar .char c3)), (.int (nar .char c4)), (.int (nar .char c1)), (.int (nar .char c2)), (.int (nar .char c3)), (.int (nar .char c4)), (.int (nar .char c1)), (.int (nar .char c2)), (.int (nar .char c3)), (.int (nar .char c4)), (.int (nar .char c1)), (.int (nar .char c2)), (.int (nar .char c3)), (.int (nar .char c4)), (.int (nar .char c1)), (.int (nar .char c2)), (.int (nar .char c3)), (.int (nar .char c4)), (.int (nar .char c1)), (.int (nar .char c2)), (.int (nar .char c3)), (.int (0 : Int32)), (.int (0 : Int32)), (.int (0 : Int32)), (.int (0 : Int32)), (.int (0 : Int32)), (.int (0 : Int32)), (.int (0 : Int32)), (.int (0 : Int32)), (.int (0 : Int32)), (.int (0 : Int32)), (.int (0 : Int32)), (.int (0 : Int32)), (.int (0 : Int32)), (.int (0 : Int32)), (.int (0 : Int32)), (.int (0 : Int32)), (.int (0 : Int32)), (.int (0 : Int32)), (.int (0 : Int32)), (.int (0 : Int32)), (.int (0 : Int32))] (.int (0 : Int32)) := Arv.set Ar277 q277 S277 Nn277 H277 G277 (fits_nar_char _) W277 42 rfl (Nat.le_of_ble_eq_true rfl)
            replace S_COMPACT_STRINGS := Sta.wr W277 S_COMPACT_STRINGS
            replace S_SIOOBE_FORMATTER := Sta.wr W277 S_SIOOBE_FORMATTER
            replace E_b191 := E_b191.wr W277
            have Z278 : n0 ≤ h277.size := Nat.le_trans Z276 (Keep.of_wr W277).1
            refine W.go st277 ?_
            have N277 := Fr.snoc X277 N275 g_b191
            show W p e below _ (T277.setTop (mkF m 782 #[.val (.int p0), .val (.int p1), .val (.int p2), .val (.int p3), .val (.int p4), .val (.int c1), .val (.int c2), .val (.int c3), .val (.int c4), .val (.int kk), .unset, .unset] [(.ref b191)]))
            refine W.go (fun _ hr => XS.dup X277.here hx rfl (hb hby at_782) rfl rfl hr) ?_
            show W p e below _ (T277.setTop (mkF m 783 #[.val (.int p0), .val (.int p1), .val (.int p2), .val (.int p3), .val (.int p4), .val (.int c1), .val (.int c2), .val (.int c3), .val (.int c4), .val (.int kk), .unset, .unset] [(.ref b191), (.ref b191)]))
            refine W.go (fun _ hr => XS.bipush X277.here hx rfl (hb hby at_783) hr) ?_
            show W p e below _ (T277.setTop (mkF m 785 #[.val (.int p0), .val (.int p1), .val (.int p2), .val (.int p3), .val (.int p4), .val (.int c1), .val (.int c2), .val (.int c3), .val (.int c4), .val (.int kk), .unset, .unset] [(.int (43 : Int32)), (.ref b191), (.ref b191)]))
            refine W.go (fun _ hr => XS.iload X277.here hx rfl (hb hby at_785) rfl hr) ?_
            show W p e below _ (T277.setTop (mkF m 787 #[.val (.int p0), .val (.int p1), .val (.int p2), .val (.int p3), .val (.int p4), .val (.int c1), .val (.int c2), .val (.int c3), .val (.int c4), .val (.int kk), .unset, .unset] [(.int c4), (.int (43 : Int32)), (.ref b191), (.ref b191)]))
            obtain ⟨cl279, Ar279, q279, S279, Nn279, H279, G279⟩ := V_b191
            have hin279 : ¬ ((43 : Int32) < 0 ∨ cl279.slots.size ≤ ((43 : Int32)).toNatClampNeg) := inb_of S279 ⟨by decide, by decide⟩
            obtain ⟨T279, h279, X279, e279, W279, st279⟩ := stC X277 hx hZ e277 Ar279 (j := (43 : Int32)) hin279 (g := (mkF m 787 #[.val (.int p0), .val (.int p1), .val (.int p2), .val (.int p3), .val (.int p4), .val (.int c1), .val (.int c2), .val (.int c3), .val (.int c4), .val (.int kk), .unset, .unset] [(.int c4), (.int (43 : Int32)), (.ref b191), (.ref b191)])) rfl rfl (hb hby at_787)
            replace V_b191 : Arv Z h279 b191 k191 .char (64 : Int32) [(.int (nar .char c1)), (.int (nar .char c2)), (.int (nar .char c3)), (.int (nar .char c4)), (.int (nar .char c1)), (.int (nar .char c2)), (.int (nar .char c3)), (.int (nar .char c4)), (.int (nar .char c1)), (.int (nar .char c2)), (.int (nar .char c3)), (.int (nar .char c4)), (.int (nar .char c1)), (.int (nar .char c2)), (.int (nar .char c3)), (.int (nar .char c4)), (.int (nar .char c1)), (.int (nar .char c2)), (.int (nar .char c3)), (.int (nar .char c4)), (.int (nar .char c1)), (.int (nar .char c2)), (.int (nar .char c3)), (.int (nar .char c4)), (.int (nar .char c1)), (.int (nar .char c2)), (.int (nar .char c3)), (.int (nar .char c4)), (.int (nar .char c1)), (.int (nar .char c2)), (.int (nar .char c3)), (.int (nar .char c4)), (.int (nar .char c1)), (.int (nar .char c2)), (.int (nar .char c3)), (.int (nar .char c4)), (.int (nar .char c1)), (.int (nar .char c2)), (.int (nar .char c3)), (.int (nar .char c4)), (.int (nar .char c1)), (.int (nar .char c2)), (.int (nar .char c3)), (.int (nar .char c4)), (.int (0 : Int32)), (.int (0 : Int32)), (.int (0 : Int32)), (.int (0 : Int32)), (.int (0 : Int32)), (.int (0 : Int32)), (.int (0 : Int32)), (.int (0 : Int32)), (.int (0 : Int32)), (.int (0 : Int32)), (.int (0 : Int32)), (.int (0 : Int32)), (.int (0 : Int32)), (.int (0 : Int32)), (.int (0 : Int32)), (.int (0 : Int32)), (.int (0 : Int32)), (.int (0 : Int32)), (.int (0 : Int32)), (.int (0 : Int32))] (.int (0 : Int32)) := Arv.set Ar279 q279 S279 Nn279 H279 G279 (fits_nar_char _) W279 43 rfl (Nat.le_of_ble_eq_true rfl)
            replace S_COMPACT_STRINGS := Sta.wr W279 S_COMPACT_STRINGS
            replace S_SIOOBE_FORMATTER := Sta.wr W279 S_SIOOBE_FORMATTER
            replace E_b191 := E_b191.wr W279
            have Z280 : n0 ≤ h279.size := Nat.le_trans Z278 (Keep.of_wr W279).1
            refine W.go st279 ?_
            have N279 := Fr.snoc X279 N277 g_b191
            show W p e below _ (T279.setTop (mkF m 788 #[.val (.int p0), .val (.int p1), .val (.int p2), .val (.int p3), .val (.int p4), .val (.int c1), .val (.int c2), .val (.int c3), .val (.int c4), .val (.int kk), .unset, .unset] [(.ref b191)]))
            refine W.go (fun _ hr => XS.dup X279.here hx rfl (hb hby at_788) rfl rfl hr) ?_
            show W p e below _ (T279.setTop (mkF m 789 #[.val (.int p0), .val (.int p1), .val (.int p2), .val (.int p3), .val (.int p4), .val (.int c1), .val (.int c2), .val (.int c3), .val (.int c4), .val (.int kk), .unset, .unset] [(.ref b191), (.ref b191)]))
            refine W.go (fun _ hr => XS.bipush X279.here hx rfl (hb hby at_789) hr) ?_
            show W p e below _ (T279.setTop (mkF m 791 #[.val (.int p0), .val (.int p1), .val (.int p2), .val (.int p3), .val (.int p4), .val (.int c1), .val (.int c2), .val (.int c3), .val (.int c4), .val (.int kk), .unset, .unset] [(.int (44 : Int32)), (.ref b191), (.ref b191)]))
            refine W.go (fun _ hr => XS.iload X279.here hx rfl (hb hby at_791) rfl hr) ?_
            show W p e below _ (T279.setTop (mkF m 793 #[.val (.int p0), .val (.int p1), .val (.int p2), .val (.int p3), .val (.int p4), .val (.int c1), .val (.int c2), .val (.int c3), .val (.int c4), .val (.int kk), .unset, .unset] [(.int c1), (.int (44 : Int32)), (.ref b191), (.ref b191)]))
            obtain ⟨cl281, Ar281, q281, S281, Nn281, H281, G281⟩ := V_b191
            have hin281 : ¬ ((44 : Int32) < 0 ∨ cl281.slots.size ≤ ((44 : Int32)).toNatClampNeg) := inb_of S281 ⟨by decide, by decide⟩
            obtain ⟨T281, h281, X281, e281, W281, st281⟩ := stC X279 hx hZ e279 Ar281 (j := (44 : Int32)) hin281 (g := (mkF m 793 #[.val (.int p0), .val (.int p1), .val (.int p2), .val (.int p3), .val (.int p4), .val (.int c1), .val (.int c2), .val (.int c3), .val (.int c4), .val (.int kk), .unset, .unset] [(.int c1), (.int (44 : Int32)), (.ref b191), (.ref b191)])) rfl rfl (hb hby at_793)
            replace V_b191 : Arv Z h281 b191 k191 .char (64 : Int32) [(.int (nar .char c1)), (.int (nar .char c2)), (.int (nar .char c3)), (.int (nar .char c4)), (.int (nar .char c1)), (.int (nar .char c2)), (.int (nar .char c3)), (.int (nar .char c4)), (.int (nar .char c1)), (.int (nar .char c2)), (.int (nar .char c3)), (.int (nar .char c4)), (.int (nar .char c1)), (.int (nar .char c2)), (.int (nar .char c3)), (.int (nar .char c4)), (.int (nar .char c1)), (.int (nar .char c2)), (.int (nar .char c3)), (.int (nar .char c4)), (.int (nar .char c1)), (.int (nar .char c2)), (.int (nar .char c3)), (.int (nar .char c4)), (.int (nar .char c1)), (.int (nar .char c2)), (.int (nar .char c3)), (.int (nar .char c4)), (.int (nar .char c1)), (.int (nar .char c2)), (.int (nar .char c3)), (.int (nar .char c4)), (.int (nar .char c1)), (.int (nar .char c2)), (.int (nar .char c3)), (.int (nar .char c4)), (.int (nar .char c1)), (.int (nar .char c2)), (.int (nar .char c3)), (.int (nar .char c4)), (.int (nar .char c1)), (.int (nar .char c2)), (.int (nar .char c3)), (.int (nar .char c4)), (.int (nar .char c1)), (.int (0 : Int32)), (.int (0 : Int32)), (.int (0 : Int32)), (.int (0 : Int32)), (.int (0 : Int32)), (.int (0 : Int32)), (.int (0 : Int32)), (.int (0 : Int32)), (.int (0 : Int32)), (.int (0 : Int32)), (.int (0 : Int32)), (.int (0 : Int32)), (.int (0 : Int32)), (.int (0 : Int32)), (.int (0 : Int32)), (.int (0 : Int32)), (.int (0 : Int32)), (.int (0 : Int32)), (.int (0 : Int32))] (.int (0 : Int32)) := Arv.set Ar281 q281 S281 Nn281 H281 G281 (fits_nar_char _) W281 44 rfl (Nat.le_of_ble_eq_true rfl)
            replace S_COMPACT_STRINGS := Sta.wr W281 S_COMPACT_STRINGS
            replace S_SIOOBE_FORMATTER := Sta.wr W281 S_SIOOBE_FORMATTER
            replace E_b191 := E_b191.wr W281
            have Z282 : n0 ≤ h281.size := Nat.le_trans Z280 (Keep.of_wr W281).1
            refine W.go st281 ?_
            have N281 := Fr.snoc X281 N279 g_b191
            show W p e below _ (T281.setTop (mkF m 794 #[.val (.int p0), .val (.int p1), .val (.int p2), .val (.int p3), .val (.int p4), .val (.int c1), .val (.int c2), .val (.int c3), .val (.int c4), .val (.int kk), .unset, .unset] [(.ref b191)]))
            refine W.go (fun _ hr => XS.dup X281.here hx rfl (hb hby at_794) rfl rfl hr) ?_
            show W p e below _ (T281.setTop (mkF m 795 #[.val (.int p0), .val (.int p1), .val (.int p2), .val (.int p3), .val (.int p4), .val (.int c1), .val (.int c2), .val (.int c3), .val (.int c4), .val (.int kk), .unset, .unset] [(.ref b191), (.ref b191)]))
            refine W.go (fun _ hr => XS.bipush X281.here hx rfl (hb hby at_795) hr) ?_
            show W p e below _ (T281.setTop (mkF m 797 #[.val (.int p0), .val (.int p1), .val (.int p2), .val (.int p3), .val (.int p4), .val (.int c1), .val (.int c2), .val (.int c3), .val (.int c4), .val (.int kk), .unset, .unset] [(.int (45 : Int32)), (.ref b191), (.ref b191)]))
            refine W.go (fun _ hr => XS.iload X281.here hx rfl (hb hby at_797) rfl hr) ?_
            show W p e below _ (T281.setTop (mkF m 799 #[.val (.int p0), .val (.int p1), .val (.int p2), .val (.int p3), .val (.int p4), .val (.int c1), .val (.int c2), .val (.int c3), .val (.int c4), .val (.int kk), .unset, .unset] [(.int c2), (.int (45 : Int32)), (.ref b191), (.ref b191)]))
            obtain ⟨cl283, Ar283, q283, S283, Nn283, H283, G283⟩ := V_b191
            have hin283 : ¬ ((45 : Int32) < 0 ∨ cl283.slots.size ≤ ((45 : Int32)).toNatClampNeg) := inb_of S283 ⟨by decide, by decide⟩
            obtain ⟨T283, h283, X283, e283, W283, st283⟩ := stC X281 hx hZ e281 Ar283 (j := (45 : Int32)) hin283 (g := (mkF m 799 #[.val (.int p0), .val (.int p1), .val (.int p2), .val (.int p3), .val (.int p4), .val (.int c1), .val (.int c2), .val (.int c3), .val (.int c4), .val (.int kk), .unset, .unset] [(.int c2), (.int (45 : Int32)), (.ref b191), (.ref b191)])) rfl rfl (hb hby at_799)
            replace V_b191 : Arv Z h283 b191 k191 .char (64 : Int32) [(.int (nar .char c1)), (.int (nar .char c2)), (.int (nar .char c3)), (.int (nar .char c4)), (.int (nar .char c1)), (.int (nar .char c2)), (.int (nar .char c3)), (.int (nar .char c4)), (.int (nar .char c1)), (.int (nar .char c2)), (.int (nar .char c3)), (.int (nar .char c4)), (.int (nar .char c1)), (.int (nar .char c2)), (.int (nar .char c3)), (.int (nar .char c4)), (.int (nar .char c1)), (.int (nar .char c2)), (.int (nar .char c3)), (.int (nar .char c4)), (.int (nar .char c1)), (.int (nar .char c2)), (.int (nar .char c3)), (.int (nar .char c4)), (.int (nar .char c1)), (.int (nar .char c2)), (.int (nar .char c3)), (.int (nar .char c4)), (.int (nar .char c1)), (.int (nar .char c2)), (.int (nar .char c3)), (.int (nar .char c4)), (.int (nar .char c1)), (.int (nar .char c2)), (.int (nar .char c3)), (.int (nar .char c4)), (.int (nar .char c1)), (.int (nar .char c2)), (.int (nar .char c3)), (.int (nar .char c4)), (.int (nar .char c1)), (.int (nar .char c2)), (.int (nar .char c3)), (.int (nar .char c4)), (.int (nar .char c1)), (.int (nar .char c2)), (.int (0 : Int32)), (.int (0 : Int32)), (.int (0 : Int32)), (.int (0 : Int32)), (.int (0 : Int32)), (.int (0 : Int32)), (.int (0 : Int32)), (.int (0 : Int32)), (.int (0 : Int32)), (.int (0 : Int32)), (.int (0 : Int32)), (.int (0 : Int32)), (.int (0 : Int32)), (.int (0 : Int32)), (.int (0 : Int32)), (.int (0 : Int32)), (.int (0 : Int32)), (.int (0 : Int32))] (.int (0 : Int32)) := Arv.set Ar283 q283 S283 Nn283 H283 G283 (fits_nar_char _) W283 45 rfl (Nat.le_of_ble_eq_true rfl)
            replace S_COMPACT_STRINGS := Sta.wr W283 S_COMPACT_STRINGS
            replace S_SIOOBE_FORMATTER := Sta.wr W283 S_SIOOBE_FORMATTER
            replace E_b191 := E_b191.wr W283
            have Z284 : n0 ≤ h283.size := Nat.le_trans Z282 (Keep.of_wr W283).1
            refine W.go st283 ?_
            have N283 := Fr.snoc X283 N281 g_b191
            show W p e below _ (T283.setTop (mkF m 800 #[.val (.int p0), .val (.int p1), .val (.int p2), .val (.int p3), .val (.int p4), .val (.int c1), .val (.int c2), .val (.int c3), .val (.int c4), .val (.int kk), .unset, .unset] [(.ref b191)]))
            refine W.go (fun _ hr => XS.dup X283.here hx rfl (hb hby at_800) rfl rfl hr) ?_
            show W p e below _ (T283.setTop (mkF m 801 #[.val (.int p0), .val (.int p1), .val (.int p2), .val (.int p3), .val (.int p4), .val (.int c1), .val (.int c2), .val (.int c3), .val (.int c4), .val (.int kk), .unset, .unset] [(.ref b191), (.ref b191)]))
            refine W.go (fun _ hr => XS.bipush X283.here hx rfl (hb hby at_801) hr) ?_
            show W p e below _ (T283.setTop (mkF m 803 #[.val (.int p0), .val (.int p1), .val (.int p2), .val (.int p3), .val (.int p4), .val (.int c1), .val (.int c2), .val (.int c3), .val (.int c4), .val (.int kk), .unset, .unset] [(.int (46 : Int32)), (.ref b191), (.ref b191)]))
            refine W.go (fun _ hr => XS.iload X283.here hx rfl (hb hby at_803) rfl hr) ?_
            show W p e below _ (T283.setTop (mkF m 805 #[.val (.int p0), .val (.int p1), .val (.int p2), .val (.int p3), .val (.int p4), .val (.int c1), .val (.int c2), .val (.int c3), .val (.int c4), .val (.int kk), .unset, .unset] [(.int c3), (.int (46 : Int32)), (.ref b191), (.ref b191)]))
            obtain ⟨cl285, Ar285, q285, S285, Nn285, H285, G285⟩ := V_b191
            have hin285 : ¬ ((46 : Int32) < 0 ∨ cl285.slots.size ≤ ((46 : Int32)).toNatClampNeg) := inb_of S285 ⟨by decide, by decide⟩
            obtain ⟨T285, h285, X285, e285, W285, st285⟩ := stC X283 hx hZ e283 Ar285 (j := (46 : Int32)) hin285 (g := (mkF m 805 #[.val (.int p0), .val (.int p1), .val (.int p2), .val (.int p3), .val (.int p4), .val (.int c1), .val (.int c2), .val (.int c3), .val (.int c4), .val (.int kk), .unset, .unset] [(.int c3), (.int (46 : Int32)), (.ref b191), (.ref b191)])) rfl rfl (hb hby at_805)
            replace V_b191 : Arv Z h285 b191 k191 .char (64 : Int32) [(.int (nar .char c1)), (.int (nar .char c2)), (.int (nar .char c3)), (.int (nar .char c4)), (.int (nar .char c1)), (.int (nar .char c2)), (.int (nar .char c3)), (.int (nar .char c4)), (.int (nar .char c1)), (.int (nar .char c2)), (.int (nar .char c3)), (.int (nar .char c4)), (.int (nar .char c1)), (.int (nar .char c2)), (.int (nar .char c3)), (.int (nar .char c4)), (.int (nar .char c1)), (.int (nar .char c2)), (.int (nar .char c3)), (.int (nar .char c4)), (.int (nar .char c1)), (.int (nar .char c2)), (.int (nar .char c3)), (.int (nar .char c4)), (.int (nar .char c1)), (.int (nar .char c2)), (.int (nar .char c3)), (.int (nar .char c4)), (.int (nar .char c1)), (.int (nar .char c2)), (.int (nar .char c3)), (.int (nar .char c4)), (.int (nar .char c1)), (.int (nar .char c2)), (.int (nar .char c3)), (.int (nar .char c4)), (.int (nar .char c1)), (.int (nar .char c2)), (.int (nar .char c3)), (.int (nar .char c4)), (.int (nar .char c1)), (.int (nar .char c2)), (.int (nar .char c3)), (.int (nar .char c4)), (.int (nar .char c1)), (.int (nar .char c2)), (.int (nar .char c3)), (.int (0 : Int32)), (.int (0 : Int32)), (.int (0 : Int32)), (.int (0 : Int32)), (.int (0 : Int32)), (.int (0 : Int32)), (.int (0 : Int32)), (.int (0 : Int32)), (.int (0 : Int32)), (.int (0 : Int32)), (.int (0 : Int32)), (.int (0 : Int32)), (.int (0 : Int32)), (.int (0 : Int32)), (.int (0 : Int32)), (.int (0 : Int32)), (.int (0 : Int32))] (.int (0 : Int32)) := Arv.set Ar285 q285 S285 Nn285 H285 G285 (fits_nar_char _) W285 46 rfl (Nat.le_of_ble_eq_true rfl)
            replace S_COMPACT_STRINGS := Sta.wr W285 S_COMPACT_STRINGS
            replace S_SIOOBE_FORMATTER := Sta.wr W285 S_SIOOBE_FORMATTER
            replace E_b191 := E_b191.wr W285
            have Z286 : n0 ≤ h285.size := Nat.le_trans Z284 (Keep.of_wr W285).1
            refine W.go st285 ?_
            have N285 := Fr.snoc X285 N283 g_b191
            show W p e below _ (T285.setTop (mkF m 806 #[.val (.int p0), .val (.int p1), .val (.int p2), .val (.int p3), .val (.int p4), .val (.int c1), .val (.int c2), .val (.int c3), .val (.int c4), .val (.int kk), .unset, .unset] [(.ref b191)]))
            refine W.go (fun _ hr => XS.dup X285.here hx rfl (hb hby at_806) rfl rfl hr) ?_
            show W p e below _ (T285.setTop (mkF m 807 #[.val (.int p0), .val (.int p1), .val (.int p2), .val (.int p3), .val (.int p4), .val (.int c1), .val (.int c2), .val (.int c3), .val (.int c4), .val (.int kk), .unset, .unset] [(.ref b191), (.ref b191)]))
            refine W.go (fun _ hr => XS.bipush X285.here hx rfl (hb hby at_807) hr) ?_
            show W p e below _ (T285.setTop (mkF m 809 #[.val (.int p0), .val (.int p1), .val (.int p2), .val (.int p3), .val (.int p4), .val (.int c1), .val (.int c2), .val (.int c3), .val (.int c4), .val (.int kk), .unset, .unset] [(.int (47 : Int32)), (.ref b191), (.ref b191)]))
            refine W.go (fun _ hr => XS.iload X285.here hx rfl (hb hby at_809) rfl hr) ?_
            show W p e below _ (T285.setTop (mkF m 811 #[.val (.int p0), .val (.int p1), .val (.int p2), .val (.int p3), .val (.int p4), .val (.int c1), .val (.int c2), .val (.int c3), .val (.int c4), .val (.int kk), .unset, .unset] [(.int c4), (.int (47 : Int32)), (.ref b191), (.ref b191)]))
            obtain ⟨cl287, Ar287, q287, S287, Nn287, H287, G287⟩ := V_b191
            have hin287 : ¬ ((47 : Int32) < 0 ∨ cl287.slots.size ≤ ((47 : Int32)).toNatClampNeg) := inb_of S287 ⟨by decide, by decide⟩
            obtain ⟨T287, h287, X287, e287, W287, st287⟩ := stC X285 hx hZ e285 Ar287 (j := (47 : Int32)) hin287 (g := (mkF m 811 #[.val (.int p0), .val (.int p1), .val (.int p2), .val (.int p3), .val (.int p4), .val (.int c1), .val (.int c2), .val (.int c3), .val (.int c4), .val (.int kk), .unset, .unset] [(.int c4), (.int (47 : Int32)), (.ref b191), (.ref b191)])) rfl rfl (hb hby at_811)
            replace V_b191 : Arv Z h287 b191 k191 .char (64 : Int32) [(.int (nar .char c1)), (.int (nar .char c2)), (.int (nar .char c3)), (.int (nar .char c4)), (.int (nar .char c1)), (.int (nar .char c2)), (.int (nar .char c3)), (.int (nar .char c4)), (.int (nar .char c1)), (.int (nar .char c2)), (.int (nar .char c3)), (.int (nar .char c4)), (.int (nar .char c1)), (.int (nar .char c2)), (.int (nar .char c3)), (.int (nar .char c4)), (.int (nar .char c1)), (.int (nar .char c2)), (.int (nar .char c3)), (.int (nar .char c4)), (.int (nar .char c1)), (.int (nar .char c2)), (.int (nar .char c3)), (.int (nar .char c4)), (.int (nar .char c1)), (.int (nar .char c2)), (.int (nar .char c3)), (.int (nar .char c4)), (.int (nar .char c1)), (.int (nar .char c2)), (.int (nar .char c3)), (.int (nar .char c4)), (.int (nar .char c1)), (.int (nar .char c2)), (.int (nar .char c3)), (.int (nar .char c4)), (.int (nar .char c1)), (.int (nar .char c2)), (.int (nar .char c3)), (.int (nar .char c4)), (.int (nar .char c1)), (.int (nar .char c2)), (.int (nar .char c3)), (.int (nar .char c4)), (.int (nar .char c1)), (.int (nar .char c2)), (.int (nar .char c3)), (.int (nar .char c4)), (.int (0 : Int32)), (.int (0 : Int32)), (.int (0 : Int32)), (.int (0 : Int32)), (.int (0 : Int32)), (.int (0 : Int32)), (.int (0 : Int32)), (.int (0 : Int32)), (.int (0 : Int32)), (.int (0 : Int32)), (.int (0 : Int32)), (.int (0 : Int32)), (.int (0 : Int32)), (.int (0 : Int32)), (.int (0 : Int32)), (.int (0 : Int32))] (.int (0 : Int32)) := Arv.set Ar287 q287 S287 Nn287 H287 G287 (fits_nar_char _) W287 47 rfl (Nat.le_of_ble_eq_true rfl)
            replace S_COMPACT_STRINGS := Sta.wr W287 S_COMPACT_STRINGS
            replace S_SIOOBE_FORMATTER := Sta.wr W287 S_SIOOBE_FORMATTER
            replace E_b191 := E_b191.wr W287
            have Z288 : n0 ≤ h287.size := Nat.le_trans Z286 (Keep.of_wr W287).1
            refine W.go st287 ?_
            have N287 := Fr.snoc X287 N285 g_b191
            show W p e below _ (T287.setTop (mkF m 812 #[.val (.int p0), .val (.int p1), .val (.int p2), .val (.int p3), .val (.int p4), .val (.int c1), .val (.int c2), .val (.int c3), .val (.int c4), .val (.int kk), .unset, .unset] [(.ref b191)]))
            refine W.go (fun _ hr => XS.dup X287.here hx rfl (hb hby at_812) rfl rfl hr) ?_
            show W p e below _ (T287.setTop (mkF m 813 #[.val (.int p0), .val (.int p1), .val (.int p2), .val (.int p3), .val (.int p4), .val (.int c1), .val (.int c2), .val (.int c3), .val (.int c4), .val (.int kk), .unset, .unset] [(.ref b191), (.ref b191)]))
            refine W.go (fun _ hr => XS.bipush X287.here hx rfl (hb hby at_813) hr) ?_
            show W p e below _ (T287.setTop (mkF m 815 #[.val (.int p0), .val (.int p1), .val (.int p2), .val (.int p3), .val (.int p4), .val (.int c1), .val (.int c2), .val (.int c3), .val (.int c4), .val (.int kk), .unset, .unset] [(.int (48 : Int32)), (.ref b191), (.ref b191)]))
            refine W.go (fun _ hr => XS.iload X287.here hx rfl (hb hby at_815) rfl hr) ?_
            show W p e below _ (T287.setTop (mkF m 817 #[.val (.int p0), .val (.int p1), .val (.int p2), .val (.int p3), .val (.int p4), .val (.int c1), .val (.int c2), .val (.int c3), .val (.int c4), .val (.int kk), .unset, .unset] [(.int c1), (.int (48 : Int32)), (.ref b191), (.ref b191)]))
            obtain ⟨cl289, Ar289, q289, S289, Nn289, H289, G289⟩ := V_b191
            have hin289 : ¬ ((48 : Int32) < 0 ∨ cl289.slots.size ≤ ((48 : Int32)).toNatClampNeg) := inb_of S289 ⟨by decide, by decide⟩
            obtain ⟨T289, h289, X289, e289, W289, st289⟩ := stC X287 hx hZ e287 Ar289 (j := (48 : Int32)) hin289 (g := (mkF m 817 #[.val (.int p0), .val (.int p1), .val (.int p2), .val (.int p3), .val (.int p4), .val (.int c1), .val (.int c2), .val (.int c3), .val (.int c4), .val (.int kk), .unset, .unset] [(.int c1), (.int (48 : Int32)), (.ref b191), (.ref b191)])) rfl rfl (hb hby at_817)
            replace V_b191 : Arv Z h289 b191 k191 .char (64 : Int32) [(.int (nar .char c1)), (.int (nar .char c2)), (.int (nar .char c3)), (.int (nar .char c4)), (.int (nar .char c1)), (.int (nar .char c2)), (.int (nar .char c3)), (.int (nar .char c4)), (.int (nar .char c1)), (.int (nar .char c2)), (.int (nar .char c3)), (.int (nar .char c4)), (.int (nar .char c1)), (.int (nar .char c2)), (.int (nar .char c3)), (.int (nar .char c4)), (.int (nar .char c1)), (.int (nar .char c2)), (.int (nar .char c3)), (.int (nar .char c4)), (.int (nar .char c1)), (.int (nar .char c2)), (.int (nar .char c3)), (.int (nar .char c4)), (.int (nar .char c1)), (.int (nar .char c2)), (.int (nar .char c3)), (.int (nar .char c4)), (.int (nar .char c1)), (.int (nar .char c2)), (.int (nar .char c3)), (.int (nar .char c4)), (.int (nar .char c1)), (.int (nar .char c2)), (.int (nar .char c3)), (.int (nar .char c4)), (.int (nar .char c1)), (.int (nar .char c2)), (.int (nar .char c3)), (.int (nar .char c4)), (.int (nar .char c1)), (.int (nar .char c2)), (.int (nar .char c3)), (.int (nar .char c4)), (.int (nar .char c1)), (.int (nar .char c2)), (.int (nar .char c3)), (.int (nar .char c4)), (.int (nar .char c1)), (.int (0 : Int32)), (.int (0 : Int32)), (.int (0 : Int32)), (.int (0 : Int32)), (.int (0 : Int32)), (.int (0 : Int32)), (.int (0 : Int32)), (.int (0 : Int32)), (.int (0 : Int32)), (.int (0 : Int32)), (.int (0 : Int32)), (.int (0 : Int32)), (.int (0 : Int32)), (.int (0 : Int32)), (.int (0 : Int32))] (.int (0 : Int32)) := Arv.set Ar289 q289 S289 Nn289 H289 G289 (fits_nar_char _) W289 48 rfl (Nat.le_of_ble_eq_true rfl)
            replace S_COMPACT_STRINGS := Sta.wr W289 S_COMPACT_STRINGS
            replace S_SIOOBE_FORMATTER := Sta.wr W289 S_SIOOBE_FORMATTER
            replace E_b191 := E_b191.wr W289
            have Z290 : n0 ≤ h289.size := Nat.le_trans Z288 (Keep.of_wr W289).1
            refine W.go st289 ?_
            have N289 := Fr.snoc X289 N287 g_b191
            show W p e below _ (T289.setTop (mkF m 818 #[.val (.int p0), .val (.int p1), .val (.int p2), .val (.int p3), .val (.int p4), .val (.int c1), .val (.int c2), .val (.int c3), .val (.int c4), .val (.int kk), .unset, .unset] [(.ref b191)]))
            refine W.go (fun _ hr => XS.dup X289.here hx rfl (hb hby at_818) rfl rfl hr) ?_
            show W p e below _ (T289.setTop (mkF m 819 #[.val (.int p0), .val (.int p1), .val (.int p2), .val (.int p3), .val (.int p4), .val (.int c1), .val (.int c2), .val (.int c3), .val (.int c4), .val (.int kk), .unset, .unset] [(.ref b191), (.ref b191)]))
            refine W.go (fun _ hr => XS.bipush X289.here hx rfl (hb hby at_819) hr) ?_
            show W p e below _ (T289.setTop (mkF m 821 #[.val (.int p0), .val (.int p1), .val (.int p2), .val (.int p3), .val (.int p4), .val (.int c1), .val (.int c2), .val (.int c3), .val (.int c4), .val (.int kk), .unset, .unset] [(.int (49 : Int32)), (.ref b191), (.ref b191)]))
            refine W.go (fun _ hr => XS.iload X289.here hx rfl (hb hby at_821) rfl hr) ?_
            show W p e below _ (T289.setTop (mkF m 823 #[.val (.int p0), .val (.int p1), .val (.int p2), .val (.int p3), .val (.int p4), .val (.int c1), .val (.int c2), .val (.int c3), .val (.int c4), .val (.int kk), .unset, .unset] [(.int c2), (.int (49 : Int32)), (.ref b191), (.ref b191)]))
            obtain ⟨cl291, Ar291, q291, S291, Nn291, H291, G291⟩ := V_b191
            have hin291 : ¬ ((49 : Int32) < 0 ∨ cl291.slots.size ≤ ((49 : Int32)).toNatClampNeg) := inb_of S291 ⟨by decide, by decide⟩
            obtain ⟨T291, h291, X291, e291, W291, st291⟩ := stC X289 hx hZ e289 Ar291 (j := (49 : Int32)) hin291 (g := (mkF m 823 #[.val (.int p0), .val (.int p1), .val (.int p2), .val (.int p3), .val (.int p4), .val (.int c1), .val (.int c2), .val (.int c3), .val (.int c4), .val (.int kk), .unset, .unset] [(.int c2), (.int (49 : Int32)), (.ref b191), (.ref b191)])) rfl rfl (hb hby at_823)
            replace V_b191 : Arv Z h291 b191 k191 .char (64 : Int32) [(.int (nar .char c1)), (.int (nar .char c2)), (.int (nar .char c3)), (.int (nar .char c4)), (.int (nar .char c1)), (.int (nar .char c2)), (.int (nar .char c3)), (.int (nar .char c4)), (.int (nar .char c1)), (.int (nar .char c2)), (.int (nar .char c3)), (.int (nar .char c4)), (.int (nar .char c1)), (.int (nar .char c2)), (.int (nar .char c3)), (.int (nar .char c4)), (.int (nar .char c1)), (.int (nar .char c2)), (.int (nar .char c3)), (.int (nar .char c4)), (.int (nar .char c1)), (.int (nar .char c2)), (.int (nar .char c3)), (.int (nar .char c4)), (.int (nar .char c1)), (.int (nar .char c2)), (.int (nar .char c3)), (.int (nar .char c4)), (.int (nar .char c1)), (.int (nar .char c2)), (.int (nar .char c3)), (.int (nar .char c4)), (.int (nar .char c1)), (.int (nar .char c2)), (.int (nar .char c3)), (.int (nar .char c4)), (.int (nar .char c1)), (.int (nar .char c2)), (.int (nar .char c3)), (.int (nar .char c4)), (.int (nar .char c1)), (.int (nar .char c2)), (.int (nar .char c3)), (.int (nar .char c4)), (.int (nar .char c1)), (.int (nar .char c2)), (.int (nar .char c3)), (.int (nar .char c4)), (.int (nar .char c1)), (.int (nar .char c2)), (.int (0 : Int32)), (.int (0 : Int32)), (.int (0 : Int32)), (.int (0 : Int32)), (.int (0 : Int32)), (.int (0 : Int32)), (.int (0 : Int32)), (.int (0 : Int32)), (.int (0 : Int32)), (.int (0 : Int32)), (.int (0 : Int32)), (.int (0 : Int32)), (.int (0 : Int32)), (.int (0 : Int32))] (.int (0 : Int32)) := Arv.set Ar291 q291 S291 Nn291 H291 G291 (fits_nar_char _) W291 49 rfl (Nat.le_of_ble_eq_true rfl)
            replace S_COMPACT_STRINGS := Sta.wr W291 S_COMPACT_STRINGS
            replace S_SIOOBE_FORMATTER := Sta.wr W291 S_SIOOBE_FORMATTER
            replace E_b191 := E_b191.wr W291
            have Z292 : n0 ≤ h291.size := Nat.le_trans Z290 (Keep.of_wr W291).1
            refine W.go st291 ?_
            have N291 := Fr.snoc X291 N289 g_b191
            show W p e below _ (T291.setTop (mkF m 824 #[.val (.int p0), .val (.int p1), .val (.int p2), .val (.int p3), .val (.int p4), .val (.int c1), .val (.int c2), .val (.int c3), .val (.int c4), .val (.int kk), .unset, .unset] [(.ref b191)]))
            refine W.go (fun _ hr => XS.dup X291.here hx rfl (hb hby at_824) rfl rfl hr) ?_
            show W p e below _ (T291.setTop (mkF m 825 #[.val (.int p0), .val (.int p1), .val (.int p2), .val (.int p3), .val (.int p4), .val (.int c1), .val (.int c2), .val (.int c3), .val (.int c4), .val (.int kk), .unset, .unset] [(.ref b191), (.ref b191)]))
            refine W.go (fun _ hr => XS.bipush X291.here hx rfl (hb hby at_825) hr) ?_
            show W p e below _ (T291.setTop (mkF m 827 #[.val (.int p0), .val (.int p1), .val (.int p2), .val (.int p3), .val (.int p4), .val (.int c1), .val (.int c2), .val (.int c3), .val (.int c4), .val (.int kk), .unset, .unset] [(.int (50 : Int32)), (.ref b191), (.ref b191)]))
            refine W.go (fun _ hr => XS.iload X291.here hx rfl (hb hby at_827) rfl hr) ?_
            show W p e below _ (T291.setTop (mkF m 829 #[.val (.int p0), .val (.int p1), .val (.int p2), .val (.int p3), .val (.int p4), .val (.int c1), .val (.int c2), .val (.int c3), .val (.int c4), .val (.int kk), .unset, .unset] [(.int c3), (.int (50 : Int32)), (.ref b191), (.ref b191)]))
            obtain ⟨cl293, Ar293, q293, S293, Nn293, H293, G293⟩ := V_b191
            have hin293 : ¬ ((50 : Int32) < 0 ∨ cl293.slots.size ≤ ((50 : Int32)).toNatClampNeg) := inb_of S293 ⟨by decide, by decide⟩
            obtain ⟨T293, h293, X293, e293, W293, st293⟩ := stC X291 hx hZ e291 Ar293 (j := (50 : Int32)) hin293 (g := (mkF m 829 #[.val (.int p0), .val (.int p1), .val (.int p2), .val (.int p3), .val (.int p4), .val (.int c1), .val (.int c2), .val (.int c3), .val (.int c4), .val (.int kk), .unset, .unset] [(.int c3), (.int (50 : Int32)), (.ref b191), (.ref b191)])) rfl rfl (hb hby at_829)
            replace V_b191 : Arv Z h293 b191 k191 .char (64 : Int32) [(.int (nar .char c1)), (.int (nar .char c2)), (.int (nar .char c3)), (.int (nar .char c4)), (.int (nar .char c1)), (.int (nar .char c2)), (.int (nar .char c3)), (.int (nar .char c4)), (.int (nar .char c1)), (.int (nar .char c2)), (.int (nar .char c3)), (.int (nar .char c4)), (.int (nar .char c1)), (.int (nar .char c2)), (.int (nar .char c3)), (.int (nar .char c4)), (.int (nar .char c1)), (.int (nar .char c2)), (.int (nar .char c3)), (.int (nar .char c4)), (.int (nar .char c1)), (.int (nar .char c2)), (.int (nar .char c3)), (.int (nar .char c4)), (.int (nar .char c1)), (.int (nar .char c2)), (.int (nar .char c3)), (.int (nar .char c4)), (.int (nar .char c1)), (.int (nar .char c2)), (.int (nar .char c3)), (.int (nar .char c4)), (.int (nar .char c1)), (.int (nar .char c2)), (.int (nar .char c3)), (.int (nar .char c4)), (.int (nar .char c1)), (.int (nar .char c2)), (.int (nar .char c3)), (.int (nar .char c4)), (.int (nar .char c1)), (.int (nar .char c2)), (.int (nar .char c3)), (.int (nar .char c4)), (.int (nar .char c1)), (.int (nar .char c2)), (.int (nar .char c3)), (.int (nar .char c4)), (.int (nar .char c1)), (.int (nar .char c2)), (.int (nar .char c3)), (.int (0 : Int32)), (.int (0 : Int32)), (.int (0 : Int32)), (.int (0 : Int32)), (.int (0 : Int32)), (.int (0 : Int32)), (.int (0 : Int32)), (.int (0 : Int32)), (.int (0 : Int32)), (.int (0 : Int32)), (.int (0 : Int32)), (.int (0 : Int32)), (.int (0 : Int32))] (.int (0 : Int32)) := Arv.set Ar293 q293 S293 Nn293 H293 G293 (fits_nar_char _) W293 50 rfl (Nat.le_of_ble_eq_true rfl)
            replace S_COMPACT_STRINGS := Sta.wr W293 S_COMPACT_STRINGS
            replace S_SIOOBE_FORMATTER := Sta.wr W293 S_SIOOBE_FORMATTER
            replace E_b191 := E_b191.wr W293
            have Z294 : n0 ≤ h293.size := Nat.le_trans Z292 (Keep.of_wr W293).1
            refine W.go st293 ?_
            have N293 := Fr.snoc X293 N291 g_b191
            show W p e below _ (T293.setTop (mkF m 830 #[.val (.int p0), .val (.int p1), .val (.int p2), .val (.int p3), .val (.int p4), .val (.int c1), .val (.int c2), .val (.int c3), .val (.int c4), .val (.int kk), .unset, .unset] [(.ref b191)]))
            refine W.go (fun _ hr => XS.dup X293.here hx rfl (hb hby at_830) rfl rfl hr) ?_
            show W p e below _ (T293.setTop (mkF m 831 #[.val (.int p0), .val (.int p1), .val (.int p2), .val (.int p3), .val (.int p4), .val (.int c1), .val (.int c2), .val (.int c3), .val (.int c4), .val (.int kk), .unset, .unset] [(.ref b191), (.ref b191)]))
            refine W.go (fun _ hr => XS.bipush X293.here hx rfl (hb hby at_831) hr) ?_
            show W p e below _ (T293.setTop (mkF m 833 #[.val (.int p0), .val (.int p1), .val (.int p2), .val (.int p3), .val (.int p4), .val (.int c1), .val (.int c2), .val (.int c3), .val (.int c4), .val (.int kk), .unset, .unset] [(.int (51 : Int32)), (.ref b191), (.ref b191)]))
            refine W.go (fun _ hr => XS.iload X293.here hx rfl (hb hby at_833) rfl hr) ?_
            show W p e below _ (T293.setTop (mkF m 835 #[.val (.int p0), .val (.int p1), .val (.int p2), .val (.int p3), .val (.int p4), .val (.int c1), .val (.int c2), .val (.int c3), .val (.int c4), .val (.int kk), .unset, .unset] [(.int c4), (.int (51 : Int32)), (.ref b191), (.ref b191)]))
            obtain ⟨cl295, Ar295, q295, S295, Nn295, H295, G295⟩ := V_b191
            have hin295 : ¬ ((51 : Int32) < 0 ∨ cl295.slots.size ≤ ((51 : Int32)).toNatClampNeg) := inb_of S295 ⟨by decide, by decide⟩
            obtain ⟨T295, h295, X295, e295, W295, st295⟩ := stC X293 hx hZ e293 Ar295 (j := (51 : Int32)) hin295 (g := (mkF m 835 #[.val (.int p0), .val (.int p1), .val (.int p2), .val (.int p3), .val (.int p4), .val (.int c1), .val (.int c2), .val (.int c3), .val (.int c4), .val (.int kk), .unset, .unset] [(.int c4), (.int (51 : Int32)), (.ref b191), (.ref b191)])) rfl rfl (hb hby at_835)
            replace V_b191 : Arv Z h295 b191 k191 .char (64 : Int32) [(.int (nar .char c1)), (.int (nar .char c2)), (.int (nar .char c3)), (.int (nar .char c4)), (.int (nar .char c1)), (.int (nar .char c2)), (.int (nar .char c3)), (.int (nar .char c4)), (.int (nar .char c1)), (.int (nar .char c2)), (.int (nar .char c3)), (.int (nar .char c4)), (.int (nar .char c1)), (.int (nar .char c2)), (.int (nar .char c3)), (.int (nar .char c4)), (.int (nar .char c1)), (.int (nar .char c2)), (.int (nar .char c3)), (.int (nar .char c4)), (.int (nar .char c1)), (.int (nar .char c2)), (.int (nar .char c3)), (.int (nar .char c4)), (.int (nar .char c1)), (.int (nar .char c2)), (.int (nar .char c3)), (.int (nar .char c4)), (.int (nar .char c1)), (.int (nar .char c2)), (.int (nar .char c3)), (.int (nar .char c4)), (.int (nar .char c1)), (.int (nar .char c2)), (.int (nar .char c3)), (.int (nar .char c4)), (.int (nar .char c1)), (.int (nar .char c2)), (.int (nar .char c3)), (.int (nar .char c4)), (.int (nar .char c1)), (.int (nar .char c2)), (.int (nar .char c3)), (.int (nar .char c4)), (.int (nar .char c1)), (.int (nar .char c2)), (.int (nar .char c3)), (.int (nar .char c4)), (.int (nar .char c1)), (.int (nar .char c2)), (.int (nar .char c3)), (.int (nar .char c4)), (.int (0 : Int32)), (.int (0 : Int32)), (.int (0 : Int32)), (.int (0 : Int32)), (.int (0 : Int32)), (.int (0 : Int32)), (.int (0 : Int32)), (.int (0 : Int32)), (.int (0 : Int32)), (.int (0 : Int32)), (.int (0 : Int32)), (.int (0 : Int32))] (.int (0 : Int32)) := Arv.set Ar295 q295 S295 Nn295 H295 G295 (fits_nar_char _) W295 51 rfl (Nat.le_of_ble_eq_true rfl)
            replace S_COMPACT_STRINGS := Sta.wr W295 S_COMPACT_STRINGS
            replace S_SIOOBE_FORMATTER := Sta.wr W295 S_SIOOBE_FORMATTER
            replace E_b191 := E_b191.wr W295
            have Z296 : n0 ≤ h295.size := Nat.le_trans Z294 (Keep.of_wr W295).1
            refine W.go st295 ?_
            have N295 := Fr.snoc X295 N293 g_b191
            show W p e below _ (T295.setTop (mkF m 836 #[.val (.int p0), .val (.int p1), .val (.int p2), .val (.int p3), .val (.int p4), .val (.int c1), .val (.int c2), .val (.int c3), .val (.int c4), .val (.int kk), .unset, .unset] [(.ref b191)]))
            refine W.go (fun _ hr => XS.dup X295.here hx rfl (hb hby at_836) rfl rfl hr) ?_
            show W p e below _ (T295.setTop (mkF m 837 #[.val (.int p0), .val (.int p1), .val (.int p2), .val (.int p3), .val (.int p4), .val (.int c1), .val (.int c2), .val (.int c3), .val (.int c4), .val (.int kk), .unset, .unset] [(.ref b191), (.ref b191)]))
            refine W.go (fun _ hr => XS.bipush X295.here hx rfl (hb hby at_837) hr) ?_
            show W p e below _ (T295.setTop (mkF m 839 #[.val (.int p0), .val (.int p1), .val (.int p2), .val (.int p3), .val (.int p4), .val (.int c1), .val (.int c2), .val (.int c3), .val (.int c4), .val (.int kk), .unset, .unset] [(.int (52 : Int32)), (.ref b191), (.ref b191)]))
            refine W.go (fun _ hr => XS.iload X295.here hx rfl (hb hby at_839) rfl hr) ?_
            show W p e below _ (T295.setTop (mkF m 841 #[.val (.int p0), .val (.int p1), .val (.int p2), .val (.int p3), .val (.int p4), .val (.int c1), .val (.int c2), .val (.int c3), .val (.int c4), .val (.int kk), .unset, .unset] [(.int c1), (.int (52 : Int32)), (.ref b191), (.ref b191)]))
            obtain ⟨cl297, Ar297, q297, S297, Nn297, H297, G297⟩ := V_b191
            have hin297 : ¬ ((52 : Int32) < 0 ∨ cl297.slots.size ≤ ((52 : Int32)).toNatClampNeg) := inb_of S297 ⟨by decide, by decide⟩
            obtain ⟨T297, h297, X297, e297, W297, st297⟩ := stC X295 hx hZ e295 Ar297 (j := (52 : Int32)) hin297 (g := (mkF m 841 #[.val (.int p0), .val (.int p1), .val (.int p2), .val (.int p3), .val (.int p4), .val (.int c1), .val (.int c2), .val (.int c3), .val (.int c4), .val (.int kk), .unset, .unset] [(.int c1), (.int (52 : Int32)), (.ref b191), (.ref b191)])) rfl rfl (hb hby at_841)
            replace V_b191 : Arv Z h297 b191 k191 .char (64 : Int32) [(.int (nar .char c1)), (.int (nar .char c2)), (.int (nar .char c3)), (.int (nar .char c4)), (.int (nar .char c1)), (.int (nar .char c2)), (.int (nar .char c3)), (.int (nar .char c4)), (.int (nar .char c1)), (.int (nar .char c2)), (.int (nar .char c3)), (.int (nar .char c4)), (.int (nar .char c1)), (.int (nar .char c2)), (.int (nar .char c3)), (.int (nar .char c4)), (.int (nar .char c1)), (.int (nar .char c2)), (.int (nar .char c3)), (.int (nar .char c4)), (.int (nar .char c1)), (.int (nar .char c2)), (.int (nar .char c3)), (.int (nar .char c4)), (.int (nar .char c1)), (.int (nar .char c2)), (.int (nar .char c3)), (.int (nar .char c4)), (.int (nar .char c1)), (.int (nar .char c2)), (.int (nar .char c3)), (.int (nar .char c4)), (.int (nar .char c1)), (.int (nar .char c2)), (.int (nar .char c3)), (.int (nar .char c4)), (.int (nar .char c1)), (.int (nar .char c2)), (.int (nar .char c3)), (.int (nar .char c4)), (.int (nar .char c1)), (.int (nar .char c2)), (.int (nar .char c3)), (.int (nar .char c4)), (.int (nar .char c1)), (.int (nar .char c2)), (.int (nar .char c3)), (.int (nar .char c4)), (.int (nar .char c1)), (.int (nar .char c2)), (.int (nar .char c3)), (.int (nar .char c4)), (.int (nar .char c1)), (.int (0 : Int32)), (.int (0 : Int32)), (.int (0 : Int32)), (.int (0 : Int32)), (.int (0 : Int32)), (.int (0 : Int32)), (.int (0 : Int32)), (.int (0 : Int32)), (.int (0 : Int32)), (.int (0 : Int32)), (.int (0 : Int32))] (.int (0 : Int32)) := Arv.set Ar297 q297 S297 Nn297 H297 G297 (fits_nar_char _) W297 52 rfl (Nat.le_of_ble_eq_true rfl)
            replace S_COMPACT_STRINGS := Sta.wr W297 S_COMPACT_STRINGS
            replace S_SIOOBE_FORMATTER := Sta.wr W297 S_SIOOBE_FORMATTER
            replace E_b191 := E_b191.wr W297
            have Z298 : n0 ≤ h297.size := Nat.le_trans Z296 (Keep.of_wr W297).1
            refine W.go st297 ?_
            have N297 := Fr.snoc X297 N295 g_b191
            show W p e below _ (T297.setTop (mkF m 842 #[.val (.int p0), .val (.int p1), .val (.int p2), .val (.int p3), .val (.int p4), .val (.int c1), .val (.int c2), .val (.int c3), .val (.int c4), .val (.int kk), .unset, .unset] [(.ref b191)]))
            refine W.go (fun _ hr => XS.dup X297.here hx rfl (hb hby at_842) rfl rfl hr) ?_
            show W p e below _ (T297.setTop (mkF m 843 #[.val (.int p0), .val (.int p1), .val (.int p2), .val (.int p3), .val (.int p4), .val (.int c1), .val (.int c2), .val (.int c3), .val (.int c4), .val (.int kk), .unset, .unset] [(.ref b191), (.ref b191)]))
            refine W.go (fun _ hr => XS.bipush X297.here hx rfl (hb hby at_843) hr) ?_
            show W p e below _ (T297.setTop (mkF m 845 #[.val (.int p0), .val (.int p1), .val (.int p2), .val (.int p3), .val (.int p4), .val (.int c1), .val (.int c2), .val (.int c3), .val (.int c4), .val (.int kk), .unset, .unset] [(.int (53 : Int32)), (.ref b191), (.ref b191)]))
            refine W.go (fun _ hr => XS.iload X297.here hx rfl (hb hby at_845) rfl hr) ?_
            show W p e below _ (T297.setTop (mkF m 847 #[.val (.int p0), .val (.int p1), .val (.int p2), .val (.int p3), .val (.int p4), .val (.int c1), .val (.int c2), .val (.int c3), .val (.int c4), .val (.int kk), .unset, .unset] [(.int c2), (.int (53 : Int32)), (.ref b191), (.ref b191)]))
            obtain ⟨cl299, Ar299, q299, S299, Nn299, H299, G299⟩ := V_b191
            have hin299 : ¬ ((53 : Int32) < 0 ∨ cl299.slots.size ≤ ((53 : Int32)).toNatClampNeg) := inb_of S299 ⟨by decide, by decide⟩
            obtain ⟨T299, h299, X299, e299, W299, st299⟩ := stC X297 hx hZ e297 Ar299 (j := (53 : Int32)) hin299 (g := (mkF m 847 #[.val (.int p0), .val (.int p1), .val (.int p2), .val (.int p3), .val (.int p4), .val (.int c1), .val (.int c2), .val (.int c3), .val (.int c4), .val (.int kk), .unset, .unset] [(.int c2), (.int (53 : Int32)), (.ref b191), (.ref b191)])) rfl rfl (hb hby at_847)
            replace V_b191 : Arv Z h299 b191 k191 .char (64 : Int32) [(.int (nar .char c1)), (.int (nar .char c2)), (.int (nar .char c3)), (.int (nar .char c4)), (.int (nar .char c1)), (.int (nar .char c2)), (.int (nar .char c3)), (.int (nar .char c4)), (.int (nar .char c1)), (.int (nar .char c2)), (.int (nar .char c3)), (.int (nar .char c4)), (.int (nar .char c1)), (.int (nar .char c2)), (.int (nar .char c3)), (.int (nar .char c4)), (.int (nar .char c1)), (.int (nar .char c2)), (.int (nar .char c3)), (.int (nar .char c4)), (.int (nar .char c1)), (.int (nar .char c2)), (.int (nar .char c3)), (.int (nar .char c4)), (.int (nar .char c1)), (.int (nar .char c2)), (.int (nar .char c3)), (.int (nar .char c4)), (.int (nar .char c1)), (.int (nar .char c2)), (.int (nar .char c3)), (.int (nar .char c4)), (.int (nar .char c1)), (.int (nar .char c2)), (.int (nar .char c3)), (.int (nar .char c4)), (.int (nar .char c1)), (.int (nar .char c2)), (.int (nar .char c3)), (.int (nar .char c4)), (.int (nar .char c1)), (.int (nar .char c2)), (.int (nar .char c3)), (.int (nar .char c4)), (.int (nar .char c1)), (.int (nar .char c2)), (.int (nar .char c3)), (.int (nar .char c4)), (.int (nar .char c1)), (.int (nar .char c2)), (.int (nar .char c3)), (.int (nar .char c4)), (.int (nar .char c1)), (.int (nar .char c2)), (.int (0 : Int32)), (.int (0 : Int32)), (.int (0 : Int32)), (.int (0 : Int32)), (.int (0 : Int32)), (.int (0 : Int32)), (.int (0 : Int32)), (.int (0 : Int32)), (.int (0 : Int32)), (.int (0 : Int32))] (.int (0 : Int32)) := Arv.set Ar299 q299 S299 Nn299 H299 G299 (fits_nar_char _) W299 53 rfl (Nat.le_of_ble_eq_true rfl)
            replace S_COMPACT_STRINGS := Sta.wr W299 S_COMPACT_STRINGS
            replace S_SIOOBE_FORMATTER := Sta.wr W299 S_SIOOBE_FORMATTER
            replace E_b191 := E_b191.wr W299
            have Z300 : n0 ≤ h299.size := Nat.le_trans Z298 (Keep.of_wr W299).1
            refine W.go st299 ?_
            have N299 := Fr.snoc X299 N297 g_b191
            show W p e below _ (T299.setTop (mkF m 848 #[.val (.int p0), .val (.int p1), .val (.int p2), .val (.int p3), .val (.int p4), .val (.int c1), .val (.int c2), .val (.int c3), .val (.int c4), .val (.int kk), .unset, .unset] [(.ref b191)]))
            refine W.go (fun _ hr => XS.dup X299.here hx rfl (hb hby at_848) rfl rfl hr) ?_
            show W p e below _ (T299.setTop (mkF m 849 #[.val (.int p0), .val (.int p1), .val (.int p2), .val (.int p3), .val (.int p4), .val (.int c1), .val (.int c2), .val (.int c3), .val (.int c4), .val (.int kk), .unset, .unset] [(.ref b191), (.ref b191)]))
            refine W.go (fun _ hr => XS.bipush X299.here hx rfl (hb hby at_849) hr) ?_
            show W p e below _ (T299.setTop (mkF m 851 #[.val (.int p0), .val (.int p1), .val (.int p2), .val (.int p3), .val (.int p4), .val (.int c1), .val (.int c2), .val (.int c3), .val (.int c4), .val (.int kk), .unset, .unset] [(.int (54 : Int32)), (.ref b191), (.ref b191)]))
            refine W.go (fun _ hr => XS.iload X299.here hx rfl (hb hby at_851) rfl hr) ?_
            show W p e below _ (T299.setTop (mkF m 853 #[.val (.int p0), .val (.int p1), .val (.int p2), .val (.int p3), .val (.int p4), .val (.int c1), .val (.int c2), .val (.int c3), .val (.int c4), .val (.int kk), .unset, .unset] [(.int c3), (.int (54 : Int32)), (.ref b191), (.ref b191)]))
            obtain ⟨cl301, Ar301, q301, S301, Nn301, H301, G301⟩ := V_b191
            have hin301 : ¬ ((54 : Int32) < 0 ∨ cl301.slots.size ≤ ((54 : Int32)).toNatClampNeg) := inb_of S301 ⟨by decide, by decide⟩
            obtain ⟨T301, h301, X301, e301, W301, st301⟩ := stC X299 hx hZ e299 Ar301 (j := (54 : Int32)) hin301 (g := (mkF m 853 #[.val (.int p0), .val (.int p1), .val (.int p2), .val (.int p3), .val (.int p4), .val (.int c1), .val (.int c2), .val (.int c3), .val (.int c4), .val (.int kk), .unset, .unset] [(.int c3), (.int (54 : Int32)), (.ref b191), (.ref b191)])) rfl rfl (hb hby at_853)
            replace V_b191 : Arv Z h301 b191 k191 .char (64 : Int32) [(.int (nar .char c1)), (.int (nar .char c2)), (.int (nar .char c3)), (.int (nar .char c4)), (.int (nar .char c1)), (.int (nar .char c2)), (.int (nar .char c3)), (.int (nar .char c4)), (.int (nar .char c1)), (.int (nar .char c2)), (.int (nar .char c3)), (.int (nar .char c4)), (.int (nar .char c1)), (.int (nar .char c2)), (.int (nar .char c3)), (.int (nar .char c4)), (.int (nar .char c1)), (.int (nar .char c2)), (.int (nar .char c3)), (.int (nar .char c4)), (.int (nar .char c1)), (.int (nar .char c2)), (.int (nar .char c3)), (.int (nar .char c4)), (.int (nar .char c1)), (.int (nar .char c2)), (.int (nar .char c3)), (.int (nar .char c4)), (.int (nar .char c1)), (.int (nar .char c2)), (.int (nar .char c3)), (.int (nar .char c4)), (.int (nar .char c1)), (.int (nar .char c2)), (.int (nar .char c3)), (.int (nar .char c4)), (.int (nar .char c1)), (.int (nar .char c2)), (.int (nar .char c3)), (.int (nar .char c4)), (.int (nar .char c1)), (.int (nar .char c2)), (.int (nar .char c3)), (.int (nar .char c4)), (.int (nar .char c1)), (.int (nar .char c2)), (.int (nar .char c3)), (.int (nar .char c4)), (.int (nar .char c1)), (.int (nar .char c2)), (.int (nar .char c3)), (.int (nar .char c4)), (.int (nar .char c1)), (.int (nar .char c2)), (.int (nar .char c3)), (.int (0 : Int32)), (.int (0 : Int32)), (.int (0 : Int32)), (.int (0 : Int32)), (.int (0 : Int32)), (.int (0 : Int32)), (.int (0 : Int32)), (.int (0 : Int32)), (.int (0 : Int32))] (.int (0 : Int32)) := Arv.set Ar301 q301 S301 Nn301 H301 G301 (fits_nar_char _) W301 54 rfl (Nat.le_of_ble_eq_true rfl)
            replace S_COMPACT_STRINGS := Sta.wr W301 S_COMPACT_STRINGS
            replace S_SIOOBE_FORMATTER := Sta.wr W301 S_SIOOBE_FORMATTER
            replace E_b191 := E_b191.wr W301
            have Z302 : n0 ≤ h301.size := Nat.le_trans Z300 (Keep.of_wr W301).1
            refine W.go st301 ?_
            have N301 := Fr.snoc X301 N299 g_b191
            show W p e below _ (T301.setTop (mkF m 854 #[.val (.int p0), .val (.int p1), .val (.int p2), .val (.int p3), .val (.int p4), .val (.int c1), .val (.int c2), .val (.int c3), .val (.int c4), .val (.int kk), .unset, .unset] [(.ref b191)]))
            refine W.go (fun _ hr => XS.dup X301.here hx rfl (hb hby at_854) rfl rfl hr) ?_
            show W p e below _ (T301.setTop (mkF m 855 #[.val (.int p0), .val (.int p1), .val (.int p2), .val (.int p3), .val (.int p4), .val (.int c1), .val (.int c2), .val (.int c3), .val (.int c4), .val (.int kk), .unset, .unset] [(.ref b191), (.ref b191)]))
            refine W.go (fun _ hr => XS.bipush X301.here hx rfl (hb hby at_855) hr) ?_
            show W p e below _ (T301.setTop (mkF m 857 #[.val (.int p0), .val (.int p1), .val (.int p2), .val (.int p3), .val (.int p4), .val (.int c1), .val (.int c2), .val (.int c3), .val (.int c4), .val (.int kk), .unset, .unset] [(.int (55 : Int32)), (.ref b191), (.ref b191)]))
            refine W.go (fun _ hr => XS.iload X301.here hx rfl (hb hby at_857) rfl hr) ?_
            show W p e below _ (T301.setTop (mkF m 859 #[.val (.int p0), .val (.int p1), .val (.int p2), .val (.int p3), .val (.int p4), .val (.int c1), .val (.int c2), .val (.int c3), .val (.int c4), .val (.int kk), .unset, .unset] [(.int c4), (.int (55 : Int32)), (.ref b191), (.ref b191)]))
            obtain ⟨cl303, Ar303, q303, S303, Nn303, H303, G303⟩ := V_b191
            have hin303 : ¬ ((55 : Int32) < 0 ∨ cl303.slots.size ≤ ((55 : Int32)).toNatClampNeg) := inb_of S303 ⟨by decide, by decide⟩
            obtain ⟨T303, h303, X303, e303, W303, st303⟩ := stC X301 hx hZ e301 Ar303 (j := (55 : Int32)) hin303 (g := (mkF m 859 #[.val (.int p0), .val (.int p1), .val (.int p2), .val (.int p3), .val (.int p4), .val (.int c1), .val (.int c2), .val (.int c3), .val (.int c4), .val (.int kk), .unset, .unset] [(.int c4), (.int (55 : Int32)), (.ref b191), (.ref b191)])) rfl rfl (hb hby at_859)
            replace V_b191 : Arv Z h303 b191 k191 .char (64 : Int32) [(.int (nar .char c1)), (.int (nar .char c2)), (.int (nar .char c3)), (.int (nar .char c4)), (.int (nar .char c1)), (.int (nar .char c2)), (.int (nar .char c3)), (.int (nar .char c4)), (.int (nar .char c1)), (.int (nar .char c2)), (.int (nar .char c3)), (.int (nar .char c4)), (.int (nar .char c1)), (.int (nar .char c2)), (.int (nar .char c3)), (.int (nar .char c4)), (.int (nar .char c1)), (.int (nar .char c2)), (.int (nar .char c3)), (.int (nar .char c4)), (.int (nar .char c1)), (.int (nar .char c2)), (.int (nar .char c3)), (.int (nar .char c4)), (.int (nar .char c1)), (.int (nar .char c2)), (.int (nar .char c3)), (.int (nar .char c4)), (.int (nar .char c1)), (.int (nar .char c2)), (.int (nar .char c3)), (.int (nar .char c4)), (.int (nar .char c1)), (.int (nar .char c2)), (.int (nar .char c3)), (.int (nar .char c4)), (.int (nar .char c1)), (.int (nar .char c2)), (.int (nar .char c3)), (.int (nar .char c4)), (.int (nar .char c1)), (.int (nar .char c2)), (.int (nar .char c3)), (.int (nar .char c4)), (.int (nar .char c1)), (.int (nar .char c2)), (.int (nar .char c3)), (.int (nar .char c4)), (.int (nar .char c1)), (.int (nar .char c2)), (.int (nar .char c3)), (.int (nar .char c4)), (.int (nar .char c1)), (.int (nar .char c2)), (.int (nar .char c3)), (.int (nar .char c4)), (.int (0 : Int32)), (.int (0 : Int32)), (.int (0 : Int32)), (.int (0 : Int32)), (.int (0 : Int32)), (.int (0 : Int32)), (.int (0 : Int32)), (.int (0 : Int32))] (.int (0 : Int32)) := Arv.set Ar303 q303 S303 Nn303 H303 G303 (fits_nar_char _) W303 55 rfl (Nat.le_of_ble_eq_true rfl)
            replace S_COMPACT_STRINGS := Sta.wr W303 S_COMPACT_STRINGS
            replace S_SIOOBE_FORMATTER := Sta.wr W303 S_SIOOBE_FORMATTER
            replace E_b191 := E_b191.wr W303
            have Z304 : n0 ≤ h303.size := Nat.le_trans Z302 (Keep.of_wr W303).1
            refine W.go st303 ?_
            have N303 := Fr.snoc X303 N301 g_b191
            show W p e below _ (T303.setTop (mkF m 860 #[.val (.int p0), .val (.int p1), .val (.int p2), .val (.int p3), .val (.int p4), .val (.int c1), .val (.int c2), .val (.int c3), .val (.int c4), .val (.int kk), .unset, .unset] [(.ref b191)]))
            refine W.go (fun _ hr => XS.dup X303.here hx rfl (hb hby at_860) rfl rfl hr) ?_
            show W p e below _ (T303.setTop (mkF m 861 #[.val (.int p0), .val (.int p1), .val (.int p2), .val (.int p3), .val (.int p4), .val (.int c1), .val (.int c2), .val (.int c3), .val (.int c4), .val (.int kk), .unset, .unset] [(.ref b191), (.ref b191)]))
            refine W.go (fun _ hr => XS.bipush X303.here hx rfl (hb hby at_861) hr) ?_
            show W p e below _ (T303.setTop (mkF m 863 #[.val (.int p0), .val (.int p1), .val (.int p2), .val (.int p3), .val (.int p4), .val (.int c1), .val (.int c2), .val (.int c3), .val (.int c4), .val (.int kk), .unset, .unset] [(.int (56 : Int32)), (.ref b191), (.ref b191)]))
            refine W.go (fun _ hr => XS.iload X303.here hx rfl (hb hby at_863) rfl hr) ?_
            show W p e below _ (T303.setTop (mkF m 865 #[.val (.int p0), .val (.int p1), .val (.int p2), .val (.int p3), .val (.int p4), .val (.int c1), .val (.int c2), .val (.int c3), .val (.int c4), .val (.int kk), .unset, .unset] [(.int c1), (.int (56 : Int32)), (.ref b191), (.ref b191)]))
            obtain ⟨cl305, Ar305, q305, S305, Nn305, H305, G305⟩ := V_b191
            have hin305 : ¬ ((56 : Int32) < 0 ∨ cl305.slots.size ≤ ((56 : Int32)).toNatClampNeg) := inb_of S305 ⟨by decide, by decide⟩
            obtain ⟨T305, h305, X305, e305, W305, st305⟩ := stC X303 hx hZ e303 Ar305 (j := (56 : Int32)) hin305 (g := (mkF m 865 #[.val (.int p0), .val (.int p1), .val (.int p2), .val (.int p3), .val (.int p4), .val (.int c1), .val (.int c2), .val (.int c3), .val (.int c4), .val (.int kk), .unset, .unset] [(.int c1), (.int (56 : Int32)), (.ref b191), (.ref b191)])) rfl rfl (hb hby at_865)
            replace V_b191 : Arv Z h305 b191 k191 .char (64 : Int32) [(.int (nar .char c1)), (.int (nar .char c2)), (.int (nar .char c3)), (.int (nar .char c4)), (.int (nar .char c1)), (.int (nar .char c2)), (.int (nar .char c3)), (.int (nar .char c4)), (.int (nar .char c1)), (.int (nar .char c2)), (.int (nar .char c3)), (.int (nar .char c4)), (.int (nar .char c1)), (.int (nar .char c2)), (.int (nar .char c3)), (.int (nar .char c4)), (.int (nar .char c1)), (.int (nar .char c2)), (.int (nar .char c3)), (.int (nar .char c4)), (.int (nar .char c1)), (.int (nar .char c2)), (.int (nar .char c3)), (.int (nar .char c4)), (.int (nar .char c1)), (.int (nar .char c2)), (.int (nar .char c3)), (.int (nar .char c4)), (.int (nar .char c1)), (.int (nar .char c2)), (.int (nar .char c3)), (.int (nar .char c4)), (.int (nar .char c1)), (.int (nar .char c2)), (.int (nar .char c3)), (.int (nar .char c4)), (.int (nar .char c1)), (.int (nar .char c2)), (.int (nar .char c3)), (.int (nar .char c4)), (.int (nar .char c1)), (.int (nar .char c2)), (.int (nar .char c3)), (.int (nar .char c4)), (.int (nar .char c1)), (.int (nar .char c2)), (.int (nar .char c3)), (.int (nar .char c4)), (.int (nar .char c1)), (.int (nar .char c2)), (.int (nar .char c3)), (.int (nar .char c4)), (.int (nar .char c1)), (.int (nar .char c2)), (.int (nar .char c3)), (.int (nar .char c4)), (.int (nar .char c1)), (.int (0 : Int32)), (.int (0 : Int32)), (.int (0 : Int32)), (.int (0 : Int32)), (.int (0 : Int32)), (.int (0 : Int32)), (.int (0 : Int32))] (.int (0 : Int32)) := Arv.set Ar305 q305 S305 Nn305 H305 G305 (fits_nar_char _) W305 56 rfl (Nat.le_of_ble_eq_true rfl)
            replace S_COMPACT_STRINGS := Sta.wr W305 S_COMPACT_STRINGS
            replace S_SIOOBE_FORMATTER := Sta.wr W305 S_SIOOBE_FORMATTER
            replace E_b191 := E_b191.wr W305
            have Z306 : n0 ≤ h305.size := Nat.le_trans Z304 (Keep.of_wr W305).1
            refine W.go st305 ?_
            have N305 := Fr.snoc X305 N303 g_b191
            show W p e below _ (T305.setTop (mkF m 866 #[.val (.int p0), .val (.int p1), .val (.int p2), .val (.int p3), .val (.int p4), .val (.int c1), .val (.int c2), .val (.int c3), .val (.int c4), .val (.int kk), .unset, .unset] [(.ref b191)]))
            refine W.go (fun _ hr => XS.dup X305.here hx rfl (hb hby at_866) rfl rfl hr) ?_
            show W p e below _ (T305.setTop (mkF m 867 #[.val (.int p0), .val (.int p1), .val (.int p2), .val (.int p3), .val (.int p4), .val (.int c1), .val (.int c2), .val (.int c3), .val (.int c4), .val (.int kk), .unset, .unset] [(.ref b191), (.ref b191)]))
            refine W.go (fun _ hr => XS.bipush X305.here hx rfl (hb hby at_867) hr) ?_
            show W p e below _ (T305.setTop (mkF m 869 #[.val (.int p0), .val (.int p1), .val (.int p2), .val (.int p3), .val (.int p4), .val (.int c1), .val (.int c2), .val (.int c3), .val (.int c4), .val (.int kk), .unset, .unset] [(.int (57 : Int32)), (.ref b191), (.ref b191)]))
            refine W.go (fun _ hr => XS.iload X305.here hx rfl (hb hby at_869) rfl hr) ?_
            show W p e below _ (T305.setTop (mkF m 871 #[.val (.int p0), .val (.int p1), .val (.int p2), .val (.int p3), .val (.int p4), .val (.int c1), .val (.int c2), .val (.int c3), .val (.int c4), .val (.int kk), .unset, .unset] [(.int c2), (.int (57 : Int32)), (.ref b191), (.ref b191)]))
            obtain ⟨cl307, Ar307, q307, S307, Nn307, H307, G307⟩ := V_b191
            have hin307 : ¬ ((57 : Int32) < 0 ∨ cl307.slots.size ≤ ((57 : Int32)).toNatClampNeg) := inb_of S307 ⟨by decide, by decide⟩
            obtain ⟨T307, h307, X307, e307, W307, st307⟩ := stC X305 hx hZ e305 Ar307 (j := (57 : Int32)) hin307 (g := (mkF m 871 #[.val (.int p0), .val (.int p1), .val (.int p2), .val (.int p3), .val (.int p4), .val (.int c1), .val (.int c2), .val (.int c3), .val (.int c4), .val (.int kk), .unset, .unset] [(.int c2), (.int (57 : Int32)), (.ref b191), (.ref b191)])) rfl rfl (hb hby at_871)
            replace V_b191 : Arv Z h307 b191 k191 .char (64 : Int32) [(.int (nar .char c1)), (.int (nar .char c2)), (.int (nar .char c3)), (.int (nar .char c4)), (.int (nar .char c1)), (.int (nar .char c2)), (.int (nar .char c3)), (.int (nar .char c4)), (.int (nar .char c1)), (.int (nar .char c2)), (.int (nar .char c3)), (.int (nar .char c4)), (.int (nar .char c1)), (.int (nar .char c2)), (.int (nar .char c3)), (.int (nar .char c4)), (.int (nar .char c1)), (.int (nar .char c2)), (.int (nar .char c3)), (.int (nar .char c4)), (.int (nar .char c1)), (.int (nar .char c2)), (.int (nar .char c3)), (.int (nar .char c4)), (.int (nar .char c1)), (.int (nar .char c2)), (.int (nar .char c3)), (.int (nar .char c4)), (.int (nar .char c1)), (.int (nar .char c2)), (.int (nar .char c3)), (.int (nar .char c4)), (.int (nar .char c1)), (.int (nar .char c2)), (.int (nar .char c3)), (.int (nar .char c4)), (.int (nar .char c1)), (.int (nar .char c2)), (.int (nar .char c3)), (.int (nar .char c4)), (.int (nar .char c1)), (.int (nar .char c2)), (.int (nar .char c3)), (.int (nar .char c4)), (.int (nar .char c1)), (.int (nar .char c2)), (.int (nar .char c3)), (.int (nar .char c4)), (.int (nar .char c1)), (.int (nar .char c2)), (.int (nar .char c3)), (.int (nar .char c4)), (.int (nar .char c1)), (.int (nar .char c2)), (.int (nar .char c3)), (.int (nar .char c4)), (.int (nar .char c1)), (.int (nar .char c2)), (.int (0 : Int32)), (.int (0 : Int32)), (.int (0 : Int32)), (.int (0 : Int32)), (.int (0 : Int32)), (.int (0 : Int32))] (.int (0 : Int32)) := Arv.set Ar307 q307 S307 Nn307 H307 G307 (fits_nar_char _) W307 57 rfl (Nat.le_of_ble_eq_true rfl)
            replace S_COMPACT_STRINGS := Sta.wr W307 S_COMPACT_STRINGS
            replace S_SIOOBE_FORMATTER := Sta.wr W307 S_SIOOBE_FORMATTER
            replace E_b191 := E_b191.wr W307
            have Z308 : n0 ≤ h307.size := Nat.le_trans Z306 (Keep.of_wr W307).1
            refine W.go st307 ?_
            have N307 := Fr.snoc X307 N305 g_b191
            show W p e below _ (T307.setTop (mkF m 872 #[.val (.int p0), .val (.int p1), .val (.int p2), .val (.int p3), .val (.int p4), .val (.int c1), .val (.int c2), .val (.int c3), .val (.int c4), .val (.int kk), .unset, .unset] [(.ref b191)]))
            refine W.go (fun _ hr => XS.dup X307.here hx rfl (hb hby at_872) rfl rfl hr) ?_
            show W p e below _ (T307.setTop (mkF m 873 #[.val (.int p0), .val (.int p1), .val (.int p2), .val (.int p3), .val (.int p4), .val (.int c1), .val (.int c2), .val (.int c3), .val (.int c4), .val (.int kk), .unset, .unset] [(.ref b191), (.ref b191)]))
            refine W.go (fun _ hr => XS.bipush X307.here hx rfl (hb hby at_873) hr) ?_
            show W p e below _ (T307.setTop (mkF m 875 #[.val (.int p0), .val (.int p1), .val (.int p2), .val (.int p3), .val (.int p4), .val (.int c1), .val (.int c2), .val (.int c3), .val (.int c4), .val (.int kk), .unset, .unset] [(.int (58 : Int32)), (.ref b191), (.ref b191)]))
            refine W.go (fun _ hr => XS.iload X307.here hx rfl (hb hby at_875) rfl hr) ?_
            show W p e below _ (T307.setTop (mkF m 877 #[.val (.int p0), .val (.int p1), .val (.int p2), .val (.int p3), .val (.int p4), .val (.int c1), .val (.int c2), .val (.int c3), .val (.int c4), .val (.int kk), .unset, .unset] [(.int c3), (.int (58 : Int32)), (.ref b191), (.ref b191)]))
            obtain ⟨cl309, Ar309, q309, S309, Nn309, H309, G309⟩ := V_b191
            have hin309 : ¬ ((58 : Int32) < 0 ∨ cl309.slots.size ≤ ((58 : Int32)).toNatClampNeg) := inb_of S309 ⟨by decide, by decide⟩
            obtain ⟨T309, h309, X309, e309, W309, st309⟩ := stC X307 hx hZ e307 Ar309 (j := (58 : Int32)) hin309 (g := (mkF m 877 #[.val (.int p0), .val (.int p1), .val (.int p2), .val (.int p3), .val (.int p4), .val (.int c1), .val (.int c2), .val (.int c3), .val (.int c4), .val (.int kk), .unset, .unset] [(.int c3), (.int (58 : Int32)), (.ref b191), (.ref b191)])) rfl rfl (hb hby at_877)
            replace V_b191 : Arv Z h309 b191 k191 .char (64 : Int32) [(.int (nar .char c1)), (.int (nar .char c2)), (.int (nar .char c3)), (.int (nar .char c4)), (.int (nar .char c1)), (.int (nar .char c2)), (.int (nar .char c3)), (.int (nar .char c4)), (.int (nar .char c1)), (.int (nar .char c2)), (.int (nar .char c3)), (.int (nar .char c4)), (.int (nar .char c1)), (.int (nar .char c2)), (.int (nar .char c3)), (.int (nar .char c4)), (.int (nar .char c1)), (.int (nar .char c2)), (.int (nar .char c3)), (.int (nar .char c4)), (.int (nar .char c1)), (.int (nar .char c2)), (.int (nar .char c3)), (.int (nar .char c4)), (.int (nar .char c1)), (.int (nar .char c2)), (.int (nar .char c3)), (.int (nar .char c4)), (.int (nar .char c1)), (.int (nar .char c2)), (.int (nar .char c3)), (.int (nar .char c4)), (.int (nar .char c1)), (.int (nar .char c2)), (.int (nar .char c3)), (.int (nar .char c4)), (.int (nar .char c1)), (.int (nar .char c2)), (.int (nar .char c3)), (.int (nar .char c4)), (.int (nar .char c1)), (.int (nar .char c2)), (.int (nar .char c3)), (.int (nar .char c4)), (.int (nar .char c1)), (.int (nar .char c2)), (.int (nar .char c3)), (.int (nar .char c4)), (.int (nar .char c1)), (.int (nar .char c2)), (.int (nar .char c3)), (.int (nar .char c4)), (.int (nar .char c1)), (.int (nar .char c2)), (.int (nar .char c3)), (.int (nar .char c4)), (.int (nar .char c1)), (.int (nar .char c2)), (.int (nar .char c3)), (.int (0 : Int32)), (.int (0 : Int32)), (.int (0 : Int32)), (.int (0 : Int32)), (.int (0 : Int32))] (.int (0 : Int32)) := Arv.set Ar309 q309 S309 Nn309 H309 G309 (fits_nar_char _) W309 58 rfl (Nat.le_of_ble_eq_true rfl)
            replace S_COMPACT_STRINGS := Sta.wr W309 S_COMPACT_STRINGS
            replace S_SIOOBE_FORMATTER := Sta.wr W309 S_SIOOBE_FORMATTER
            replace E_b191 := E_b191.wr W309
            have Z310 : n0 ≤ h309.size := Nat.le_trans Z308 (Keep.of_wr W309).1
            refine W.go st309 ?_
            have N309 := Fr.snoc X309 N307 g_b191
            show W p e below _ (T309.setTop (mkF m 878 #[.val (.int p0), .val (.int p1), .val (.int p2), .val (.int p3), .val (.int p4), .val (.int c1), .val (.int c2), .val (.int c3), .val (.int c4), .val (.int kk), .unset, .unset] [(.ref b191)]))
            refine W.go (fun _ hr => XS.dup X309.here hx rfl (hb hby at_878) rfl rfl hr) ?_
            show W p e below _ (T309.setTop (mkF m 879 #[.val (.int p0), .val (.int p1), .val (.int p2), .val (.int p3), .val (.int p4), .val (.int c1), .val (.int c2), .val (.int c3), .val (.int c4), .val (.int kk), .unset, .unset] [(.ref b191), (.ref b191)]))
            refine W.go (fun _ hr => XS.bipush X309.here hx rfl (hb hby at_879) hr) ?_
            show W p e below _ (T309.setTop (mkF m 881 #[.val (.int p0), .val (.int p1), .val (.int p2), .val (.int p3), .val (.int p4), .val (.int c1), .val (.int c2), .val (.int c3), .val (.int c4), .val (.int kk), .unset, .unset] [(.int (59 : Int32)), (.ref b191), (.ref b191)]))
            refine W.go (fun _ hr => XS.iload X309.here hx rfl (hb hby at_881) rfl hr) ?_
            show W p e below _ (T309.setTop (mkF m 883 #[.val (.int p0), .val (.int p1), .val (.int p2), .val (.int p3), .val (.int p4), .val (.int c1), .val (.int c2), .val (.int c3), .val (.int c4), .val (.int kk), .unset, .unset] [(.int c4), (.int (59 : Int32)), (.ref b191), (.ref b191)]))
            obtain ⟨cl311, Ar311, q311, S311, Nn311, H311, G311⟩ := V_b191
            have hin311 : ¬ ((59 : Int32) < 0 ∨ cl311.slots.size ≤ ((59 : Int32)).toNatClampNeg) := inb_of S311 ⟨by decide, by decide⟩
            obtain ⟨T311, h311, X311, e311, W311, st311⟩ := stC X309 hx hZ e309 Ar311 (j := (59 : Int32)) hin311 (g := (mkF m 883 #[.val (.int p0), .val (.int p1), .val (.int p2), .val (.int p3), .val (.int p4), .val (.int c1), .val (.int c2), .val (.int c3), .val (.int c4), .val (.int kk), .unset, .unset] [(.int c4), (.int (59 : Int32)), (.ref b191), (.ref b191)])) rfl rfl (hb hby at_883)
            replace V_b191 : Arv Z h311 b191 k191 .char (64 : Int32) [(.int (nar .char c1)), (.int (nar .char c2)), (.int (nar .char c3)), (.int (nar .char c4)), (.int (nar .char c1)), (.int (nar .char c2)), (.int (nar .char c3)), (.int (nar .char c4)), (.int (nar .char c1)), (.int (nar .char c2)), (.int (nar .char c3)), (.int (nar .char c4)), (.int (nar .char c1)), (.int (nar .char c2)), (.int (nar .char c3)), (.int (nar .char c4)), (.int (nar .char c1)), (.int (nar .char c2)), (.int (nar .char c3)), (.int (nar .char c4)), (.int (nar .char c1)), (.int (nar .char c2)), (.int (nar .char c3)), (.int (nar .char c4)), (.int (nar .char c1)), (.int (nar .char c2)), (.int (nar .char c3)), (.int (nar .char c4)), (.int (nar .char c1)), (.int (nar .char c2)), (.int (nar .char c3)), (.int (nar .char c4)), (.int (nar .char c1)), (.int (nar .char c2)), (.int (nar .char c3)), (.int (nar .char c4)), (.int (nar .char c1)), (.int (nar .char c2)), (.int (nar .char c3)), (.int (nar .char c4)), (.int (nar .char c1)), (.int (nar .char c2)), (.int (nar .char c3)), (.int (nar .char c4)), (.int (nar .char c1)), (.int (nar .char c2)), (.int (nar .char c3)), (.int (nar .char c4)), (.int (nar .char c1)), (.int (nar .char c2)), (.int (nar .char c3)), (.int (nar .char c4)), (.int (nar .char c1)), (.int (nar .char c2)), (.int (nar .char c3)), (.int (nar .char c4)), (.int (nar .char c1)), (.int (nar .char c2)), (.int (nar .char c3)), (.int (nar .char c4)), (.int (0 : Int32)), (.int (0 : Int32)), (.int (0 : Int32)), (.int (0 : Int32))] (.int (0 : Int32)) := Arv.set Ar311 q311 S311 Nn311 H311 G311 (fits_nar_char _) W311 59 rfl (Nat.le_of_ble_eq_true rfl)
            replace S_COMPACT_STRINGS := Sta.wr W311 S_COMPACT_STRINGS
            replace S_SIOOBE_FORMATTER := Sta.wr W311 S_SIOOBE_FORMATTER
            replace E_b191 := E_b191.wr W311
            have Z312 : n0 ≤ h311.size := Nat.le_trans Z310 (Keep.of_wr W311).1
            refine W.go st311 ?_
            have N311 := Fr.snoc X311 N309 g_b191
            show W p e below _ (T311.setTop (mkF m 884 #[.val (.int p0), .val (.int p1), .val (.int p2), .val (.int p3), .val (.int p4), .val (.int c1), .val (.int c2), .val (.int c3), .val (.int c4), .val (.int kk), .unset, .unset] [(.ref b191)]))
            refine W.go (fun _ hr => XS.dup X311.here hx rfl (hb hby at_884) rfl rfl hr) ?_
            show W p e below _ (T311.setTop (mkF m 885 #[.val (.int p0), .val (.int p1), .val (.int p2), .val (.int p3), .val (.int p4), .val (.int c1), .val (.int c2), .val (.int c3), .val (.int c4), .val (.int kk), .unset, .unset] [(.ref b191), (.ref b191)]))
            refine W.go (fun _ hr => XS.bipush X311.here hx rfl (hb hby at_885) hr) ?_
            show W p e below _ (T311.setTop (mkF m 887 #[.val (.int p0), .val (.int p1), .val (.int p2), .val (.int p3), .val (.int p4), .val (.int c1), .val (.int c2), .val (.int c3), .val (.int c4), .val (.int kk), .unset, .unset] [(.int (60 : Int32)), (.ref b191), (.ref b191)]))
            refine W.go (fun _ hr => XS.iload X311.here hx rfl (hb hby at_887) rfl hr) ?_
            show W p e below _ (T311.setTop (mkF m 889 #[.val (.int p0), .val (.int p1), .val (.int p2), .val (.int p3), .val (.int p4), .val (.int c1), .val (.int c2), .val (.int c3), .val (.int c4), .val (.int kk), .unset, .unset] [(.int c1), (.int (60 : Int32)), (.ref b191), (.ref b191)]))
            obtain ⟨cl313, Ar313, q313, S313, Nn313, H313, G313⟩ := V_b191
            have hin313 : ¬ ((60 : Int32) < 0 ∨ cl313.slots.size ≤ ((60 : Int32)).toNatClampNeg) := inb_of S313 ⟨by decide, by decide⟩
            obtain ⟨T313, h313, X313, e313, W313, st313⟩ := stC X311 hx hZ e311 Ar313 (j := (60 : Int32)) hin313 (g := (mkF m 889 #[.val (.int p0), .val (.int p1), .val (.int p2), .val (.int p3), .val (.int p4), .val (.int c1), .val (.int c2), .val (.int c3), .val (.int c4), .val (.int kk), .unset, .unset] [(.int c1), (.int (60 : Int32)), (.ref b191), (.ref b191)])) rfl rfl (hb hby at_889)
            replace V_b191 : Arv Z h313 b191 k191 .char (64 : Int32) [(.int (nar .char c1)), (.int (nar .char c2)), (.int (nar .char c3)), (.int (nar .char c4)), (.int (nar .char c1)), (.int (nar .char c2)), (.int (nar .char c3)), (.int (nar .char c4)), (.int (nar .char c1)), (.int (nar .char c2)), (.int (nar .char c3)), (.int (nar .char c4)), (.int (nar .char c1)), (.int (nar .char c2)), (.int (nar .char c3)), (.int (nar .char c4)), (.int (nar .char c1)), (.int (nar .char c2)), (.int (nar .char c3)), (.int (nar .char c4)), (.int (nar .char c1)), (.int (nar .char c2)), (.int (nar .char c3)), (.int (nar .char c4)), (.int (nar .char c1)), (.int (nar .char c2)), (.int (nar .char c3)), (.int (nar .char c4)), (.int (nar .char c1)), (.int (nar .char c2)), (.int (nar .char c3)), (.int (nar .char c4)), (.int (nar .char c1)), (.int (nar .char c2)), (.int (nar .char c3)), (.int (nar .char c4)), (.int (nar .char c1)), (.int (nar .char c2)), (.int (nar .char c3)), (.int (nar .char c4)), (.int (nar .char c1)), (.int (nar .char c2)), (.int (nar .char c3)), (.int (nar .char c4)), (.int (nar .char c1)), (.int (nar .char c2)), (.int (nar .char c3)), (.int (nar .char c4)), (.int (nar .char c1)), (.int (nar .char c2)), (.int (nar .char c3)), (.int (nar .char c4)), (.int (nar .char c1)), (.int (nar .char c2)), (.int (nar .char c3)), (.int (nar .char c4)), (.int (nar .char c1)), (.int (nar .char c2)), (.int (nar .char c3)), (.int (nar .char c4)), (.int (nar .char c1)), (.int (0 : Int32)), (.int (0 : Int32)), (.int (0 : Int32))] (.int (0 : Int32)) := Arv.set Ar313 q313 S313 Nn313 H313 G313 (fits_nar_char _) W313 60 rfl (Nat.le_of_ble_eq_true rfl)
            replace S_COMPACT_STRINGS := Sta.wr W313 S_COMPACT_STRINGS
            replace S_SIOOBE_FORMATTER := Sta.wr W313 S_SIOOBE_FORMATTER
            replace E_b191 := E_b191.wr W313
            have Z314 : n0 ≤ h313.size := Nat.le_trans Z312 (Keep.of_wr W313).1
            refine W.go st313 ?_
            have N313 := Fr.snoc X313 N311 g_b191
            show W p e below _ (T313.setTop (mkF m 890 #[.val (.int p0), .val (.int p1), .val (.int p2), .val (.int p3), .val (.int p4), .val (.int c1), .val (.int c2), .val (.int c3), .val (.int c4), .val (.int kk), .unset, .unset] [(.ref b191)]))
            refine W.go (fun _ hr => XS.dup X313.here hx rfl (hb hby at_890) rfl rfl hr) ?_
            show W p e below _ (T313.setTop (mkF m 891 #[.val (.int p0), .val (.int p1), .val (.int p2), .val (.int p3), .val (.int p4), .val (.int c1), .val (.int c2), .val (.int c3), .val (.int c4), .val (.int kk), .unset, .unset] [(.ref b191), (.ref b191)]))
            refine W.go (fun _ hr => XS.bipush X313.here hx rfl (hb hby at_891) hr) ?_
            show W p e below _ (T313.setTop (mkF m 893 #[.val (.int p0), .val (.int p1), .val (.int p2), .val (.int p3), .val (.int p4), .val (.int c1), .val (.int c2), .val (.int c3), .val (.int c4), .val (.int kk), .unset, .unset] [(.int (61 : Int32)), (.ref b191), (.ref b191)]))
            refine W.go (fun _ hr => XS.iload X313.here hx rfl (hb hby at_893) rfl hr) ?_
            show W p e below _ (T313.setTop (mkF m 895 #[.val (.int p0), .val (.int p1), .val (.int p2), .val (.int p3), .val (.int p4), .val (.int c1), .val (.int c2), .val (.int c3), .val (.int c4), .val (.int kk), .unset, .unset] [(.int c2), (.int (61 : Int32)), (.ref b191), (.ref b191)]))
            obtain ⟨cl315, Ar315, q315, S315, Nn315, H315, G315⟩ := V_b191
            have hin315 : ¬ ((61 : Int32) < 0 ∨ cl315.slots.size ≤ ((61 : Int32)).toNatClampNeg) := inb_of S315 ⟨by decide, by decide⟩
            obtain ⟨T315, h315, X315, e315, W315, st315⟩ := stC X313 hx hZ e313 Ar315 (j := (61 : Int32)) hin315 (g := (mkF m 895 #[.val (.int p0), .val (.int p1), .val (.int p2), .val (.int p3), .val (.int p4), .val (.int c1), .val (.int c2), .val (.int c3), .val (.int c4), .val (.int kk), .unset, .unset] [(.int c2), (.int (61 : Int32)), (.ref b191), (.ref b191)])) rfl rfl (hb hby at_895)
            replace V_b191 : Arv Z h315 b191 k191 .char (64 : Int32) [(.int (nar .char c1)), (.int (nar .char c2)), (.int (nar .char c3)), (.int (nar .char c4)), (.int (nar .char c1)), (.int (nar .char c2)), (.int (nar .char c3)), (.int (nar .char c4)), (.int (nar .char c1)), (.int (nar .char c2)), (.int (nar .char c3)), (.int (nar .char c4)), (.int (nar .char c1)), (.int (nar .char c2)), (.int (nar .char c3)), (.int (nar .char c4)), (.int (nar .char c1)), (.int (nar .char c2)), (.int (nar .char c3)), (.int (nar .char c4)), (.int (nar .char c1)), (.int (nar .char c2)), (.int (nar .char c3)), (.int (nar .char c4)), (.int (nar .char c1)), (.int (nar .char c2)), (.int (nar .char c3)), (.int (nar .char c4)), (.int (nar .char c1)), (.int (nar .char c2)), (.int (nar .char c3)), (.int (nar .char c4)), (.int (nar .char c1)), (.int (nar .char c2)), (.int (nar .char c3)), (.int (nar .char c4)), (.int (nar .char c1)), (.int (nar .char c2)), (.int (nar .char c3)), (.int (nar .char c4)), (.int (nar .char c1)), (.int (nar .char c2)), (.int (nar .char c3)), (.int (nar .char c4)), (.int (nar .char c1)), (.int (nar .char c2)), (.int (nar .char c3)), (.int (nar .char c4)), (.int (nar .char c1)), (.int (nar .char c2)), (.int (nar .char c3)), (.int (nar .char c4)), (.int (nar .char c1)), (.int (nar .char c2)), (.int (nar .char c3)), (.int (nar .char c4)), (.int (nar .char c1)), (.int (nar .char c2)), (.int (nar .char c3)), (.int (nar .char c4)), (.int (nar .char c1)), (.int (nar .char c2)), (.int (0 : Int32)), (.int (0 : Int32))] (.int (0 : Int32)) := Arv.set Ar315 q315 S315 Nn315 H315 G315 (fits_nar_char _) W315 61 rfl (Nat.le_of_ble_eq_true rfl)
            replace S_COMPACT_STRINGS := Sta.wr W315 S_COMPACT_STRINGS
            replace S_SIOOBE_FORMATTER := Sta.wr W315 S_SIOOBE_FORMATTER
            replace E_b191 := E_b191.wr W315
            have Z316 : n0 ≤ h315.size := Nat.le_trans Z314 (Keep.of_wr W315).1
            refine W.go st315 ?_
            have N315 := Fr.snoc X315 N313 g_b191
            show W p e below _ (T315.setTop (mkF m 896 #[.val (.int p0), .val (.int p1), .val (.int p2), .val (.int p3), .val (.int p4), .val (.int c1), .val (.int c2), .val (.int c3), .val (.int c4), .val (.int kk), .unset, .unset] [(.ref b191)]))
            refine W.go (fun _ hr => XS.dup X315.here hx rfl (hb hby at_896) rfl rfl hr) ?_
            show W p e below _ (T315.setTop (mkF m 897 #[.val (.int p0), .val (.int p1), .val (.int p2), .val (.int p3), .val (.int p4), .val (.int c1), .val (.int c2), .val (.int c3), .val (.int c4), .val (.int kk), .unset, .unset] [(.ref b191), (.ref b191)]))
            refine W.go (fun _ hr => XS.bipush X315.here hx rfl (hb hby at_897) hr) ?_
            show W p e below _ (T315.setTop (mkF m 899 #[.val (.int p0), .val (.int p1), .val (.int p2), .val (.int p3), .val (.int p4), .val (.int c1), .val (.int c2), .val (.int c3), .val (.int c4), .val (.int kk), .unset, .unset] [(.int (62 : Int32)), (.ref b191), (.ref b191)]))
            refine W.go (fun _ hr => XS.iload X315.here hx rfl (hb hby at_899) rfl hr) ?_
            show W p e below _ (T315.setTop (mkF m 901 #[.val (.int p0), .val (.int p1), .val (.int p2), .val (.int p3), .val (.int p4), .val (.int c1), .val (.int c2), .val (.int c3), .val (.int c4), .val (.int kk), .unset, .unset] [(.int c3), (.int (62 : Int32)), (.ref b191), (.ref b191)]))
            obtain ⟨cl317, Ar317, q317, S317, Nn317, H317, G317⟩ := V_b191
            have hin317 : ¬ ((62 : Int32) < 0 ∨ cl317.slots.size ≤ ((62 : Int32)).toNatClampNeg) := inb_of S317 ⟨by decide, by decide⟩
            obtain ⟨T317, h317, X317, e317, W317, st317⟩ := stC X315 hx hZ e315 Ar317 (j := (62 : Int32)) hin317 (g := (mkF m 901 #[.val (.int p0), .val (.int p1), .val (.int p2), .val (.int p3), .val (.int p4), .val (.int c1), .val (.int c2), .val (.int c3), .val (.int c4), .val (.int kk), .unset, .unset] [(.int c3), (.int (62 : Int32)), (.ref b191), (.ref b191)])) rfl rfl (hb hby at_901)
            replace V_b191 : Arv Z h317 b191 k191 .char (64 : Int32) [(.int (nar .char c1)), (.int (nar .char c2)), (.int (nar .char c3)), (.int (nar .char c4)), (.int (nar .char c1)), (.int (nar .char c2)), (.int (nar .char c3)), (.int (nar .char c4)), (.int (nar .char c1)), (.int (nar .char c2)), (.int (nar .char c3)), (.int (nar .char c4)), (.int (nar .char c1)), (.int (nar .char c2)), (.int (nar .char c3)), (.int (nar .char c4)), (.int (nar .char c1)), (.int (nar .char c2)), (.int (nar .char c3)), (.int (nar .char c4)), (.int (nar .char c1)), (.int (nar .char c2)), (.int (nar .char c3)), (.int (nar .char c4)), (.int (nar .char c1)), (.int (nar .char c2)), (.int (nar .char c3)), (.int (nar .char c4)), (.int (nar .char c1)), (.int (nar .char c2)), (.int (nar .char c3)), (.int (nar .char c4)), (.int (nar .char c1)), (.int (nar .char c2)), (.int (nar .char c3)), (.int (nar .char c4)), (.int (nar .char c1)), (.int (nar .char c2)), (.int (nar .char c3)), (.int (nar .char c4)), (.int (nar .char c1)), (.int (nar .char c2)), (.int (nar .char c3)), (.int (nar .char c4)), (.int (nar .char c1)), (.int (nar .char c2)), (.int (nar .char c3)), (.int (nar .char c4)), (.int (nar .char c1)), (.int (nar .char c2)), (.int (nar .char c3)), (.int (nar .char c4)), (.int (nar .char c1)), (.int (nar .char c2)), (.int (nar .char c3)), (.int (nar .char c4)), (.int (nar .char c1)), (.int (nar .char c2)), (.int (nar .char c3)), (.int (nar .char c4)), (.int (nar .char c1)), (.int (nar .char c2)), (.int (nar .char c3)), (.int (0 : Int32))] (.int (0 : Int32)) := Arv.set Ar317 q317 S317 Nn317 H317 G317 (fits_nar_char _) W317 62 rfl (Nat.le_of_ble_eq_true rfl)
            replace S_COMPACT_STRINGS := Sta.wr W317 S_COMPACT_STRINGS
            replace S_SIOOBE_FORMATTER := Sta.wr W317 S_SIOOBE_FORMATTER
            replace E_b191 := E_b191.wr W317
            have Z318 : n0 ≤ h317.size := Nat.le_trans Z316 (Keep.of_wr W317).1
            refine W.go st317 ?_
            have N317 := Fr.snoc X317 N315 g_b191
            show W p e below _ (T317.setTop (mkF m 902 #[.val (.int p0), .val (.int p1), .val (.int p2), .val (.int p3), .val (.int p4), .val (.int c1), .val (.int c2), .val (.int c3), .val (.int c4), .val (.int kk), .unset, .unset] [(.ref b191)]))
            refine W.go (fun _ hr => XS.dup X317.here hx rfl (hb hby at_902) rfl rfl hr) ?_
            show W p e below _ (T317.setTop (mkF m 903 #[.val (.int p0), .val (.int p1), .val (.int p2), .val (.int p3), .val (.int p4), .val (.int c1), .val (.int c2), .val (.int c3), .val (.int c4), .val (.int kk), .unset, .unset] [(.ref b191), (.ref b191)]))
            refine W.go (fun _ hr => XS.bipush X317.here hx rfl (hb hby at_903) hr) ?_
            show W p e below _ (T317.setTop (mkF m 905 #[.val (.int p0), .val (.int p1), .val (.int p2), .val (.int p3), .val (.int p4), .val (.int c1), .val (.int c2), .val (.int c3), .val (.int c4), .val (.int kk), .unset, .unset] [(.int (63 : Int32)), (.ref b191), (.ref b191)]))
            refine W.go (fun _ hr => XS.iload X317.here hx rfl (hb hby at_905) rfl hr) ?_
            show W p e below _ (T317.setTop (mkF m 907 #[.val (.int p0), .val (.int p1), .val (.int p2), .val (.int p3), .val (.int p4), .val (.int c1), .val (.int c2), .val (.int c3), .val (.int c4), .val (.int kk), .unset, .unset] [(.int c4), (.int (63 : Int32)), (.ref b191), (.ref b191)]))
            obtain ⟨cl319, Ar319, q319, S319, Nn319, H319, G319⟩ := V_b191
            have hin319 : ¬ ((63 : Int32) < 0 ∨ cl319.slots.size ≤ ((63 : Int32)).toNatClampNeg) := inb_of S319 ⟨by decide, by decide⟩
            obtain ⟨T319, h319, X319, e319, W319, st319⟩ := stC X317 hx hZ e317 Ar319 (j := (63 : Int32)) hin319 (g := (mkF m 907 #[.val (.int p0), .val (.int p1), .val (.int p2), .val (.int p3), .val (.int p4), .val (.int c1), .val (.int c2), .val (.int c3), .val (.int c4), .val (.int kk), .unset, .unset] [(.int c4), (.int (63 : Int32)), (.ref b191), (.ref b191)])) rfl rfl (hb hby at_907)
            replace V_b191 : Arv Z h319 b191 k191 .char (64 : Int32) [(.int (nar .char c1)), (.int (nar .char c2)), (.int (nar .char c3)), (.int (nar .char c4)), (.int (nar .char c1)), (.int (nar .char c2)), (.int (nar .char c3)), (.int (nar .char c4)), (.int (nar .char c1)), (.int (nar .char c2)), (.int (nar .char c3)), (.int (nar .char c4)), (.int (nar .char c1)), (.int (nar .char c2)), (.int (nar .char c3)), (.int (nar .char c4)), (.int (nar .char c1)), (.int (nar .char c2)), (.int (nar .char c3)), (.int (nar .char c4)), (.int (nar .char c1)), (.int (nar .char c2)), (.int (nar .char c3)), (.int (nar .char c4)), (.int (nar .char c1)), (.int (nar .char c2)), (.int (nar .char c3)), (.int (nar .char c4)), (.int (nar .char c1)), (.int (nar .char c2)), (.int (nar .char c3)), (.int (nar .char c4)), (.int (nar .char c1)), (.int (nar .char c2)), (.int (nar .char c3)), (.int (nar .char c4)), (.int (nar .char c1)), (.int (nar .char c2)), (.int (nar .char c3)), (.int (nar .char c4)), (.int (nar .char c1)), (.int (nar .char c2)), (.int (nar .char c3)), (.int (nar .char c4)), (.int (nar .char c1)), (.int (nar .char c2)), (.int (nar .char c3)), (.int (nar .char c4)), (.int (nar .char c1)), (.int (nar .char c2)), (.int (nar .char c3)), (.int (nar .char c4)), (.int (nar .char c1)), (.int (nar .char c2)), (.int (nar .char c3)), (.int (nar .char c4)), (.int (nar .char c1)), (.int (nar .char c2)), (.int (nar .char c3)), (.int (nar .char c4)), (.int (nar .char c1)), (.int (nar .char c2)), (.int (nar .char c3)), (.int (nar .char c4))] (.int (0 : Int32)) := Arv.set Ar319 q319 S319 Nn319 H319 G319 (fits_nar_char _) W319 63 rfl (Nat.le_of_ble_eq_true rfl)
            replace S_COMPACT_STRINGS := Sta.wr W319 S_COMPACT_STRINGS
            replace S_SIOOBE_FORMATTER := Sta.wr W319 S_SIOOBE_FORMATTER
            replace E_b191 := E_b191.wr W319
            have Z320 : n0 ≤ h319.size := Nat.le_trans Z318 (Keep.of_wr W319).1
            refine W.go st319 ?_
            have N319 := Fr.snoc X319 N317 g_b191
            show W p e below _ (T319.setTop (mkF m 908 #[.val (.int p0), .val (.int p1), .val (.int p2), .val (.int p3), .val (.int p4), .val (.int c1), .val (.int c2), .val (.int c3), .val (.int c4), .val (.int kk), .unset, .unset] [(.ref b191)]))
            refine W.go (fun _ hr => XS.astore X319.here hx rfl (hb hby at_908) rfl rfl (l' := #[.val (.int p0), .val (.int p1), .val (.int p2), .val (.int p3), .val (.int p4), .val (.int c1), .val (.int c2), .val (.int c3), .val (.int c4), .val (.int kk), .val (.ref b191), .unset]) rfl hr) ?_
            show W p e below _ (T319.setTop (mkF m 910 #[.val (.int p0), .val (.int p1), .val (.int p2), .val (.int p3), .val (.int p4), .val (.int c1), .val (.int c2), .val (.int c3), .val (.int c4), .val (.int kk), .val (.ref b191), .unset] []))
            obtain ⟨T321, h321, X321, e321, E321, E_b321, D321, U321, st321⟩ := newO X319 hx hZ hown (hw _ (List.mem_of_getElem? (i := 6) rfl)) (hw _ (List.mem_of_getElem? (i := 7) rfl)) (hw _ (List.mem_of_getElem? (i := 8) rfl)) e319 (g := (mkF m 910 #[.val (.int p0), .val (.int p1), .val (.int p2), .val (.int p3), .val (.int p4), .val (.int c1), .val (.int c2), .val (.int c3), .val (.int c4), .val (.int kk), .val (.ref b191), .unset] [])) rfl (hb hby at_910) (by decide) (by decide)
            obtain ⟨b321, g321⟩ : ∃ z, z = h319.size := ⟨_, rfl⟩
            rw [← g321] at E_b321 D321 U321 st321
            have ne_b191_b321 : b191 ≠ b321 := Nat.ne_of_lt (Nat.lt_of_lt_of_le E_b191.lt (Nat.le_of_eq g321.symm))
            have g_b321 : n0 ≤ b321 := Nat.le_trans Z320 (Nat.le_of_eq g321.symm)
            replace S_COMPACT_STRINGS := Sta.ext E321 S_COMPACT_STRINGS
            replace S_SIOOBE_FORMATTER := Sta.ext E321 S_SIOOBE_FORMATTER
            replace E_b191 := E_b191.ext E321
            replace V_b191 := V_b191.ext E321
            have Z322 : n0 ≤ h321.size := Nat.le_trans Z320 E321.1
            have F_coder_b321 : Fld Z h321 b321 "java/lang/String" "coder" "B" (.int (0 : Int32)) := D321 (Or.inr (hw _ (List.mem_of_getElem? (i := 32) rfl))) (ty := .byte) (by decide)
            have F_value_b321 : Fld Z h321 b321 "java/lang/String" "value" "[B" .null := D321 (Or.inr (hw _ (List.mem_of_getElem? (i := 34) rfl))) (ty := (.array .byte)) (by decide)
            refine W.go st321 ?_
            show W p e below _ (T321.setTop (mkF m 913 #[.val (.int p0), .val (.int p1), .val (.int p2), .val (.int p3), .val (.int p4), .val (.int c1), .val (.int c2), .val (.int c3), .val (.int c4), .val (.int kk), .val (.ref b191), .unset] [(.ref b321)]))
            refine W.go (fun _ hr => XS.dup X321.here hx rfl (hb hby at_913) rfl rfl hr) ?_
            show W p e below _ (T321.setTop (mkF m 914 #[.val (.int p0), .val (.int p1), .val (.int p2), .val (.int p3), .val (.int p4), .val (.int c1), .val (.int c2), .val (.int c3), .val (.int c4), .val (.int kk), .val (.ref b191), .unset] [(.ref b321), (.ref b321)]))
            refine W.go (fun _ hr => XS.aload X321.here hx rfl (hb hby at_914) rfl rfl hr) ?_
            show W p e below _ (T321.setTop (mkF m 916 #[.val (.int p0), .val (.int p1), .val (.int p2), .val (.int p3), .val (.int p4), .val (.int c1), .val (.int c2), .val (.int c3), .val (.int c4), .val (.int kk), .val (.ref b191), .unset] [(.ref b191), (.ref b321), (.ref b321)]))
            obtain ⟨cs323, ecs323⟩ : ∃ z : List Int32, z = [(nar .char c1), (nar .char c2), (nar .char c3), (nar .char c4), (nar .char c1), (nar .char c2), (nar .char c3), (nar .char c4), (nar .char c1), (nar .char c2), (nar .char c3), (nar .char c4), (nar .char c1), (nar .char c2), (nar .char c3), (nar .char c4), (nar .char c1), (nar .char c2), (nar .char c3), (nar .char c4), (nar .char c1), (nar .char c2), (nar .char c3), (nar .char c4), (nar .char c1), (nar .char c2), (nar .char c3), (nar .char c4), (nar .char c1), (nar .char c2), (nar .char c3), (nar .char c4), (nar .char c1), (nar .char c2), (nar .char c3), (nar .char c4), (nar .char c1), (nar .char c2), (nar .char c3), (nar .char c4), (nar .char c1), (nar .char c2), (nar .char c3), (nar .char c4), (nar .char c1), (nar .char c2), (nar .char c3), (nar .char c4), (nar .char c1), (nar .char c2), (nar .char c3), (nar .char c4), (nar .char c1), (nar .char c2), (nar .char c3), (nar .char c4), (nar .char c1), (nar .char c2), (nar .char c3), (nar .char c4), (nar .char c1), (nar .char c2), (nar .char c3), (nar .char c4)] := ⟨_, rfl⟩
            have lcs323 : cs323.length = 64 := by rw [ecs323]; rfl
            have Vcs323 : Arv Z h321 b191 k191 .char (64 : Int32) (cs323.map Value.int) (.int (0 : Int32)) := by rw [ecs323]; exact V_b191
            have hlat323 : ∀ c ∈ cs323, own_ok c := by
              rw [ecs323]
              intro c hc
              simp only [List.mem_cons, List.not_mem_nil, or_false] at hc
              rcases hc with rfl | rfl | rfl | rfl | rfl | rfl | rfl | rfl | rfl | rfl | rfl | rfl | rfl | rfl | rfl | rfl | rfl | rfl | rfl | rfl | rfl | rfl | rfl | rfl | rfl | rfl | rfl | rfl | rfl | rfl | rfl | rfl | rfl | rfl | rfl | rfl | rfl | rfl | rfl | rfl | rfl | rfl | rfl | rfl | rfl | rfl | rfl | rfl | rfl | rfl | rfl | rfl | rfl | rfl | rfl | rfl | rfl | rfl | rfl | rfl | rfl | rfl | rfl | rfl
              · exact okn1
              · exact okn2
              · exact okn3
              · exact okn4
              · exact okn1
              · exact okn2
              · exact okn3
              · exact okn4
              · exact okn1
              · exact okn2
              · exact okn3
              · exact okn4
              · exact okn1
              · exact okn2
              · exact okn3
              · exact okn4
              · exact okn1
              · exact okn2
              · exact okn3
              · exact okn4
              · exact okn1
              · exact okn2
              · exact okn3
              · exact okn4
              · exact okn1
              · exact okn2
              · exact okn3
              · exact okn4
              · exact okn1
              · exact okn2
              · exact okn3
              · exact okn4
              · exact okn1
              · exact okn2
              · exact okn3
              · exact okn4
              · exact okn1
              · exact okn2
              · exact okn3
              · exact okn4
              · exact okn1
              · exact okn2
              · exact okn3
              · exact okn4
              · exact okn1
              · exact okn2
              · exact okn3
              · exact okn4
              · exact okn1
              · exact okn2
              · exact okn3
              · exact okn4
              · exact okn1
              · exact okn2
              · exact okn3
              · exact okn4
              · exact okn1
              · exact okn2
              · exact okn3
              · exact okn4
              · exact okn1
              · exact okn2
              · exact okn3
              · exact okn4
            refine W.callIK X321 hx hZ hown (g := (mkF m 916 #[.val (.int p0), .val (.int p1), .val (.int p2), .val (.int p3), .val (.int p4), .val (.int c1), .val (.int c2), .val (.int c3), .val (.int c4), .val (.int kk), .val (.ref b191), .unset] [(.ref b191), (.ref b321), (.ref b321)])) (by rw [hml]; rfl) (hw _ (List.mem_of_getElem? (i := 9) rfl)) (hw _ (List.mem_of_getElem? (i := 10) rfl)) (hw _ (List.mem_of_getElem? (i := 11) rfl)) e321 (StrChars.Road.backV (W := 1) hZ (fun d hd => hw d (own_ws d hd)) (kI := 4) (hw _ (List.mem_of_getElem? (i := 7) rfl)) (cs := cs323) (bs := cs323.map fun c => c.toInt8.toInt32) (n := 64) g_b321 Z322 E_b321 F_value_b321 F_coder_b321 Vcs323 S_COMPACT_STRINGS hCS lcs323 rfl (by decide) (by decide) (fun c hc => own_ok_lat (hlat323 c hc)) rfl (by decide) (by decide)) rfl (by decide) pd_171 rfl (b := b321) (argsL := [(.ref b191)]) (rest := [(.ref b321)]) rfl rfl rfl (hb hby at_916) (W0 := 1) rfl (by decide) (by decide) (fun v323 T323 h323 L323 X323 e323 hQ323 => ?_)
            obtain ⟨rfl, N323q, K323, Ee323, Fc323, t323, kb323, gt323, st323, nt323, Fv323, V_t323⟩ := hQ323
            have N323 := Fr.app N319 N323q
            have ne_b191_t323 : b191 ≠ t323 := Nat.ne_of_lt (Nat.lt_of_lt_of_le E_b191.lt st323)
            have ne_b321_t323 : b321 ≠ t323 := Nat.ne_of_lt (Nat.lt_of_lt_of_le E_b321.lt st323)
            have g_t323 : n0 ≤ t323 := Nat.le_trans Z322 st323
            have nsK323 := (nsS E_b321.nostat ns0)
            replace S_COMPACT_STRINGS := Sta.keep S_COMPACT_STRINGS K323 nsK323
            replace S_SIOOBE_FORMATTER := Sta.keep S_SIOOBE_FORMATTER K323 nsK323
            replace E_b191 := E_b191.keep K323
            replace V_b191 := V_b191.keep K323 (ninS ne_b191_b321 nin0)
            replace E_b321 := E_b321.keep K323
            have Z324 : n0 ≤ h323.size := Nat.le_trans Z322 K323.1
            have F_value_b321 := Fv323
            have F_coder_b321 := Fc323
            show W p e below _ (T323.setTop (mkF m 919 #[.val (.int p0), .val (.int p1), .val (.int p2), .val (.int p3), .val (.int p4), .val (.int c1), .val (.int c2), .val (.int c3), .val (.int c4), .val (.int kk), .val (.ref b191), .unset] [(.ref b321)]))
            refine W.go (fun _ hr => XS.astore X323.here hx rfl (hb hby at_919) rfl rfl (l' := #[.val (.int p0), .val (.int p1), .val (.int p2), .val (.int p3), .val (.int p4), .val (.int c1), .val (.int c2), .val (.int c3), .val (.int c4), .val (.int kk), .val (.ref b191), .val (.ref b321)]) rfl hr) ?_
            show W p e below _ (T323.setTop (mkF m 921 #[.val (.int p0), .val (.int p1), .val (.int p2), .val (.int p3), .val (.int p4), .val (.int c1), .val (.int c2), .val (.int c3), .val (.int c4), .val (.int kk), .val (.ref b191), .val (.ref b321)] []))
            refine W.go (fun _ hr => XS.aload X323.here hx rfl (hb hby at_921) rfl rfl hr) ?_
            show W p e below _ (T323.setTop (mkF m 923 #[.val (.int p0), .val (.int p1), .val (.int p2), .val (.int p3), .val (.int p4), .val (.int c1), .val (.int c2), .val (.int c3), .val (.int c4), .val (.int kk), .val (.ref b191), .val (.ref b321)] [(.ref b321)]))
            refine W.callS X323 hx hZ hown (g := (mkF m 923 #[.val (.int p0), .val (.int p1), .val (.int p2), .val (.int p3), .val (.int p4), .val (.int c1), .val (.int c2), .val (.int c3), .val (.int c4), .val (.int kk), .val (.ref b191), .val (.ref b321)] [(.ref b321)])) (by rw [hml]; rfl) (hw _ (List.mem_of_getElem? (i := 35) rfl)) (hw _ (List.mem_of_getElem? (i := 36) rfl)) (hw _ (List.mem_of_getElem? (i := 37) rfl)) (hw _ (List.mem_of_getElem? (i := 38) rfl)) e323 (rm8 l Z a0 hw b321 t323 kb323 (64 : Int32) ((cs323.map fun c => c.toInt8.toInt32).map Value.int) (.int (0 : Int32)) zCS wSF h323 n0 Z324 E_b321 F_value_b321 F_coder_b321 V_t323 S_COMPACT_STRINGS hCS S_SIOOBE_FORMATTER hSF (by decide) (own_all cs323 (by rw [lcs323]; rfl) hlat323)) (by decide) pd_172 rfl (argsL := [(.ref b321)]) (rest := []) rfl rfl rfl (hb hby at_923) (W0 := 0) rfl (by decide) (by decide) (by decide) (by decide) (fun v325 T325 h325 L325 X325 e325 hQ325 => ?_)
            obtain ⟨rfl, N325q, hh325⟩ := hQ325
            obtain rfl := hh325.symm
            have N325 := Fr.app N323 N325q
            show W p e below _ (T325.setTop (mkF m 926 #[.val (.int p0), .val (.int p1), .val (.int p2), .val (.int p3), .val (.int p4), .val (.int c1), .val (.int c2), .val (.int c3), .val (.int c4), .val (.int kk), .val (.ref b191), .val (.ref b321)] []))
            refine W.go (fun _ hr => XS.iconst X325.here hx rfl (hb hby at_926) hr) ?_
            show W p e below _ (T325.setTop (mkF m 927 #[.val (.int p0), .val (.int p1), .val (.int p2), .val (.int p3), .val (.int p4), .val (.int c1), .val (.int c2), .val (.int c3), .val (.int c4), .val (.int kk), .val (.ref b191), .val (.ref b321)] [(.int (1 : Int32))]))
            exact W.retB X325 hx hlk (t := .boolean) hret (by simp) (hb hby at_927) (by decide) (by decide) e325 ⟨rfl, N325⟩
set_option maxRecDepth 65536 in
set_option maxHeartbeats 40000000 in
theorem comes_1 {Post : Tables → Env → Array Value → State → Outcome → State → Prop} (hpost : ∀ tb e args s v u, (limb_1_1.after args s (.returned v) u = true ∧ limb_1_2.after args s (.returned v) u = true ∧ True) → FrameEnd s (.returned v) u (Jvm.fieldLocs frame_1_writes args s ++ Jvm.arrayLocs frame_1_arrays args s ++ Jvm.staticLocs frame_1_statics s) 16 384 → Post tb e args s (.returned v) u) :
    ArmFor flags0 classFile x code maxLocals ret World_1 tables_1 room_1 Calls_1 rest_1 Pre_1 Post := by
  intro l hfl _ _ p e ha hc hk s m args below hf hA hF happ hP
  obtain ⟨hcalls, hrest, hpre⟩ := hP
  obtain ⟨-, -, -, hnamed, -, -, -, hat⟩ := (Spec.applies_iff hf).mp happ
  obtain ⟨hg, hn⟩ := and_e (Cond.before_iff.mp (show (Jvm.Cond.and given_1 narrow_1).before args s = true from hpre))
  obtain ⟨c1, c2⟩ := and_e hg
  obtain ⟨c3, c4⟩ := and_e c2
  obtain ⟨c5, c6⟩ := and_e c4
  obtain ⟨c7, c8⟩ := and_e c6
  obtain ⟨c9, c10⟩ := and_e c8
  obtain ⟨w0, w1, w2, w3, w4, rfl⟩ : ∃ w0 w1 w2 w3 w4 : Value, args = #[w0, w1, w2, w3, w4] := by
    have hs : args.size = 5 := by simpa [Cond.value, given_1] using c1
    obtain ⟨L⟩ := args
    match L, hs with
    | [w0, w1, w2, w3, w4], _ => exact ⟨w0, w1, w2, w3, w4, rfl⟩
  have hw := fun d (hd : d ∈ tables_1) => atoms_spec (ws := Jvm.Cond.code x code maxLocals ret :: tables_1) hat d (List.mem_cons_of_mem _ hd)
  have hfit : Fit s := fun {y c} hc i hi => by
    obtain ⟨ha, rfl⟩ := Array.getElem?_eq_some_iff.mp hc
    have q := List.all_eq_true.mp ((Array.all_eq_true_iff_forall_mem.mp hF) _ (Array.getElem_mem ha)) i (List.mem_range.mpr hi)
    simpa [Array.getElem?_eq_getElem hi] using q
  obtain ⟨hsets, hown0⟩ := atoms_of _ (rest_1_c_eq ▸ (show rest_1_c.before _ s = true from hrest))
  have hr0 := Cond.before_iff.mp hown0
  obtain ⟨i0, ei0⟩ := is_v c3
  obtain rfl : w0 = (.int i0) := Option.some.inj ei0
  obtain ⟨i1, ei1⟩ := is_v c5
  obtain rfl : w1 = (.int i1) := Option.some.inj ei1
  obtain ⟨i2, ei2⟩ := is_v c7
  obtain rfl : w2 = (.int i2) := Option.some.inj ei2
  obtain ⟨i3, ei3⟩ := is_v c9
  obtain rfl : w3 = (.int i3) := Option.some.inj ei3
  obtain ⟨i4, ei4⟩ := is_v c10
  obtain rfl : w4 = (.int i4) := Option.some.inj ei4
  -- hn : Jvm.Cond.tt
  obtain ⟨zCS, ez⟩ := is_v (Cond.before_iff.mp (hsets _ (List.mem_of_getElem? (i := 1) rfl)))
  have S_COMPACT_STRINGS : Sta s s.heap "java/lang/String" "COMPACT_STRINGS" "Z" (.int zCS) := Sta.start ez (Or.inl (hsets _ (List.mem_of_getElem? (i := 0) rfl)))
  have hCS : ¬ zCS = 0 := by
    have n3 := not_v (Cond.before_iff.mp (hsets _ (List.mem_of_getElem? (i := 2) rfl)))
    intro q
    subst q
    have r := eq_i ez (Term.int_eval (0 : Int32)) rfl
    rw [r] at n3
    cases n3
  obtain ⟨wSF, eSF, hSF⟩ := isR_v (Cond.before_iff.mp (hsets _ (List.mem_of_getElem? (i := 8) rfl)))
  have S_SF := Sta.start eSF (Or.inl (hsets _ (List.mem_of_getElem? (i := 7) rfl)))
  obtain ⟨n, o, h1, h2, h3, _, L, rfl, ⟨rfl, N⟩, hq⟩ := rm0 l s _ hw i0 i1 i2 i3 i4 zCS wSF s.heap s.heap.size (Nat.le_refl _) S_COMPACT_STRINGS hCS S_SF hSF tables_1 p e ha hc hk s m _ below hf ((Spec.applies_iff_loose hf).mp happ).1 ⟨rfl, State.Warmed39.refl s, rfl⟩ trivial
  refine ⟨n, _, h1, h2, h3, hpost _ _ _ _ _ _ ⟨Cond.after_iff.mpr rfl, Cond.after_iff.mpr (eq_i res_at (Term.int_eval (1)) rfl), trivial⟩ ⟨hq.1, hq.2.1, (hq.2.2.sift fun y hy => Or.inr (N y hy)).mono (by decide) (by decide)⟩⟩
theorem main_1_1 : Claimed_1_1 := comes_1 fun _ _ _ _ _ _ h hF => ⟨h.1, hF⟩
theorem main_1_2 : Claimed_1_2 := comes_1 fun _ _ _ _ _ _ h hF => ⟨h.2.1, hF⟩
end Jvm.Pilot.@@N@@
namespace Jvm.Pilot.@@N@@
open Jvm Jvm.ClassFile Sem Op Lib Jvm.Free Jvm.Stand Jvm.Pilot.@@N@@.Jvm.D
/-! MADE BY PROGRAM (witnessworld.py) out of the Statement's table words and the real class files: 20 classes; the members and pool entries that the words name. The judged class is class 1, her method 2. -/
namespace start1
open Jvm.ClassFile
def u (s : String) : CpInfo := .utf8 (stringToUtf16 s)
/-- a pool by its gaps: so many unusable entries, then the entry; so many at the end -/
def gap : Nat → List CpInfo → List CpInfo
  | 0, r => r
  | n + 1, r => .unusable :: gap n r
def poolList (es : List (Nat × CpInfo)) (last : Nat) : List CpInfo := es.foldr (fun e r => gap e.1 (e.2 :: r)) (gap last [])
def pool (es : List (Nat × CpInfo)) (last : Nat) : Array CpInfo := ⟨poolList es last⟩
def fileOf (pool : Array CpInfo) (this : Nat) (attrs : Array Attribute := #[]) (ms : Array MethodInfo := #[]) (fl : Nat := 33) (sup : Nat := 0) (ifs : Array Nat := #[]) (fds : Array FieldInfo := #[]) : ClassFile where
  minorVersion := 0
  majorVersion := 65
  constantPool := pool
  accessFlags := fl
  thisClass := this
  superClass := sup
  interfaces := ifs
  fields := fds
  methods := ms
  attributes := attrs
def plain (name : String) (sup : Option ClassId) : Class where
  name := name
  kind := .ordinary
  loader := none
  accessFlags := 33
  super := sup
  interfaces := #[]
  cf := none
  fields := #[]
  methods := #[]
  instanceTypes := #[]
  staticTypes := #[]
  resolved := #[]
  callSites := []
  init := .initialized
  statics := none
  mirror := none

def pool0 : Array CpInfo := pool [(5, u "<init>"), (0, u "()V"), (1, .class_ 10), (1, u "java/lang/Object")] 113

def k0c0 : Code := { maxStack := 0, maxLocals := 1, code := object_method_1_code, exceptionTable := #[], attributes := #[] }
def k0m0 : Method := { name := "<init>", desc := "()V", sig := { parameters := [], returnType := none }, accessFlags := 1, code := some k0c0 }
/-- java/lang/Object -/
def k0 : Class := { plain "java/lang/Object" none with
  accessFlags := 33
  interfaces := #[]
  cf := some (fileOf pool0 8 #[] #[{ accessFlags := 1, nameIndex := 5, descriptorIndex := 6, attributes := #[] }] 33 0 #[] #[])
  fields := #[]
  methods := #[k0m0]
  instanceTypes := #[]
  staticTypes := #[]
  resolved := Array.replicate 124 none
  statics := none }

def pool1 : Array CpInfo := pool [(2, .class_ 4), (1, u "java/lang/Object"), (0, u "<init>"), (0, u "()V"), (0, .integer 2147483647), (0, .methodref 9 10), (0, .class_ 11), (0, .nameAndType 12 13), (0, u "com/example/trajectory_anonymizer/trajectoryanonymizer/model/PointCheckNamePinLaw"), (0, u "pick"), (0, u "(I)C"), (0, .class_ 15), (0, u "java/lang/String"), (0, .methodref 14 17), (0, .nameAndType 5 18), (0, u "([C)V"), (0, .methodref 20 21), (0, .class_ 22), (0, .nameAndType 23 24), (0, u "com/example/trajectory_anonymizer/trajectoryanonymizer/model/Point"), (0, u "checkName"), (0, u "(Ljava/lang/String;)V"), (3, u "law"), (0, u "(IIIII)Z")] 4

def k1m0 : Method := { name := "<init>", desc := "()V", sig := { parameters := [], returnType := none }, accessFlags := 2, code := none }
def k1c1 : Code := { maxStack := 3, maxLocals := 2, code := method_2_code, exceptionTable := #[], attributes := #[] }
def k1m1 : Method := { name := "pick", desc := "(I)C", sig := { parameters := [.int], returnType := some .char }, accessFlags := 10, code := some k1c1 }
def k1c2 : Code := { maxStack := 4, maxLocals := 12, code := code, exceptionTable := #[], attributes := #[] }
def k1m2 : Method := { name := "law", desc := "(IIIII)Z", sig := { parameters := [.int, .int, .int, .int, .int], returnType := some .boolean }, accessFlags := 9, code := some k1c2 }
/-- com/example/trajectory_anonymizer/trajectoryanonymizer/model/PointCheckNamePinLaw -/
def k1 : Class := { plain "com/example/trajectory_anonymizer/trajectoryanonymizer/model/PointCheckNamePinLaw" (some 0) with
  accessFlags := 49
  interfaces := #[]
  cf := some (fileOf pool1 9 #[] #[{ accessFlags := 2, nameIndex := 5, descriptorIndex := 6, attributes := #[] }, { accessFlags := 10, nameIndex := 12, descriptorIndex := 13, attributes := #[] }, { accessFlags := 9, nameIndex := 28, descriptorIndex := 29, attributes := #[] }] 49 2 #[] #[])
  fields := #[]
  methods := #[k1m0, k1m1, k1m2]
  instanceTypes := #[]
  staticTypes := #[]
  resolved := Array.replicate 34 none
  statics := none }

def pool2 : Array CpInfo := pool [(1, .class_ 2), (0, u "java/io/Serializable"), (0, .class_ 4), (0, u "java/lang/Object")] 2

/-- java/io/Serializable -/
def k2 : Class := { plain "java/io/Serializable" (some 0) with
  accessFlags := 1537
  interfaces := #[]
  cf := some (fileOf pool2 1 #[] #[] 1537 3 #[] #[])
  fields := #[]
  methods := #[]
  instanceTypes := #[]
  staticTypes := #[]
  resolved := Array.replicate 7 none
  statics := none }

def pool3 : Array CpInfo := pool [(1, .class_ 2), (0, u "java/lang/Comparable"), (0, .class_ 4), (0, u "java/lang/Object")] 7

/-- java/lang/Comparable -/
def k3 : Class := { plain "java/lang/Comparable" (some 0) with
  accessFlags := 1537
  interfaces := #[]
  cf := some (fileOf pool3 1 #[] #[] 1537 3 #[] #[])
  fields := #[]
  methods := #[]
  instanceTypes := #[]
  staticTypes := #[]
  resolved := Array.replicate 12 none
  statics := none }

def pool4 : Array CpInfo := pool [(2, .class_ 4), (1, u "java/lang/CharSequence"), (42, .class_ 48), (0, u "java/lang/CharSequence$1CodePointIterator"), (10, .class_ 60), (0, u "java/lang/CharSequence$1CharIterator"), (5, .class_ 67), (0, u "java/lang/Object")] 63

/-- java/lang/CharSequence -/
def k4 : Class := { plain "java/lang/CharSequence" (some 0) with
  accessFlags := 1537
  interfaces := #[]
  cf := some (fileOf pool4 2 #[.nestMembers #[47, 59]] #[] 1537 66 #[] #[])
  fields := #[]
  methods := #[]
  instanceTypes := #[]
  staticTypes := #[]
  resolved := Array.replicate 131 none
  statics := none }

def pool5 : Array CpInfo := pool [(1, .class_ 2), (0, u "java/lang/constant/Constable"), (0, .class_ 4), (0, u "java/lang/Object")] 6

/-- java/lang/constant/Constable -/
def k5 : Class := { plain "java/lang/constant/Constable" (some 0) with
  accessFlags := 1537
  interfaces := #[]
  cf := some (fileOf pool5 1 #[] #[] 1537 3 #[] #[])
  fields := #[]
  methods := #[]
  instanceTypes := #[]
  staticTypes := #[]
  resolved := Array.replicate 11 none
  statics := none }

def pool6 : Array CpInfo := pool [(1, .class_ 2), (0, u "java/lang/constant/ConstantDesc"), (0, .class_ 4), (0, u "java/lang/Object")] 32

/-- java/lang/constant/ConstantDesc -/
def k6 : Class := { plain "java/lang/constant/ConstantDesc" (some 0) with
  accessFlags := 1537
  interfaces := #[]
  cf := some (fileOf pool6 1 #[] #[] 1537 3 #[] #[])
  fields := #[]
  methods := #[]
  instanceTypes := #[]
  staticTypes := #[]
  resolved := Array.replicate 37 none
  statics := none }

def pool7 : Array CpInfo := pool [(1, .methodref 2 3), (0, .class_ 4), (0, .nameAndType 5 6), (0, u "java/lang/Object"), (0, u "<init>"), (0, u "()V"), (2, .fieldref 10 11), (0, .class_ 12), (0, .nameAndType 13 14), (0, u "java/lang/String"), (0, u "value"), (0, u "[B"), (0, .fieldref 10 16), (0, .nameAndType 17 18), (0, u "coder"), (0, u "B"), (2, u "hash"), (0, u "I"), (2, u "hashIsZero"), (0, u "Z"), (0, .methodref 10 28), (0, .nameAndType 5 29), (0, u "([CIILjava/lang/Void;)V"), (8, .fieldref 10 39), (0, .nameAndType 40 26), (0, u "COMPACT_STRINGS"), (1, .class_ 44), (1, u "java/lang/StringUTF16"), (0, u "compress"), (1, .methodref 42 48), (0, .nameAndType 49 50), (0, u "coderFromArrayLen"), (0, u "([BI)B"), (56, .class_ 109), (1, u "java/lang/StringLatin1"), (32, u "()Z"), (34, .methodref 42 178), (0, .nameAndType 45 179), (0, u "([CII)[B"), (154, u "()I"), (0, .methodref 10 336), (0, .nameAndType 17 337), (0, u "()B"), (25, u "([BI)C"), (27, u "(II)V"), (35, u "(I)C"), (64, .methodref 10 493), (0, .nameAndType 494 142), (0, u "isLatin1"), (0, .methodref 107 496), (0, .nameAndType 497 363), (0, u "charAt"), (3, u "checkIndex"), (5, u "length"), (67, .class_ 576), (0, u "java/lang/CharSequence"), (22, u "CASE_INSENSITIVE_ORDER"), (0, u "Ljava/util/Comparator;"), (91, u "isEmpty"), (317, u "([C)V"), (42, .fieldref 1054 1055), (0, .class_ 1056), (0, .nameAndType 1057 1058), (0, u "jdk/internal/util/Preconditions"), (0, u "SIOOBE_FORMATTER"), (0, u "Ljava/util/function/BiFunction;"), (0, .methodref 1054 1060), (0, .nameAndType 501 1061), (0, u "(IILjava/util/function/BiFunction;)I"), (39, u "serialPersistentFields"), (0, u "[Ljava/io/ObjectStreamField;"), (0, .class_ 1104), (0, u "java/lang/String$CaseInsensitiveComparator"), (1, .class_ 1107), (0, u "java/io/Serializable"), (0, .class_ 1109), (0, u "java/lang/Comparable"), (0, .class_ 1111), (0, u "java/lang/constant/Constable"), (0, .class_ 1113), (0, u "java/lang/constant/ConstantDesc"), (2, u "serialVersionUID"), (0, u "J"), (3, u "REPL"), (0, u "C"), (2, u "LATIN1"), (1, u "UTF16")] 323

def k7m0 : Method := { name := "<init>", desc := "()V", sig := { parameters := [], returnType := none }, accessFlags := 1, code := none }
def k7c1 : Code := { maxStack := 5, maxLocals := 2, code := jdk_42_method_3_code, exceptionTable := #[], attributes := #[] }
def k7m1 : Method := { name := "<init>", desc := "([C)V", sig := { parameters := [(.array .char)], returnType := none }, accessFlags := 1, code := some k7c1 }
def k7c2 : Code := { maxStack := 2, maxLocals := 1, code := jdk_42_method_54_code, exceptionTable := #[], attributes := #[] }
def k7m2 : Method := { name := "length", desc := "()I", sig := { parameters := [], returnType := some .int }, accessFlags := 1, code := some k7c2 }
def k7c3 : Code := { maxStack := 1, maxLocals := 1, code := jdk_42_method_55_code, exceptionTable := #[], attributes := #[] }
def k7m3 : Method := { name := "isEmpty", desc := "()Z", sig := { parameters := [], returnType := some .boolean }, accessFlags := 1, code := some k7c3 }
def k7c4 : Code := { maxStack := 2, maxLocals := 2, code := jdk_42_method_56_code, exceptionTable := #[], attributes := #[] }
def k7m4 : Method := { name := "charAt", desc := "(I)C", sig := { parameters := [.int], returnType := some .char }, accessFlags := 1, code := some k7c4 }
def k7c5 : Code := { maxStack := 4, maxLocals := 6, code := jdk_42_method_149_code, exceptionTable := #[], attributes := #[] }
def k7m5 : Method := { name := "<init>", desc := "([CIILjava/lang/Void;)V", sig := { parameters := [(.array .char), .int, .int, (.object "java/lang/Void")], returnType := none }, accessFlags := 2, code := some k7c5 }
def k7c6 : Code := { maxStack := 1, maxLocals := 1, code := jdk_42_method_152_code, exceptionTable := #[], attributes := #[] }
def k7m6 : Method := { name := "coder", desc := "()B", sig := { parameters := [], returnType := some .byte }, accessFlags := 0, code := some k7c6 }
def k7c7 : Code := { maxStack := 1, maxLocals := 1, code := jdk_42_method_154_code, exceptionTable := #[], attributes := #[] }
def k7m7 : Method := { name := "isLatin1", desc := "()Z", sig := { parameters := [], returnType := some .boolean }, accessFlags := 0, code := some k7c7 }
def k7c8 : Code := { maxStack := 3, maxLocals := 2, code := jdk_42_method_155_code, exceptionTable := #[], attributes := #[] }
def k7m8 : Method := { name := "checkIndex", desc := "(II)V", sig := { parameters := [.int, .int], returnType := none }, accessFlags := 8, code := some k7c8 }
/-- java/lang/String -/
def k7 : Class := { plain "java/lang/String" (some 0) with
  accessFlags := 49
  interfaces := #[2, 3, 4, 5, 6]
  cf := some (fileOf pool7 10 #[.nestMembers #[1103]] #[{ accessFlags := 1, nameIndex := 5, descriptorIndex := 6, attributes := #[] }, { accessFlags := 1, nameIndex := 5, descriptorIndex := 1010, attributes := #[] }, { accessFlags := 1, nameIndex := 507, descriptorIndex := 334, attributes := #[] }, { accessFlags := 1, nameIndex := 692, descriptorIndex := 142, attributes := #[] }, { accessFlags := 1, nameIndex := 497, descriptorIndex := 427, attributes := #[] }, { accessFlags := 2, nameIndex := 5, descriptorIndex := 29, attributes := #[] }, { accessFlags := 0, nameIndex := 17, descriptorIndex := 337, attributes := #[] }, { accessFlags := 0, nameIndex := 494, descriptorIndex := 142, attributes := #[] }, { accessFlags := 8, nameIndex := 501, descriptorIndex := 391, attributes := #[] }] 49 2 #[1106, 1108, 575, 1110, 1112] #[{ accessFlags := 18, nameIndex := 13, descriptorIndex := 14, attributes := #[] }, { accessFlags := 18, nameIndex := 17, descriptorIndex := 18, attributes := #[] }, { accessFlags := 2, nameIndex := 21, descriptorIndex := 22, attributes := #[] }, { accessFlags := 2, nameIndex := 25, descriptorIndex := 26, attributes := #[] }, { accessFlags := 26, nameIndex := 1116, descriptorIndex := 1117, attributes := #[] }, { accessFlags := 24, nameIndex := 40, descriptorIndex := 26, attributes := #[] }, { accessFlags := 26, nameIndex := 1101, descriptorIndex := 1102, attributes := #[] }, { accessFlags := 26, nameIndex := 1121, descriptorIndex := 1122, attributes := #[] }, { accessFlags := 25, nameIndex := 599, descriptorIndex := 600, attributes := #[] }, { accessFlags := 24, nameIndex := 1125, descriptorIndex := 18, attributes := #[] }, { accessFlags := 24, nameIndex := 1127, descriptorIndex := 18, attributes := #[] }])
  fields := #[{ name := "value", type := (.array .byte), accessFlags := 18, slot := 0, constantValue := 0 }, { name := "coder", type := .byte, accessFlags := 18, slot := 1, constantValue := 0 }, { name := "hash", type := .int, accessFlags := 2, slot := 2, constantValue := 0 }, { name := "hashIsZero", type := .boolean, accessFlags := 2, slot := 3, constantValue := 0 }, { name := "serialVersionUID", type := .long, accessFlags := 26, slot := 0, constantValue := 0 }, { name := "COMPACT_STRINGS", type := .boolean, accessFlags := 24, slot := 1, constantValue := 0 }, { name := "serialPersistentFields", type := (.array (.object "java/io/ObjectStreamField")), accessFlags := 26, slot := 2, constantValue := 0 }, { name := "REPL", type := .char, accessFlags := 26, slot := 3, constantValue := 0 }, { name := "CASE_INSENSITIVE_ORDER", type := (.object "java/util/Comparator"), accessFlags := 25, slot := 4, constantValue := 0 }, { name := "LATIN1", type := .byte, accessFlags := 24, slot := 5, constantValue := 0 }, { name := "UTF16", type := .byte, accessFlags := 24, slot := 6, constantValue := 0 }]
  methods := #[k7m0, k7m1, k7m2, k7m3, k7m4, k7m5, k7m6, k7m7, k7m8]
  instanceTypes := #[(.array .byte), .byte, .int, .boolean]
  staticTypes := #[.long, .boolean, (.array (.object "java/io/ObjectStreamField")), .char, (.object "java/util/Comparator"), .byte, .byte]
  resolved := Array.replicate 1451 none
  statics := some 0 }

def pool8 : Array CpInfo := pool [(6, .class_ 8), (1, u "java/lang/Object"), (0, u "<init>"), (0, u "()V"), (1, .class_ 14), (1, u "java/lang/StringUTF16"), (31, u "$assertionsDisabled"), (0, u "Z"), (13, u "HI_BYTE_SHIFT"), (0, u "I"), (2, u "LO_BYTE_SHIFT"), (49, .methodref 12 116), (0, .nameAndType 117 118), (0, u "compress"), (0, u "([CI[BII)I"), (3, u "([CII)[B"), (138, u "coderFromArrayLen"), (0, u "([BI)B"), (106, .class_ 371), (1, u "java/lang/StringUTF16$LinesSpliterator"), (58, u "MAX_LENGTH"), (196, .class_ 628), (0, u "java/lang/StringUTF16$CodePointsSpliterator"), (0, .class_ 630), (0, u "java/lang/StringUTF16$CharsSpliterator")] 4

def k8m0 : Method := { name := "<init>", desc := "()V", sig := { parameters := [], returnType := none }, accessFlags := 0, code := none }
def k8c1 : Code := { maxStack := 2, maxLocals := 2, code := jdk_52_method_15_code, exceptionTable := #[], attributes := #[] }
def k8m1 : Method := { name := "coderFromArrayLen", desc := "([BI)B", sig := { parameters := [(.array .byte), .int], returnType := some .byte }, accessFlags := 8, code := some k8c1 }
def k8c2 : Code := { maxStack := 5, maxLocals := 6, code := jdk_52_method_16_code, exceptionTable := #[], attributes := #[] }
def k8m2 : Method := { name := "compress", desc := "([CII)[B", sig := { parameters := [(.array .char), .int, .int], returnType := some (.array .byte) }, accessFlags := 9, code := some k8c2 }
def k8c3 : Code := { maxStack := 3, maxLocals := 7, code := jdk_52_method_21_code, exceptionTable := #[], attributes := #[] }
def k8m3 : Method := { name := "compress", desc := "([CI[BII)I", sig := { parameters := [(.array .char), .int, (.array .byte), .int, .int], returnType := some .int }, accessFlags := 9, code := some k8c3 }
/-- java/lang/StringUTF16 -/
def k8 : Class := { plain "java/lang/StringUTF16" (some 0) with
  accessFlags := 48
  interfaces := #[]
  cf := some (fileOf pool8 12 #[.nestMembers #[627, 629, 369]] #[{ accessFlags := 0, nameIndex := 9, descriptorIndex := 10, attributes := #[] }, { accessFlags := 8, nameIndex := 261, descriptorIndex := 262, attributes := #[] }, { accessFlags := 9, nameIndex := 117, descriptorIndex := 122, attributes := #[] }, { accessFlags := 9, nameIndex := 117, descriptorIndex := 118, attributes := #[] }] 48 6 #[] #[{ accessFlags := 26, nameIndex := 61, descriptorIndex := 62, attributes := #[] }, { accessFlags := 26, nameIndex := 65, descriptorIndex := 62, attributes := #[] }, { accessFlags := 24, nameIndex := 430, descriptorIndex := 62, attributes := #[] }, { accessFlags := 4120, nameIndex := 46, descriptorIndex := 47, attributes := #[] }])
  fields := #[{ name := "HI_BYTE_SHIFT", type := .int, accessFlags := 26, slot := 0, constantValue := 0 }, { name := "LO_BYTE_SHIFT", type := .int, accessFlags := 26, slot := 1, constantValue := 0 }, { name := "MAX_LENGTH", type := .int, accessFlags := 24, slot := 2, constantValue := 0 }, { name := "$assertionsDisabled", type := .boolean, accessFlags := 4120, slot := 3, constantValue := 0 }]
  methods := #[k8m0, k8m1, k8m2, k8m3]
  instanceTypes := #[]
  staticTypes := #[.int, .int, .int, .boolean]
  resolved := Array.replicate 635 none
  statics := none }

def pool9 : Array CpInfo := pool [(2, .class_ 4), (1, u "java/lang/Object"), (3, .class_ 10), (1, u "com/example/trajectory_anonymizer/trajectoryanonymizer/model/Point"), (0, u "location"), (0, u "Ljava/lang/String;"), (2, u "time"), (0, u "I"), (1, .class_ 20), (1, u "java/lang/String"), (9, u "(Ljava/lang/String;)V"), (16, .methodref 18 48), (0, .nameAndType 49 50), (0, u "isEmpty"), (0, u "()Z"), (0, .methodref 18 52), (0, .nameAndType 53 54), (0, u "length"), (0, u "()I"), (0, .methodref 18 56), (0, .nameAndType 57 58), (0, u "charAt"), (0, u "(I)C"), (86, u "checkName"), (18, u "NO_TIME"), (2, u "MAX_NAME_LENGTH"), (1, u "TIME_RANGE")] 41

def k9c0 : Code := { maxStack := 3, maxLocals := 4, code := prog_31_method_7_code, exceptionTable := #[], attributes := #[] }
def k9m0 : Method := { name := "checkName", desc := "(Ljava/lang/String;)V", sig := { parameters := [(.object "java/lang/String")], returnType := none }, accessFlags := 9, code := some k9c0 }
/-- com/example/trajectory_anonymizer/trajectoryanonymizer/model/Point -/
def k9 : Class := { plain "com/example/trajectory_anonymizer/trajectoryanonymizer/model/Point" (some 0) with
  accessFlags := 49
  interfaces := #[]
  cf := some (fileOf pool9 8 #[] #[{ accessFlags := 9, nameIndex := 145, descriptorIndex := 30, attributes := #[] }] 49 2 #[] #[{ accessFlags := 25, nameIndex := 164, descriptorIndex := 16, attributes := #[] }, { accessFlags := 26, nameIndex := 167, descriptorIndex := 16, attributes := #[] }, { accessFlags := 26, nameIndex := 169, descriptorIndex := 12, attributes := #[] }, { accessFlags := 18, nameIndex := 11, descriptorIndex := 12, attributes := #[] }, { accessFlags := 18, nameIndex := 15, descriptorIndex := 16, attributes := #[] }])
  fields := #[{ name := "NO_TIME", type := .int, accessFlags := 25, slot := 0, constantValue := 0 }, { name := "MAX_NAME_LENGTH", type := .int, accessFlags := 26, slot := 1, constantValue := 0 }, { name := "TIME_RANGE", type := (.object "java/lang/String"), accessFlags := 26, slot := 2, constantValue := 0 }, { name := "location", type := (.object "java/lang/String"), accessFlags := 18, slot := 0, constantValue := 0 }, { name := "time", type := .int, accessFlags := 18, slot := 1, constantValue := 0 }]
  methods := #[k9m0]
  instanceTypes := #[(.object "java/lang/String"), .int]
  staticTypes := #[.int, .int, (.object "java/lang/String")]
  resolved := Array.replicate 211 none
  statics := none }

def pool10 : Array CpInfo := pool [(1, .class_ 2), (0, u "java/lang/String"), (1, .class_ 6), (1, u "java/lang/Object"), (0, u "<init>"), (0, u "()V"), (0, .methodref 1 10), (0, .nameAndType 11 12), (0, u "checkIndex"), (0, u "(II)V"), (1, .class_ 16), (1, u "java/lang/StringLatin1"), (36, u "([BI)C"), (67, u "$assertionsDisabled"), (0, u "Z"), (98, .class_ 223), (1, u "java/lang/StringLatin1$LinesSpliterator"), (28, u "charAt"), (137, .class_ 391), (0, u "java/lang/StringLatin1$CharsSpliterator")] 3

def k10m0 : Method := { name := "<init>", desc := "()V", sig := { parameters := [], returnType := none }, accessFlags := 0, code := none }
def k10c1 : Code := { maxStack := 2, maxLocals := 2, code := jdk_43_method_2_code, exceptionTable := #[], attributes := #[] }
def k10m1 : Method := { name := "charAt", desc := "([BI)C", sig := { parameters := [(.array .byte), .int], returnType := some .char }, accessFlags := 9, code := some k10c1 }
/-- java/lang/StringLatin1 -/
def k10 : Class := { plain "java/lang/StringLatin1" (some 0) with
  accessFlags := 48
  interfaces := #[]
  cf := some (fileOf pool10 14 #[.nestMembers #[390, 221]] #[{ accessFlags := 0, nameIndex := 7, descriptorIndex := 8, attributes := #[] }, { accessFlags := 9, nameIndex := 252, descriptorIndex := 53, attributes := #[] }] 48 4 #[] #[{ accessFlags := 4120, nameIndex := 121, descriptorIndex := 122, attributes := #[] }])
  fields := #[{ name := "$assertionsDisabled", type := .boolean, accessFlags := 4120, slot := 0, constantValue := 0 }]
  methods := #[k10m0, k10m1]
  instanceTypes := #[]
  staticTypes := #[.boolean]
  resolved := Array.replicate 395 none
  statics := none }

def pool11 : Array CpInfo := pool [(2, .class_ 4), (1, u "java/lang/Object"), (0, u "<init>"), (0, u "()V"), (17, .class_ 26), (1, u "jdk/internal/util/Preconditions"), (6, u "checkIndex"), (21, .class_ 56), (0, u "jdk/internal/util/Preconditions$4"), (57, .class_ 115), (0, u "jdk/internal/util/Preconditions$1"), (7, u "SIOOBE_FORMATTER"), (0, u "Ljava/util/function/BiFunction;"), (0, .class_ 126), (0, u "jdk/internal/util/Preconditions$2"), (3, u "AIOOBE_FORMATTER"), (0, .class_ 132), (0, u "jdk/internal/util/Preconditions$3"), (3, u "IOOBE_FORMATTER"), (41, u "(IILjava/util/function/BiFunction;)I")] 15

def k11m0 : Method := { name := "<init>", desc := "()V", sig := { parameters := [], returnType := none }, accessFlags := 1, code := none }
def k11c1 : Code := { maxStack := 3, maxLocals := 3, code := jdk_41_method_11_code, exceptionTable := #[], attributes := #[] }
def k11m1 : Method := { name := "checkIndex", desc := "(IILjava/util/function/BiFunction;)I", sig := { parameters := [.int, .int, (.object "java/util/function/BiFunction")], returnType := some .int }, accessFlags := 9, code := some k11c1 }
/-- jdk/internal/util/Preconditions -/
def k11 : Class := { plain "jdk/internal/util/Preconditions" (some 0) with
  accessFlags := 33
  interfaces := #[]
  cf := some (fileOf pool11 24 #[.nestMembers #[55, 131, 125, 114]] #[{ accessFlags := 1, nameIndex := 5, descriptorIndex := 6, attributes := #[] }, { accessFlags := 9, nameIndex := 33, descriptorIndex := 178, attributes := #[] }] 33 2 #[] #[{ accessFlags := 25, nameIndex := 123, descriptorIndex := 124, attributes := #[] }, { accessFlags := 25, nameIndex := 130, descriptorIndex := 124, attributes := #[] }, { accessFlags := 25, nameIndex := 136, descriptorIndex := 124, attributes := #[] }])
  fields := #[{ name := "SIOOBE_FORMATTER", type := (.object "java/util/function/BiFunction"), accessFlags := 25, slot := 0, constantValue := 0 }, { name := "AIOOBE_FORMATTER", type := (.object "java/util/function/BiFunction"), accessFlags := 25, slot := 1, constantValue := 0 }, { name := "IOOBE_FORMATTER", type := (.object "java/util/function/BiFunction"), accessFlags := 25, slot := 2, constantValue := 0 }]
  methods := #[k11m0, k11m1]
  instanceTypes := #[]
  staticTypes := #[(.object "java/util/function/BiFunction"), (.object "java/util/function/BiFunction"), (.object "java/util/function/BiFunction")]
  resolved := Array.replicate 194 none
  statics := some 1 }

def pool12 : Array CpInfo := pool [(9, u "<init>"), (6, .class_ 18), (1, u "java/lang/Object"), (0, u "()V"), (1, .class_ 23), (1, u "jdk/internal/util/ArraysSupport"), (0, u "LOG2_ARRAY_LONG_INDEX_SCALE"), (0, u "I"), (2, u "U"), (0, u "Ljdk/internal/misc/Unsafe;"), (8, u "BIG_ENDIAN"), (0, u "Z"), (8, u "LOG2_BYTE_BIT_SIZE"), (4, u "LOG2_ARRAY_INT_INDEX_SCALE"), (54, u "JLA"), (0, u "Ljdk/internal/access/JavaLangAccess;"), (11, u "LOG2_ARRAY_BOOLEAN_INDEX_SCALE"), (9, u "LOG2_ARRAY_BYTE_INDEX_SCALE"), (5, u "LOG2_ARRAY_CHAR_INDEX_SCALE"), (5, u "LOG2_ARRAY_SHORT_INDEX_SCALE"), (18, u "LOG2_ARRAY_FLOAT_INDEX_SCALE"), (24, u "LOG2_ARRAY_DOUBLE_INDEX_SCALE"), (89, u "T_BOOLEAN"), (2, u "T_CHAR"), (1, u "T_FLOAT"), (1, u "T_DOUBLE"), (1, u "T_BYTE"), (1, u "T_SHORT"), (1, u "T_INT"), (1, u "T_LONG"), (1, u "SOFT_MAX_ARRAY_LENGTH")] 83

def k12m0 : Method := { name := "<init>", desc := "()V", sig := { parameters := [], returnType := none }, accessFlags := 2, code := none }
/-- jdk/internal/util/ArraysSupport -/
def k12 : Class := { plain "jdk/internal/util/ArraysSupport" (some 0) with
  accessFlags := 33
  interfaces := #[]
  cf := some (fileOf pool12 21 #[] #[{ accessFlags := 2, nameIndex := 9, descriptorIndex := 19, attributes := #[] }] 33 16 #[] #[{ accessFlags := 24, nameIndex := 28, descriptorIndex := 29, attributes := #[] }, { accessFlags := 26, nameIndex := 38, descriptorIndex := 39, attributes := #[] }, { accessFlags := 25, nameIndex := 121, descriptorIndex := 25, attributes := #[] }, { accessFlags := 25, nameIndex := 131, descriptorIndex := 25, attributes := #[] }, { accessFlags := 25, nameIndex := 137, descriptorIndex := 25, attributes := #[] }, { accessFlags := 25, nameIndex := 143, descriptorIndex := 25, attributes := #[] }, { accessFlags := 25, nameIndex := 53, descriptorIndex := 25, attributes := #[] }, { accessFlags := 25, nameIndex := 24, descriptorIndex := 25, attributes := #[] }, { accessFlags := 25, nameIndex := 162, descriptorIndex := 25, attributes := #[] }, { accessFlags := 25, nameIndex := 187, descriptorIndex := 25, attributes := #[] }, { accessFlags := 26, nameIndex := 48, descriptorIndex := 25, attributes := #[] }, { accessFlags := 25, nameIndex := 277, descriptorIndex := 25, attributes := #[] }, { accessFlags := 25, nameIndex := 280, descriptorIndex := 25, attributes := #[] }, { accessFlags := 25, nameIndex := 282, descriptorIndex := 25, attributes := #[] }, { accessFlags := 25, nameIndex := 284, descriptorIndex := 25, attributes := #[] }, { accessFlags := 25, nameIndex := 286, descriptorIndex := 25, attributes := #[] }, { accessFlags := 25, nameIndex := 288, descriptorIndex := 25, attributes := #[] }, { accessFlags := 25, nameIndex := 290, descriptorIndex := 25, attributes := #[] }, { accessFlags := 25, nameIndex := 292, descriptorIndex := 25, attributes := #[] }, { accessFlags := 26, nameIndex := 108, descriptorIndex := 109, attributes := #[] }, { accessFlags := 25, nameIndex := 294, descriptorIndex := 25, attributes := #[] }])
  fields := #[{ name := "U", type := (.object "jdk/internal/misc/Unsafe"), accessFlags := 24, slot := 0, constantValue := 0 }, { name := "BIG_ENDIAN", type := .boolean, accessFlags := 26, slot := 1, constantValue := 0 }, { name := "LOG2_ARRAY_BOOLEAN_INDEX_SCALE", type := .int, accessFlags := 25, slot := 2, constantValue := 0 }, { name := "LOG2_ARRAY_BYTE_INDEX_SCALE", type := .int, accessFlags := 25, slot := 3, constantValue := 0 }, { name := "LOG2_ARRAY_CHAR_INDEX_SCALE", type := .int, accessFlags := 25, slot := 4, constantValue := 0 }, { name := "LOG2_ARRAY_SHORT_INDEX_SCALE", type := .int, accessFlags := 25, slot := 5, constantValue := 0 }, { name := "LOG2_ARRAY_INT_INDEX_SCALE", type := .int, accessFlags := 25, slot := 6, constantValue := 0 }, { name := "LOG2_ARRAY_LONG_INDEX_SCALE", type := .int, accessFlags := 25, slot := 7, constantValue := 0 }, { name := "LOG2_ARRAY_FLOAT_INDEX_SCALE", type := .int, accessFlags := 25, slot := 8, constantValue := 0 }, { name := "LOG2_ARRAY_DOUBLE_INDEX_SCALE", type := .int, accessFlags := 25, slot := 9, constantValue := 0 }, { name := "LOG2_BYTE_BIT_SIZE", type := .int, accessFlags := 26, slot := 10, constantValue := 0 }, { name := "T_BOOLEAN", type := .int, accessFlags := 25, slot := 11, constantValue := 0 }, { name := "T_CHAR", type := .int, accessFlags := 25, slot := 12, constantValue := 0 }, { name := "T_FLOAT", type := .int, accessFlags := 25, slot := 13, constantValue := 0 }, { name := "T_DOUBLE", type := .int, accessFlags := 25, slot := 14, constantValue := 0 }, { name := "T_BYTE", type := .int, accessFlags := 25, slot := 15, constantValue := 0 }, { name := "T_SHORT", type := .int, accessFlags := 25, slot := 16, constantValue := 0 }, { name := "T_INT", type := .int, accessFlags := 25, slot := 17, constantValue := 0 }, { name := "T_LONG", type := .int, accessFlags := 25, slot := 18, constantValue := 0 }, { name := "JLA", type := (.object "jdk/internal/access/JavaLangAccess"), accessFlags := 26, slot := 19, constantValue := 0 }, { name := "SOFT_MAX_ARRAY_LENGTH", type := .int, accessFlags := 25, slot := 20, constantValue := 0 }]
  methods := #[k12m0]
  instanceTypes := #[]
  staticTypes := #[(.object "jdk/internal/misc/Unsafe"), .boolean, .int, .int, .int, .int, .int, .int, .int, .int, .int, .int, .int, .int, .int, .int, .int, .int, .int, (.object "jdk/internal/access/JavaLangAccess"), .int]
  resolved := Array.replicate 378 none
  statics := none }

def pool13 : Array CpInfo := pool [(1, u "java/lang/Cloneable"), (0, .class_ 1), (0, u "java/lang/Object"), (0, .class_ 3)] 3

/-- java/lang/Cloneable -/
def k13 : Class := { plain "java/lang/Cloneable" (some 0) with
  accessFlags := 1537
  interfaces := #[]
  cf := some (fileOf pool13 2 #[] #[] 1537 4 #[] #[])
  fields := #[]
  methods := #[]
  instanceTypes := #[]
  staticTypes := #[]
  resolved := Array.replicate 8 none
  statics := none }

/-- the primitive byte -/
def k14 : Class := { plain "byte" none with kind := .primitive 'B', accessFlags := 0x411 }
/-- [B -/
def k15 : Class := { plain "[B" (some 0) with kind := .array 14 .byte, interfaces := #[13, 2], accessFlags := 1041 }

/-- the primitive char -/
def k16 : Class := { plain "char" none with kind := .primitive 'C', accessFlags := 0x411 }
/-- [C -/
def k17 : Class := { plain "[C" (some 0) with kind := .array 16 .char, interfaces := #[13, 2], accessFlags := 1041 }

/-- the primitive int -/
def k18 : Class := { plain "int" none with kind := .primitive 'I', accessFlags := 0x411 }
/-- [I -/
def k19 : Class := { plain "[I" (some 0) with kind := .array 18 .int, interfaces := #[13, 2], accessFlags := 1041 }

def heap : Heap := #[{ cls := 7, slots := #[.long 0, .int 1, .null, .int 0, .null, .int 0, .int 0], vm := .statics 7 },
  { cls := 11, slots := #[.null, .null, .null], vm := .statics 11 }]
def classes : Array Class := #[k0, k1, k2, k3, k4, k5, k6, k7, k8, k9, k10, k11, k12, k13, k14, k15, k16, k17, k18, k19]
def interned : List (Array UInt16 × Addr) := []
def slotsUsed : Nat := 10
def theMethod : MethodId := ⟨1, 2⟩
def args0 : Array Value := #[.int 7, .int 5, .int 3, .int 2, .int 1]
def aboutOver (below : List Frame) : State where
  vm := { classes := classes, interned := interned.toArray }
  heap := heap
  slotsUsed := slotsUsed
  threads := #[{ frames := .invoking theMethod args0 :: below }]
def below0 : List Frame := [.native { method := ⟨0, 0⟩, args := #[] }]
def about1 : State := aboutOver below0
def p0 : Program := .bare "" "" ""
def e0 : Env := launch0.env 0 0 0
theorem w_frames : about1.frames = Frame.invoking theMethod args0 :: below0 := rfl
set_option maxRecDepth 65536 in
theorem w_args : argsFit about1.vm theMethod args0 = true := by decide +kernel
set_option maxRecDepth 65536 in
theorem w_heap : heapFits about1 = true := by decide +kernel
set_option maxRecDepth 65536 in
theorem w_runnable : about1.curStatus? = some .runnable := by decide +kernel
set_option maxRecDepth 65536 in
theorem w_alone : about1.alone = true := by decide +kernel
set_option maxRecDepth 65536 in
theorem w_named : about1.methodNamed? x = some theMethod := by decide +kernel
set_option maxRecDepth 65536 in
theorem w_hears : about1.hears theMethod below0 = true := by decide +kernel
set_option maxRecDepth 65536 in
theorem w_ripe : about1.ripe theMethod args0 below0 = true := by decide +kernel
theorem w_running : about1.status = .running := rfl
set_option maxRecDepth 65536 in
theorem w_room : about1.hasRoom e0.platform room_1 = true :=
  launch0.hasRoom_least _ room_1 (by decide +kernel) (by decide +kernel) (by decide +kernel) (by decide +kernel) (by decide +kernel) (by decide +kernel)
theorem allAtoms_all (ts : List Jvm.Cond) (a : Array Jvm.Value) (st : Jvm.State) : (allAtoms ts).before a st = ts.all (fun c => c.before a st) := by
  induction ts with
  | nil => rfl
  | cons c t ih =>
    show (Jvm.Cond.and c (allAtoms t)).before a st = _
    rw [Jvm.Cond.before_and, ih, List.all_cons]
def words1 : List Jvm.Cond := Jvm.Cond.code x code maxLocals ret :: tables_1
/-- a 'code' word, met by the world's own term for the bytes: nothing is compared byte by byte -/
theorem code_word {y : MethodName} {bytes : ByteArray} {mx : Nat} {rt : Option FieldType} {a : Array Value} {s : State} {m : MethodId} {meth : Method} {c : Code} (h1 : s.methodNamed? y = some m) (h2 : s.vm.method? m = some meth) (h3 : meth.code = some c) (h4 : c.code = bytes)
    (h5 : (c.maxLocals == mx && c.exceptionTable.isEmpty && decide (c.maxStack ≤ mostOperands) && decide (meth.sig.returnType = rt) && !meth.locks && decide (parseMethodDescriptor y.desc = some meth.sig)) = true) : (Jvm.Cond.code y bytes mx rt).before a s = true := by
  simp only [Bool.and_eq_true, beq_iff_eq, Bool.not_eq_true', decide_eq_true_eq] at h5
  obtain ⟨⟨⟨⟨⟨g1, g2⟩, g3⟩, g4⟩, g5⟩, g6⟩ := h5
  simp [Cond.before, Cond.holds, Cond.value, h1, h2, h3, h4, g1, g2, g3, g4, g5, g6]
def isCode : Jvm.Cond → Bool
  | .code _ _ _ _ => true
  | _ => false
theorem all_split {L : List Jvm.Cond} {P : Jvm.Cond → Bool} (h1 : L.all (fun c => isCode c || P c) = true) (h2 : ∀ c ∈ L.filter isCode, P c = true) : L.all P = true := by
  refine List.all_eq_true.mpr fun c hc => ?_
  have h := List.all_eq_true.mp h1 c hc
  rcases Bool.eq_false_or_eq_true (isCode c) with hi | hi
  · exact h2 c (List.mem_filter.mpr ⟨hc, hi⟩)
  · simpa [hi] using h
set_option maxRecDepth 65536 in
theorem w_c0 : (Jvm.Cond.code x code maxLocals ret).before args0 about1 = true := code_word (m := ⟨1, 2⟩) (meth := k1m2) (c := k1c2) (by decide +kernel) rfl rfl rfl (by decide +kernel)
set_option maxRecDepth 65536 in
theorem w_c1 : (Jvm.Cond.code ({ cls := "com/example/trajectory_anonymizer/trajectoryanonymizer/model/PointCheckNamePinLaw", name := "pick", desc := "(I)C" } : Jvm.MethodName) method_2_code (2 : Nat) (Option.some Jvm.ClassFile.FieldType.char)).before args0 about1 = true := code_word (m := ⟨1, 1⟩) (meth := k1m1) (c := k1c1) (by decide +kernel) rfl rfl rfl (by decide +kernel)
set_option maxRecDepth 65536 in
theorem w_c2 : (Jvm.Cond.code ({ cls := "java/lang/String", name := "<init>", desc := "([C)V" } : Jvm.MethodName) jdk_42_method_3_code (2 : Nat) (Option.none : Option Jvm.ClassFile.FieldType)).before args0 about1 = true := code_word (m := ⟨7, 1⟩) (meth := k7m1) (c := k7c1) (by decide +kernel) rfl rfl rfl (by decide +kernel)
set_option maxRecDepth 65536 in
theorem w_c3 : (Jvm.Cond.code ({ cls := "java/lang/String", name := "<init>", desc := "([CIILjava/lang/Void;)V" } : Jvm.MethodName) jdk_42_method_149_code (6 : Nat) (Option.none : Option Jvm.ClassFile.FieldType)).before args0 about1 = true := code_word (m := ⟨7, 5⟩) (meth := k7m5) (c := k7c5) (by decide +kernel) rfl rfl rfl (by decide +kernel)
set_option maxRecDepth 65536 in
theorem w_c4 : (Jvm.Cond.code ({ cls := "java/lang/Object", name := "<init>", desc := "()V" } : Jvm.MethodName) object_method_1_code (1 : Nat) (Option.none : Option Jvm.ClassFile.FieldType)).before args0 about1 = true := code_word (m := ⟨0, 0⟩) (meth := k0m0) (c := k0c0) (by decide +kernel) rfl rfl rfl (by decide +kernel)
set_option maxRecDepth 65536 in
theorem w_c5 : (Jvm.Cond.code ({ cls := "java/lang/StringUTF16", name := "compress", desc := "([CII)[B" } : Jvm.MethodName) jdk_52_method_16_code (6 : Nat) (Option.some (Jvm.ClassFile.FieldType.array Jvm.ClassFile.FieldType.byte))).before args0 about1 = true := code_word (m := ⟨8, 2⟩) (meth := k8m2) (c := k8c2) (by decide +kernel) rfl rfl rfl (by decide +kernel)
set_option maxRecDepth 65536 in
theorem w_c6 : (Jvm.Cond.code ({ cls := "java/lang/StringUTF16", name := "compress", desc := "([CI[BII)I" } : Jvm.MethodName) jdk_52_method_21_code (7 : Nat) (Option.some Jvm.ClassFile.FieldType.int)).before args0 about1 = true := code_word (m := ⟨8, 3⟩) (meth := k8m3) (c := k8c3) (by decide +kernel) rfl rfl rfl (by decide +kernel)
set_option maxRecDepth 65536 in
theorem w_c7 : (Jvm.Cond.code ({ cls := "java/lang/StringUTF16", name := "coderFromArrayLen", desc := "([BI)B" } : Jvm.MethodName) jdk_52_method_15_code (2 : Nat) (Option.some Jvm.ClassFile.FieldType.byte)).before args0 about1 = true := code_word (m := ⟨8, 1⟩) (meth := k8m1) (c := k8c1) (by decide +kernel) rfl rfl rfl (by decide +kernel)
set_option maxRecDepth 65536 in
theorem w_c8 : (Jvm.Cond.code ({ cls := "com/example/trajectory_anonymizer/trajectoryanonymizer/model/Point", name := "checkName", desc := "(Ljava/lang/String;)V" } : Jvm.MethodName) prog_31_method_7_code (4 : Nat) (Option.none : Option Jvm.ClassFile.FieldType)).before args0 about1 = true := code_word (m := ⟨9, 0⟩) (meth := k9m0) (c := k9c0) (by decide +kernel) rfl rfl rfl (by decide +kernel)
set_option maxRecDepth 65536 in
theorem w_c9 : (Jvm.Cond.code ({ cls := "java/lang/String", name := "isEmpty", desc := "()Z" } : Jvm.MethodName) jdk_42_method_55_code (1 : Nat) (Option.some Jvm.ClassFile.FieldType.boolean)).before args0 about1 = true := code_word (m := ⟨7, 3⟩) (meth := k7m3) (c := k7c3) (by decide +kernel) rfl rfl rfl (by decide +kernel)
set_option maxRecDepth 65536 in
theorem w_c10 : (Jvm.Cond.code ({ cls := "java/lang/String", name := "length", desc := "()I" } : Jvm.MethodName) jdk_42_method_54_code (1 : Nat) (Option.some Jvm.ClassFile.FieldType.int)).before args0 about1 = true := code_word (m := ⟨7, 2⟩) (meth := k7m2) (c := k7c2) (by decide +kernel) rfl rfl rfl (by decide +kernel)
set_option maxRecDepth 65536 in
theorem w_c11 : (Jvm.Cond.code ({ cls := "java/lang/String", name := "coder", desc := "()B" } : Jvm.MethodName) jdk_42_method_152_code (1 : Nat) (Option.some Jvm.ClassFile.FieldType.byte)).before args0 about1 = true := code_word (m := ⟨7, 6⟩) (meth := k7m6) (c := k7c6) (by decide +kernel) rfl rfl rfl (by decide +kernel)
set_option maxRecDepth 65536 in
theorem w_c12 : (Jvm.Cond.code ({ cls := "java/lang/String", name := "charAt", desc := "(I)C" } : Jvm.MethodName) jdk_42_method_56_code (2 : Nat) (Option.some Jvm.ClassFile.FieldType.char)).before args0 about1 = true := code_word (m := ⟨7, 4⟩) (meth := k7m4) (c := k7c4) (by decide +kernel) rfl rfl rfl (by decide +kernel)
set_option maxRecDepth 65536 in
theorem w_c13 : (Jvm.Cond.code ({ cls := "java/lang/String", name := "isLatin1", desc := "()Z" } : Jvm.MethodName) jdk_42_method_154_code (1 : Nat) (Option.some Jvm.ClassFile.FieldType.boolean)).before args0 about1 = true := code_word (m := ⟨7, 7⟩) (meth := k7m7) (c := k7c7) (by decide +kernel) rfl rfl rfl (by decide +kernel)
set_option maxRecDepth 65536 in
theorem w_c14 : (Jvm.Cond.code ({ cls := "java/lang/StringLatin1", name := "charAt", desc := "([BI)C" } : Jvm.MethodName) jdk_43_method_2_code (2 : Nat) (Option.some Jvm.ClassFile.FieldType.char)).before args0 about1 = true := code_word (m := ⟨10, 1⟩) (meth := k10m1) (c := k10c1) (by decide +kernel) rfl rfl rfl (by decide +kernel)
set_option maxRecDepth 65536 in
theorem w_c15 : (Jvm.Cond.code ({ cls := "java/lang/String", name := "checkIndex", desc := "(II)V" } : Jvm.MethodName) jdk_42_method_155_code (2 : Nat) (Option.none : Option Jvm.ClassFile.FieldType)).before args0 about1 = true := code_word (m := ⟨7, 8⟩) (meth := k7m8) (c := k7c8) (by decide +kernel) rfl rfl rfl (by decide +kernel)
set_option maxRecDepth 65536 in
theorem w_c16 : (Jvm.Cond.code ({ cls := "jdk/internal/util/Preconditions", name := "checkIndex", desc := "(IILjava/util/function/BiFunction;)I" } : Jvm.MethodName) jdk_41_method_11_code (3 : Nat) (Option.some Jvm.ClassFile.FieldType.int)).before args0 about1 = true := code_word (m := ⟨11, 1⟩) (meth := k11m1) (c := k11c1) (by decide +kernel) rfl rfl rfl (by decide +kernel)
def codes1 : List Jvm.Cond := [Jvm.Cond.code x code maxLocals ret, Jvm.Cond.code ({ cls := "com/example/trajectory_anonymizer/trajectoryanonymizer/model/PointCheckNamePinLaw", name := "pick", desc := "(I)C" } : Jvm.MethodName) method_2_code (2 : Nat) (Option.some Jvm.ClassFile.FieldType.char), Jvm.Cond.code ({ cls := "java/lang/String", name := "<init>", desc := "([C)V" } : Jvm.MethodName) jdk_42_method_3_code (2 : Nat) (Option.none : Option Jvm.ClassFile.FieldType), Jvm.Cond.code ({ cls := "java/lang/String", name := "<init>", desc := "([CIILjava/lang/Void;)V" } : Jvm.MethodName) jdk_42_method_149_code (6 : Nat) (Option.none : Option Jvm.ClassFile.FieldType), Jvm.Cond.code ({ cls := "java/lang/Object", name := "<init>", desc := "()V" } : Jvm.MethodName) object_method_1_code (1 : Nat) (Option.none : Option Jvm.ClassFile.FieldType), Jvm.Cond.code ({ cls := "java/lang/StringUTF16", name := "compress", desc := "([CII)[B" } : Jvm.MethodName) jdk_52_method_16_code (6 : Nat) (Option.some (Jvm.ClassFile.FieldType.array Jvm.ClassFile.FieldType.byte)), Jvm.Cond.code ({ cls := "java/lang/StringUTF16", name := "compress", desc := "([CI[BII)I" } : Jvm.MethodName) jdk_52_method_21_code (7 : Nat) (Option.some Jvm.ClassFile.FieldType.int), Jvm.Cond.code ({ cls := "java/lang/StringUTF16", name := "coderFromArrayLen", desc := "([BI)B" } : Jvm.MethodName) jdk_52_method_15_code (2 : Nat) (Option.some Jvm.ClassFile.FieldType.byte), Jvm.Cond.code ({ cls := "com/example/trajectory_anonymizer/trajectoryanonymizer/model/Point", name := "checkName", desc := "(Ljava/lang/String;)V" } : Jvm.MethodName) prog_31_method_7_code (4 : Nat) (Option.none : Option Jvm.ClassFile.FieldType), Jvm.Cond.code ({ cls := "java/lang/String", name := "isEmpty", desc := "()Z" } : Jvm.MethodName) jdk_42_method_55_code (1 : Nat) (Option.some Jvm.ClassFile.FieldType.boolean), Jvm.Cond.code ({ cls := "java/lang/String", name := "length", desc := "()I" } : Jvm.MethodName) jdk_42_method_54_code (1 : Nat) (Option.some Jvm.ClassFile.FieldType.int), Jvm.Cond.code ({ cls := "java/lang/String", name := "coder", desc := "()B" } : Jvm.MethodName) jdk_42_method_152_code (1 : Nat) (Option.some Jvm.ClassFile.FieldType.byte), Jvm.Cond.code ({ cls := "java/lang/String", name := "charAt", desc := "(I)C" } : Jvm.MethodName) jdk_42_method_56_code (2 : Nat) (Option.some Jvm.ClassFile.FieldType.char), Jvm.Cond.code ({ cls := "java/lang/String", name := "isLatin1", desc := "()Z" } : Jvm.MethodName) jdk_42_method_154_code (1 : Nat) (Option.some Jvm.ClassFile.FieldType.boolean), Jvm.Cond.code ({ cls := "java/lang/StringLatin1", name := "charAt", desc := "([BI)C" } : Jvm.MethodName) jdk_43_method_2_code (2 : Nat) (Option.some Jvm.ClassFile.FieldType.char), Jvm.Cond.code ({ cls := "java/lang/String", name := "checkIndex", desc := "(II)V" } : Jvm.MethodName) jdk_42_method_155_code (2 : Nat) (Option.none : Option Jvm.ClassFile.FieldType), Jvm.Cond.code ({ cls := "jdk/internal/util/Preconditions", name := "checkIndex", desc := "(IILjava/util/function/BiFunction;)I" } : Jvm.MethodName) jdk_41_method_11_code (3 : Nat) (Option.some Jvm.ClassFile.FieldType.int)]
set_option maxRecDepth 65536 in
theorem codes_eq : words1.filter isCode = codes1 := rfl
theorem w_codes : ∀ c ∈ words1.filter isCode, c.before args0 about1 = true := by
  rw [codes_eq]
  intro c hc
  simp only [codes1, List.mem_cons, List.not_mem_nil, or_false] at hc
  rcases hc with rfl | rfl | rfl | rfl | rfl | rfl | rfl | rfl | rfl | rfl | rfl | rfl | rfl | rfl | rfl | rfl | rfl
  · exact w_c0
  · exact w_c1
  · exact w_c2
  · exact w_c3
  · exact w_c4
  · exact w_c5
  · exact w_c6
  · exact w_c7
  · exact w_c8
  · exact w_c9
  · exact w_c10
  · exact w_c11
  · exact w_c12
  · exact w_c13
  · exact w_c14
  · exact w_c15
  · exact w_c16
set_option maxRecDepth 65536 in
theorem w_t1 : (words1.take 24).all (fun c => isCode c || c.before args0 about1) = true := by decide +kernel
set_option maxRecDepth 65536 in
theorem w_t2 : ((words1.drop 24).take 24).all (fun c => isCode c || c.before args0 about1) = true := by decide +kernel
set_option maxRecDepth 65536 in
theorem w_t3 : (((words1.drop 24).drop 24).take 24).all (fun c => isCode c || c.before args0 about1) = true := by decide +kernel
set_option maxRecDepth 65536 in
theorem w_t4 : (((words1.drop 24).drop 24).drop 24).all (fun c => isCode c || c.before args0 about1) = true := by decide +kernel
theorem w_tables : (allAtoms (Jvm.Cond.code x code maxLocals ret :: tables_1)).before args0 about1 = true := by
  rw [allAtoms_all]
  show words1.all (fun c => c.before args0 about1) = true
  refine all_split ?_ w_codes
  rw [← List.take_append_drop 24 words1, List.all_append, w_t1, ← List.take_append_drop 24 (words1.drop 24), List.all_append, w_t2, ← List.take_append_drop 24 ((words1.drop 24).drop 24), List.all_append, w_t3, w_t4]
  rfl
set_option maxRecDepth 65536 in
theorem w_rest : rest_1_c.before args0 about1 = true := by decide +kernel
set_option maxRecDepth 65536 in
theorem w_case : (Jvm.Cond.and given_1 narrow_1).before args0 about1 = true := by decide +kernel
theorem w_applies : (headSpec (Jvm.Cond.code x code maxLocals ret :: tables_1) room_1).applies x e0.platform about1 = true :=
  (Spec.applies_iff w_frames).mpr ⟨w_running, w_runnable, w_alone, w_named, w_hears, w_ripe, w_room, w_tables⟩
theorem atStart : AtStart classFile x code maxLocals ret World_1 tables_1 room_1 Calls_1 rest_1 Pre_1 launch0 p0 e0 about1 theMethod args0 below0 :=
  ⟨lists_1, trivial, launch0.admits_env _ _ _, launch0.least_env, fairChoices_fair.cas, fairChoices_fair.clock, w_frames, w_args, w_heap, w_applies, trivial, w_rest, w_case⟩
end start1
theorem witness_1 : WitnessClaimed_1 := ⟨start1.p0, start1.e0, start1.about1, start1.theMethod, start1.args0, start1.below0, start1.atStart⟩
end Jvm.Pilot.@@N@@
