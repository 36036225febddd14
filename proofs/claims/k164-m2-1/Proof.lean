import JvmDerived
import JvmDerived.Pilot.@@N@@Statement
import JvmDerived.Pilot.@@N@@Code
set_option linter.unusedVariables false
set_option linter.unusedSimpArgs false
/- laws to paste: Road.backV (cut by pick.py; bodies as the Statement names them) -/
namespace Jvm.Pilot.@@N@@
namespace StrChars
open Jvm Sem ClassFile Op Lib Jvm.Stand Jvm.Free.XT Jvm.Free.ALB Jvm.Free.JM Jvm.Free
open Jvm.Lib.Cold (StaticIs)
/-- a char array whose places are chars -/
def Ch (a : Addr) (A : Cell) (U : State) : Prop := Arr .char a A U ∧ Typed .char A
theorem Ch.mv {a : Addr} {A : Cell} {U U' : State} (h : Ch a A U) (hal : U.vm.Alike U'.vm) (hh : U'.heap = U.heap) : Ch a A U' := ⟨h.1.mv hal hh, h.2⟩
theorem Ch.keep {a : Addr} {A : Cell} {U U' : State} (h : Ch a A U) (hal : U.vm.Alike U'.vm) (hk : U'.heap[a]? = some A) : Ch a A U' := ⟨h.1.keep hal hk, h.2⟩
/-- what place i of a char[]'s cell holds -/
def cv (A : Cell) (i : Nat) : Int32 := match A.slots[i]? with | some (.int x) => x | _ => 0
theorem Ch.get {a : Addr} {A : Cell} {U : State} (h : Ch a A U) {i : Nat} (hi : i < A.slots.size) : A.slots[i]? = some (.int (cv A i)) := by
  have e := Array.getElem?_eq_getElem hi
  have f := h.2 i _ e
  unfold cv; rw [e]
  generalize A.slots[i] = v at f
  cases v <;> simp [fits] at f ⊢
/-- the byte that i2b leaves of a char -/
def lo8 (x : Int32) : Int32 := x.toInt8.toInt32
theorem fits_lo8 (y : Int32) : fits .byte (.int (lo8 y)) = true := by
  have h1 := y.toInt8.le_toInt
  have h2 := y.toInt8.toInt_lt
  simp only [lo8, fits, Bool.and_eq_true, decide_eq_true_eq, Int32.le_iff_toInt_le, Int8.toInt_toInt32, show (-128 : Int32).toInt = -128 from by decide, show (127 : Int32).toInt = 127 from by decide]
  omega
/-- A' is A but that each place j of lo .. hi - 1 holds f j -/
def Laid (A A' : Cell) (lo hi : Nat) (f : Nat → Value) : Prop := A'.cls = A.cls ∧ A'.vm = A.vm ∧ A'.slots.size = A.slots.size ∧ ∀ i, A'.slots[i]? = if lo ≤ i ∧ i < hi then some (f i) else A.slots[i]?
theorem Laid.zero (A : Cell) (lo : Nat) (f : Nat → Value) : Laid A A lo (lo + 0) f := ⟨rfl, rfl, rfl, fun i => by rw [if_neg (by omega)]⟩
theorem Laid.step {A Ak : Cell} {lo k : Nat} {f : Nat → Value} {v : Value} (h : Laid A Ak lo k f) (hlo : lo ≤ k) (hk : k < Ak.slots.size) (hv : v = f k) : Laid A (Ak.setSlot k v) lo (k + 1) f := by
  refine ⟨h.1, h.2.1, by simpa [Cell.setSlot] using h.2.2.1, fun i => ?_⟩
  by_cases e : k = i
  · subst e; rw [Cell.slots_setSlot_self v hk, if_pos (by omega), hv]
  · rw [Cell.slots_setSlot_ne v e, h.2.2.2 i]
    by_cases q : lo ≤ i ∧ i < k
    · rw [if_pos q, if_pos (by omega)]
    · rw [if_neg q, if_neg (by omega)]
def U16 : String := "java/lang/StringUTF16"
namespace Cmp5
def yN : MethodName := ⟨"java/lang/StringUTF16", "compress", "([CI[BII)I"⟩
abbrev yB : ByteArray := jdk_52_method_21_code
theorem d0 : decode yB 0 = .ok (.iconst 0, 1) := by decide +kernel
theorem d1 : decode yB 1 = .ok (.istore 5, 2) := by decide +kernel
theorem d3 : decode yB 3 = .ok (.iload 5, 2) := by decide +kernel
theorem d5 : decode yB 5 = .ok (.iload 4, 2) := by decide +kernel
theorem d7 : decode yB 7 = .ok (.if_icmp (.ge) 37, 3) := by decide +kernel
theorem d10 : decode yB 10 = .ok (.aload_n 0, 1) := by decide +kernel
theorem d11 : decode yB 11 = .ok (.iload_n 1, 1) := by decide +kernel
theorem d12 : decode yB 12 = .ok (.caload, 1) := by decide +kernel
theorem d13 : decode yB 13 = .ok (.istore 6, 2) := by decide +kernel
theorem d15 : decode yB 15 = .ok (.iload 6, 2) := by decide +kernel
theorem d17 : decode yB 17 = .ok (.sipush 255, 3) := by decide +kernel
theorem d20 : decode yB 20 = .ok (.if_icmp (.le) 6, 3) := by decide +kernel
theorem d26 : decode yB 26 = .ok (.aload_n 2, 1) := by decide +kernel
theorem d27 : decode yB 27 = .ok (.iload_n 3, 1) := by decide +kernel
theorem d28 : decode yB 28 = .ok (.iload 6, 2) := by decide +kernel
theorem d30 : decode yB 30 = .ok (.i2b, 1) := by decide +kernel
theorem d31 : decode yB 31 = .ok (.bastore, 1) := by decide +kernel
theorem d32 : decode yB 32 = .ok (.iinc 1 1, 3) := by decide +kernel
theorem d35 : decode yB 35 = .ok (.iinc 3 1, 3) := by decide +kernel
theorem d38 : decode yB 38 = .ok (.iinc 5 1, 3) := by decide +kernel
theorem d41 : decode yB 41 = .ok (.goto (-38), 3) := by decide +kernel
theorem d44 : decode yB 44 = .ok (.iload 4, 2) := by decide +kernel
theorem d46 : decode yB 46 = .ok (.ireturn, 1) := by decide +kernel
def site : List Cond := []
def tab : Cond := tabOf yN yB 7 (some .int) site
def P (b : Addr) (A : Cell) (d : Addr) (B : Cell) (o q len : Nat) (args : Array Value) (s : State) : Prop := args = #[.ref b, .int (Int32.ofNat o), .ref d, .int (Int32.ofNat q), .int (Int32.ofNat len)] ∧ Ch b A s ∧ Arr .byte d B s ∧ b ≠ d ∧ o + len ≤ A.slots.size ∧ q + len ≤ B.slots.size ∧ ∀ i, i < len → ¬ 255 < cv A (o + i)
def E (b : Addr) (A : Cell) (d : Addr) (B : Cell) (o q len : Nat) (r : Option Value) (s u : State) : Prop := r = some (.int (Int32.ofNat len)) ∧ ∃ B', Put d B' s u ∧ Laid B B' q (q + len) (fun j => Value.int (lo8 (cv A (o + (j - q)))))
/-- no char of the range above 255: len; the places written hold each char's low byte -/
theorem law (l : Launch) (b : Addr) (A : Cell) (d : Addr) (B : Cell) (o q len : Nat) : Law l yN 5 5 0 0 yB 7 (some .int) site (P b A d B o q len) (E b A d B o q len) (copyLocs d q len) 0 0 := by
  refine Law.of_walk (plainFor_of_name (by decide +kernel)) (by decide +kernel) (by decide +kernel) (by decide) (fun _ _ h => by rw [h.1]; rfl) (fun _ U U' hal hh h => ⟨h.1, h.2.1.mv hal hh, h.2.2.1.mv hal hh, h.2.2.2⟩) (fun r U U' V V' h1 hal h2 h => ⟨h.1, h.2.elim fun B' q => ⟨B', q.1.mv h1 h2, q.2⟩⟩) ?_
  intro p e s m args below meth c s₁ X0 hexec hbytes hml hret hlk hnm hown hh0 W hP
  obtain ⟨rfl, hA, hB, hne, l1, l2, hp⟩ := hP
  have c1 : Steps p.tables e below (s₁.setTop (entryFrame m #[.ref b, .int (Int32.ofNat o), .ref d, .int (Int32.ofNat q), .int (Int32.ofNat len)] 7)) (s₁.setTop (mkF m 0 #[.val (.ref b), .val (.int (Int32.ofNat o)), .val (.ref d), .val (.int (Int32.ofNat q)), .val (.int (Int32.ofNat len)), .unset, .unset] [])) := entry rfl
  have hA0 := hA.1.mv X0.warmed.alike hh0
  have hB0 := hB.mv X0.warmed.alike hh0
  have a31 := hA.1.2.2.2
  have c2 : Steps p.tables e below (s₁.setTop (entryFrame m #[.ref b, .int (Int32.ofNat o), .ref d, .int (Int32.ofNat q), .int (Int32.ofNat len)] 7)) (s₁.setTop (mkF m 3 #[.val (.ref b), .val (.int (Int32.ofNat o)), .val (.ref d), .val (.int (Int32.ofNat q)), .val (.int (Int32.ofNat len)), .val (.int 0), .unset] [])) := c1.trans (by
    refine iconstV X0.here hexec rfl 0 (hb hbytes d0) (by decide) ?_
    refine XS.istore X0.here hexec rfl (hb hbytes d1) rfl rfl ?_
    exact Steps.refl _)
  have loop : ∀ (r i : Nat), i + r = len → ∀ (z : Slot), (z = .unset ∨ ∃ w, z = .val w ∧ w.category = 1) → ∀ (Tl : State) (Bk : Cell), Stand p l e { frames := 0, locals := 0, cells := 0, slots := 0 } s m #[.ref b, .int (Int32.ofNat o), .ref d, .int (Int32.ofNat q), .int (Int32.ofNat len)] below meth c Tl ([] ++ copyLocs d q i) 0 0 → Put d Bk s₁ Tl → Laid B Bk q (q + i) (fun j => Value.int (lo8 (cv A (o + (j - q))))) →
      Steps p.tables e below (s₁.setTop (entryFrame m #[.ref b, .int (Int32.ofNat o), .ref d, .int (Int32.ofNat q), .int (Int32.ofNat len)] 7)) (Tl.setTop (mkF m 3 #[.val (.ref b), .val (.int (Int32.ofNat (o + i))), .val (.ref d), .val (.int (Int32.ofNat (q + i))), .val (.int (Int32.ofNat len)), .val (.int (Int32.ofNat i)), z] [])) → ∃ (T' : State) (B' : Cell) (z' : Slot), Stand p l e { frames := 0, locals := 0, cells := 0, slots := 0 } s m #[.ref b, .int (Int32.ofNat o), .ref d, .int (Int32.ofNat q), .int (Int32.ofNat len)] below meth c T' ([] ++ copyLocs d q len) 0 0 ∧ Put d B' s₁ T' ∧ Laid B B' q (q + len) (fun j => Value.int (lo8 (cv A (o + (j - q))))) ∧
      Steps p.tables e below (s₁.setTop (entryFrame m #[.ref b, .int (Int32.ofNat o), .ref d, .int (Int32.ofNat q), .int (Int32.ofNat len)] 7)) (T'.setTop (mkF m 3 #[.val (.ref b), .val (.int (Int32.ofNat (o + len))), .val (.ref d), .val (.int (Int32.ofNat (q + len))), .val (.int (Int32.ofNat len)), .val (.int (Int32.ofNat len)), z'] [])) := by
    intro r
    induction r with
    | zero =>
      intro i hi z hz Tl Bk Xl pl fl cl
      have hil : i = len := by omega
      rw [hil] at Xl fl cl
      exact ⟨Tl, Bk, z, Xl, pl, fl, cl⟩
    | succ r ih =>
      intro i hi z hz Tl Bk Xl pl fl cl
      have all := X0.warmed.alike.symm.trans Xl.warmed.alike
      have hAl := hA0.keep all (pl.other hne hA0.1)
      have hBk := hB0.like all pl.1 fl.1 fl.2.1 fl.2.2.1
      have hlt : q + i < Bk.slots.size := by rw [fl.2.2.1]; omega
      have c3 : Steps p.tables e below (s₁.setTop (entryFrame m #[.ref b, .int (Int32.ofNat o), .ref d, .int (Int32.ofNat q), .int (Int32.ofNat len)] 7)) (Tl.setTop (mkF m 12 #[.val (.ref b), .val (.int (Int32.ofNat (o + i))), .val (.ref d), .val (.int (Int32.ofNat (q + i))), .val (.int (Int32.ofNat len)), .val (.int (Int32.ofNat i)), z] [.int (Int32.ofNat (o + i)), .ref b])) := cl.trans (by
        refine XS.iload Xl.here hexec rfl (hb hbytes d3) rfl ?_
        refine XS.iload Xl.here hexec rfl (hb hbytes d5) rfl ?_
        refine XS.icmpNo Xl.here hexec rfl (hb hbytes d7) rfl (ii_ge_f (lt32 (by omega) (by omega))) ?_
        refine XS.aloadN Xl.here hexec rfl (hb hbytes d10) rfl rfl ?_
        refine XS.iloadN Xl.here hexec rfl (hb hbytes d11) rfl ?_
        exact Steps.refl _)
      have c4 : Steps p.tables e below (s₁.setTop (entryFrame m #[.ref b, .int (Int32.ofNat o), .ref d, .int (Int32.ofNat q), .int (Int32.ofNat len)] 7)) (Tl.setTop (mkF m 13 #[.val (.ref b), .val (.int (Int32.ofNat (o + i))), .val (.ref d), .val (.int (Int32.ofNat (q + i))), .val (.int (Int32.ofNat len)), .val (.int (Int32.ofNat i)), z] [.int (cv A (o + i))])) := c3.trans (by
        refine Xl.aget hexec hAl rfl (hA.get (i := o + i) (by omega)) rfl rfl (hb hbytes d12) ?_
        exact Steps.refl _)
      have c5 : Steps p.tables e below (s₁.setTop (entryFrame m #[.ref b, .int (Int32.ofNat o), .ref d, .int (Int32.ofNat q), .int (Int32.ofNat len)] 7)) (Tl.setTop (mkF m 15 #[.val (.ref b), .val (.int (Int32.ofNat (o + i))), .val (.ref d), .val (.int (Int32.ofNat (q + i))), .val (.int (Int32.ofNat len)), .val (.int (Int32.ofNat i)), .val (.int (cv A (o + i)))] [])) := c4.trans (by
        refine XS.istoreS Xl.here hexec rfl (hb hbytes d13) rfl rfl hz ?_
        exact Steps.refl _)
      have c6 : Steps p.tables e below (s₁.setTop (entryFrame m #[.ref b, .int (Int32.ofNat o), .ref d, .int (Int32.ofNat q), .int (Int32.ofNat len)] 7)) (Tl.setTop (mkF m 31 #[.val (.ref b), .val (.int (Int32.ofNat (o + i))), .val (.ref d), .val (.int (Int32.ofNat (q + i))), .val (.int (Int32.ofNat len)), .val (.int (Int32.ofNat i)), .val (.int (cv A (o + i)))] [.int (lo8 (cv A (o + i))), .int (Int32.ofNat (q + i)), .ref d])) := c5.trans (by
        refine XS.iload Xl.here hexec rfl (hb hbytes d15) rfl ?_
        refine sipushV Xl.here hexec rfl 255 (hb hbytes d17) (by decide) ?_
        refine XS.icmpYes Xl.here hexec rfl (pc0 := 20) rfl (hb hbytes d20) rfl (ii_le_t (hp i (by omega))) (by decide) rfl ?_
        refine XS.aloadN Xl.here hexec rfl (hb hbytes d26) rfl rfl ?_
        refine XS.iloadN Xl.here hexec rfl (hb hbytes d27) rfl ?_
        refine XS.iload Xl.here hexec rfl (hb hbytes d28) rfl ?_
        refine i2b Xl.here hexec rfl (hb hbytes d30) rfl ?_
        exact Steps.refl _)
      obtain ⟨T7, X7, p7, st7⟩ := Xl.aput hexec hBk rfl hlt rfl (fits_lo8 (cv A (o + i))) (g := (mkF m 31 #[.val (.ref b), .val (.int (Int32.ofNat (o + i))), .val (.ref d), .val (.int (Int32.ofNat (q + i))), .val (.int (Int32.ofNat len)), .val (.int (Int32.ofNat i)), .val (.int (cv A (o + i)))] [.int (lo8 (cv A (o + i))), .int (Int32.ofNat (q + i)), .ref d])) rfl (rest := []) rfl (hb hbytes d31)
      have c8 : Steps p.tables e below (s₁.setTop (entryFrame m #[.ref b, .int (Int32.ofNat o), .ref d, .int (Int32.ofNat q), .int (Int32.ofNat len)] 7)) (T7.setTop (mkF m 32 #[.val (.ref b), .val (.int (Int32.ofNat (o + i))), .val (.ref d), .val (.int (Int32.ofNat (q + i))), .val (.int (Int32.ofNat len)), .val (.int (Int32.ofNat i)), .val (.int (cv A (o + i)))] [])) := c6.trans (st7 _ (Steps.refl _))
      have c9 : Steps p.tables e below (s₁.setTop (entryFrame m #[.ref b, .int (Int32.ofNat o), .ref d, .int (Int32.ofNat q), .int (Int32.ofNat len)] 7)) (T7.setTop (mkF m 3 #[.val (.ref b), .val (.int (Int32.ofNat (o + i) + 1)), .val (.ref d), .val (.int (Int32.ofNat (q + i) + 1)), .val (.int (Int32.ofNat len)), .val (.int (Int32.ofNat i + 1)), .val (.int (cv A (o + i)))] [])) := c8.trans (by
        refine iincV X7.here hexec rfl 1 (hb hbytes d32) (by decide) rfl rfl ?_
        refine iincV X7.here hexec rfl 1 (hb hbytes d35) (by decide) rfl rfl ?_
        refine iincV X7.here hexec rfl 1 (hb hbytes d38) (by decide) rfl rfl ?_
        refine XS.goto X7.here hexec rfl (pc0 := 41) rfl (hb hbytes d41) (by decide) rfl ?_
        exact Steps.refl _)
      have c10 : Steps p.tables e below (s₁.setTop (entryFrame m #[.ref b, .int (Int32.ofNat o), .ref d, .int (Int32.ofNat q), .int (Int32.ofNat len)] 7)) (T7.setTop (mkF m 3 #[.val (.ref b), .val (.int (Int32.ofNat (o + (i + 1)))), .val (.ref d), .val (.int (Int32.ofNat (q + (i + 1)))), .val (.int (Int32.ofNat len)), .val (.int (Int32.ofNat (i + 1))), .val (.int (cv A (o + i)))] [])) := by
        have := c9
        rw [succ32, succ32, succ32] at this
        exact this
      exact ih (i + 1) (by omega) _ (Or.inr ⟨_, rfl, rfl⟩) T7 _ (by rw [copyLocs_step, ← List.append_assoc]; exact X7) (pl.trans p7) (fl.step (by omega) hlt (by simp)) c10
  obtain ⟨T9, B9, z9, X9, p9, f9, g9⟩ := loop len 0 (by omega) .unset (Or.inl rfl) s₁ B (by simpa [copyLocs] using X0) ⟨hB0.1, fun _ _ => rfl, rfl⟩ (Laid.zero _ _ _) c2
  have c11 : Steps p.tables e below (s₁.setTop (entryFrame m #[.ref b, .int (Int32.ofNat o), .ref d, .int (Int32.ofNat q), .int (Int32.ofNat len)] 7)) (T9.setTop (mkF m 46 #[.val (.ref b), .val (.int (Int32.ofNat (o + len))), .val (.ref d), .val (.int (Int32.ofNat (q + len))), .val (.int (Int32.ofNat len)), .val (.int (Int32.ofNat len)), z9] [.int (Int32.ofNat len)])) := g9.trans (by
    refine XS.iload X9.here hexec rfl (hb hbytes d3) rfl ?_
    refine XS.iload X9.here hexec rfl (hb hbytes d5) rfl ?_
    refine XS.icmpYes X9.here hexec rfl (pc0 := 7) rfl (hb hbytes d7) rfl (ii_ge_t (nlt32 (by omega) (Nat.le_refl _))) (by decide) rfl ?_
    refine XS.iload X9.here hexec rfl (hb hbytes d44) rfl ?_
    exact Steps.refl _)
  exact ⟨T9, some (.int (Int32.ofNat len)), _, _, _, X9, by simp, rfl, rfl, (fun h => by cases h), ⟨rfl, B9, p9.from hh0, f9⟩, fun fs hl => c11.trans (X9.ireturnOut hexec hret rfl (Or.inl rfl) (hb hbytes d46) hl)⟩
end Cmp5
namespace Cmp3
def yN : MethodName := ⟨"java/lang/StringUTF16", "compress", "([CII)[B"⟩
abbrev yB : ByteArray := jdk_52_method_16_code
theorem d0 : decode yB 0 = .ok (.iload_n 2, 1) := by decide +kernel
theorem d1 : decode yB 1 = .ok (.newarray .byte, 2) := by decide +kernel
theorem d3 : decode yB 3 = .ok (.astore_n 3, 1) := by decide +kernel
theorem d4 : decode yB 4 = .ok (.aload_n 0, 1) := by decide +kernel
theorem d5 : decode yB 5 = .ok (.iload_n 1, 1) := by decide +kernel
theorem d6 : decode yB 6 = .ok (.aload_n 3, 1) := by decide +kernel
theorem d7 : decode yB 7 = .ok (.iconst 0, 1) := by decide +kernel
theorem d8 : decode yB 8 = .ok (.iload_n 2, 1) := by decide +kernel
theorem d9 : decode yB 9 = .ok (.invokestatic 115, 3) := by decide +kernel
theorem d12 : decode yB 12 = .ok (.istore 4, 2) := by decide +kernel
theorem d14 : decode yB 14 = .ok (.iload 4, 2) := by decide +kernel
theorem d16 : decode yB 16 = .ok (.iload_n 2, 1) := by decide +kernel
theorem d17 : decode yB 17 = .ok (.if_icmp (.eq) 40, 3) := by decide +kernel
theorem d57 : decode yB 57 = .ok (.aload_n 3, 1) := by decide +kernel
theorem d58 : decode yB 58 = .ok (.areturn, 1) := by decide +kernel
def site : List Cond := [.arrayClass .byte, Cmp5.tab] ++ staticW U16 115 Cmp5.yN
def tab : Cond := tabOf yN yB 6 (some (.array .byte)) site
def P (b : Addr) (A : Cell) (o len : Nat) (args : Array Value) (s : State) : Prop := args = #[.ref b, .int (Int32.ofNat o), .int (Int32.ofNat len)] ∧ Ch b A s ∧ o + len ≤ A.slots.size ∧ len ≤ 536870912 ∧ ∀ i, i < len → ¬ 255 < cv A (o + i)
def E (b : Addr) (A : Cell) (o len : Nat) (r : Option Value) (s u : State) : Prop := NewArr .byte "[B" len (fun j => .int (lo8 (cv A (o + j)))) r s u ∧ u.heap.size = s.heap.size + 1
/-- no char of the range above 255: a new byte[] of their low bytes -/
theorem law (l : Launch) (b : Addr) (A : Cell) (o len : Nat) : Law l yN 3 3 1 18 yB 6 (some (.array .byte)) site (P b A o len) (E b A o len) [] 1 len := by
  refine Law.of_walk (plainFor_of_name (by decide +kernel)) (by decide +kernel) (by decide +kernel) (by decide) (fun _ _ h => by rw [h.1]; rfl) (fun _ U U' hal hh h => ⟨h.1, h.2.1.mv hal hh, h.2.2⟩) (fun r U U' V V' h1 hal h2 h => ⟨NewArr.mv r U U' V V' h1 hal h2 h.1, by rw [h1, h2]; exact h.2⟩) ?_
  intro p e s m args below meth c s₁ X0 hexec hbytes hml hret hlk hnm hown hh0 W hP
  obtain ⟨rfl, hA, l1, l2, hp⟩ := hP
  have a31 := hA.1.2.2.2
  have c1 : Steps p.tables e below (s₁.setTop (entryFrame m #[.ref b, .int (Int32.ofNat o), .int (Int32.ofNat len)] 6)) (s₁.setTop (mkF m 0 #[.val (.ref b), .val (.int (Int32.ofNat o)), .val (.int (Int32.ofNat len)), .unset, .unset, .unset] [])) := entry rfl
  have c2 : Steps p.tables e below (s₁.setTop (entryFrame m #[.ref b, .int (Int32.ofNat o), .int (Int32.ofNat len)] 6)) (s₁.setTop (mkF m 1 #[.val (.ref b), .val (.int (Int32.ofNat o)), .val (.int (Int32.ofNat len)), .unset, .unset, .unset] [.int (Int32.ofNat len)])) := c1.trans (by
    refine XS.iloadN X0.here hexec rfl (hb hbytes d0) rfl ?_
    exact Steps.refl _)
  obtain ⟨T3, B3, X3, ba3, bs3, bv3, bh3, bf3, st3⟩ := X0.anew hexec (atype := .byte) (wk W (.arrayClass .byte)) rfl (by show len * 1 ≤ _; omega) (by omega) (g := (mkF m 1 #[.val (.ref b), .val (.int (Int32.ofNat o)), .val (.int (Int32.ofNat len)), .unset, .unset, .unset] [.int (Int32.ofNat len)])) rfl (hb hbytes d1) (rest := []) rfl (Nat.le_refl _) (by show 0 + len ≤ len; omega)
  rw [hh0] at ba3 st3
  have kp3 : XT.Kept s T3 := (XT.Kept.of_eq hh0).push bh3
  have hA3 := hA.keep X3.warmed.alike (kp3 _ _ hA.1.1)
  have hne : b ≠ s.heap.size := hA.1.ne
  have c4 : Steps p.tables e below (s₁.setTop (entryFrame m #[.ref b, .int (Int32.ofNat o), .int (Int32.ofNat len)] 6)) (T3.setTop (mkF m 3 #[.val (.ref b), .val (.int (Int32.ofNat o)), .val (.int (Int32.ofNat len)), .unset, .unset, .unset] [.ref s.heap.size])) := c2.trans (st3 _ (Steps.refl _))
  have c5 : Steps p.tables e below (s₁.setTop (entryFrame m #[.ref b, .int (Int32.ofNat o), .int (Int32.ofNat len)] 6)) (T3.setTop (mkF m 9 #[.val (.ref b), .val (.int (Int32.ofNat o)), .val (.int (Int32.ofNat len)), .val (.ref s.heap.size), .unset, .unset] [.int (Int32.ofNat len), .int 0, .ref s.heap.size, .int (Int32.ofNat o), .ref b])) := c4.trans (by
    refine XS.astoreN X3.here hexec rfl (hb hbytes d3) rfl rfl rfl ?_
    refine XS.aloadN X3.here hexec rfl (hb hbytes d4) rfl rfl ?_
    refine XS.iloadN X3.here hexec rfl (hb hbytes d5) rfl ?_
    refine XS.aloadN X3.here hexec rfl (hb hbytes d6) rfl rfl ?_
    refine iconstV X3.here hexec rfl 0 (hb hbytes d7) (by decide) ?_
    refine XS.iloadN X3.here hexec rfl (hb hbytes d8) rfl ?_
    exact Steps.refl _)
  obtain ⟨v6, T6, X6, E6, g6⟩ := X3.callS hexec (Cmp5.law l b A s.heap.size B3 o 0 len) hown (wks W (staticW U16 115 Cmp5.yN)) (wk W Cmp5.tab) (W := 0) (Nat.le_of_ble_eq_true rfl) (Nat.le_of_ble_eq_true rfl) (Nat.le_refl _) (by show 0 + len + 0 ≤ len; omega) (g := (mkF m 9 #[.val (.ref b), .val (.int (Int32.ofNat o)), .val (.int (Int32.ofNat len)), .val (.ref s.heap.size), .unset, .unset] [.int (Int32.ofNat len), .int (Int32.ofNat 0), .ref s.heap.size, .int (Int32.ofNat o), .ref b])) rfl (by rw [hml]; rfl) c5 (argsL := [.ref b, .int (Int32.ofNat o), .ref s.heap.size, .int (Int32.ofNat 0), .int (Int32.ofNat len)]) (rest := []) rfl rfl (by show 2 * 0 + 0 ≤ _; decide) (hb hbytes d9) (⟨rfl, hA3, ba3, hne, l1, by rw [bs3]; simp, hp⟩)
  obtain ⟨rfl, B6, p6, f6⟩ := E6
  have c7 : Steps p.tables e below (s₁.setTop (entryFrame m #[.ref b, .int (Int32.ofNat o), .int (Int32.ofNat len)] 6)) (T6.setTop (mkF m 12 #[.val (.ref b), .val (.int (Int32.ofNat o)), .val (.int (Int32.ofNat len)), .val (.ref s.heap.size), .unset, .unset] [.int (Int32.ofNat len)])) := g6
  have c8 : Steps p.tables e below (s₁.setTop (entryFrame m #[.ref b, .int (Int32.ofNat o), .int (Int32.ofNat len)] 6)) (T6.setTop (mkF m 58 #[.val (.ref b), .val (.int (Int32.ofNat o)), .val (.int (Int32.ofNat len)), .val (.ref s.heap.size), .val (.int (Int32.ofNat len)), .unset] [.ref s.heap.size])) := c7.trans (by
    refine XS.istore X6.here hexec rfl (hb hbytes d12) rfl rfl ?_
    refine XS.iload X6.here hexec rfl (hb hbytes d14) rfl ?_
    refine XS.iloadN X6.here hexec rfl (hb hbytes d16) rfl ?_
    refine XS.icmpYes X6.here hexec rfl (pc0 := 17) rfl (hb hbytes d17) rfl (ii_eq_t rfl) (by decide) rfl ?_
    refine XS.aloadN X6.here hexec rfl (hb hbytes d57) rfl rfl ?_
    exact Steps.refl _)
  have X8 := X6.wide (L' := []) (cells' := 1) (slots' := len) (fun x hx hlt => by
    simp only [List.nil_append, copyLocs, List.mem_map, List.mem_range] at hx
    obtain ⟨i, -, rfl⟩ := hx
    exact absurd hlt (Nat.lt_irrefl _)) (Nat.le_refl _) (by omega)
  exact ⟨T6, some (.ref s.heap.size), _, _, _, X8, rfl, rfl, rfl, (fun h => by cases h), ⟨⟨rfl, B6, ba3.like (X3.warmed.alike.symm.trans X6.warmed.alike) p6.1 f6.1 f6.2.1 f6.2.2.1, f6.2.1.trans bv3, by rw [X6.warmed.alike.findClass, f6.1]; exact bf3, by rw [f6.2.2.1, bs3]; simp, fun j hj => by rw [f6.2.2.2 j, if_pos (by omega)]; rfl, kp3.put p6 (Nat.le_refl _)⟩, by rw [p6.2.2, bh3, hh0]; simp⟩, fun fs hl => c8.trans (X8.areturnOut hexec rfl hret rfl (hb hbytes d58) hl)⟩
end Cmp3
namespace CodL
def yN : MethodName := ⟨"java/lang/StringUTF16", "coderFromArrayLen", "([BI)B"⟩
abbrev yB : ByteArray := jdk_52_method_15_code
theorem d0 : decode yB 0 = .ok (.iload_n 1, 1) := by decide +kernel
theorem d1 : decode yB 1 = .ok (.aload_n 0, 1) := by decide +kernel
theorem d2 : decode yB 2 = .ok (.arraylength, 1) := by decide +kernel
theorem d3 : decode yB 3 = .ok (.isub, 1) := by decide +kernel
theorem d4 : decode yB 4 = .ok (.bipush 31, 2) := by decide +kernel
theorem d6 : decode yB 6 = .ok (.iushr, 1) := by decide +kernel
theorem d7 : decode yB 7 = .ok (.i2b, 1) := by decide +kernel
theorem d8 : decode yB 8 = .ok (.ireturn, 1) := by decide +kernel
def site : List Cond := []
def tab : Cond := tabOf yN yB 2 (some .byte) site
def P (d : Addr) (B : Cell) (args : Array Value) (s : State) : Prop := args = #[.ref d, .int (Int32.ofNat B.slots.size)] ∧ Arr .byte d B s
def E (r : Option Value) (s u : State) : Prop := XT.PureE (some (.int 0)) r s u
/-- an array as long as the number of chars: LATIN1 -/
theorem law (l : Launch) (d : Addr) (B : Cell) : Law l yN 2 2 0 0 yB 2 (some .byte) site (P d B) E [] 0 0 := by
  refine Law.of_walk (plainFor_of_name (by decide +kernel)) (by decide +kernel) (by decide +kernel) (by decide) (fun _ _ h => by rw [h.1]; rfl) (fun _ U U' hal hh h => ⟨h.1, h.2.mv hal hh⟩) (fun r U U' V V' h1 hal h2 h => XT.PureE.mv r U U' V V' h1 hal h2 h) ?_
  intro p e s m args below meth c s₁ X0 hexec hbytes hml hret hlk hnm hown hh0 W hP
  obtain ⟨rfl, hB⟩ := hP
  have hB0 := hB.mv X0.warmed.alike hh0
  have c1 : Steps p.tables e below (s₁.setTop (entryFrame m #[.ref d, .int (Int32.ofNat B.slots.size)] 2)) (s₁.setTop (mkF m 0 #[.val (.ref d), .val (.int (Int32.ofNat B.slots.size))] [])) := entry rfl
  have c2 : Steps p.tables e below (s₁.setTop (entryFrame m #[.ref d, .int (Int32.ofNat B.slots.size)] 2)) (s₁.setTop (mkF m 2 #[.val (.ref d), .val (.int (Int32.ofNat B.slots.size))] [.ref d, .int (Int32.ofNat B.slots.size)])) := c1.trans (by
    refine XS.iloadN X0.here hexec rfl (hb hbytes d0) rfl ?_
    refine XS.aloadN X0.here hexec rfl (hb hbytes d1) rfl rfl ?_
    exact Steps.refl _)
  have c3 : Steps p.tables e below (s₁.setTop (entryFrame m #[.ref d, .int (Int32.ofNat B.slots.size)] 2)) (s₁.setTop (mkF m 8 #[.val (.ref d), .val (.int (Int32.ofNat B.slots.size))] [.int (lo8 (ushr (Int32.ofNat B.slots.size - Int32.ofNat B.slots.size) 31))])) := c2.trans (by
    refine X0.alen hexec hB0 rfl rfl (hb hbytes d2) ?_
    refine XS.isub X0.here hexec rfl (hb hbytes d3) rfl ?_
    refine bipushV X0.here hexec rfl 31 (hb hbytes d4) (by decide) ?_
    refine iushr X0.here hexec rfl (hb hbytes d6) rfl ?_
    refine i2b X0.here hexec rfl (hb hbytes d7) rfl ?_
    exact Steps.refl _)
  have e0 : lo8 (ushr (Int32.ofNat B.slots.size - Int32.ofNat B.slots.size) 31) = 0 := by rw [Int32.sub_self]; decide
  rw [e0] at c3
  exact ⟨s₁, some (.int 0), _, _, _, X0, rfl, rfl, rfl, (fun h => by cases h), ⟨rfl, hh0⟩, fun fs hl => c3.trans (X0.ireturnOut hexec hret rfl (Or.inr (Or.inr (Or.inl rfl))) (hb hbytes d8) hl)⟩
end CodL
/-- the String at a is Latin-1 over a new byte[] (the heap's one new cell): the low bytes of the len chars of A from o on; every cell but a is kept -/
def Got (a : Addr) (D : Cell) (fV fC : Field) (A : Cell) (o len : Nat) (r : Option Value) (s u : State) : Prop := r = none ∧ ∃ D' V : Cell, Blank "java/lang/String" a D' u ∧ Same D D' [fV.slot, fC.slot] ∧ D'.slots[fV.slot]? = some (.ref s.heap.size) ∧ D'.slots[fC.slot]? = some (.int 0) ∧ Arr .byte s.heap.size V u ∧ V.vm = .none ∧ u.vm.findClass "[B" = some V.cls ∧ V.slots.size = len ∧ (∀ j, j < len → V.slots[j]? = some (.int (lo8 (cv A (o + j))))) ∧ (∀ (y : Addr) (c : Cell), y ≠ a → s.heap[y]? = some c → u.heap[y]? = some c) ∧ u.heap.size = s.heap.size + 1
theorem Got.mv {a : Addr} {D A : Cell} {fV fC : Field} {o len : Nat} : ∀ r (U U' V V' : State), U'.heap = U.heap → V.vm.Alike V'.vm → V'.heap = V.heap → Got a D fV fC A o len r U V → Got a D fV fC A o len r U' V' :=
  fun r U U' V V' h1 hal h2 ⟨e0, D', X, a1, a2, a3, a4, a5, a6, a7, a8, a9, a10, a11⟩ => ⟨e0, D', X, a1.mv hal h2, a2, by rw [h1]; exact a3, a4, by rw [h1]; exact a5.mv hal h2, a6, by rw [hal.findClass]; exact a7, a8, a9, by rw [h1, h2]; exact a10, by rw [h1, h2]; exact a11⟩
namespace New4
def yN : MethodName := ⟨"java/lang/String", "<init>", "([CIILjava/lang/Void;)V"⟩
abbrev yB : ByteArray := jdk_42_method_149_code
theorem d0 : decode yB 0 = .ok (.aload_n 0, 1) := by decide +kernel
theorem d1 : decode yB 1 = .ok (.invokespecial 1, 3) := by decide +kernel
theorem d4 : decode yB 4 = .ok (.iload_n 3, 1) := by decide +kernel
theorem d5 : decode yB 5 = .ok (.ifCond (.ne) 22, 3) := by decide +kernel
theorem d27 : decode yB 27 = .ok (.getstatic 38, 3) := by decide +kernel
theorem d30 : decode yB 30 = .ok (.ifCond (.eq) 28, 3) := by decide +kernel
theorem d33 : decode yB 33 = .ok (.aload_n 1, 1) := by decide +kernel
theorem d34 : decode yB 34 = .ok (.iload_n 2, 1) := by decide +kernel
theorem d35 : decode yB 35 = .ok (.iload_n 3, 1) := by decide +kernel
theorem d36 : decode yB 36 = .ok (.invokestatic 177, 3) := by decide +kernel
theorem d39 : decode yB 39 = .ok (.astore 5, 2) := by decide +kernel
theorem d41 : decode yB 41 = .ok (.aload_n 0, 1) := by decide +kernel
theorem d42 : decode yB 42 = .ok (.aload 5, 2) := by decide +kernel
theorem d44 : decode yB 44 = .ok (.iload_n 3, 1) := by decide +kernel
theorem d45 : decode yB 45 = .ok (.invokestatic 47, 3) := by decide +kernel
theorem d48 : decode yB 48 = .ok (.putfield 15, 3) := by decide +kernel
theorem d51 : decode yB 51 = .ok (.aload_n 0, 1) := by decide +kernel
theorem d52 : decode yB 52 = .ok (.aload 5, 2) := by decide +kernel
theorem d54 : decode yB 54 = .ok (.putfield 9, 3) := by decide +kernel
theorem d57 : decode yB 57 = .ok (.return_, 1) := by decide +kernel
def site : List Cond := [.fieldLink "java/lang/String" 38 "java/lang/String" "COMPACT_STRINGS" "Z", Cmp3.tab, CodL.tab, .laysFinal "java/lang/String" "java/lang/String" "value" "[B", .fieldLink "java/lang/String" 9 "java/lang/String" "value" "[B", .laysFinal "java/lang/String" "java/lang/String" "coder" "B", .fieldLink "java/lang/String" 15 "java/lang/String" "coder" "B"] ++ objW "java/lang/String" 1 ++ staticW "java/lang/String" 177 Cmp3.yN ++ staticW "java/lang/String" 47 CodL.yN
def tab : Cond := tabOf yN yB 6 none site
def P (a : Addr) (D : Cell) (fV fC : Field) (b : Addr) (A : Cell) (z : Int32) (o len : Nat) (args : Array Value) (s : State) : Prop := args = #[.ref a, .ref b, .int (Int32.ofNat o), .int (Int32.ofNat len), .null] ∧ Blank "java/lang/String" a D s ∧ Found "java/lang/String" "value" "[B" fV s ∧ Found "java/lang/String" "coder" "B" fC s ∧ Ch b A s ∧ StaticIs s "java/lang/String" "COMPACT_STRINGS" "Z" (.int z) ∧ ¬ z = 0 ∧ 0 < len ∧ o + len ≤ A.slots.size ∧ len ≤ 536870912 ∧ ∀ i, i < len → ¬ 255 < cv A (o + i)
def E (a : Addr) (D : Cell) (fV fC : Field) (A : Cell) (o len : Nat) (r : Option Value) (s u : State) : Prop := Got a D fV fC A o len r s u
/-- len > 0, no char of the range above 255: a Latin-1 String of their low bytes -/
theorem law (l : Launch) (a : Addr) (D : Cell) (fV fC : Field) (b : Addr) (A : Cell) (z : Int32) (o len : Nat) : Law l yN 5 4 2 35 yB 6 none site (P a D fV fC b A z o len) (E a D fV fC A o len) [⟨a, fC.slot⟩, ⟨a, fV.slot⟩] 1 len := by
  refine Law.of_walk (plainFor_of_name (by decide +kernel)) (by decide +kernel) (by decide +kernel) (by decide) (fun _ _ h => by rw [h.1]; rfl) (fun _ U U' hal hh h => ⟨h.1, h.2.1.mv hal hh, h.2.2.1.al hal, h.2.2.2.1.al hal, h.2.2.2.2.1.mv hal hh, h.2.2.2.2.2.1.there hal hh, h.2.2.2.2.2.2⟩) (fun r U U' V V' h1 hal h2 h => Got.mv r U U' V V' h1 hal h2 h) ?_
  intro p e s m args below meth c s₁ X0 hexec hbytes hml hret hlk hnm hown hh0 W hP
  obtain ⟨rfl, hB, f1, f2, hA, s1, hz, l0, l1, l2, hp⟩ := hP
  have a31 := hA.1.2.2.2
  have c1 : Steps p.tables e below (s₁.setTop (entryFrame m #[.ref a, .ref b, .int (Int32.ofNat o), .int (Int32.ofNat len), .null] 6)) (s₁.setTop (mkF m 0 #[.val (.ref a), .val (.ref b), .val (.int (Int32.ofNat o)), .val (.int (Int32.ofNat len)), .val .null, .unset] [])) := entry rfl
  have c2 : Steps p.tables e below (s₁.setTop (entryFrame m #[.ref a, .ref b, .int (Int32.ofNat o), .int (Int32.ofNat len), .null] 6)) (s₁.setTop (mkF m 1 #[.val (.ref a), .val (.ref b), .val (.int (Int32.ofNat o)), .val (.int (Int32.ofNat len)), .val .null, .unset] [.ref a])) := c1.trans (by
    refine XS.aloadN X0.here hexec rfl (hb hbytes d0) rfl rfl ?_
    exact Steps.refl _)
  obtain ⟨T3, X3, q3, st3⟩ := X0.oinit hexec hown (wks W (objW "java/lang/String" 1)) (g := (mkF m 1 #[.val (.ref a), .val (.ref b), .val (.int (Int32.ofNat o)), .val (.int (Int32.ofNat len)), .val .null, .unset] [.ref a])) rfl (by rw [hml]; rfl) (rest := []) rfl (hb hbytes d1) (W := 0) (by show 2 * 0 + 0 ≤ _; decide) (Nat.le_of_ble_eq_true rfl) (Nat.le_of_ble_eq_true rfl)
  have hh3 := q3.trans hh0
  have c4 : Steps p.tables e below (s₁.setTop (entryFrame m #[.ref a, .ref b, .int (Int32.ofNat o), .int (Int32.ofNat len), .null] 6)) (T3.setTop (mkF m 27 #[.val (.ref a), .val (.ref b), .val (.int (Int32.ofNat o)), .val (.int (Int32.ofNat len)), .val .null, .unset] [])) := (c2.trans (st3 _ (Steps.refl _))).trans (by
    refine XS.iloadN X3.here hexec rfl (hb hbytes d4) rfl ?_
    refine XS.ifYes X3.here hexec rfl (pc0 := 5) rfl (hb hbytes d5) rfl (i0_ne_t (nz32 (by omega) l0)) (by decide) rfl ?_
    exact Steps.refl _)
  obtain ⟨T5, X5, q5, st5⟩ := X3.sget hexec hown (wk W (.fieldLink "java/lang/String" 38 "java/lang/String" "COMPACT_STRINGS" "Z")) s1 (fun _ _ h => by rw [hh3]; exact h) (g := (mkF m 27 #[.val (.ref a), .val (.ref b), .val (.int (Int32.ofNat o)), .val (.int (Int32.ofNat len)), .val .null, .unset] [])) rfl (hb hbytes d27)
  have hh5 := q5.trans hh3
  have c6 : Steps p.tables e below (s₁.setTop (entryFrame m #[.ref a, .ref b, .int (Int32.ofNat o), .int (Int32.ofNat len), .null] 6)) (T5.setTop (mkF m 30 #[.val (.ref a), .val (.ref b), .val (.int (Int32.ofNat o)), .val (.int (Int32.ofNat len)), .val .null, .unset] [.int z])) := c4.trans (st5 _ (Steps.refl _))
  have c7 : Steps p.tables e below (s₁.setTop (entryFrame m #[.ref a, .ref b, .int (Int32.ofNat o), .int (Int32.ofNat len), .null] 6)) (T5.setTop (mkF m 36 #[.val (.ref a), .val (.ref b), .val (.int (Int32.ofNat o)), .val (.int (Int32.ofNat len)), .val .null, .unset] [.int (Int32.ofNat len), .int (Int32.ofNat o), .ref b])) := c6.trans (by
    refine XS.ifNo X5.here hexec rfl (hb hbytes d30) rfl (i0_eq_f hz) ?_
    refine XS.aloadN X5.here hexec rfl (hb hbytes d33) rfl rfl ?_
    refine XS.iloadN X5.here hexec rfl (hb hbytes d34) rfl ?_
    refine XS.iloadN X5.here hexec rfl (hb hbytes d35) rfl ?_
    exact Steps.refl _)
  obtain ⟨v8, T8, X8, E8, g8⟩ := X5.callS hexec (Cmp3.law l b A o len) hown (wks W (staticW "java/lang/String" 177 Cmp3.yN)) (wk W Cmp3.tab) (W := 0) (Nat.le_of_ble_eq_true rfl) (Nat.le_of_ble_eq_true rfl) (Nat.le_refl _) (by show 0 + len ≤ len; omega) (g := (mkF m 36 #[.val (.ref a), .val (.ref b), .val (.int (Int32.ofNat o)), .val (.int (Int32.ofNat len)), .val .null, .unset] [.int (Int32.ofNat len), .int (Int32.ofNat o), .ref b])) rfl (by rw [hml]; rfl) c7 (argsL := [.ref b, .int (Int32.ofNat o), .int (Int32.ofNat len)]) (rest := []) rfl rfl (by show 2 * 0 + 0 ≤ _; decide) (hb hbytes d36) (⟨rfl, hA.mv X5.warmed.alike hh5, l1, l2, hp⟩)
  obtain ⟨e8, z8⟩ := E8
  obtain ⟨rfl, N, n1, n2, n3, n4, n5, n6⟩ := NewArr.mv _ T5 s _ _ hh5.symm (Vm.Alike.refl _) rfl e8
  rw [hh5] at z8
  have hB1 := hB.keep X8.warmed.alike (n6 _ _ hB.1)
  have hne : s.heap.size ≠ a := (Nat.ne_of_lt (Array.getElem?_eq_some_iff.mp hB.1).1).symm
  have c9 : Steps p.tables e below (s₁.setTop (entryFrame m #[.ref a, .ref b, .int (Int32.ofNat o), .int (Int32.ofNat len), .null] 6)) (T8.setTop (mkF m 39 #[.val (.ref a), .val (.ref b), .val (.int (Int32.ofNat o)), .val (.int (Int32.ofNat len)), .val .null, .unset] [.ref s.heap.size])) := g8
  have c10 : Steps p.tables e below (s₁.setTop (entryFrame m #[.ref a, .ref b, .int (Int32.ofNat o), .int (Int32.ofNat len), .null] 6)) (T8.setTop (mkF m 45 #[.val (.ref a), .val (.ref b), .val (.int (Int32.ofNat o)), .val (.int (Int32.ofNat len)), .val .null, .val (.ref s.heap.size)] [.int (Int32.ofNat N.slots.size), .ref s.heap.size, .ref a])) := by
    have hc : Steps p.tables e below (s₁.setTop (entryFrame m #[.ref a, .ref b, .int (Int32.ofNat o), .int (Int32.ofNat len), .null] 6)) (T8.setTop (mkF m 45 #[.val (.ref a), .val (.ref b), .val (.int (Int32.ofNat o)), .val (.int (Int32.ofNat len)), .val .null, .val (.ref s.heap.size)] [.int (Int32.ofNat len), .ref s.heap.size, .ref a])) := c9.trans (by
      refine XS.astore X8.here hexec rfl (hb hbytes d39) rfl rfl rfl ?_
      refine XS.aloadN X8.here hexec rfl (hb hbytes d41) rfl rfl ?_
      refine XS.aload X8.here hexec rfl (hb hbytes d42) rfl rfl ?_
      refine XS.iloadN X8.here hexec rfl (hb hbytes d44) rfl ?_
      exact Steps.refl _)
    rw [n4]; exact hc
  obtain ⟨v11, T11, X11, E11, g11⟩ := X8.callS hexec (CodL.law l s.heap.size N) hown (wks W (staticW "java/lang/String" 47 CodL.yN)) (wk W CodL.tab) (W := 1) (Nat.le_of_ble_eq_true rfl) (Nat.le_of_ble_eq_true rfl) (Nat.le_refl _) (by show 0 + len + 0 ≤ len; omega) (g := (mkF m 45 #[.val (.ref a), .val (.ref b), .val (.int (Int32.ofNat o)), .val (.int (Int32.ofNat len)), .val .null, .val (.ref s.heap.size)] [.int (Int32.ofNat N.slots.size), .ref s.heap.size, .ref a])) rfl (by rw [hml]; rfl) c10 (argsL := [.ref s.heap.size, .int (Int32.ofNat N.slots.size)]) (rest := [.ref a]) rfl rfl (by show 2 * 0 + (1 + 0) ≤ _; decide) (hb hbytes d45) (⟨rfl, n1⟩)
  obtain ⟨rfl, q11⟩ := E11
  have hB11 := hB1.mv (X8.warmed.alike.symm.trans X11.warmed.alike) q11
  have c12 : Steps p.tables e below (s₁.setTop (entryFrame m #[.ref a, .ref b, .int (Int32.ofNat o), .int (Int32.ofNat len), .null] 6)) (T11.setTop (mkF m 48 #[.val (.ref a), .val (.ref b), .val (.int (Int32.ofNat o)), .val (.int (Int32.ofNat len)), .val .null, .val (.ref s.heap.size)] [.int 0, .ref a])) := g11
  obtain ⟨T13, X13, p13, bl13, sl13, st13⟩ := X11.finit hexec hown (wk W (.fieldLink "java/lang/String" 15 "java/lang/String" "coder" "B")) (Or.inr ⟨_, (wk W (.laysFinal "java/lang/String" "java/lang/String" "coder" "B"))⟩) (Or.inl ⟨rfl, hnm⟩) f2 (Or.inl rfl) hB11 (t := .byte) (by decide +kernel) rfl (g := (mkF m 48 #[.val (.ref a), .val (.ref b), .val (.int (Int32.ofNat o)), .val (.int (Int32.ofNat len)), .val .null, .val (.ref s.heap.size)] [.int 0, .ref a])) rfl (rest := []) rfl (hb hbytes d48)
  have c14 : Steps p.tables e below (s₁.setTop (entryFrame m #[.ref a, .ref b, .int (Int32.ofNat o), .int (Int32.ofNat len), .null] 6)) (T13.setTop (mkF m 54 #[.val (.ref a), .val (.ref b), .val (.int (Int32.ofNat o)), .val (.int (Int32.ofNat len)), .val .null, .val (.ref s.heap.size)] [.ref s.heap.size, .ref a])) := (c12.trans (st13 _ (Steps.refl _))).trans (by
    refine XS.aloadN X13.here hexec rfl (hb hbytes d51) rfl rfl ?_
    refine XS.aload X13.here hexec rfl (hb hbytes d52) rfl rfl ?_
    exact Steps.refl _)
  obtain ⟨T15, X15, p15, bl15, sl15, st15⟩ := X13.finit hexec hown (wk W (.fieldLink "java/lang/String" 9 "java/lang/String" "value" "[B")) (Or.inr ⟨_, (wk W (.laysFinal "java/lang/String" "java/lang/String" "value" "[B"))⟩) (Or.inl ⟨rfl, hnm⟩) f1 (Or.inl rfl) bl13 (t := (.array .byte)) (by decide +kernel) rfl (g := (mkF m 54 #[.val (.ref a), .val (.ref b), .val (.int (Int32.ofNat o)), .val (.int (Int32.ofNat len)), .val .null, .val (.ref s.heap.size)] [.ref s.heap.size, .ref a])) rfl (rest := []) rfl (hb hbytes d54)
  have c16 : Steps p.tables e below (s₁.setTop (entryFrame m #[.ref a, .ref b, .int (Int32.ofNat o), .int (Int32.ofNat len), .null] 6)) (T15.setTop (mkF m 57 #[.val (.ref a), .val (.ref b), .val (.int (Int32.ofNat o)), .val (.int (Int32.ofNat len)), .val .null, .val (.ref s.heap.size)] [])) := c14.trans (st15 _ (Steps.refl _))
  have ap := apart (Or.inr ⟨_, (wk W (.laysFinal "java/lang/String" "java/lang/String" "value" "[B"))⟩) (Or.inr ⟨_, (wk W (.laysFinal "java/lang/String" "java/lang/String" "coder" "B"))⟩) f1 f2 (t₁ := .array .byte) (t₂ := .byte) (by decide +kernel) (by decide +kernel) (by decide)
  have al := X8.warmed.alike.symm.trans X15.warmed.alike
  have n7 : T11.heap[s.heap.size]? = some N := by rw [q11]; exact n1.1
  exact ⟨T15, none, _, _, _, X15, by simp, rfl, by omega, (fun _ => rfl), ⟨rfl, _, N, bl15, ((Same.refl D _).set _ (by simp)).set _ (by simp), sl15, (Cell.slots_setSlot_ne _ ap).trans sl13, n1.keep al (p15.other hne (p13.other hne n7)), n2, by rw [al.findClass]; exact n3, n4, n5, fun y c h1 h2 => p15.other h1 (p13.other h1 (by rw [q11]; exact n6 y c h2)), by rw [p15.2.2, p13.2.2, q11]; exact z8⟩, fun fs hl => c16.trans (X15.returnOut hexec hret (hb hbytes d57) hl)⟩
end New4
namespace New1
def yN : MethodName := ⟨"java/lang/String", "<init>", "([C)V"⟩
abbrev yB : ByteArray := jdk_42_method_3_code
theorem d0 : decode yB 0 = .ok (.aload_n 0, 1) := by decide +kernel
theorem d1 : decode yB 1 = .ok (.aload_n 1, 1) := by decide +kernel
theorem d2 : decode yB 2 = .ok (.iconst 0, 1) := by decide +kernel
theorem d3 : decode yB 3 = .ok (.aload_n 1, 1) := by decide +kernel
theorem d4 : decode yB 4 = .ok (.arraylength, 1) := by decide +kernel
theorem d5 : decode yB 5 = .ok (.aconst_null, 1) := by decide +kernel
theorem d6 : decode yB 6 = .ok (.invokespecial 27, 3) := by decide +kernel
theorem d9 : decode yB 9 = .ok (.return_, 1) := by decide +kernel
def site : List Cond := [New4.tab] ++ initW "java/lang/String" 27 New4.yN
def tab : Cond := tabOf yN yB 2 none site
def P (a : Addr) (D : Cell) (fV fC : Field) (b : Addr) (A : Cell) (z : Int32) (args : Array Value) (s : State) : Prop := args = #[.ref a, .ref b] ∧ Blank "java/lang/String" a D s ∧ Found "java/lang/String" "value" "[B" fV s ∧ Found "java/lang/String" "coder" "B" fC s ∧ Ch b A s ∧ StaticIs s "java/lang/String" "COMPACT_STRINGS" "Z" (.int z) ∧ ¬ z = 0 ∧ 0 < A.slots.size ∧ A.slots.size ≤ 536870912 ∧ ∀ i, i < A.slots.size → ¬ 255 < cv A i
def E (a : Addr) (D : Cell) (fV fC : Field) (A : Cell) (r : Option Value) (s u : State) : Prop := Got a D fV fC A 0 A.slots.size r s u
/-- new String(chars), not empty, no char above 255: a Latin-1 String of their low bytes -/
theorem law (l : Launch) (a : Addr) (D : Cell) (fV fC : Field) (b : Addr) (A : Cell) (z : Int32) : Law l yN 2 1 3 52 yB 2 none site (P a D fV fC b A z) (E a D fV fC A) [⟨a, fC.slot⟩, ⟨a, fV.slot⟩] 1 A.slots.size := by
  refine Law.of_walk (plainFor_of_name (by decide +kernel)) (by decide +kernel) (by decide +kernel) (by decide) (fun _ _ h => by rw [h.1]; rfl) (fun _ U U' hal hh h => ⟨h.1, h.2.1.mv hal hh, h.2.2.1.al hal, h.2.2.2.1.al hal, h.2.2.2.2.1.mv hal hh, h.2.2.2.2.2.1.there hal hh, h.2.2.2.2.2.2⟩) (fun r U U' V V' h1 hal h2 h => Got.mv r U U' V V' h1 hal h2 h) ?_
  intro p e s m args below meth c s₁ X0 hexec hbytes hml hret hlk hnm hown hh0 W hP
  obtain ⟨rfl, hB, f1, f2, hA, s1, hz, l0, l2, hp⟩ := hP
  have c1 : Steps p.tables e below (s₁.setTop (entryFrame m #[.ref a, .ref b] 2)) (s₁.setTop (mkF m 0 #[.val (.ref a), .val (.ref b)] [])) := entry rfl
  have c2 : Steps p.tables e below (s₁.setTop (entryFrame m #[.ref a, .ref b] 2)) (s₁.setTop (mkF m 6 #[.val (.ref a), .val (.ref b)] [.null, .int (Int32.ofNat A.slots.size), .int 0, .ref b, .ref a])) := c1.trans (by
    refine XS.aloadN X0.here hexec rfl (hb hbytes d0) rfl rfl ?_
    refine XS.aloadN X0.here hexec rfl (hb hbytes d1) rfl rfl ?_
    refine iconstV X0.here hexec rfl 0 (hb hbytes d2) (by decide) ?_
    refine XS.aloadN X0.here hexec rfl (hb hbytes d3) rfl rfl ?_
    refine X0.alen hexec (hA.1.mv X0.warmed.alike hh0) rfl rfl (hb hbytes d4) ?_
    refine XS.aconstNull X0.here hexec rfl (hb hbytes d5) ?_
    exact Steps.refl _)
  obtain ⟨v3, T3, X3, E3, g3⟩ := X0.callN hexec (New4.law l a D fV fC b A z 0 A.slots.size) rfl hown (wks W (initW "java/lang/String" 27 New4.yN)) (W New4.tab (by simp only [site, List.mem_cons, List.mem_append, true_or, or_true])) (W := 0) (Nat.le_of_ble_eq_true rfl) (Nat.le_of_ble_eq_true rfl) (Nat.le_refl _) (by show 0 + A.slots.size ≤ A.slots.size; omega) (g := (mkF m 6 #[.val (.ref a), .val (.ref b)] [.null, .int (Int32.ofNat A.slots.size), .int (Int32.ofNat 0), .ref b, .ref a])) rfl (by rw [hml]; rfl) c2 (argsL := [.ref b, .int (Int32.ofNat 0), .int (Int32.ofNat A.slots.size), .null]) (rest := []) rfl rfl (by show 2 * 0 + 0 ≤ _; decide) (hb hbytes d6) (⟨rfl, hB.mv X0.warmed.alike hh0, f1.al X0.warmed.alike, f2.al X0.warmed.alike, hA.mv X0.warmed.alike hh0, s1.there X0.warmed.alike hh0, hz, l0, by omega, l2, fun i hi => by rw [Nat.zero_add]; exact hp i hi⟩)
  have e0 := Got.mv _ s₁ s _ _ hh0.symm (Vm.Alike.refl _) rfl E3
  obtain rfl := e0.1
  have c4 : Steps p.tables e below (s₁.setTop (entryFrame m #[.ref a, .ref b] 2)) (T3.setTop (mkF m 9 #[.val (.ref a), .val (.ref b)] [])) := g3
  exact ⟨T3, none, _, _, _, X3, by simp, rfl, by omega, (fun _ => rfl), e0, fun fs hl => c4.trans (X3.returnOut hexec hret (hb hbytes d9) hl)⟩
theorem pays {l : Launch} {R : Room} {p : Program} {e : Env} {below : List Frame} {s : State} {sargs : Array Value} {len W : Nat} (a : Addr) (D : Cell) (fV fC : Field) (b : Addr) (A : Cell) (z : Int32) (htab : tab.before sargs s = true) (hfr : 4 ≤ R.frames) (hlo : W + 65 ≤ R.locals) :
    Back l R p e below s sargs yN len W (fun A₁ a₁ => A₁.cells + 1 ≤ R.cells ∧ A₁.slots + A.slots.size ≤ R.slots ∧ P a D fV fC b A z a₁ A₁.U) (fun A₁ _ v₁ B₁ => E a D fV fC A v₁ A₁.U B₁.U ∧ B₁.locs = A₁.locs ++ [⟨a, fC.slot⟩, ⟨a, fV.slot⟩] ∧ B₁.cells = A₁.cells + 1 ∧ B₁.slots = A₁.slots + A.slots.size) :=
  (law l a D fV fC b A z).pays htab hfr (by omega)
end New1
end StrChars
namespace StrChars.Road
open Jvm Sem ClassFile Op Lib Jvm.Stand Jvm.Free Jvm.Free.XT
open Jvm.Lib.Cold (StaticIs)
abbrev ST : String := "java/lang/String"
/-- every table word that New1's law asks, flat -/
abbrev words : List Jvm.Cond := [.code New1.yN New1.yB 2 none, .initialized ST, .methodLink ST 27 New4.yN, .instanceMethod New4.yN,
  .code New4.yN New4.yB 6 none, .fieldLink ST 38 ST "COMPACT_STRINGS" "Z", .laysFinal ST ST "value" "[B", .fieldLink ST 9 ST "value" "[B", .laysFinal ST ST "coder" "B", .fieldLink ST 15 ST "coder" "B",
  .methodLink ST 1 Lib.objectInit, .instanceMethod Lib.objectInit, .code Lib.objectInit ⟨#[0xb1]⟩ 1 none, .methodLink ST 177 Cmp3.yN, .static Cmp3.yN, .methodLink ST 47 CodL.yN, .static CodL.yN,
  .code Cmp3.yN Cmp3.yB 6 (some (.array .byte)), .initialized U16, .arrayClass .byte, .methodLink U16 115 Cmp5.yN, .static Cmp5.yN, .code Cmp5.yN Cmp5.yB 7 (some .int), .code CodL.yN CodL.yB 2 (some .byte)]
theorem tab_of {a : Array Value} {s : State} (h : ∀ w ∈ words, w.before a s = true) : New1.tab.before a s = true := by
  have h5 : Cmp5.tab.before a s = true := unparts (wk h (.code Cmp5.yN Cmp5.yB 7 (some .int))) (wks h (.initialized Cmp5.yN.cls :: Cmp5.site))
  have hc : CodL.tab.before a s = true := unparts (wk h (.code CodL.yN CodL.yB 2 (some .byte))) (wks h (.initialized CodL.yN.cls :: CodL.site))
  have q5 : ∀ w ∈ Cmp5.tab :: words, w.before a s = true := fun w hw => (List.mem_cons.mp hw).elim (fun e => e ▸ h5) (h w)
  have h3 : Cmp3.tab.before a s = true := unparts (wk q5 (.code Cmp3.yN Cmp3.yB 6 (some (.array .byte)))) (wks q5 (.initialized Cmp3.yN.cls :: Cmp3.site))
  have q3 : ∀ w ∈ Cmp3.tab :: CodL.tab :: words, w.before a s = true := fun w hw => (List.mem_cons.mp hw).elim (fun e => e ▸ h3) fun hw => (List.mem_cons.mp hw).elim (fun e => e ▸ hc) (h w)
  have h4 : New4.tab.before a s = true := unparts (wk q3 (.code New4.yN New4.yB 6 none)) (wks q3 (.initialized New4.yN.cls :: New4.site))
  have q4 : ∀ w ∈ New4.tab :: words, w.before a s = true := fun w hw => (List.mem_cons.mp hw).elim (fun e => e ▸ h4) (h w)
  exact unparts (wk q4 (.code New1.yN New1.yB 2 none)) (wks q4 (.initialized New1.yN.cls :: New1.site))
/-- the words ride from the start Z to the walk's own state -/
theorem moved {Z s : State} {a0 args : Array Value} (hZ : Z.Warmed39 s.vm) (hw : ∀ d ∈ words, d.before a0 Z = true) : ∀ d ∈ words, d.before args s = true := fun d hd => by
  have q := hw d hd
  have t : ∀ d ∈ words, d = .arrayClass .byte ∨ (d.onTables && d.keepsFace) = true := by decide +kernel
  rcases t d hd with rfl | t
  · exact RoadKit.mvA hZ q
  · exact RoadKit.mv hZ q t
/-- WHAT COMES BACK, over the tables of the start Z: h the heap at the call, h' behind it -/
def Q (Z : State) (x : Addr) (A : Cell) (h : Heap) (v : Option Value) (h' : Heap) (L : List Loc) : Prop := v = none ∧ (∀ y ∈ L, y.base = x) ∧ RoadKit.Keep h h' [x] ∧ h'.size = h.size + 1 ∧ RoadKit.Exa Z h' x ST ∧ RoadKit.Fld Z h' x ST "value" "[B" (.ref h.size) ∧ RoadKit.Fld Z h' x ST "coder" "B" (.int 0) ∧
  (∃ V : Cell, RoadKit.Arr Z h' h.size V .byte ∧ V.vm = .none ∧ Z.vm.findClass "[B" = some V.cls ∧ V.slots.size = A.slots.size ∧ ∀ j, j < A.slots.size → V.slots[j]? = some (.int (lo8 (cv A j)))) ∧
  ∀ (O n d : String) (w : Value), RoadKit.Fld Z h x O n d w → RoadKit.slotOf Z O n d ≠ RoadKit.slotOf Z ST "value" "[B" → RoadKit.slotOf Z O n d ≠ RoadKit.slotOf Z ST "coder" "B" → RoadKit.Fld Z h' x O n d w
/-- **new String(chars) AT A CALL, IN THE ROAD'S FORM**: for specialBack behind newO: x the fresh String, b the char[] with the cell A -/
theorem back {p : Program} {l : Launch} {e : Env} {R : Room} {s : State} {args : Array Value} {below : List Frame} {len W : Nat} {Z : State} {a0 : Array Value} {h : Heap} (hZ : Z.Warmed39 s.vm) (hw : ∀ d ∈ words, d.before a0 Z = true) {kI : Nat} (wi : (Jvm.Cond.instantiable ST kI).before a0 Z = true)
    {x b : Addr} {A : Cell} {z : Int32} {v0 c0 : Value} (E : RoadKit.Exa Z h x ST) (V : RoadKit.Fld Z h x ST "value" "[B" v0) (C : RoadKit.Fld Z h x ST "coder" "B" c0) (K : RoadKit.Arr Z h b A .char) (hty : Typed .char A) (S : RoadKit.Sta Z h ST "COMPACT_STRINGS" "Z" (.int z)) (hz : ¬ z = 0)
    (l0 : 0 < A.slots.size) (l2 : A.slots.size ≤ 536870912) (hp : ∀ i, i < A.slots.size → ¬ 255 < cv A i) (hfr : 4 ≤ R.frames) (hlo : W + 65 ≤ R.locals) :
    Back l R p e below s args New1.yN len W (fun P a => a = #[.ref x, .ref b] ∧ P.U.heap = h ∧ P.cells + 1 ≤ R.cells ∧ P.slots + A.slots.size ≤ R.slots)
      (fun P _ v B => ∃ L, Q Z x A h v B.U.heap L ∧ B.locs = P.locs ++ L ∧ B.cells = P.cells + 1 ∧ B.slots = P.slots + A.slots.size) := by
  intro m meth c P g ig mk a X hg hsize hdg hW hn hp'
  obtain ⟨rfl, rfl, r1, r2⟩ := hp'
  have al : Z.vm.Alike P.U.vm := hZ.alike.trans X.warmed.alike
  obtain ⟨D, cfV, kV, iV, fV, hD, gV, stV, knV, obV, asV, slV⟩ := id V
  obtain ⟨D', cfC, kC, iC, fC, hD', gC, stC, -, -, asC, slC⟩ := id C
  cases hD.symm.trans hD'
  obtain ⟨D2, kD, e1, e2, e3, e4, e5⟩ := id E
  cases hD.symm.trans e1
  obtain ⟨c2, k2, i1, i2, i3, -⟩ := Cond.instantiable_spec wi
  cases e2.symm.trans i1
  cases e3.symm.trans i2
  obtain ⟨kU, u1, u2⟩ := al.2.2 _ _ e3
  have hB : Blank ST x D P.U := ⟨hD, ⟨knV, fun q hq => by rw [hq] at obV; cases obV⟩, by rw [al.findClass]; exact e2, kU, u1, by rw [u2]; exact i3, by rw [u2]; exact e5 i3⟩
  have F1 : Found ST "value" "[B" fV P.U := ⟨SBG.found_only al ⟨cfV, kV, iV, gV⟩, stV⟩
  have F2 : Found ST "coder" "B" fC P.U := ⟨SBG.found_only al ⟨cfC, kC, iC, gC⟩, stC⟩
  have hA : Ch b A P.U := ⟨⟨K.1, State.isArrayOf_alike al K.2.1, K.2.2, by omega⟩, hty⟩
  have hS : StaticIs P.U ST "COMPACT_STRINGS" "Z" (.int z) := by
    obtain ⟨cfS, iS, kS, fS, st, cS, t1, t2, t3, t4, t5, t6, t7⟩ := S
    exact StaticIs.there (s := { Z with heap := P.U.heap }) ⟨cfS, iS, kS, fS, st, cS, t1, t2, t3, t4, t5, (fun q => by rw [q] at t6; cases t6), t7⟩ al rfl
  obtain ⟨v, B, X', ⟨⟨hv, E', V', q1, q2, q3, q4, q5, q6, q7, q8, q9, q10, q11⟩, hl, hc, hs⟩, st⟩ := New1.pays x D fV fC b A z (tab_of (moved hZ hw)) hfr hlo m meth c P g ig mk _ X hg hsize hdg hW hn ⟨r1, r2, rfl, hB, F1, F2, hA, hS, hz, l0, l2, hp⟩
  have al' : Z.vm.Alike B.U.vm := hZ.alike.trans X'.warmed.alike
  have hsz : E'.slots.size = D.slots.size := by
    obtain ⟨-, -, -, kB, w1, w2, w3⟩ := q1
    obtain ⟨kB', y1, y2⟩ := al'.2.2 _ _ e3
    rw [q2.2.1] at w1
    cases w1.symm.trans y1
    rw [w3, e5 i3, y2]
  refine ⟨v, B, X', ⟨_, ⟨hv, ?_, ⟨by omega, fun y cy hy hn' => q10 y cy (by simpa using hn') hy, fun y cy hy => ?_⟩, q11, ⟨E', _, q1.1, by rw [q2.2.1]; exact e2, by rw [q2.2.1]; exact e3, by rw [q2.1]; exact obV, fun _ => by rw [hsz]; exact e5 i3⟩,
    ⟨E', cfV, kV, iV, fV, q1.1, gV, stV, by rw [q2.1]; exact knV, by rw [q2.1]; exact obV, by rw [q2.2.1]; exact asV, q3⟩, ⟨E', cfC, kC, iC, fC, q1.1, gC, stC, by rw [q2.1]; exact knV, by rw [q2.1]; exact obV, by rw [q2.2.1]; exact asC, q4⟩,
    ⟨V', ⟨q5.1, State.isArrayOf_alike al'.symm q5.2.1, q5.2.2.1⟩, q6, by rw [← al'.findClass]; exact q7, q8, fun j hj => by have := q9 j hj; rwa [Nat.zero_add] at this⟩, fun O n d w F n1 n2 => ?_⟩, hl, hc, hs⟩, st⟩
  · intro y hy
    simp only [List.mem_cons, List.not_mem_nil, or_false] at hy
    rcases hy with rfl | rfl <;> rfl
  · by_cases q : y = x
    · subst q
      cases hD.symm.trans hy
      exact ⟨E', q1.1, q2.2.1, q2.1, hsz⟩
    · exact ⟨cy, q10 y cy q hy, rfl, rfl, rfl⟩
  · obtain ⟨D3, cf, k, i, f, g1, g2, g3, g4, g5, g6, g7⟩ := F
    cases hD.symm.trans g1
    simp only [RoadKit.slotOf, g2, gV, gC, Option.map_some, Option.getD_some] at n1 n2
    exact ⟨E', cf, k, i, f, q1.1, g2, g3, by rw [q2.1]; exact g4, by rw [q2.1]; exact g5, by rw [q2.2.1]; exact g6, by rw [q2.2.2 f.slot (by simp [n1, n2])]; exact g7⟩
end StrChars.Road
namespace StrChars.Road
open Jvm Sem ClassFile Op Lib Jvm.Stand Jvm.Free Jvm.Free.XT
/-- WHAT COMES BACK, the byte[] as a list of values -/
def QA (Z : State) (x : Addr) (zn : Int32) (cs : List Int32) (h : Heap) (v : Option Value) (h' : Heap) (L : List Loc) : Prop := v = none ∧ (∀ y ∈ L, y.base = x) ∧ RoadKit.Keep h h' [x] ∧ h'.size = h.size + 1 ∧ RoadKit.Exa Z h' x ST ∧ RoadKit.Fld Z h' x ST "value" "[B" (.ref h.size) ∧ RoadKit.Fld Z h' x ST "coder" "B" (.int 0) ∧
  (∃ kb, Z.vm.findClass "[B" = some kb ∧ RoadKit.Arv Z h' h.size kb .byte zn (cs.map fun c => .int (lo8 c)) (.int 0)) ∧
  ∀ (O n d : String) (w : Value), RoadKit.Fld Z h x O n d w → RoadKit.slotOf Z O n d ≠ RoadKit.slotOf Z ST "value" "[B" → RoadKit.slotOf Z O n d ≠ RoadKit.slotOf Z ST "coder" "B" → RoadKit.Fld Z h' x O n d w
/-- **new String(chars) AT A CALL, THE ARRAYS AS LISTS**: the char[] at b holds cs, not empty, no char above 255 -/
theorem backArv {p : Program} {l : Launch} {e : Env} {R : Room} {s : State} {args : Array Value} {below : List Frame} {len W : Nat} {Z : State} {a0 : Array Value} {h : Heap} (hZ : Z.Warmed39 s.vm) (hw : ∀ d ∈ words, d.before a0 Z = true) {kI : Nat} (wi : (Jvm.Cond.instantiable ST kI).before a0 Z = true)
    {x b : Addr} {k : ClassId} {zn z : Int32} {cs : List Int32} {dv v0 c0 : Value} (E : RoadKit.Exa Z h x ST) (V : RoadKit.Fld Z h x ST "value" "[B" v0) (C : RoadKit.Fld Z h x ST "coder" "B" c0) (K : RoadKit.Arv Z h b k .char zn (cs.map Value.int) dv) (S : RoadKit.Sta Z h ST "COMPACT_STRINGS" "Z" (.int z)) (hz : ¬ z = 0)
    (hlen : zn.toNatClampNeg = cs.length) (h0 : 0 < cs.length) (hbig : cs.length ≤ 536870912) (hall : ∀ c ∈ cs, ¬ 255 < c) (hfr : 4 ≤ R.frames) (hlo : W + 65 ≤ R.locals) :
    Back l R p e below s args New1.yN len W (fun P a => a = #[.ref x, .ref b] ∧ P.U.heap = h ∧ P.cells + 1 ≤ R.cells ∧ P.slots + cs.length ≤ R.slots)
      (fun P _ v B => ∃ L, QA Z x zn cs h v B.U.heap L ∧ B.locs = P.locs ++ L ∧ B.cells = P.cells + 1 ∧ B.slots = P.slots + cs.length) := by
  obtain ⟨A, K1, K2, K3, K4, K5, K6⟩ := K
  have e : A.slots.size = cs.length := K3.trans hlen
  have hat : ∀ (i : Nat) (hi : i < cs.length), A.slots[i]? = some (.int cs[i]) := fun i hi => by rw [K5 i (by omega)]; simp [List.getD_eq_getElem?_getD, hi]
  have hcv : ∀ (i : Nat) (hi : i < cs.length), cv A i = cs[i] := fun i hi => by unfold cv; rw [hat i hi]
  have hty : Typed .char A := fun i v hv => by
    have hi : i < A.slots.size := (Array.getElem?_eq_some_iff.mp hv).1
    have q := K5 i hi
    rw [hv] at q
    rw [Option.some.inj q]
    exact K6 i hi
  refine Back.mono (back hZ hw wi E V C K1 hty S hz (by omega) (by omega) (fun i hi => by rw [hcv i (by omega)]; exact hall _ (List.getElem_mem _)) hfr hlo) (fun P a hp => ⟨hp.1, hp.2.1, hp.2.2.1, by rw [e]; exact hp.2.2.2⟩) (fun P a v B hp hq => ?_)
  obtain ⟨L, ⟨q1, q2, q3, q4, q5, q6, q7, ⟨V', v1, v2, v3, v4, v5⟩, q9⟩, hl, hc, hs⟩ := hq
  refine ⟨L, ⟨q1, q2, q3, q4, q5, q6, q7, ⟨V'.cls, v3, V', v1, rfl, by rw [v4, e, hlen], K4, fun i hi => ?_, fun i hi => ?_⟩, q9⟩, hl, hc, by rw [hs, e]⟩
  · have hi' : i < cs.length := by omega
    rw [v5 i (by omega), hcv i hi']; simp [List.getD_eq_getElem?_getD, hi']
  · have hi' : i < cs.length := by omega
    simp only [List.getD_eq_getElem?_getD, List.getElem?_map, List.getElem?_eq_getElem hi', Option.map_some, Option.getD_some]
    exact fits_lo8 _
end StrChars.Road
namespace StrChars.Road
open Jvm Sem ClassFile Op Lib Jvm.Stand Jvm.Free Jvm.Free.XT
/-- WHAT COMES BACK, in the writer's own shape -/
def QV (Z : State) (x : Addr) (N : Int32) (bs : List Int32) (h : Heap) (n0 : Nat) (v : Option Value) (h' : Heap) (L : List Loc) : Prop := v = none ∧ RoadKit.Fr n0 L ∧ RoadKit.Keep h h' [x] ∧ RoadKit.Exa Z h' x ST ∧ RoadKit.Fld Z h' x ST "coder" "B" (.int 0) ∧
  ∃ (t : Addr) (kb : ClassId), n0 ≤ t ∧ h.size ≤ t ∧ ¬ t = x ∧ RoadKit.Fld Z h' x ST "value" "[B" (.ref t) ∧ RoadKit.Arv Z h' t kb .byte N (bs.map Value.int) (.int 0)
/-- **new String(chars) AT A CALL, FOR THE WRITER**: a char[] of n known ints, each 0 to 255 -/
theorem backV {p : Program} {l : Launch} {e : Env} {R : Room} {s : State} {args : Array Value} {below : List Frame} {len W : Nat} {Z : State} {a0 : Array Value} {h : Heap} (hZ : Z.Warmed39 s.vm) (hw : ∀ d ∈ words, d.before a0 Z = true) {kI : Nat} (wi : (Jvm.Cond.instantiable ST kI).before a0 Z = true)
    {x b : Addr} {kC : ClassId} {cs bs : List Int32} {d v0 c0 : Value} {z N : Int32} {n n0 : Nat} (hx0 : n0 ≤ x) (hh0 : n0 ≤ h.size) (E : RoadKit.Exa Z h x ST) (V : RoadKit.Fld Z h x ST "value" "[B" v0) (C : RoadKit.Fld Z h x ST "coder" "B" c0) (K : RoadKit.Arv Z h b kC .char N (cs.map Value.int) d) (S : RoadKit.Sta Z h ST "COMPACT_STRINGS" "Z" (.int z)) (hz : ¬ z = 0)
    (hn : cs.length = n) (hN : N = Int32.ofNat n) (l0 : 0 < n) (l2 : n ≤ 4000) (hp : ∀ c ∈ cs, ¬ c < 0 ∧ ¬ (255 : Int32) < c) (hb : bs = cs.map (fun c => c.toInt8.toInt32)) (hfr : 4 ≤ R.frames) (hlo : W + 65 ≤ R.locals) :
    Back l R p e below s args (⟨"java/lang/String", "<init>", "([C)V"⟩ : MethodName) len W (fun P a => a = #[.ref x, .ref b] ∧ P.U.heap = h ∧ P.cells + 1 ≤ R.cells ∧ P.slots + n ≤ R.slots)
      (fun P _ v B => ∃ L, QV Z x N bs h n0 v B.U.heap L ∧ B.locs = P.locs ++ L ∧ B.cells = P.cells + 1 ∧ B.slots = P.slots + n) := by
  subst hn hN hb
  refine Back.mono (backArv hZ hw wi E V C K S hz (n32 (by omega)) l0 (by omega) (fun c hc => (hp c hc).2) hfr hlo) (fun P a hp => hp) (fun P a v B hp hq => ?_)
  obtain ⟨L, ⟨q1, q2, q3, q4, q5, q6, q7, ⟨kb, v1, v2⟩, q9⟩, hl, hc, hs⟩ := hq
  exact ⟨L, ⟨q1, fun y hy => by rw [q2 y hy]; exact hx0, q3, q5, q7, h.size, kb, hh0, Nat.le_refl _, Nat.ne_of_gt E.lt, q6, by rw [List.map_map]; exact v2⟩, hl, hc, hs⟩
end StrChars.Road
end Jvm.Pilot.@@N@@

namespace Jvm.OwnKit
open Sem ClassFile Op Lib Jvm.Stand Jvm.Free Jvm.LawKit Jvm.RoadKit
section Own
variable {p : Program} {l : Launch} {e : Env} {R : Room} {s : State} {m : MethodId} {args : Array Value} {below : List Frame} {meth : Method} {c : Code} {T : State} {locs : List Loc} {cells slots : Nat} {Z : State} {a0 : Array Value} {h : Heap}
/-- from S the run comes to an end that F admits -/
def W (p : Program) (e : Env) (below : List Frame) (F : Outcome → State → Prop) (S : State) : Prop := ∃ s₂ o, Steps p.tables e below S s₂ ∧ s₂.status = .running ∧ Ended s₂ below o ∧ F o s₂
def Fin (s : State) (Q : Option Value → Heap → List Loc → Prop) (rc rs : Nat) (o : Outcome) (U : State) : Prop := ∃ v L, o = .returned v ∧ Q v U.heap L ∧ FrameEnd s o U L rc rs
theorem W.go {F : Outcome → State → Prop} {S S' : State} (st : ∀ t, Steps p.tables e below S' t → Steps p.tables e below S t) (k : W p e below F S') : W p e below F S := by
  obtain ⟨s2, o, h1, h2⟩ := k; exact ⟨s2, o, st _ h1, h2⟩
theorem W.via {F : Outcome → State → Prop} {S S' : State} (st : Steps p.tables e below S S') (k : W p e below F S') : W p e below F S := by
  obtain ⟨s2, o, h1, h2⟩ := k; exact ⟨s2, o, st.trans h1, h2⟩
/-- a contract: called with these arguments, over this heap, the body returns and leaves what Q says -/
def Ctr (l : Launch) (Z : State) (y : MethodName) (bytes : ByteArray) (maxL : Nat) (ret : Option FieldType) (rm : Room) (as' : Array Value) (h0 : Heap) (Q : Option Value → Heap → List Loc → Prop) : Prop :=
  ∀ ws : List Jvm.Cond, MetFree l y (head1 (Jvm.Cond.code y bytes maxL ret :: ws) rm) (fun a U => a = as' ∧ Z.Warmed39 U.vm ∧ U.heap = h0) (fun _ _ _ _ _ => True) (fun _ U o U' => Fin U Q rm.cells rm.slots o U')
theorem Ctr.body {y : MethodName} {bytes : ByteArray} {maxL : Nat} {ret : Option FieldType} {rm : Room} {as' : Array Value} {h0 : Heap} {Q : Option Value → Heap → List Loc → Prop} {fr : MethodId → JFrame} (hpl : plainFor y = true) (hef : ∀ m, entryFrame m as' maxL = fr m)
    (body : ∀ (p : Program) (e : Env) (s : State) (m : MethodId) (below : List Frame) (meth : Method) (c : Code) (s₁ : State), p.tables.exec = Jvm.exec → c.code = bytes → c.maxLocals = maxL → Z.Warmed39 s.vm → s.vm.findClass y.cls = some m.cls → meth.name = y.name → meth.sig.returnType = ret → meth.locks = false →
      Stand p l e rm s m as' below meth c s₁ [] 0 0 → s₁.heap = h0 → W p e below (Fin s Q rm.cells rm.slots) (s₁.setTop (fr m))) : Ctr l Z y bytes maxL ret rm as' h0 Q := by
  intro ws
  refine MetFree.of_bodySF hpl hisR ?_
  intro p e s m args below meth c s₁ Bd hml0 hP hK
  obtain ⟨rfl, hZ, hh⟩ := hP
  have r := body p e s m below meth c s₁ Bd.exec Bd.bytes hml0 hZ (findClass_of_methodNamed Bd.named) (name_of_methodNamed Bd.named Bd.method).1 Bd.returns Bd.notSynchronized (Stand.of_body Bd) (by rw [← hh, Bd.state]; rfl)
  rw [← hef] at r
  exact r
theorem W.retB (X : Stand p l e R s m args below meth c T locs cells slots) (hx : p.tables.exec = Jvm.exec) (hlk : meth.locks = false) {t : FieldType} (hret : meth.sig.returnType = some t) (ht : t = .boolean ∨ t = .byte ∨ t = .char ∨ t = .short) {pc : Nat} {Ls : Array Slot} {z : Int32} {rest : List Value} (hd : decode c.code pc = .ok (.ireturn, 1))
    {Q : Option Value → Heap → List Loc → Prop} {rc rs : Nat} (hc : cells ≤ rc) (hs : slots ≤ rs) (eT : T.heap = h) (hQ : Q (some (.int (nar t z))) h locs) : W p e below (Fin s Q rc rs) (T.setTop (mkF m pc Ls (.int z :: rest))) := by
  obtain ⟨fs, hr, hrun, hended, hW, hsame⟩ := X.leave (v := some (.int (nar t z))) (fun h => by rw [hret] at h; cases h) hlk
  subst eT
  exact ⟨_, _, retN X hx hret ht hd hr, hrun, hended, _, _, rfl, hQ, ⟨_, rfl⟩, hW, hsame.mono hc hs⟩
theorem W.retI (X : Stand p l e R s m args below meth c T locs cells slots) (hx : p.tables.exec = Jvm.exec) (hlk : meth.locks = false) (hret : meth.sig.returnType = some .int) {pc : Nat} {Ls : Array Slot} {z : Int32} {rest : List Value} (hd : decode c.code pc = .ok (.ireturn, 1))
    {Q : Option Value → Heap → List Loc → Prop} {rc rs : Nat} (hc : cells ≤ rc) (hs : slots ≤ rs) (eT : T.heap = h) (hQ : Q (some (.int z)) h locs) : W p e below (Fin s Q rc rs) (T.setTop (mkF m pc Ls (.int z :: rest))) := by
  obtain ⟨fs, hr, hrun, hended, hW, hsame⟩ := X.leave (v := some (.int z)) (fun h => by rw [hret] at h; cases h) hlk
  subst eT
  refine ⟨_, _, ?_, hrun, hended, _, _, rfl, hQ, ⟨_, rfl⟩, hW, hsame.mono hc hs⟩
  have hm' : T.vm.method? m = some meth := X.method'
  have hn : narrow .int (.int z) = .int z := rfl
  show Steps p.tables e below (T.setTop { method := m, pc := pc, locals := Ls, stack := _ :: rest, locked := none }) _
  jvm_step X.here [X.here.top, hx, hd, hm', hret, hn]
  first | (intro acts; rw [hr _ acts rfl rfl rfl]) | rw [hr _ _ rfl rfl rfl]
  exact Steps.refl _
theorem W.retL (X : Stand p l e R s m args below meth c T locs cells slots) (hx : p.tables.exec = Jvm.exec) (hlk : meth.locks = false) (hret : meth.sig.returnType = some .long) {pc : Nat} {Ls : Array Slot} {z : Int64} {rest : List Value} (hd : decode c.code pc = .ok (.lreturn, 1))
    {Q : Option Value → Heap → List Loc → Prop} {rc rs : Nat} (hc : cells ≤ rc) (hs : slots ≤ rs) (eT : T.heap = h) (hQ : Q (some (.long z)) h locs) : W p e below (Fin s Q rc rs) (T.setTop (mkF m pc Ls (.long z :: rest))) := by
  obtain ⟨fs, hr, hrun, hended, hW, hsame⟩ := X.leave (v := some (.long z)) (fun h => by rw [hret] at h; cases h) hlk
  subst eT
  refine ⟨_, _, ?_, hrun, hended, _, _, rfl, hQ, ⟨_, rfl⟩, hW, hsame.mono hc hs⟩
  have hm' : T.vm.method? m = some meth := X.method'
  have hn : narrow .long (.long z) = .long z := rfl
  show Steps p.tables e below (T.setTop { method := m, pc := pc, locals := Ls, stack := _ :: rest, locked := none }) _
  jvm_step X.here [X.here.top, hx, hd, hm', hret, hn]
  first | (intro acts; rw [hr _ acts rfl rfl rfl]) | rw [hr _ _ rfl rfl rfl]
  exact Steps.refl _
theorem W.retA (X : Stand p l e R s m args below meth c T locs cells slots) (hx : p.tables.exec = Jvm.exec) (hlk : meth.locks = false) {t : FieldType} (hret : meth.sig.returnType = some t) (ht : t.isReference = true) {pc : Nat} {Ls : Array Slot} {w : Value} (hw : w.isRef = true) {rest : List Value} (hd : decode c.code pc = .ok (.areturn, 1))
    {Q : Option Value → Heap → List Loc → Prop} {rc rs : Nat} (hc : cells ≤ rc) (hs : slots ≤ rs) (eT : T.heap = h) (hQ : Q (some w) h locs) : W p e below (Fin s Q rc rs) (T.setTop (mkF m pc Ls (w :: rest))) := by
  obtain ⟨fs, hr, hrun, hended, hW, hsame⟩ := X.leave (v := some w) (fun h => by rw [hret] at h; cases h) hlk
  subst eT
  refine ⟨_, _, ?_, hrun, hended, _, _, rfl, hQ, ⟨_, rfl⟩, hW, hsame.mono hc hs⟩
  have hm' : T.vm.method? m = some meth := X.method'
  rcases ref_cases hw with rfl | ⟨z, rfl⟩
  all_goals
    show Steps p.tables e below (T.setTop { method := m, pc := pc, locals := Ls, stack := _ :: rest, locked := none }) _
    jvm_step X.here [X.here.top, hx, hd, hm', hret, ht, Value.isRef]
    first | (intro acts; rw [hr _ acts rfl rfl rfl]) | rw [hr _ _ rfl rfl rfl]
    exact Steps.refl _
theorem W.retV (X : Stand p l e R s m args below meth c T locs cells slots) (hx : p.tables.exec = Jvm.exec) (hlk : meth.locks = false) (hret : meth.sig.returnType = none) {pc : Nat} {Ls : Array Slot} (hd : decode c.code pc = .ok (.return_, 1))
    {Q : Option Value → Heap → List Loc → Prop} {rc rs : Nat} (hc : cells ≤ rc) (hs : slots ≤ rs) (eT : T.heap = h) (hQ : Q none h locs) : W p e below (Fin s Q rc rs) (T.setTop (mkF m pc Ls [])) := by
  obtain ⟨fs, hr, hrun, hended, hW, hsame⟩ := X.leave (v := none) (fun _ => rfl) hlk
  subst eT
  exact ⟨_, _, X.returnOut hx hret hd hr, hrun, hended, _, _, rfl, hQ, ⟨_, rfl⟩, hW, hsame.mono hc hs⟩
section Calls
variable {y y0 : MethodName} {bytes : ByteArray} {maxL W0 : Nat} {ret : Option FieldType} {rm : Room} {as' : Array Value} {Q : Option Value → Heap → List Loc → Prop} {own : String} {index : Nat} {sig : MethodDescriptor} {g : JFrame} {argsL rest : List Value} {F : Outcome → State → Prop}
theorem Ctr.back {len : Nat} (hM : Ctr l Z y bytes maxL ret rm as' h Q) (hZ : Z.Warmed39 s.vm) (wc : (Jvm.Cond.code y bytes maxL ret).before a0 Z = true) (wz : (Jvm.Cond.initialized y.cls).before a0 Z = true) (hf : rm.frames + 1 ≤ R.frames) (hl : W0 + (maxL + 11) + rm.locals ≤ R.locals) :
    Back l R p e below s args y len W0 (fun A a => a = as' ∧ A.U.heap = h ∧ A.cells + rm.cells ≤ R.cells ∧ A.slots + rm.slots ≤ R.slots)
      (fun A _ v B => ∃ L, Q v B.U.heap L ∧ B.locs = A.locs ++ L ∧ B.cells = A.cells + rm.cells ∧ B.slots = A.slots + rm.slots) := backOf (hM []) hZ wc wz hf hl
/-- a static call by its contract -/
theorem W.callS (X : Stand p l e R s m args below meth c T locs cells slots) (hx : p.tables.exec = Jvm.exec) (hZ : Z.Warmed39 s.vm) (hown : s.vm.findClass own = some m.cls) (hml : g.locals.size = c.maxLocals)
    (w1 : (Jvm.Cond.methodLink own index y).before a0 Z = true) (w2 : (Jvm.Cond.static y).before a0 Z = true) (w3 : (Jvm.Cond.initialized y.cls).before a0 Z = true) (w4 : (Jvm.Cond.code y bytes maxL ret).before a0 Z = true) (eT : T.heap = h)
    (hM : Ctr l Z y bytes maxL ret rm as' h Q) (hy : y.cls ≠ "java/lang/invoke/MethodHandle" ∧ y.cls ≠ "java/lang/invoke/VarHandle") (pd : parseMethodDescriptor y.desc = some sig) (hg : g.method = m) (has : argsL.toArray = as') (hlen : argsL.length = sig.parameters.length)
    (hst : g.stack = argsL.reverse ++ rest) (hd : decode c.code g.pc = .ok (.invokestatic index, 3)) (hW : 2 * g.monitorRoom + (rest.map fun v => v.category).sum = W0) (hf : rm.frames + 1 ≤ R.frames) (hl : W0 + (maxL + 11) + rm.locals ≤ R.locals) (hc : cells + rm.cells ≤ R.cells) (hs : slots + rm.slots ≤ R.slots)
    (k : ∀ v T' h' L, Stand p l e R s m args below meth c T' (locs ++ L) (cells + rm.cells) (slots + rm.slots) → T'.heap = h' → Q v h' L → W p e below F (T'.setTop { g with pc := g.pc + 3, stack := v.toList ++ rest })) : W p e below F (T.setTop g) := by
  obtain ⟨v, _, ⟨T', L', k', n'⟩, -, X', ⟨L, hQ, e1, e2, e3⟩, st⟩ := Jvm.LawKit.callS X hx hown (mvT hZ w1) (mvT hZ w2) (mvT hZ w3) (mvT hZ w4) hy (hM.back hZ w4 w3 hf hl) hg hml (argsL := argsL) (rest := rest) (fun sg q => by cases pd.symm.trans q; exact hlen) hst (Nat.le_of_eq hW) hd (fun _ _ => ⟨has, eT, hc, hs⟩)
  dsimp only [Pt.U, Pt.locs, Pt.cells, Pt.slots] at X' e1 e2 e3 hQ st
  subst e1 e2 e3
  exact W.go st (k v T' _ L X' rfl hQ)
/-- a constructor, whoever pays it -/
theorem W.callIK {kc ks : Nat} (X : Stand p l e R s m args below meth c T locs cells slots) (hx : p.tables.exec = Jvm.exec) (hZ : Z.Warmed39 s.vm) (hown : s.vm.findClass own = some m.cls) (hml : g.locals.size = c.maxLocals)
    (w1 : (Jvm.Cond.methodLink own index y).before a0 Z = true) (w2 : (Jvm.Cond.instanceMethod y).before a0 Z = true) (w4 : (Jvm.Cond.code y bytes maxL none).before a0 Z = true) (eT : T.heap = h)
    (hK : Back l R p e below s args y 3 W0 (fun A a => a = as' ∧ A.U.heap = h ∧ A.cells + kc ≤ R.cells ∧ A.slots + ks ≤ R.slots) (fun A _ v B => ∃ L, Q v B.U.heap L ∧ B.locs = A.locs ++ L ∧ B.cells = A.cells + kc ∧ B.slots = A.slots + ks)) (hn : y.name = "<init>") (hy : y.cls ≠ "java/lang/invoke/MethodHandle" ∧ y.cls ≠ "java/lang/invoke/VarHandle") (pd : parseMethodDescriptor y.desc = some sig) (hg : g.method = m) {b : Addr} (has : (Value.ref b :: argsL).toArray = as') (hlen : argsL.length = sig.parameters.length)
    (hst : g.stack = argsL.reverse ++ .ref b :: rest) (hd : decode c.code g.pc = .ok (.invokespecial index, 3)) (hW : 2 * g.monitorRoom + (rest.map fun v => v.category).sum = W0) (hc : cells + kc ≤ R.cells) (hs : slots + ks ≤ R.slots)
    (k : ∀ v T' h' L, Stand p l e R s m args below meth c T' (locs ++ L) (cells + kc) (slots + ks) → T'.heap = h' → Q v h' L → W p e below F (T'.setTop { g with pc := g.pc + 3, stack := v.toList ++ rest })) : W p e below F (T.setTop g) := by
  obtain ⟨v, _, ⟨T', L', k', n'⟩, -, X', ⟨L, hQ, e1, e2, e3⟩, st⟩ := X.specialBack hx hn hown (mvT hZ w1) (mvT hZ w2) (mvT hZ w4) hy hK hg hml (Steps.refl _) (a := b) (argsL := argsL) (rest := rest) (fun sg q => by cases pd.symm.trans q; exact hlen) hst (Nat.le_of_eq hW) hd (fun _ _ => ⟨has, eT, hc, hs⟩)
  dsimp only [Pt.U, Pt.locs, Pt.cells, Pt.slots] at X' e1 e2 e3 hQ st
  subst e1 e2 e3
  exact W.via st (k v T' _ L X' rfl hQ)
/-- a constructor by its contract -/
theorem W.callI (X : Stand p l e R s m args below meth c T locs cells slots) (hx : p.tables.exec = Jvm.exec) (hZ : Z.Warmed39 s.vm) (hown : s.vm.findClass own = some m.cls) (hml : g.locals.size = c.maxLocals)
    (w1 : (Jvm.Cond.methodLink own index y).before a0 Z = true) (w2 : (Jvm.Cond.instanceMethod y).before a0 Z = true) (w3 : (Jvm.Cond.initialized y.cls).before a0 Z = true) (w4 : (Jvm.Cond.code y bytes maxL none).before a0 Z = true) (eT : T.heap = h)
    (hM : Ctr l Z y bytes maxL none rm as' h Q) (hn : y.name = "<init>") (hy : y.cls ≠ "java/lang/invoke/MethodHandle" ∧ y.cls ≠ "java/lang/invoke/VarHandle") (pd : parseMethodDescriptor y.desc = some sig) (hg : g.method = m) {b : Addr} (has : (Value.ref b :: argsL).toArray = as') (hlen : argsL.length = sig.parameters.length)
    (hst : g.stack = argsL.reverse ++ .ref b :: rest) (hd : decode c.code g.pc = .ok (.invokespecial index, 3)) (hW : 2 * g.monitorRoom + (rest.map fun v => v.category).sum = W0) (hf : rm.frames + 1 ≤ R.frames) (hl : W0 + (maxL + 11) + rm.locals ≤ R.locals) (hc : cells + rm.cells ≤ R.cells) (hs : slots + rm.slots ≤ R.slots)
    (k : ∀ v T' h' L, Stand p l e R s m args below meth c T' (locs ++ L) (cells + rm.cells) (slots + rm.slots) → T'.heap = h' → Q v h' L → W p e below F (T'.setTop { g with pc := g.pc + 3, stack := v.toList ++ rest })) : W p e below F (T.setTop g) := by
  obtain ⟨v, _, ⟨T', L', k', n'⟩, -, X', ⟨L, hQ, e1, e2, e3⟩, st⟩ := X.specialBack hx hn hown (mvT hZ w1) (mvT hZ w2) (mvT hZ w4) hy (hM.back hZ w4 w3 hf hl) hg hml (Steps.refl _) (a := b) (argsL := argsL) (rest := rest) (fun sg q => by cases pd.symm.trans q; exact hlen) hst (Nat.le_of_eq hW) hd (fun _ _ => ⟨has, eT, hc, hs⟩)
  dsimp only [Pt.U, Pt.locs, Pt.cells, Pt.slots] at X' e1 e2 e3 hQ st
  subst e1 e2 e3
  exact W.via st (k v T' _ L X' rfl hQ)
/-- an instance method, whoever pays it -/
theorem W.callVK {kc ks : Nat} {C : String} (X : Stand p l e R s m args below meth c T locs cells slots) (hx : p.tables.exec = Jvm.exec) (hZ : Z.Warmed39 s.vm) (hown : s.vm.findClass own = some m.cls) (hml : g.locals.size = c.maxLocals)
    (w1 : (Jvm.Cond.methodLink own index y0).before a0 Z = true) (w5 : (Jvm.Cond.declares y0).before a0 Z = true) (w6 : (Jvm.Cond.selects C y0 y).before a0 Z = true) (w2 : (Jvm.Cond.instanceMethod y).before a0 Z = true) (eT : T.heap = h)
    (hK : Back l R p e below s args y 3 W0 (fun A a => a = as' ∧ A.U.heap = h ∧ A.cells + kc ≤ R.cells ∧ A.slots + ks ≤ R.slots) (fun A _ v B => ∃ L, Q v B.U.heap L ∧ B.locs = A.locs ++ L ∧ B.cells = A.cells + kc ∧ B.slots = A.slots + ks)) (hnf : NotFace s y0) (hy : y0.cls ≠ "java/lang/invoke/MethodHandle" ∧ y0.cls ≠ "java/lang/invoke/VarHandle") (pd : parseMethodDescriptor y0.desc = some sig) (hg : g.method = m) {b : Addr} (E : Exa Z h b C) (has : (Value.ref b :: argsL).toArray = as') (hlen : argsL.length = sig.parameters.length)
    (hst : g.stack = argsL.reverse ++ .ref b :: rest) (hd : decode c.code g.pc = .ok (.invokevirtual index, 3)) (hW : 2 * g.monitorRoom + (rest.map fun v => v.category).sum = W0) (hc : cells + kc ≤ R.cells) (hs : slots + ks ≤ R.slots)
    (k : ∀ v T' h' L, Stand p l e R s m args below meth c T' (locs ++ L) (cells + kc) (slots + ks) → T'.heap = h' → Q v h' L → W p e below F (T'.setTop { g with pc := g.pc + 3, stack := v.toList ++ rest })) : W p e below F (T.setTop g) := by
  obtain ⟨cq, kq, qa, qb, qc⟩ := isOf hZ eT E
  obtain ⟨v, _, ⟨T', L', k', n'⟩, -, X', ⟨L, hQ, e1, e2, e3⟩, st⟩ := X.virtualBack hx hown (mvT hZ w1) (mvT hZ w5) hnf (mvT hZ w6) (mvT hZ w2) hy hK qa qc hg hml (Steps.refl _) (argsL := argsL) (rest := rest) (fun sg q => by cases pd.symm.trans q; exact hlen) hst (Nat.le_of_eq hW) hd (fun _ _ => ⟨has, eT, hc, hs⟩)
  dsimp only [Pt.U, Pt.locs, Pt.cells, Pt.slots] at X' e1 e2 e3 hQ st
  subst e1 e2 e3
  exact W.via st (k v T' _ L X' rfl hQ)
/-- an instance method by its contract -/
theorem W.callV {C : String} (X : Stand p l e R s m args below meth c T locs cells slots) (hx : p.tables.exec = Jvm.exec) (hZ : Z.Warmed39 s.vm) (hown : s.vm.findClass own = some m.cls) (hml : g.locals.size = c.maxLocals)
    (w1 : (Jvm.Cond.methodLink own index y0).before a0 Z = true) (w5 : (Jvm.Cond.declares y0).before a0 Z = true) (w6 : (Jvm.Cond.selects C y0 y).before a0 Z = true) (w2 : (Jvm.Cond.instanceMethod y).before a0 Z = true) (w3 : (Jvm.Cond.initialized y.cls).before a0 Z = true) (w4 : (Jvm.Cond.code y bytes maxL ret).before a0 Z = true) (eT : T.heap = h)
    (hM : Ctr l Z y bytes maxL ret rm as' h Q) (hnf : NotFace s y0) (hy : y0.cls ≠ "java/lang/invoke/MethodHandle" ∧ y0.cls ≠ "java/lang/invoke/VarHandle") (pd : parseMethodDescriptor y0.desc = some sig) (hg : g.method = m) {b : Addr} (E : Exa Z h b C) (has : (Value.ref b :: argsL).toArray = as') (hlen : argsL.length = sig.parameters.length)
    (hst : g.stack = argsL.reverse ++ .ref b :: rest) (hd : decode c.code g.pc = .ok (.invokevirtual index, 3)) (hW : 2 * g.monitorRoom + (rest.map fun v => v.category).sum = W0) (hf : rm.frames + 1 ≤ R.frames) (hl : W0 + (maxL + 11) + rm.locals ≤ R.locals) (hc : cells + rm.cells ≤ R.cells) (hs : slots + rm.slots ≤ R.slots)
    (k : ∀ v T' h' L, Stand p l e R s m args below meth c T' (locs ++ L) (cells + rm.cells) (slots + rm.slots) → T'.heap = h' → Q v h' L → W p e below F (T'.setTop { g with pc := g.pc + 3, stack := v.toList ++ rest })) : W p e below F (T.setTop g) := by
  obtain ⟨cq, kq, qa, qb, qc⟩ := isOf hZ eT E
  obtain ⟨v, _, ⟨T', L', k', n'⟩, -, X', ⟨L, hQ, e1, e2, e3⟩, st⟩ := X.virtualBack hx hown (mvT hZ w1) (mvT hZ w5) hnf (mvT hZ w6) (mvT hZ w2) hy (hM.back hZ w4 w3 hf hl) qa qc hg hml (Steps.refl _) (argsL := argsL) (rest := rest) (fun sg q => by cases pd.symm.trans q; exact hlen) hst (Nat.le_of_eq hW) hd (fun _ _ => ⟨has, eT, hc, hs⟩)
  dsimp only [Pt.U, Pt.locs, Pt.cells, Pt.slots] at X' e1 e2 e3 hQ st
  subst e1 e2 e3
  exact W.via st (k v T' _ L X' rfl hQ)
/-- the same, the method declared further up -/
theorem W.callU {C owner : String} (X : Stand p l e R s m args below meth c T locs cells slots) (hx : p.tables.exec = Jvm.exec) (hZ : Z.Warmed39 s.vm) (hown : s.vm.findClass own = some m.cls) (hml : g.locals.size = c.maxLocals)
    (w1 : (Jvm.Cond.methodLink own index y0).before a0 Z = true) (w7 : (Jvm.Cond.sameMethod y0.cls owner y0.name y0.desc).before a0 Z = true) (w5 : (Jvm.Cond.declares ⟨owner, y0.name, y0.desc⟩).before a0 Z = true) (w6 : (Jvm.Cond.selects C y0 y).before a0 Z = true) (w2 : (Jvm.Cond.instanceMethod y).before a0 Z = true) (w3 : (Jvm.Cond.initialized y.cls).before a0 Z = true) (w4 : (Jvm.Cond.code y bytes maxL ret).before a0 Z = true) (eT : T.heap = h)
    (hM : Ctr l Z y bytes maxL ret rm as' h Q) (hy : owner ≠ "java/lang/invoke/MethodHandle" ∧ owner ≠ "java/lang/invoke/VarHandle") (pd : parseMethodDescriptor y0.desc = some sig) (hg : g.method = m) {b : Addr} (E : Exa Z h b C) (has : (Value.ref b :: argsL).toArray = as') (hlen : argsL.length = sig.parameters.length)
    (hst : g.stack = argsL.reverse ++ .ref b :: rest) (hd : decode c.code g.pc = .ok (.invokevirtual index, 3)) (hW : 2 * g.monitorRoom + (rest.map fun v => v.category).sum = W0) (hf : rm.frames + 1 ≤ R.frames) (hl : W0 + (maxL + 11) + rm.locals ≤ R.locals) (hc : cells + rm.cells ≤ R.cells) (hs : slots + rm.slots ≤ R.slots)
    (k : ∀ v T' h' L, Stand p l e R s m args below meth c T' (locs ++ L) (cells + rm.cells) (slots + rm.slots) → T'.heap = h' → Q v h' L → W p e below F (T'.setTop { g with pc := g.pc + 3, stack := v.toList ++ rest })) : W p e below F (T.setTop g) := by
  obtain ⟨cq, kq, qa, qb, qc⟩ := isOf hZ eT E
  obtain ⟨v, _, ⟨T', L', k', n'⟩, -, X', ⟨L, hQ, e1, e2, e3⟩, st⟩ := X.virtualBackUp hx hown (mvT hZ w1) (mvT hZ w7) (mvT hZ w5) hy (mvT hZ w6) (mvT hZ w2) (hM.back hZ w4 w3 hf hl) qa qc hg hml (Steps.refl _) (argsL := argsL) (rest := rest) (fun sg q => by cases pd.symm.trans q; exact hlen) hst (Nat.le_of_eq hW) hd (fun _ _ => ⟨has, eT, hc, hs⟩)
  dsimp only [Pt.U, Pt.locs, Pt.cells, Pt.slots] at X' e1 e2 e3 hQ st
  subst e1 e2 e3
  exact W.via st (k v T' _ L X' rfl hQ)
/-- a method that lands in a default of an interface -/
theorem W.callD {C owner : String} (X : Stand p l e R s m args below meth c T locs cells slots) (hx : p.tables.exec = Jvm.exec) (hZ : Z.Warmed39 s.vm) (hown : s.vm.findClass own = some m.cls) (hml : g.locals.size = c.maxLocals)
    (w1 : (Jvm.Cond.methodLink own index y0).before a0 Z = true) (w7 : (Jvm.Cond.sameMethod y0.cls owner y0.name y0.desc).before a0 Z = true) (w5 : (Jvm.Cond.declares ⟨owner, y0.name, y0.desc⟩).before a0 Z = true) (w6 : (Jvm.Cond.landsInDefault C y0 y).before a0 Z = true) (w2 : (Jvm.Cond.instanceMethod y).before a0 Z = true) (w3 : (Jvm.Cond.initialized y.cls).before a0 Z = true) (w4 : (Jvm.Cond.code y bytes maxL ret).before a0 Z = true) (eT : T.heap = h)
    (hM : Ctr l Z y bytes maxL ret rm as' h Q) (hy : owner ≠ "java/lang/invoke/MethodHandle" ∧ owner ≠ "java/lang/invoke/VarHandle") (pd : parseMethodDescriptor y0.desc = some sig) (hg : g.method = m) {b : Addr} (E : Exa Z h b C) (has : (Value.ref b :: argsL).toArray = as') (hlen : argsL.length = sig.parameters.length)
    (hst : g.stack = argsL.reverse ++ .ref b :: rest) (hd : decode c.code g.pc = .ok (.invokevirtual index, 3)) (hW : 2 * g.monitorRoom + (rest.map fun v => v.category).sum = W0) (hf : rm.frames + 1 ≤ R.frames) (hl : W0 + (maxL + 11) + rm.locals ≤ R.locals) (hc : cells + rm.cells ≤ R.cells) (hs : slots + rm.slots ≤ R.slots)
    (k : ∀ v T' h' L, Stand p l e R s m args below meth c T' (locs ++ L) (cells + rm.cells) (slots + rm.slots) → T'.heap = h' → Q v h' L → W p e below F (T'.setTop { g with pc := g.pc + 3, stack := v.toList ++ rest })) : W p e below F (T.setTop g) := by
  obtain ⟨cq, kq, qa, qb, qc⟩ := isOf hZ eT E
  obtain ⟨v, _, ⟨T', L', k', n'⟩, -, X', ⟨L, hQ, e1, e2, e3⟩, st⟩ := X.virtualBackUpD hx hown (mvT hZ w1) (mvT hZ w7) (mvT hZ w5) hy (mvD hZ w6) (mvT hZ w2) (hM.back hZ w4 w3 hf hl) qa qc hg hml (Steps.refl _) (argsL := argsL) (rest := rest) (fun sg q => by cases pd.symm.trans q; exact hlen) hst (Nat.le_of_eq hW) hd (fun _ _ => ⟨has, eT, hc, hs⟩)
  dsimp only [Pt.U, Pt.locs, Pt.cells, Pt.slots] at X' e1 e2 e3 hQ st
  subst e1 e2 e3
  exact W.via st (k v T' _ L X' rfl hQ)
/-- a call through an interface -/
theorem W.callF {C : String} {count : Nat} (X : Stand p l e R s m args below meth c T locs cells slots) (hx : p.tables.exec = Jvm.exec) (hZ : Z.Warmed39 s.vm) (hown : s.vm.findClass own = some m.cls) (hml : g.locals.size = c.maxLocals)
    (w1 : (Jvm.Cond.methodLink own index y0).before a0 Z = true) (w5 : (Jvm.Cond.declares y0).before a0 Z = true) (w7 : (Jvm.Cond.interfaceMethod y0.cls y0.cls y0.name y0.desc).before args s = true) (w6 : (Jvm.Cond.selects C y0 y).before a0 Z = true) (w2 : (Jvm.Cond.instanceMethod y).before a0 Z = true) (w8 : (Jvm.Cond.publicMethod y).before a0 Z = true) (w9 : (Jvm.Cond.unhidden C y0.name y0.desc).before a0 Z = true) (w10 : (Jvm.Cond.castable C y0.cls).before a0 Z = true) (w3 : (Jvm.Cond.initialized y.cls).before a0 Z = true) (w4 : (Jvm.Cond.code y bytes maxL ret).before a0 Z = true) (eT : T.heap = h)
    (hM : Ctr l Z y bytes maxL ret rm as' h Q) (hy : y0.cls ≠ "java/lang/invoke/MethodHandle" ∧ y0.cls ≠ "java/lang/invoke/VarHandle") (pd : parseMethodDescriptor y0.desc = some sig) (hg : g.method = m) {b : Addr} (E : Exa Z h b C) (has : (Value.ref b :: argsL).toArray = as') (hlen : argsL.length = sig.parameters.length)
    (hst : g.stack = argsL.reverse ++ .ref b :: rest) (hd : decode c.code g.pc = .ok (.invokeinterface index count, 5)) (hW : 2 * g.monitorRoom + (rest.map fun v => v.category).sum = W0) (hf : rm.frames + 1 ≤ R.frames) (hl : W0 + (maxL + 11) + rm.locals ≤ R.locals) (hc : cells + rm.cells ≤ R.cells) (hs : slots + rm.slots ≤ R.slots)
    (k : ∀ v T' h' L, Stand p l e R s m args below meth c T' (locs ++ L) (cells + rm.cells) (slots + rm.slots) → T'.heap = h' → Q v h' L → W p e below F (T'.setTop { g with pc := g.pc + 5, stack := v.toList ++ rest })) : W p e below F (T.setTop g) := by
  obtain ⟨cq, kq, qa, qb, qc⟩ := isOf hZ eT E
  obtain ⟨v, _, ⟨T', L', k', n'⟩, -, X', ⟨L, hQ, e1, e2, e3⟩, st⟩ := X.interfaceBack hx hown (mvT hZ w1) (mvT hZ w5) w7 (mvT hZ w6) (mvT hZ w2) (mvT hZ w8) (mvT hZ w9) (mvT hZ w10) hy (hM.back hZ w4 w3 hf hl) qa qb qc hg hml (Steps.refl _) (argsL := argsL) (rest := rest) (fun sg q => by cases pd.symm.trans q; exact hlen) hst (Nat.le_of_eq hW) hd (fun _ _ => ⟨has, eT, hc, hs⟩)
  dsimp only [Pt.U, Pt.locs, Pt.cells, Pt.slots] at X' e1 e2 e3 hQ st
  subst e1 e2 e3
  exact W.via st (k v T' _ L X' rfl hQ)
/-- super.m(..) -/
theorem W.callSup {K : String} (X : Stand p l e R s m args below meth c T locs cells slots) (hx : p.tables.exec = Jvm.exec) (hZ : Z.Warmed39 s.vm) (hown : s.vm.findClass own = some m.cls) (hml : g.locals.size = c.maxLocals)
    (w1 : (Jvm.Cond.methodLink own index y).before a0 Z = true) (w5 : (Jvm.Cond.sameMethod y.cls y.cls y.name y.desc).before a0 Z = true) (w2 : (Jvm.Cond.instanceMethod y).before a0 Z = true) (w6 : (Jvm.Cond.superclass own y.cls).before a0 Z = true) (w3 : (Jvm.Cond.initialized y.cls).before a0 Z = true) (w4 : (Jvm.Cond.code y bytes maxL ret).before a0 Z = true) (eT : T.heap = h)
    (hM : Ctr l Z y bytes maxL ret rm as' h Q) (hn : y.name ≠ "<init>") (pd : parseMethodDescriptor y.desc = some sig) (hg : g.method = m) {b : Addr} (E : Exa Z h b K) (has : (Value.ref b :: argsL).toArray = as') (hlen : argsL.length = sig.parameters.length)
    (hst : g.stack = argsL.reverse ++ .ref b :: rest) (hd : decode c.code g.pc = .ok (.invokespecial index, 3)) (hW : 2 * g.monitorRoom + (rest.map fun v => v.category).sum = W0) (hf : rm.frames + 1 ≤ R.frames) (hl : W0 + (maxL + 11) + rm.locals ≤ R.locals) (hc : cells + rm.cells ≤ R.cells) (hs : slots + rm.slots ≤ R.slots)
    (k : ∀ v T' h' L, Stand p l e R s m args below meth c T' (locs ++ L) (cells + rm.cells) (slots + rm.slots) → T'.heap = h' → Q v h' L → W p e below F (T'.setTop { g with pc := g.pc + 3, stack := v.toList ++ rest })) : W p e below F (T.setTop g) := by
  obtain ⟨v, _, ⟨T', L', k', n'⟩, -, X', ⟨L, hQ, e1, e2, e3⟩, st⟩ := superBack X hx hZ hown w1 w5 w2 w6 hn (hM.back hZ w4 w3 hf hl) eT (Ins.self E) hg hml w4 (argsL := argsL) (rest := rest) (fun sg q => by cases pd.symm.trans q; exact hlen) hst (Nat.le_of_eq hW) hd (fun _ _ => ⟨has, eT, hc, hs⟩)
  dsimp only [Pt.U, Pt.locs, Pt.cells, Pt.slots] at X' e1 e2 e3 hQ st
  subst e1 e2 e3
  exact W.via st (k v T' _ L X' rfl hQ)
theorem nfOf {C : String} {x z : MethodName} (w6 : (Jvm.Cond.selects C x z).before args s = true) (hz : z.cls = y.cls) : NotFace s y := fun r0 h0 => by
  obtain ⟨c1, r1, m1, -, -, hm, -, kP, hkP, hni⟩ := Cond.selects_spec w6
  have hc := findClass_of_methodNamed h0
  have hc2 := findClass_of_methodNamed hm
  rw [hz] at hc2
  have q : r0.cls = m1.cls := Option.some.inj (hc.symm.trans hc2)
  exact ⟨kP, by rw [q]; exact hkP, hni⟩
/-- a class that declares a method finds it; that she is no interface is read off a 'selects' word that ends in her -/
theorem sameDecl {C : String} {x z : MethodName} (w5 : (Jvm.Cond.declares y).before a0 Z = true) (w6 : (Jvm.Cond.selects C x z).before a0 Z = true) (hz : z.cls = y.cls) (hy : y.cls ≠ "java/lang/invoke/MethodHandle" ∧ y.cls ≠ "java/lang/invoke/VarHandle") : (Jvm.Cond.sameMethod y.cls y.cls y.name y.desc).before a0 Z = true := by
  obtain ⟨r0, r, hn, hrm, -, -⟩ := Cond.declares_spec w5
  have hf : Z.methodFound? y.cls y.name y.desc = some r0 := State.methodFound?_of_named hn hy
  have hc := findClass_of_methodNamed hn
  obtain ⟨c1, r1, m1, -, -, hm, -, kP, hkP, hni⟩ := Cond.selects_spec w6
  have hc2 := findClass_of_methodNamed hm
  rw [hz] at hc2
  have q : r0.cls = m1.cls := Option.some.inj (hc.symm.trans hc2)
  have hn' : Z.methodNamed? ⟨y.cls, y.name, y.desc⟩ = some r0 := hn
  have hk : Z.vm.classes[r0.cls]? = some kP := by rw [q]; exact hkP
  simp [Jvm.Cond.before, Jvm.Cond.holds, Jvm.Cond.value, hc, hf, hn', hk, hni]
/-- a private method by its contract -/
theorem W.callP {cell : Cell} {n : Nat} (X : Stand p l e R s m args below meth c T locs cells slots) (hx : p.tables.exec = Jvm.exec) (hZ : Z.Warmed39 s.vm) (hown : s.vm.findClass own = some m.cls) (hml : g.locals.size = c.maxLocals)
    (w1 : (Jvm.Cond.methodLink own index y).before a0 Z = true) (w5 : (Jvm.Cond.privateMethod y).before a0 Z = true) (w6 : (Jvm.Cond.selects y.cls y y).before args s = true) (w2 : (Jvm.Cond.instanceMethod y).before a0 Z = true) (w3 : (Jvm.Cond.initialized y.cls).before a0 Z = true) (w4 : (Jvm.Cond.code y bytes maxL ret).before a0 Z = true) (eT : T.heap = h)
    (hM : Ctr l Z y bytes maxL ret rm as' h Q) (hy : y.cls ≠ "java/lang/invoke/MethodHandle" ∧ y.cls ≠ "java/lang/invoke/VarHandle") (pd : parseMethodDescriptor y.desc = some sig) (hg : g.method = m) {b : Addr} {C : String} (E : Exa Z h b C) (has : (Value.ref b :: argsL).toArray = as') (hlen : argsL.length = sig.parameters.length)
    (hst : g.stack = argsL.reverse ++ .ref b :: rest) (hd : decode c.code g.pc = .ok (.invokevirtual index, 3)) (hW : 2 * g.monitorRoom + (rest.map fun v => v.category).sum = W0) (hf : rm.frames + 1 ≤ R.frames) (hl : W0 + (maxL + 11) + rm.locals ≤ R.locals) (hc : cells + rm.cells ≤ R.cells) (hs : slots + rm.slots ≤ R.slots)
    (k : ∀ v T' h' L, Stand p l e R s m args below meth c T' (locs ++ L) (cells + rm.cells) (slots + rm.slots) → T'.heap = h' → Q v h' L → W p e below F (T'.setTop { g with pc := g.pc + 3, stack := v.toList ++ rest })) : W p e below F (T.setTop g) := by
  obtain ⟨cq, q1, q2⟩ := E.cell
  obtain ⟨v, _, ⟨T', L', k', n'⟩, -, X', ⟨L, hQ, e1, e2, e3⟩, st⟩ := X.privateBack hx hown (mvT hZ w1) (mvT hZ w2) w6 (Cond.privateMethod_at (mvP hZ w5 (args := #[]))) (mvT hZ w4) hy (hM.back hZ w4 w3 hf hl) hg hml (Steps.refl _) (a := b) (by rw [eT]; exact q1) q2 (argsL := argsL) (rest := rest) (fun sg q => by cases pd.symm.trans q; exact hlen) hst (Nat.le_of_eq hW) hd (fun _ _ => ⟨has, eT, hc, hs⟩)
  dsimp only [Pt.U, Pt.locs, Pt.cells, Pt.slots] at X' e1 e2 e3 hQ st
  subst e1 e2 e3
  exact W.via st (k v T' _ L X' rfl hQ)
/-- 'selects' of a private method -/
theorem selPriv {n : Nat} (hZ : Z.Warmed39 s.vm) (wi : (Jvm.Cond.instantiable y.cls n).before a0 Z = true) (w5 : (Jvm.Cond.privateMethod y).before a0 Z = true) (w2 : (Jvm.Cond.instanceMethod y).before a0 Z = true) (hy : y.cls ≠ "java/lang/invoke/MethodHandle" ∧ y.cls ≠ "java/lang/invoke/VarHandle") : (Jvm.Cond.selects y.cls y y).before args s = true := by
  obtain ⟨c2, k2, i1, i2, -, i4, -⟩ := Cond.instantiable_spec (mvT (args := args) hZ wi)
  exact selects_self_of_private i1 i2 (Bool.or_eq_false_iff.mp i4).1 (Cond.privateMethod_at (mvP hZ w5 (args := #[]))) (mvT hZ w2) hy
end Calls
theorem Sta.keep {h' : Heap} {C n d : String} {v : Value} {ws : List Addr} (F : Sta Z h C n d v) (K : Keep h h' ws) (hw : ∀ x ∈ ws, ∀ cell : Cell, h[x]? = some cell → cell.vm.isStatics = false) : Sta Z h' C n d v := by
  obtain ⟨cf, i, k, f, st, cell, h1, h2, h3, h4, h5, h6, h7⟩ := F
  refine ⟨cf, i, k, f, st, cell, h1, h2, h3, h4, K.2.1 st cell h5 fun hm => ?_, h6, h7⟩
  rw [hw st hm cell h5] at h6; cases h6
theorem eqI_v {t : Term} {k : Int32} {first : State} {o : Option Outcome} {idx : List Nat} (hk : (Jvm.Cond.eq t (.int k)).value args first o s idx = some true) : t.eval args first o idx s = some (.int k) := by
  simp only [Jvm.Cond.value, Term.eval] at hk
  cases ht : t.eval args first o idx s with
  | none => simp [ht] at hk
  | some x => cases x <;> simp [ht] at hk ⊢; exact hk
theorem lenI_v {t : Term} {a : Addr} {cl : Cell} {ty : FieldType} {k : Int32} (A : Arr s s.heap a cl ty) (ev : t.eval args s none [] s = some (.ref a)) (hk : (Jvm.Cond.eq (.length t) (.int k)).value args s none s [] = some true) : cl.slots.size < 2 ^ 31 ∧ cl.slots.size.toInt32 = k := by
  have q := eqI_v hk
  have r : s.arrayAt? a = some cl := A.fin (Vm.Alike.refl _)
  simp only [Term.eval, ev, r, Option.bind_eq_bind, Option.bind_some] at q
  split at q
  · rename_i z; cases q; exact ⟨z, rfl⟩
  · cases q
theorem rngM (x n : Int32) (hn : 0 < n.toInt) : 0 ≤ ((x &&& 2147483647) % n).toInt ∧ ((x &&& 2147483647) % n).toInt < n.toInt := by
  have q := c_mask x 2147483647 31 (by decide) (by decide)
  have q0 : 0 ≤ (x &&& 2147483647).toInt := by rw [q]; exact Int.emod_nonneg _ (by decide)
  have r := (c_iremV (x &&& 2147483647) n).1 q0 hn
  exact ⟨r.1, r.2.1⟩
end Own
end Jvm.OwnKit
namespace Jvm.Pilot.@@N@@
open Jvm Jvm.ClassFile Sem Op Lib Jvm.Free Jvm.Stand Jvm.LawKit Jvm.RoadKit Bundle Jvm.OwnKit Jvm.Pilot.@@N@@.Jvm.D
theorem own_ws : ∀ d ∈ StrChars.Road.words, d ∈ tables_1 := by decide +kernel
theorem own_c255 (x : Int32) : ¬ nar .char ((x &&& (255 : Int32)).toUInt32.toUInt16.toUInt32.toInt32) < 0 ∧ ¬ (255 : Int32) < nar .char ((x &&& (255 : Int32)).toUInt32.toUInt16.toUInt32.toInt32) := by
  rw [show nar .char ((x &&& (255 : Int32)).toUInt32.toUInt16.toUInt32.toInt32) = x &&& 255 from by simp only [nar, i2c_mask]]
  have q := c_mask x 255 8 (by decide) (by decide)
  simp only [Int32.lt_iff_toInt_lt, Int32.reduceToInt]
  omega
theorem d7_0 : decode method_2_code 0 = .ok (.iload_n 0, 1) := by decide +kernel
theorem d7_1 : decode method_2_code 1 = .ok (.ldc 7, 2) := by decide +kernel
theorem d7_3 : decode method_2_code 3 = .ok (.iand, 1) := by decide +kernel
theorem d7_4 : decode method_2_code 4 = .ok (.iconst 5, 1) := by decide +kernel
theorem d7_5 : decode method_2_code 5 = .ok (.irem, 1) := by decide +kernel
theorem d7_6 : decode method_2_code 6 = .ok (.istore_n 1, 1) := by decide +kernel
theorem d7_7 : decode method_2_code 7 = .ok (.iload_n 1, 1) := by decide +kernel
theorem d7_8 : decode method_2_code 8 = .ok (.ifCond .ne 7, 3) := by decide +kernel
theorem d7_11 : decode method_2_code 11 = .ok (.getstatic 8, 3) := by decide +kernel
theorem d7_14 : decode method_2_code 14 = .ok (.areturn, 1) := by decide +kernel
theorem d7_15 : decode method_2_code 15 = .ok (.iload_n 1, 1) := by decide +kernel
theorem d7_16 : decode method_2_code 16 = .ok (.iconst 1, 1) := by decide +kernel
theorem d7_17 : decode method_2_code 17 = .ok (.if_icmp .ne 7, 3) := by decide +kernel
theorem d7_20 : decode method_2_code 20 = .ok (.getstatic 14, 3) := by decide +kernel
theorem d7_23 : decode method_2_code 23 = .ok (.areturn, 1) := by decide +kernel
theorem d7_24 : decode method_2_code 24 = .ok (.iload_n 1, 1) := by decide +kernel
theorem d7_25 : decode method_2_code 25 = .ok (.iconst 2, 1) := by decide +kernel
theorem d7_26 : decode method_2_code 26 = .ok (.if_icmp .ne 7, 3) := by decide +kernel
theorem d7_29 : decode method_2_code 29 = .ok (.getstatic 17, 3) := by decide +kernel
theorem d7_32 : decode method_2_code 32 = .ok (.areturn, 1) := by decide +kernel
theorem d7_33 : decode method_2_code 33 = .ok (.iload_n 1, 1) := by decide +kernel
theorem d7_34 : decode method_2_code 34 = .ok (.iconst 3, 1) := by decide +kernel
theorem d7_35 : decode method_2_code 35 = .ok (.if_icmp .ne 7, 3) := by decide +kernel
theorem d7_38 : decode method_2_code 38 = .ok (.getstatic 20, 3) := by decide +kernel
theorem d7_41 : decode method_2_code 41 = .ok (.areturn, 1) := by decide +kernel
theorem d7_42 : decode method_2_code 42 = .ok (.getstatic 23, 3) := by decide +kernel
theorem d7_45 : decode method_2_code 45 = .ok (.areturn, 1) := by decide +kernel
theorem pn_com_example_facetree_facetree_model_AttributeDefinitionIsReferencePinLaw : plainName "com/example/facetree/facetree/model/AttributeDefinitionIsReferencePinLaw" = true := by first | (simp [plainName, overriddenIn]; done) | decide +kernel
def Q_rm7 (Z : State) (p0 : Int32) (w_STRING : Addr) (w_NUMBER : Addr) (w_BOOLEAN : Addr) (w_DATETIME : Addr) (w_BINARY : Addr) (h0 : Heap) (n0 : Nat) (v : Option Value) (h : Heap) (L : List Loc) : Prop := ∃ t : Addr, v = some (.ref t) ∧ Fr n0 L ∧ h = h0
set_option maxRecDepth 65536 in
set_option maxHeartbeats 40000000 in
theorem rm7 (l : Launch) (Z : State) (a0 : Array Value) (hw : ∀ d ∈ tables_1, d.before a0 Z = true) (p0 : Int32) (w_STRING : Addr) (w_NUMBER : Addr) (w_BOOLEAN : Addr) (w_DATETIME : Addr) (w_BINARY : Addr) (h0 : Heap) (n0 : Nat) (Z0 : n0 ≤ h0.size) (S_STRING : Sta Z h0 "com/example/facetree/facetree/model/AttributeType" "STRING" "Lcom/example/facetree/facetree/model/AttributeType;" (.ref w_STRING)) (S_NUMBER : Sta Z h0 "com/example/facetree/facetree/model/AttributeType" "NUMBER" "Lcom/example/facetree/facetree/model/AttributeType;" (.ref w_NUMBER)) (S_BOOLEAN : Sta Z h0 "com/example/facetree/facetree/model/AttributeType" "BOOLEAN" "Lcom/example/facetree/facetree/model/AttributeType;" (.ref w_BOOLEAN)) (S_DATETIME : Sta Z h0 "com/example/facetree/facetree/model/AttributeType" "DATETIME" "Lcom/example/facetree/facetree/model/AttributeType;" (.ref w_DATETIME)) (S_BINARY : Sta Z h0 "com/example/facetree/facetree/model/AttributeType" "BINARY" "Lcom/example/facetree/facetree/model/AttributeType;" (.ref w_BINARY)) :
    Ctr l Z (⟨"com/example/facetree/facetree/model/AttributeDefinitionIsReferencePinLaw", "pickType", "(I)Lcom/example/facetree/facetree/model/AttributeType;"⟩ : MethodName) method_2_code 2 (some (.object "com/example/facetree/facetree/model/AttributeType")) ({ frames := 0, cells := 0, slots := 0, locals := 0 } : Room) #[(.int p0)] h0 (Q_rm7 Z p0 w_STRING w_NUMBER w_BOOLEAN w_DATETIME w_BINARY h0 n0) := by
  refine Ctr.body (fr := fun m => mkF m 0 #[.val (.int p0), .unset] []) (plainFor_of_name pn_com_example_facetree_facetree_model_AttributeDefinitionIsReferencePinLaw) (fun m => by first | (simp [entryFrame, mkF, argsToLocals, Value.category]; done) | rfl) fun p e s m below meth c s₁ hx hby hml hZ hown hnm hret hlk X0 e0 => ?_
  have N0 := Fr.nil n0
  have hown : s.vm.findClass "com/example/facetree/facetree/model/AttributeDefinitionIsReferencePinLaw" = some m.cls := hown
  show W p e below _ (s₁.setTop (mkF m 0 #[.val (.int p0), .unset] []))
  refine W.go (fun _ hr => XS.iloadN X0.here hx rfl (hb hby d7_0) rfl hr) ?_
  show W p e below _ (s₁.setTop (mkF m 1 #[.val (.int p0), .unset] [(.int p0)]))
  refine W.go (X0.ldcInt hx hown (mvT hZ (hw _ (List.mem_of_getElem? (i := 34) rfl))) (g := (mkF m 1 #[.val (.int p0), .unset] [(.int p0)])) rfl (hb hby d7_1)) ?_
  show W p e below _ (s₁.setTop (mkF m 3 #[.val (.int p0), .unset] [(.int (2147483647 : Int32)), (.int p0)]))
  refine W.go (fun _ hr => XS.iand X0.here hx rfl (hb hby d7_3) rfl hr) ?_
  show W p e below _ (s₁.setTop (mkF m 4 #[.val (.int p0), .unset] [(.int (p0 &&& (2147483647 : Int32)))]))
  refine W.go (fun _ hr => XS.iconst X0.here hx rfl (hb hby d7_4) hr) ?_
  show W p e below _ (s₁.setTop (mkF m 5 #[.val (.int p0), .unset] [(.int (5 : Int32)), (.int (p0 &&& (2147483647 : Int32)))]))
  refine W.go (fun _ hr => iremM X0 hx rfl (hb hby d7_5) rfl (by decide) hr) ?_
  show W p e below _ (s₁.setTop (mkF m 6 #[.val (.int p0), .unset] [(.int ((p0 &&& (2147483647 : Int32)) % (5 : Int32)))]))
  refine W.go (fun _ hr => XS.istoreN X0.here hx rfl (hb hby d7_6) rfl (l' := #[.val (.int p0), .val (.int ((p0 &&& (2147483647 : Int32)) % (5 : Int32)))]) rfl hr) ?_
  show W p e below _ (s₁.setTop (mkF m 7 #[.val (.int p0), .val (.int ((p0 &&& (2147483647 : Int32)) % (5 : Int32)))] []))
  refine W.go (fun _ hr => XS.iloadN X0.here hx rfl (hb hby d7_7) rfl hr) ?_
  show W p e below _ (s₁.setTop (mkF m 8 #[.val (.int p0), .val (.int ((p0 &&& (2147483647 : Int32)) % (5 : Int32)))] [(.int ((p0 &&& (2147483647 : Int32)) % (5 : Int32)))]))
  by_cases hc8_1 : ((p0 &&& (2147483647 : Int32)) % (5 : Int32)) = (0 : Int32)
  · refine W.go (fun _ hr => XS.ifNo X0.here hx rfl (hb hby d7_8) rfl ((if0 _ _).trans (teq hc8_1).2) hr) ?_
    show W p e below _ (s₁.setTop (mkF m 11 #[.val (.int p0), .val (.int ((p0 &&& (2147483647 : Int32)) % (5 : Int32)))] []))
    obtain ⟨T2, X2, e2, st2⟩ := getS2 X0 hx hZ hown (host := "") (Or.inl (hw _ (List.mem_of_getElem? (i := 66) rfl))) Via.refl e0 S_STRING (g := (mkF m 11 #[.val (.int p0), .val (.int ((p0 &&& (2147483647 : Int32)) % (5 : Int32)))] [])) rfl (hb hby d7_11)
    refine W.go st2 ?_
    show W p e below _ (T2.setTop (mkF m 14 #[.val (.int p0), .val (.int ((p0 &&& (2147483647 : Int32)) % (5 : Int32)))] [(.ref w_STRING)]))
    exact W.retA X2 hx hlk hret rfl rfl (hb hby d7_14) (by decide) (by decide) e2 ⟨_, rfl, N0, rfl⟩
  · refine W.go (fun _ hr => XS.ifYes X0.here hx rfl (pc0 := 8) (pc' := 15) rfl (hb hby d7_8) rfl ((if0 _ _).trans (feq hc8_1).2) (by decide) (by decide) hr) ?_
    show W p e below _ (s₁.setTop (mkF m 15 #[.val (.int p0), .val (.int ((p0 &&& (2147483647 : Int32)) % (5 : Int32)))] []))
    refine W.go (fun _ hr => XS.iloadN X0.here hx rfl (hb hby d7_15) rfl hr) ?_
    show W p e below _ (s₁.setTop (mkF m 16 #[.val (.int p0), .val (.int ((p0 &&& (2147483647 : Int32)) % (5 : Int32)))] [(.int ((p0 &&& (2147483647 : Int32)) % (5 : Int32)))]))
    refine W.go (fun _ hr => XS.iconst X0.here hx rfl (hb hby d7_16) hr) ?_
    show W p e below _ (s₁.setTop (mkF m 17 #[.val (.int p0), .val (.int ((p0 &&& (2147483647 : Int32)) % (5 : Int32)))] [(.int (1 : Int32)), (.int ((p0 &&& (2147483647 : Int32)) % (5 : Int32)))]))
    by_cases hc17_3 : ((p0 &&& (2147483647 : Int32)) % (5 : Int32)) = (1 : Int32)
    · refine W.go (fun _ hr => XS.icmpNo X0.here hx rfl (hb hby d7_17) rfl (teq hc17_3).2 hr) ?_
      show W p e below _ (s₁.setTop (mkF m 20 #[.val (.int p0), .val (.int ((p0 &&& (2147483647 : Int32)) % (5 : Int32)))] []))
      obtain ⟨T4, X4, e4, st4⟩ := getS2 X0 hx hZ hown (host := "") (Or.inl (hw _ (List.mem_of_getElem? (i := 35) rfl))) Via.refl e0 S_NUMBER (g := (mkF m 20 #[.val (.int p0), .val (.int ((p0 &&& (2147483647 : Int32)) % (5 : Int32)))] [])) rfl (hb hby d7_20)
      refine W.go st4 ?_
      show W p e below _ (T4.setTop (mkF m 23 #[.val (.int p0), .val (.int ((p0 &&& (2147483647 : Int32)) % (5 : Int32)))] [(.ref w_NUMBER)]))
      exact W.retA X4 hx hlk hret rfl rfl (hb hby d7_23) (by decide) (by decide) e4 ⟨_, rfl, N0, rfl⟩
    · refine W.go (fun _ hr => XS.icmpYes X0.here hx rfl (pc0 := 17) (pc' := 24) rfl (hb hby d7_17) rfl (feq hc17_3).2 (by decide) (by decide) hr) ?_
      show W p e below _ (s₁.setTop (mkF m 24 #[.val (.int p0), .val (.int ((p0 &&& (2147483647 : Int32)) % (5 : Int32)))] []))
      refine W.go (fun _ hr => XS.iloadN X0.here hx rfl (hb hby d7_24) rfl hr) ?_
      show W p e below _ (s₁.setTop (mkF m 25 #[.val (.int p0), .val (.int ((p0 &&& (2147483647 : Int32)) % (5 : Int32)))] [(.int ((p0 &&& (2147483647 : Int32)) % (5 : Int32)))]))
      refine W.go (fun _ hr => XS.iconst X0.here hx rfl (hb hby d7_25) hr) ?_
      show W p e below _ (s₁.setTop (mkF m 26 #[.val (.int p0), .val (.int ((p0 &&& (2147483647 : Int32)) % (5 : Int32)))] [(.int (2 : Int32)), (.int ((p0 &&& (2147483647 : Int32)) % (5 : Int32)))]))
      by_cases hc26_5 : ((p0 &&& (2147483647 : Int32)) % (5 : Int32)) = (2 : Int32)
      · refine W.go (fun _ hr => XS.icmpNo X0.here hx rfl (hb hby d7_26) rfl (teq hc26_5).2 hr) ?_
        show W p e below _ (s₁.setTop (mkF m 29 #[.val (.int p0), .val (.int ((p0 &&& (2147483647 : Int32)) % (5 : Int32)))] []))
        obtain ⟨T6, X6, e6, st6⟩ := getS2 X0 hx hZ hown (host := "") (Or.inl (hw _ (List.mem_of_getElem? (i := 84) rfl))) Via.refl e0 S_BOOLEAN (g := (mkF m 29 #[.val (.int p0), .val (.int ((p0 &&& (2147483647 : Int32)) % (5 : Int32)))] [])) rfl (hb hby d7_29)
        refine W.go st6 ?_
        show W p e below _ (T6.setTop (mkF m 32 #[.val (.int p0), .val (.int ((p0 &&& (2147483647 : Int32)) % (5 : Int32)))] [(.ref w_BOOLEAN)]))
        exact W.retA X6 hx hlk hret rfl rfl (hb hby d7_32) (by decide) (by decide) e6 ⟨_, rfl, N0, rfl⟩
      · refine W.go (fun _ hr => XS.icmpYes X0.here hx rfl (pc0 := 26) (pc' := 33) rfl (hb hby d7_26) rfl (feq hc26_5).2 (by decide) (by decide) hr) ?_
        show W p e below _ (s₁.setTop (mkF m 33 #[.val (.int p0), .val (.int ((p0 &&& (2147483647 : Int32)) % (5 : Int32)))] []))
        refine W.go (fun _ hr => XS.iloadN X0.here hx rfl (hb hby d7_33) rfl hr) ?_
        show W p e below _ (s₁.setTop (mkF m 34 #[.val (.int p0), .val (.int ((p0 &&& (2147483647 : Int32)) % (5 : Int32)))] [(.int ((p0 &&& (2147483647 : Int32)) % (5 : Int32)))]))
        refine W.go (fun _ hr => XS.iconst X0.here hx rfl (hb hby d7_34) hr) ?_
        show W p e below _ (s₁.setTop (mkF m 35 #[.val (.int p0), .val (.int ((p0 &&& (2147483647 : Int32)) % (5 : Int32)))] [(.int (3 : Int32)), (.int ((p0 &&& (2147483647 : Int32)) % (5 : Int32)))]))
        by_cases hc35_7 : ((p0 &&& (2147483647 : Int32)) % (5 : Int32)) = (3 : Int32)
        · refine W.go (fun _ hr => XS.icmpNo X0.here hx rfl (hb hby d7_35) rfl (teq hc35_7).2 hr) ?_
          show W p e below _ (s₁.setTop (mkF m 38 #[.val (.int p0), .val (.int ((p0 &&& (2147483647 : Int32)) % (5 : Int32)))] []))
          obtain ⟨T8, X8, e8, st8⟩ := getS2 X0 hx hZ hown (host := "") (Or.inl (hw _ (List.mem_of_getElem? (i := 82) rfl))) Via.refl e0 S_DATETIME (g := (mkF m 38 #[.val (.int p0), .val (.int ((p0 &&& (2147483647 : Int32)) % (5 : Int32)))] [])) rfl (hb hby d7_38)
          refine W.go st8 ?_
          show W p e below _ (T8.setTop (mkF m 41 #[.val (.int p0), .val (.int ((p0 &&& (2147483647 : Int32)) % (5 : Int32)))] [(.ref w_DATETIME)]))
          exact W.retA X8 hx hlk hret rfl rfl (hb hby d7_41) (by decide) (by decide) e8 ⟨_, rfl, N0, rfl⟩
        · refine W.go (fun _ hr => XS.icmpYes X0.here hx rfl (pc0 := 35) (pc' := 42) rfl (hb hby d7_35) rfl (feq hc35_7).2 (by decide) (by decide) hr) ?_
          show W p e below _ (s₁.setTop (mkF m 42 #[.val (.int p0), .val (.int ((p0 &&& (2147483647 : Int32)) % (5 : Int32)))] []))
          obtain ⟨T9, X9, e9, st9⟩ := getS2 X0 hx hZ hown (host := "") (Or.inl (hw _ (List.mem_of_getElem? (i := 80) rfl))) Via.refl e0 S_BINARY (g := (mkF m 42 #[.val (.int p0), .val (.int ((p0 &&& (2147483647 : Int32)) % (5 : Int32)))] [])) rfl (hb hby d7_42)
          refine W.go st9 ?_
          show W p e below _ (T9.setTop (mkF m 45 #[.val (.int p0), .val (.int ((p0 &&& (2147483647 : Int32)) % (5 : Int32)))] [(.ref w_BINARY)]))
          exact W.retA X9 hx hlk hret rfl rfl (hb hby d7_45) (by decide) (by decide) e9 ⟨_, rfl, N0, rfl⟩
theorem d10_0 : decode jdk_30_method_1_code 0 = .ok (.aload_n 0, 1) := by decide +kernel
theorem d10_1 : decode jdk_30_method_1_code 1 = .ok (.invokespecial 1, 3) := by decide +kernel
theorem d10_4 : decode jdk_30_method_1_code 4 = .ok (.return_, 1) := by decide +kernel
theorem pn_java_lang_Record : plainName "java/lang/Record" = true := by first | (simp [plainName, overriddenIn]; done) | decide +kernel
def Q_rm10 (Z : State) (r0 : Addr) (h0 : Heap) (n0 : Nat) (v : Option Value) (h : Heap) (L : List Loc) : Prop := v = none ∧ Fr n0 L ∧ h = h0
set_option maxRecDepth 65536 in
set_option maxHeartbeats 40000000 in
theorem rm10 (l : Launch) (Z : State) (a0 : Array Value) (hw : ∀ d ∈ tables_1, d.before a0 Z = true) (r0 : Addr) (h0 : Heap) (n0 : Nat) (Z0 : n0 ≤ h0.size) :
    Ctr l Z (⟨"java/lang/Record", "<init>", "()V"⟩ : MethodName) jdk_30_method_1_code 1 none ({ frames := 1, cells := 0, slots := 0, locals := 12 } : Room) #[(.ref r0)] h0 (Q_rm10 Z r0 h0 n0) := by
  refine Ctr.body (fr := fun m => mkF m 0 #[.val (.ref r0)] []) (plainFor_of_name pn_java_lang_Record) (fun m => by first | (simp [entryFrame, mkF, argsToLocals, Value.category]; done) | rfl) fun p e s m below meth c s₁ hx hby hml hZ hown hnm hret hlk X0 e0 => ?_
  have N0 := Fr.nil n0
  have hown : s.vm.findClass "java/lang/Record" = some m.cls := hown
  show W p e below _ (s₁.setTop (mkF m 0 #[.val (.ref r0)] []))
  refine W.go (fun _ hr => XS.aloadN X0.here hx rfl (hb hby d10_0) rfl rfl hr) ?_
  show W p e below _ (s₁.setTop (mkF m 1 #[.val (.ref r0)] [(.ref r0)]))
  obtain ⟨T1, X1, e1, st1⟩ := initO X0 hx hZ hown (hw _ (List.mem_of_getElem? (i := 52) rfl)) (hw _ (List.mem_of_getElem? (i := 12) rfl)) (hw _ (List.mem_of_getElem? (i := 13) rfl)) e0 (g := (mkF m 1 #[.val (.ref r0)] [(.ref r0)])) rfl (by rw [hml]; rfl) rfl (hb hby d10_1) (by decide) (W := 0) (by show 2 * 0 + _ ≤ _; exact Nat.le_of_eq rfl) (by decide)
  refine W.go st1 ?_
  show W p e below _ (T1.setTop (mkF m 4 #[.val (.ref r0)] []))
  exact W.retV X1 hx hlk hret (hb hby d10_4) (by decide) (by decide) e1 ⟨rfl, N0, rfl⟩
theorem d12_0 : decode prog_4_method_1_code 0 = .ok (.aload_n 0, 1) := by decide +kernel
theorem d12_1 : decode prog_4_method_1_code 1 = .ok (.invokespecial 1, 3) := by decide +kernel
theorem pd_34 : parseMethodDescriptor "()V" = some ⟨[], none⟩ := by decide +kernel
theorem d12_4 : decode prog_4_method_1_code 4 = .ok (.aload_n 0, 1) := by decide +kernel
theorem d12_5 : decode prog_4_method_1_code 5 = .ok (.aload_n 1, 1) := by decide +kernel
theorem d12_6 : decode prog_4_method_1_code 6 = .ok (.putfield 7, 3) := by decide +kernel
theorem d12_9 : decode prog_4_method_1_code 9 = .ok (.aload_n 0, 1) := by decide +kernel
theorem d12_10 : decode prog_4_method_1_code 10 = .ok (.aload_n 2, 1) := by decide +kernel
theorem d12_11 : decode prog_4_method_1_code 11 = .ok (.putfield 13, 3) := by decide +kernel
theorem d12_14 : decode prog_4_method_1_code 14 = .ok (.return_, 1) := by decide +kernel
theorem pn_com_example_facetree_facetree_model_AttributeKey : plainName "com/example/facetree/facetree/model/AttributeKey" = true := by first | (simp [plainName, overriddenIn]; done) | decide +kernel
def Q_rm12 (Z : State) (r0 : Addr) (r1 : Addr) (r2 : Addr) (h0 : Heap) (n0 : Nat) (v : Option Value) (h : Heap) (L : List Loc) : Prop := v = none ∧ Fr n0 L ∧ Keep h0 h [r0]
set_option maxRecDepth 65536 in
set_option maxHeartbeats 40000000 in
theorem rm12 (l : Launch) (Z : State) (a0 : Array Value) (hw : ∀ d ∈ tables_1, d.before a0 Z = true) (r0 : Addr) (r1 : Addr) (r2 : Addr) (h0 : Heap) (n0 : Nat) (Z0 : n0 ≤ h0.size) (E_r0 : Exa Z h0 r0 "com/example/facetree/facetree/model/AttributeKey") (F_facet_r0 : Fld Z h0 r0 "com/example/facetree/facetree/model/AttributeKey" "facet" "Ljava/lang/String;" .null) (F_name_r0 : Fld Z h0 r0 "com/example/facetree/facetree/model/AttributeKey" "name" "Ljava/lang/String;" .null) (g_r0 : n0 ≤ r0) :
    Ctr l Z (⟨"com/example/facetree/facetree/model/AttributeKey", "<init>", "(Ljava/lang/String;Ljava/lang/String;)V"⟩ : MethodName) prog_4_method_1_code 3 none ({ frames := 2, cells := 0, slots := 0, locals := 24 } : Room) #[(.ref r0), (.ref r1), (.ref r2)] h0 (Q_rm12 Z r0 r1 r2 h0 n0) := by
  refine Ctr.body (fr := fun m => mkF m 0 #[.val (.ref r0), .val (.ref r1), .val (.ref r2)] []) (plainFor_of_name pn_com_example_facetree_facetree_model_AttributeKey) (fun m => by first | (simp [entryFrame, mkF, argsToLocals, Value.category]; done) | rfl) fun p e s m below meth c s₁ hx hby hml hZ hown hnm hret hlk X0 e0 => ?_
  have N0 := Fr.nil n0
  have hown : s.vm.findClass "com/example/facetree/facetree/model/AttributeKey" = some m.cls := hown
  have KC : Keep h0 h0 [r0] := Keep.refl _ _
  show W p e below _ (s₁.setTop (mkF m 0 #[.val (.ref r0), .val (.ref r1), .val (.ref r2)] []))
  refine W.go (fun _ hr => XS.aloadN X0.here hx rfl (hb hby d12_0) rfl rfl hr) ?_
  show W p e below _ (s₁.setTop (mkF m 1 #[.val (.ref r0), .val (.ref r1), .val (.ref r2)] [(.ref r0)]))
  refine W.callI X0 hx hZ hown (g := (mkF m 1 #[.val (.ref r0), .val (.ref r1), .val (.ref r2)] [(.ref r0)])) (by rw [hml]; rfl) (hw _ (List.mem_of_getElem? (i := 74) rfl)) (hw _ (List.mem_of_getElem? (i := 48) rfl)) (hw _ (List.mem_of_getElem? (i := 50) rfl)) (hw _ (List.mem_of_getElem? (i := 51) rfl)) e0 (rm10 l Z a0 hw r0 h0 n0 Z0) rfl (by decide) pd_34 rfl (b := r0) (argsL := []) (rest := []) rfl rfl rfl (hb hby d12_1) (W0 := 0) rfl (by decide) (by decide) (by decide) (by decide) (fun v1 T1 h1 L1 X1 e1 hQ1 => ?_)
  obtain ⟨rfl, N1q, hh1⟩ := hQ1
  obtain rfl := hh1.symm
  have N1 := Fr.app N0 N1q
  show W p e below _ (T1.setTop (mkF m 4 #[.val (.ref r0), .val (.ref r1), .val (.ref r2)] []))
  refine W.go (fun _ hr => XS.aloadN X1.here hx rfl (hb hby d12_4) rfl rfl hr) ?_
  show W p e below _ (T1.setTop (mkF m 5 #[.val (.ref r0), .val (.ref r1), .val (.ref r2)] [(.ref r0)]))
  refine W.go (fun _ hr => XS.aloadN X1.here hx rfl (hb hby d12_5) rfl rfl hr) ?_
  show W p e below _ (T1.setTop (mkF m 6 #[.val (.ref r0), .val (.ref r1), .val (.ref r2)] [(.ref r1), (.ref r0)]))
  obtain ⟨T2, h2, X2, e2, W2, st2⟩ := putF X1 hx hZ hown (host := "") (Or.inl (hw _ (List.mem_of_getElem? (i := 75) rfl))) Via.refl e1 F_facet_r0 E_r0 (Or.inr ⟨(hw _ (List.mem_of_getElem? (i := 76) rfl)), rfl, hnm⟩) (hw _ (List.mem_of_getElem? (i := 69) rfl)) (ty := (.object "java/lang/String")) (by decide) rfl rfl (g := (mkF m 6 #[.val (.ref r0), .val (.ref r1), .val (.ref r2)] [(.ref r1), (.ref r0)])) rfl rfl (hb hby d12_6)
  refine W.go st2 ?_
  replace E_r0 := E_r0.wr W2
  replace F_facet_r0 := F_facet_r0.same W2
  replace F_name_r0 := F_name_r0.other W2 (Or.inr (slot_ne (Or.inr (hw _ (List.mem_of_getElem? (i := 78) rfl))) (Or.inr (hw _ (List.mem_of_getElem? (i := 76) rfl))) (by decide) (t := (.object "java/lang/String")) (t' := (.object "java/lang/String")) (by decide) (by decide)))
  have Z3 : n0 ≤ h2.size := Nat.le_trans Z0 (Keep.of_wr W2).1
  replace KC := KC.wr W2 (Or.inl (List.mem_of_getElem? (i := 0) rfl))
  have N2 := Fr.snoc X2 N1 g_r0
  show W p e below _ (T2.setTop (mkF m 9 #[.val (.ref r0), .val (.ref r1), .val (.ref r2)] []))
  refine W.go (fun _ hr => XS.aloadN X2.here hx rfl (hb hby d12_9) rfl rfl hr) ?_
  show W p e below _ (T2.setTop (mkF m 10 #[.val (.ref r0), .val (.ref r1), .val (.ref r2)] [(.ref r0)]))
  refine W.go (fun _ hr => XS.aloadN X2.here hx rfl (hb hby d12_10) rfl rfl hr) ?_
  show W p e below _ (T2.setTop (mkF m 11 #[.val (.ref r0), .val (.ref r1), .val (.ref r2)] [(.ref r2), (.ref r0)]))
  obtain ⟨T4, h4, X4, e4, W4, st4⟩ := putF X2 hx hZ hown (host := "") (Or.inl (hw _ (List.mem_of_getElem? (i := 77) rfl))) Via.refl e2 F_name_r0 E_r0 (Or.inr ⟨(hw _ (List.mem_of_getElem? (i := 78) rfl)), rfl, hnm⟩) (hw _ (List.mem_of_getElem? (i := 69) rfl)) (ty := (.object "java/lang/String")) (by decide) rfl rfl (g := (mkF m 11 #[.val (.ref r0), .val (.ref r1), .val (.ref r2)] [(.ref r2), (.ref r0)])) rfl rfl (hb hby d12_11)
  refine W.go st4 ?_
  replace E_r0 := E_r0.wr W4
  replace F_facet_r0 := F_facet_r0.other W4 (Or.inr (slot_ne (Or.inr (hw _ (List.mem_of_getElem? (i := 76) rfl))) (Or.inr (hw _ (List.mem_of_getElem? (i := 78) rfl))) (by decide) (t := (.object "java/lang/String")) (t' := (.object "java/lang/String")) (by decide) (by decide)))
  replace F_name_r0 := F_name_r0.same W4
  have Z5 : n0 ≤ h4.size := Nat.le_trans Z3 (Keep.of_wr W4).1
  replace KC := KC.wr W4 (Or.inl (List.mem_of_getElem? (i := 0) rfl))
  have N4 := Fr.snoc X4 N2 g_r0
  show W p e below _ (T4.setTop (mkF m 14 #[.val (.ref r0), .val (.ref r1), .val (.ref r2)] []))
  exact W.retV X4 hx hlk hret (hb hby d12_14) (by decide) (by decide) e4 ⟨rfl, N4, KC⟩
theorem d9_0 : decode prog_2_method_2_code 0 = .ok (.aload_n 0, 1) := by decide +kernel
theorem d9_1 : decode prog_2_method_2_code 1 = .ok (.invokespecial 1, 3) := by decide +kernel
theorem d9_4 : decode prog_2_method_2_code 4 = .ok (.aload_n 0, 1) := by decide +kernel
theorem d9_5 : decode prog_2_method_2_code 5 = .ok (.aload_n 1, 1) := by decide +kernel
theorem d9_6 : decode prog_2_method_2_code 6 = .ok (.putfield 7, 3) := by decide +kernel
theorem d9_9 : decode prog_2_method_2_code 9 = .ok (.aload_n 0, 1) := by decide +kernel
theorem d9_10 : decode prog_2_method_2_code 10 = .ok (.aload_n 2, 1) := by decide +kernel
theorem d9_11 : decode prog_2_method_2_code 11 = .ok (.putfield 13, 3) := by decide +kernel
theorem d9_14 : decode prog_2_method_2_code 14 = .ok (.aload_n 0, 1) := by decide +kernel
theorem d9_15 : decode prog_2_method_2_code 15 = .ok (.aload_n 3, 1) := by decide +kernel
theorem d9_16 : decode prog_2_method_2_code 16 = .ok (.putfield 17, 3) := by decide +kernel
theorem d9_19 : decode prog_2_method_2_code 19 = .ok (.aload_n 0, 1) := by decide +kernel
theorem d9_20 : decode prog_2_method_2_code 20 = .ok (.aload 4, 2) := by decide +kernel
theorem d9_22 : decode prog_2_method_2_code 22 = .ok (.putfield 21, 3) := by decide +kernel
theorem d9_25 : decode prog_2_method_2_code 25 = .ok (.return_, 1) := by decide +kernel
theorem pn_com_example_facetree_facetree_model_AttributeDefinition : plainName "com/example/facetree/facetree/model/AttributeDefinition" = true := by first | (simp [plainName, overriddenIn]; done) | decide +kernel
def Q_rmD0 (Z : State) (r0 : Addr) (r1 : Addr) (r2 : Addr) (r4 : Addr) (h0 : Heap) (n0 : Nat) (v : Option Value) (h : Heap) (L : List Loc) : Prop := v = none ∧ Fr n0 L ∧ Keep h0 h [r0] ∧ Fld Z h r0 "com/example/facetree/facetree/model/AttributeDefinition" "target" "Lcom/example/facetree/facetree/model/AttributeKey;" (.ref r4)
set_option maxRecDepth 65536 in
set_option maxHeartbeats 40000000 in
theorem rmD0 (l : Launch) (Z : State) (a0 : Array Value) (hw : ∀ d ∈ tables_1, d.before a0 Z = true) (r0 : Addr) (r1 : Addr) (r2 : Addr) (r4 : Addr) (h0 : Heap) (n0 : Nat) (Z0 : n0 ≤ h0.size) (E_r0 : Exa Z h0 r0 "com/example/facetree/facetree/model/AttributeDefinition") (F_name_r0 : Fld Z h0 r0 "com/example/facetree/facetree/model/AttributeDefinition" "name" "Ljava/lang/String;" .null) (F_type_r0 : Fld Z h0 r0 "com/example/facetree/facetree/model/AttributeDefinition" "type" "Lcom/example/facetree/facetree/model/AttributeType;" .null) (F_requiredBehavior_r0 : Fld Z h0 r0 "com/example/facetree/facetree/model/AttributeDefinition" "requiredBehavior" "Lcom/example/facetree/facetree/model/RequiredBehavior;" .null) (F_target_r0 : Fld Z h0 r0 "com/example/facetree/facetree/model/AttributeDefinition" "target" "Lcom/example/facetree/facetree/model/AttributeKey;" .null) (g_r0 : n0 ≤ r0) :
    Ctr l Z (⟨"com/example/facetree/facetree/model/AttributeDefinition", "<init>", "(Ljava/lang/String;Lcom/example/facetree/facetree/model/AttributeType;Lcom/example/facetree/facetree/model/RequiredBehavior;Lcom/example/facetree/facetree/model/AttributeKey;)V"⟩ : MethodName) prog_2_method_2_code 5 none ({ frames := 2, cells := 0, slots := 0, locals := 24 } : Room) #[(.ref r0), (.ref r1), (.ref r2), .null, (.ref r4)] h0 (Q_rmD0 Z r0 r1 r2 r4 h0 n0) := by
  refine Ctr.body (fr := fun m => mkF m 0 #[.val (.ref r0), .val (.ref r1), .val (.ref r2), .val .null, .val (.ref r4)] []) (plainFor_of_name pn_com_example_facetree_facetree_model_AttributeDefinition) (fun m => by first | (simp [entryFrame, mkF, argsToLocals, Value.category]; done) | rfl) fun p e s m below meth c s₁ hx hby hml hZ hown hnm hret hlk X0 e0 => ?_
  have N0 := Fr.nil n0
  have hown : s.vm.findClass "com/example/facetree/facetree/model/AttributeDefinition" = some m.cls := hown
  have KC : Keep h0 h0 [r0] := Keep.refl _ _
  show W p e below _ (s₁.setTop (mkF m 0 #[.val (.ref r0), .val (.ref r1), .val (.ref r2), .val .null, .val (.ref r4)] []))
  refine W.go (fun _ hr => XS.aloadN X0.here hx rfl (hb hby d9_0) rfl rfl hr) ?_
  show W p e below _ (s₁.setTop (mkF m 1 #[.val (.ref r0), .val (.ref r1), .val (.ref r2), .val .null, .val (.ref r4)] [(.ref r0)]))
  refine W.callI X0 hx hZ hown (g := (mkF m 1 #[.val (.ref r0), .val (.ref r1), .val (.ref r2), .val .null, .val (.ref r4)] [(.ref r0)])) (by rw [hml]; rfl) (hw _ (List.mem_of_getElem? (i := 47) rfl)) (hw _ (List.mem_of_getElem? (i := 48) rfl)) (hw _ (List.mem_of_getElem? (i := 50) rfl)) (hw _ (List.mem_of_getElem? (i := 51) rfl)) e0 (rm10 l Z a0 hw r0 h0 n0 Z0) rfl (by decide) pd_34 rfl (b := r0) (argsL := []) (rest := []) rfl rfl rfl (hb hby d9_1) (W0 := 0) rfl (by decide) (by decide) (by decide) (by decide) (fun v1 T1 h1 L1 X1 e1 hQ1 => ?_)
  obtain ⟨rfl, N1q, hh1⟩ := hQ1
  obtain rfl := hh1.symm
  have N1 := Fr.app N0 N1q
  show W p e below _ (T1.setTop (mkF m 4 #[.val (.ref r0), .val (.ref r1), .val (.ref r2), .val .null, .val (.ref r4)] []))
  refine W.go (fun _ hr => XS.aloadN X1.here hx rfl (hb hby d9_4) rfl rfl hr) ?_
  show W p e below _ (T1.setTop (mkF m 5 #[.val (.ref r0), .val (.ref r1), .val (.ref r2), .val .null, .val (.ref r4)] [(.ref r0)]))
  refine W.go (fun _ hr => XS.aloadN X1.here hx rfl (hb hby d9_5) rfl rfl hr) ?_
  show W p e below _ (T1.setTop (mkF m 6 #[.val (.ref r0), .val (.ref r1), .val (.ref r2), .val .null, .val (.ref r4)] [(.ref r1), (.ref r0)]))
  obtain ⟨T2, h2, X2, e2, W2, st2⟩ := putF X1 hx hZ hown (host := "") (Or.inl (hw _ (List.mem_of_getElem? (i := 53) rfl))) Via.refl e1 F_name_r0 E_r0 (Or.inr ⟨(hw _ (List.mem_of_getElem? (i := 54) rfl)), rfl, hnm⟩) (hw _ (List.mem_of_getElem? (i := 39) rfl)) (ty := (.object "java/lang/String")) (by decide) rfl rfl (g := (mkF m 6 #[.val (.ref r0), .val (.ref r1), .val (.ref r2), .val .null, .val (.ref r4)] [(.ref r1), (.ref r0)])) rfl rfl (hb hby d9_6)
  refine W.go st2 ?_
  replace E_r0 := E_r0.wr W2
  replace F_name_r0 := F_name_r0.same W2
  replace F_type_r0 := F_type_r0.other W2 (Or.inr (slot_ne (Or.inr (hw _ (List.mem_of_getElem? (i := 56) rfl))) (Or.inr (hw _ (List.mem_of_getElem? (i := 54) rfl))) (by decide) (t := (.object "com/example/facetree/facetree/model/AttributeType")) (t' := (.object "java/lang/String")) (by decide) (by decide)))
  replace F_requiredBehavior_r0 := F_requiredBehavior_r0.other W2 (Or.inr (slot_ne (Or.inr (hw _ (List.mem_of_getElem? (i := 58) rfl))) (Or.inr (hw _ (List.mem_of_getElem? (i := 54) rfl))) (by decide) (t := (.object "com/example/facetree/facetree/model/RequiredBehavior")) (t' := (.object "java/lang/String")) (by decide) (by decide)))
  replace F_target_r0 := F_target_r0.other W2 (Or.inr (slot_ne (Or.inr (hw _ (List.mem_of_getElem? (i := 60) rfl))) (Or.inr (hw _ (List.mem_of_getElem? (i := 54) rfl))) (by decide) (t := (.object "com/example/facetree/facetree/model/AttributeKey")) (t' := (.object "java/lang/String")) (by decide) (by decide)))
  have Z3 : n0 ≤ h2.size := Nat.le_trans Z0 (Keep.of_wr W2).1
  replace KC := KC.wr W2 (Or.inl (List.mem_of_getElem? (i := 0) rfl))
  have N2 := Fr.snoc X2 N1 g_r0
  show W p e below _ (T2.setTop (mkF m 9 #[.val (.ref r0), .val (.ref r1), .val (.ref r2), .val .null, .val (.ref r4)] []))
  refine W.go (fun _ hr => XS.aloadN X2.here hx rfl (hb hby d9_9) rfl rfl hr) ?_
  show W p e below _ (T2.setTop (mkF m 10 #[.val (.ref r0), .val (.ref r1), .val (.ref r2), .val .null, .val (.ref r4)] [(.ref r0)]))
  refine W.go (fun _ hr => XS.aloadN X2.here hx rfl (hb hby d9_10) rfl rfl hr) ?_
  show W p e below _ (T2.setTop (mkF m 11 #[.val (.ref r0), .val (.ref r1), .val (.ref r2), .val .null, .val (.ref r4)] [(.ref r2), (.ref r0)]))
  obtain ⟨T4, h4, X4, e4, W4, st4⟩ := putF X2 hx hZ hown (host := "") (Or.inl (hw _ (List.mem_of_getElem? (i := 55) rfl))) Via.refl e2 F_type_r0 E_r0 (Or.inr ⟨(hw _ (List.mem_of_getElem? (i := 56) rfl)), rfl, hnm⟩) (hw _ (List.mem_of_getElem? (i := 39) rfl)) (ty := (.object "com/example/facetree/facetree/model/AttributeType")) (by decide) rfl rfl (g := (mkF m 11 #[.val (.ref r0), .val (.ref r1), .val (.ref r2), .val .null, .val (.ref r4)] [(.ref r2), (.ref r0)])) rfl rfl (hb hby d9_11)
  refine W.go st4 ?_
  replace E_r0 := E_r0.wr W4
  replace F_name_r0 := F_name_r0.other W4 (Or.inr (slot_ne (Or.inr (hw _ (List.mem_of_getElem? (i := 54) rfl))) (Or.inr (hw _ (List.mem_of_getElem? (i := 56) rfl))) (by decide) (t := (.object "java/lang/String")) (t' := (.object "com/example/facetree/facetree/model/AttributeType")) (by decide) (by decide)))
  replace F_type_r0 := F_type_r0.same W4
  replace F_requiredBehavior_r0 := F_requiredBehavior_r0.other W4 (Or.inr (slot_ne (Or.inr (hw _ (List.mem_of_getElem? (i := 58) rfl))) (Or.inr (hw _ (List.mem_of_getElem? (i := 56) rfl))) (by decide) (t := (.object "com/example/facetree/facetree/model/RequiredBehavior")) (t' := (.object "com/example/facetree/facetree/model/AttributeType")) (by decide) (by decide)))
  replace F_target_r0 := F_target_r0.other W4 (Or.inr (slot_ne (Or.inr (hw _ (List.mem_of_getElem? (i := 60) rfl))) (Or.inr (hw _ (List.mem_of_getElem? (i := 56) rfl))) (by decide) (t := (.object "com/example/facetree/facetree/model/AttributeKey")) (t' := (.object "com/example/facetree/facetree/model/AttributeType")) (by decide) (by decide)))
  have Z5 : n0 ≤ h4.size := Nat.le_trans Z3 (Keep.of_wr W4).1
  replace KC := KC.wr W4 (Or.inl (List.mem_of_getElem? (i := 0) rfl))
  have N4 := Fr.snoc X4 N2 g_r0
  show W p e below _ (T4.setTop (mkF m 14 #[.val (.ref r0), .val (.ref r1), .val (.ref r2), .val .null, .val (.ref r4)] []))
  refine W.go (fun _ hr => XS.aloadN X4.here hx rfl (hb hby d9_14) rfl rfl hr) ?_
  show W p e below _ (T4.setTop (mkF m 15 #[.val (.ref r0), .val (.ref r1), .val (.ref r2), .val .null, .val (.ref r4)] [(.ref r0)]))
  refine W.go (fun _ hr => XS.aloadN X4.here hx rfl (hb hby d9_15) rfl rfl hr) ?_
  show W p e below _ (T4.setTop (mkF m 16 #[.val (.ref r0), .val (.ref r1), .val (.ref r2), .val .null, .val (.ref r4)] [.null, (.ref r0)]))
  obtain ⟨T6, h6, X6, e6, W6, st6⟩ := putF X4 hx hZ hown (host := "") (Or.inl (hw _ (List.mem_of_getElem? (i := 57) rfl))) Via.refl e4 F_requiredBehavior_r0 E_r0 (Or.inr ⟨(hw _ (List.mem_of_getElem? (i := 58) rfl)), rfl, hnm⟩) (hw _ (List.mem_of_getElem? (i := 39) rfl)) (ty := (.object "com/example/facetree/facetree/model/RequiredBehavior")) (by decide) rfl rfl (g := (mkF m 16 #[.val (.ref r0), .val (.ref r1), .val (.ref r2), .val .null, .val (.ref r4)] [.null, (.ref r0)])) rfl rfl (hb hby d9_16)
  refine W.go st6 ?_
  replace E_r0 := E_r0.wr W6
  replace F_name_r0 := F_name_r0.other W6 (Or.inr (slot_ne (Or.inr (hw _ (List.mem_of_getElem? (i := 54) rfl))) (Or.inr (hw _ (List.mem_of_getElem? (i := 58) rfl))) (by decide) (t := (.object "java/lang/String")) (t' := (.object "com/example/facetree/facetree/model/RequiredBehavior")) (by decide) (by decide)))
  replace F_type_r0 := F_type_r0.other W6 (Or.inr (slot_ne (Or.inr (hw _ (List.mem_of_getElem? (i := 56) rfl))) (Or.inr (hw _ (List.mem_of_getElem? (i := 58) rfl))) (by decide) (t := (.object "com/example/facetree/facetree/model/AttributeType")) (t' := (.object "com/example/facetree/facetree/model/RequiredBehavior")) (by decide) (by decide)))
  replace F_requiredBehavior_r0 := F_requiredBehavior_r0.same W6
  replace F_target_r0 := F_target_r0.other W6 (Or.inr (slot_ne (Or.inr (hw _ (List.mem_of_getElem? (i := 60) rfl))) (Or.inr (hw _ (List.mem_of_getElem? (i := 58) rfl))) (by decide) (t := (.object "com/example/facetree/facetree/model/AttributeKey")) (t' := (.object "com/example/facetree/facetree/model/RequiredBehavior")) (by decide) (by decide)))
  have Z7 : n0 ≤ h6.size := Nat.le_trans Z5 (Keep.of_wr W6).1
  replace KC := KC.wr W6 (Or.inl (List.mem_of_getElem? (i := 0) rfl))
  have N6 := Fr.snoc X6 N4 g_r0
  show W p e below _ (T6.setTop (mkF m 19 #[.val (.ref r0), .val (.ref r1), .val (.ref r2), .val .null, .val (.ref r4)] []))
  refine W.go (fun _ hr => XS.aloadN X6.here hx rfl (hb hby d9_19) rfl rfl hr) ?_
  show W p e below _ (T6.setTop (mkF m 20 #[.val (.ref r0), .val (.ref r1), .val (.ref r2), .val .null, .val (.ref r4)] [(.ref r0)]))
  refine W.go (fun _ hr => XS.aload X6.here hx rfl (hb hby d9_20) rfl rfl hr) ?_
  show W p e below _ (T6.setTop (mkF m 22 #[.val (.ref r0), .val (.ref r1), .val (.ref r2), .val .null, .val (.ref r4)] [(.ref r4), (.ref r0)]))
  obtain ⟨T8, h8, X8, e8, W8, st8⟩ := putF X6 hx hZ hown (host := "") (Or.inl (hw _ (List.mem_of_getElem? (i := 59) rfl))) Via.refl e6 F_target_r0 E_r0 (Or.inr ⟨(hw _ (List.mem_of_getElem? (i := 60) rfl)), rfl, hnm⟩) (hw _ (List.mem_of_getElem? (i := 39) rfl)) (ty := (.object "com/example/facetree/facetree/model/AttributeKey")) (by decide) rfl rfl (g := (mkF m 22 #[.val (.ref r0), .val (.ref r1), .val (.ref r2), .val .null, .val (.ref r4)] [(.ref r4), (.ref r0)])) rfl rfl (hb hby d9_22)
  refine W.go st8 ?_
  replace E_r0 := E_r0.wr W8
  replace F_name_r0 := F_name_r0.other W8 (Or.inr (slot_ne (Or.inr (hw _ (List.mem_of_getElem? (i := 54) rfl))) (Or.inr (hw _ (List.mem_of_getElem? (i := 60) rfl))) (by decide) (t := (.object "java/lang/String")) (t' := (.object "com/example/facetree/facetree/model/AttributeKey")) (by decide) (by decide)))
  replace F_type_r0 := F_type_r0.other W8 (Or.inr (slot_ne (Or.inr (hw _ (List.mem_of_getElem? (i := 56) rfl))) (Or.inr (hw _ (List.mem_of_getElem? (i := 60) rfl))) (by decide) (t := (.object "com/example/facetree/facetree/model/AttributeType")) (t' := (.object "com/example/facetree/facetree/model/AttributeKey")) (by decide) (by decide)))
  replace F_requiredBehavior_r0 := F_requiredBehavior_r0.other W8 (Or.inr (slot_ne (Or.inr (hw _ (List.mem_of_getElem? (i := 58) rfl))) (Or.inr (hw _ (List.mem_of_getElem? (i := 60) rfl))) (by decide) (t := (.object "com/example/facetree/facetree/model/RequiredBehavior")) (t' := (.object "com/example/facetree/facetree/model/AttributeKey")) (by decide) (by decide)))
  replace F_target_r0 := F_target_r0.same W8
  have Z9 : n0 ≤ h8.size := Nat.le_trans Z7 (Keep.of_wr W8).1
  replace KC := KC.wr W8 (Or.inl (List.mem_of_getElem? (i := 0) rfl))
  have N8 := Fr.snoc X8 N6 g_r0
  show W p e below _ (T8.setTop (mkF m 25 #[.val (.ref r0), .val (.ref r1), .val (.ref r2), .val .null, .val (.ref r4)] []))
  exact W.retV X8 hx hlk hret (hb hby d9_25) (by decide) (by decide) e8 ⟨rfl, N8, KC, F_target_r0⟩
def Q_rmD1 (Z : State) (r0 : Addr) (r1 : Addr) (r2 : Addr) (h0 : Heap) (n0 : Nat) (v : Option Value) (h : Heap) (L : List Loc) : Prop := v = none ∧ Fr n0 L ∧ Keep h0 h [r0] ∧ Fld Z h r0 "com/example/facetree/facetree/model/AttributeDefinition" "target" "Lcom/example/facetree/facetree/model/AttributeKey;" .null
set_option maxRecDepth 65536 in
set_option maxHeartbeats 40000000 in
theorem rmD1 (l : Launch) (Z : State) (a0 : Array Value) (hw : ∀ d ∈ tables_1, d.before a0 Z = true) (r0 : Addr) (r1 : Addr) (r2 : Addr) (h0 : Heap) (n0 : Nat) (Z0 : n0 ≤ h0.size) (E_r0 : Exa Z h0 r0 "com/example/facetree/facetree/model/AttributeDefinition") (F_name_r0 : Fld Z h0 r0 "com/example/facetree/facetree/model/AttributeDefinition" "name" "Ljava/lang/String;" .null) (F_type_r0 : Fld Z h0 r0 "com/example/facetree/facetree/model/AttributeDefinition" "type" "Lcom/example/facetree/facetree/model/AttributeType;" .null) (F_requiredBehavior_r0 : Fld Z h0 r0 "com/example/facetree/facetree/model/AttributeDefinition" "requiredBehavior" "Lcom/example/facetree/facetree/model/RequiredBehavior;" .null) (F_target_r0 : Fld Z h0 r0 "com/example/facetree/facetree/model/AttributeDefinition" "target" "Lcom/example/facetree/facetree/model/AttributeKey;" .null) (g_r0 : n0 ≤ r0) :
    Ctr l Z (⟨"com/example/facetree/facetree/model/AttributeDefinition", "<init>", "(Ljava/lang/String;Lcom/example/facetree/facetree/model/AttributeType;Lcom/example/facetree/facetree/model/RequiredBehavior;Lcom/example/facetree/facetree/model/AttributeKey;)V"⟩ : MethodName) prog_2_method_2_code 5 none ({ frames := 2, cells := 0, slots := 0, locals := 24 } : Room) #[(.ref r0), (.ref r1), (.ref r2), .null, .null] h0 (Q_rmD1 Z r0 r1 r2 h0 n0) := by
  refine Ctr.body (fr := fun m => mkF m 0 #[.val (.ref r0), .val (.ref r1), .val (.ref r2), .val .null, .val .null] []) (plainFor_of_name pn_com_example_facetree_facetree_model_AttributeDefinition) (fun m => by first | (simp [entryFrame, mkF, argsToLocals, Value.category]; done) | rfl) fun p e s m below meth c s₁ hx hby hml hZ hown hnm hret hlk X0 e0 => ?_
  have N0 := Fr.nil n0
  have hown : s.vm.findClass "com/example/facetree/facetree/model/AttributeDefinition" = some m.cls := hown
  have KC : Keep h0 h0 [r0] := Keep.refl _ _
  show W p e below _ (s₁.setTop (mkF m 0 #[.val (.ref r0), .val (.ref r1), .val (.ref r2), .val .null, .val .null] []))
  refine W.go (fun _ hr => XS.aloadN X0.here hx rfl (hb hby d9_0) rfl rfl hr) ?_
  show W p e below _ (s₁.setTop (mkF m 1 #[.val (.ref r0), .val (.ref r1), .val (.ref r2), .val .null, .val .null] [(.ref r0)]))
  refine W.callI X0 hx hZ hown (g := (mkF m 1 #[.val (.ref r0), .val (.ref r1), .val (.ref r2), .val .null, .val .null] [(.ref r0)])) (by rw [hml]; rfl) (hw _ (List.mem_of_getElem? (i := 47) rfl)) (hw _ (List.mem_of_getElem? (i := 48) rfl)) (hw _ (List.mem_of_getElem? (i := 50) rfl)) (hw _ (List.mem_of_getElem? (i := 51) rfl)) e0 (rm10 l Z a0 hw r0 h0 n0 Z0) rfl (by decide) pd_34 rfl (b := r0) (argsL := []) (rest := []) rfl rfl rfl (hb hby d9_1) (W0 := 0) rfl (by decide) (by decide) (by decide) (by decide) (fun v1 T1 h1 L1 X1 e1 hQ1 => ?_)
  obtain ⟨rfl, N1q, hh1⟩ := hQ1
  obtain rfl := hh1.symm
  have N1 := Fr.app N0 N1q
  show W p e below _ (T1.setTop (mkF m 4 #[.val (.ref r0), .val (.ref r1), .val (.ref r2), .val .null, .val .null] []))
  refine W.go (fun _ hr => XS.aloadN X1.here hx rfl (hb hby d9_4) rfl rfl hr) ?_
  show W p e below _ (T1.setTop (mkF m 5 #[.val (.ref r0), .val (.ref r1), .val (.ref r2), .val .null, .val .null] [(.ref r0)]))
  refine W.go (fun _ hr => XS.aloadN X1.here hx rfl (hb hby d9_5) rfl rfl hr) ?_
  show W p e below _ (T1.setTop (mkF m 6 #[.val (.ref r0), .val (.ref r1), .val (.ref r2), .val .null, .val .null] [(.ref r1), (.ref r0)]))
  obtain ⟨T2, h2, X2, e2, W2, st2⟩ := putF X1 hx hZ hown (host := "") (Or.inl (hw _ (List.mem_of_getElem? (i := 53) rfl))) Via.refl e1 F_name_r0 E_r0 (Or.inr ⟨(hw _ (List.mem_of_getElem? (i := 54) rfl)), rfl, hnm⟩) (hw _ (List.mem_of_getElem? (i := 39) rfl)) (ty := (.object "java/lang/String")) (by decide) rfl rfl (g := (mkF m 6 #[.val (.ref r0), .val (.ref r1), .val (.ref r2), .val .null, .val .null] [(.ref r1), (.ref r0)])) rfl rfl (hb hby d9_6)
  refine W.go st2 ?_
  replace E_r0 := E_r0.wr W2
  replace F_name_r0 := F_name_r0.same W2
  replace F_type_r0 := F_type_r0.other W2 (Or.inr (slot_ne (Or.inr (hw _ (List.mem_of_getElem? (i := 56) rfl))) (Or.inr (hw _ (List.mem_of_getElem? (i := 54) rfl))) (by decide) (t := (.object "com/example/facetree/facetree/model/AttributeType")) (t' := (.object "java/lang/String")) (by decide) (by decide)))
  replace F_requiredBehavior_r0 := F_requiredBehavior_r0.other W2 (Or.inr (slot_ne (Or.inr (hw _ (List.mem_of_getElem? (i := 58) rfl))) (Or.inr (hw _ (List.mem_of_getElem? (i := 54) rfl))) (by decide) (t := (.object "com/example/facetree/facetree/model/RequiredBehavior")) (t' := (.object "java/lang/String")) (by decide) (by decide)))
  replace F_target_r0 := F_target_r0.other W2 (Or.inr (slot_ne (Or.inr (hw _ (List.mem_of_getElem? (i := 60) rfl))) (Or.inr (hw _ (List.mem_of_getElem? (i := 54) rfl))) (by decide) (t := (.object "com/example/facetree/facetree/model/AttributeKey")) (t' := (.object "java/lang/String")) (by decide) (by decide)))
  have Z3 : n0 ≤ h2.size := Nat.le_trans Z0 (Keep.of_wr W2).1
  replace KC := KC.wr W2 (Or.inl (List.mem_of_getElem? (i := 0) rfl))
  have N2 := Fr.snoc X2 N1 g_r0
  show W p e below _ (T2.setTop (mkF m 9 #[.val (.ref r0), .val (.ref r1), .val (.ref r2), .val .null, .val .null] []))
  refine W.go (fun _ hr => XS.aloadN X2.here hx rfl (hb hby d9_9) rfl rfl hr) ?_
  show W p e below _ (T2.setTop (mkF m 10 #[.val (.ref r0), .val (.ref r1), .val (.ref r2), .val .null, .val .null] [(.ref r0)]))
  refine W.go (fun _ hr => XS.aloadN X2.here hx rfl (hb hby d9_10) rfl rfl hr) ?_
  show W p e below _ (T2.setTop (mkF m 11 #[.val (.ref r0), .val (.ref r1), .val (.ref r2), .val .null, .val .null] [(.ref r2), (.ref r0)]))
  obtain ⟨T4, h4, X4, e4, W4, st4⟩ := putF X2 hx hZ hown (host := "") (Or.inl (hw _ (List.mem_of_getElem? (i := 55) rfl))) Via.refl e2 F_type_r0 E_r0 (Or.inr ⟨(hw _ (List.mem_of_getElem? (i := 56) rfl)), rfl, hnm⟩) (hw _ (List.mem_of_getElem? (i := 39) rfl)) (ty := (.object "com/example/facetree/facetree/model/AttributeType")) (by decide) rfl rfl (g := (mkF m 11 #[.val (.ref r0), .val (.ref r1), .val (.ref r2), .val .null, .val .null] [(.ref r2), (.ref r0)])) rfl rfl (hb hby d9_11)
  refine W.go st4 ?_
  replace E_r0 := E_r0.wr W4
  replace F_name_r0 := F_name_r0.other W4 (Or.inr (slot_ne (Or.inr (hw _ (List.mem_of_getElem? (i := 54) rfl))) (Or.inr (hw _ (List.mem_of_getElem? (i := 56) rfl))) (by decide) (t := (.object "java/lang/String")) (t' := (.object "com/example/facetree/facetree/model/AttributeType")) (by decide) (by decide)))
  replace F_type_r0 := F_type_r0.same W4
  replace F_requiredBehavior_r0 := F_requiredBehavior_r0.other W4 (Or.inr (slot_ne (Or.inr (hw _ (List.mem_of_getElem? (i := 58) rfl))) (Or.inr (hw _ (List.mem_of_getElem? (i := 56) rfl))) (by decide) (t := (.object "com/example/facetree/facetree/model/RequiredBehavior")) (t' := (.object "com/example/facetree/facetree/model/AttributeType")) (by decide) (by decide)))
  replace F_target_r0 := F_target_r0.other W4 (Or.inr (slot_ne (Or.inr (hw _ (List.mem_of_getElem? (i := 60) rfl))) (Or.inr (hw _ (List.mem_of_getElem? (i := 56) rfl))) (by decide) (t := (.object "com/example/facetree/facetree/model/AttributeKey")) (t' := (.object "com/example/facetree/facetree/model/AttributeType")) (by decide) (by decide)))
  have Z5 : n0 ≤ h4.size := Nat.le_trans Z3 (Keep.of_wr W4).1
  replace KC := KC.wr W4 (Or.inl (List.mem_of_getElem? (i := 0) rfl))
  have N4 := Fr.snoc X4 N2 g_r0
  show W p e below _ (T4.setTop (mkF m 14 #[.val (.ref r0), .val (.ref r1), .val (.ref r2), .val .null, .val .null] []))
  refine W.go (fun _ hr => XS.aloadN X4.here hx rfl (hb hby d9_14) rfl rfl hr) ?_
  show W p e below _ (T4.setTop (mkF m 15 #[.val (.ref r0), .val (.ref r1), .val (.ref r2), .val .null, .val .null] [(.ref r0)]))
  refine W.go (fun _ hr => XS.aloadN X4.here hx rfl (hb hby d9_15) rfl rfl hr) ?_
  show W p e below _ (T4.setTop (mkF m 16 #[.val (.ref r0), .val (.ref r1), .val (.ref r2), .val .null, .val .null] [.null, (.ref r0)]))
  obtain ⟨T6, h6, X6, e6, W6, st6⟩ := putF X4 hx hZ hown (host := "") (Or.inl (hw _ (List.mem_of_getElem? (i := 57) rfl))) Via.refl e4 F_requiredBehavior_r0 E_r0 (Or.inr ⟨(hw _ (List.mem_of_getElem? (i := 58) rfl)), rfl, hnm⟩) (hw _ (List.mem_of_getElem? (i := 39) rfl)) (ty := (.object "com/example/facetree/facetree/model/RequiredBehavior")) (by decide) rfl rfl (g := (mkF m 16 #[.val (.ref r0), .val (.ref r1), .val (.ref r2), .val .null, .val .null] [.null, (.ref r0)])) rfl rfl (hb hby d9_16)
  refine W.go st6 ?_
  replace E_r0 := E_r0.wr W6
  replace F_name_r0 := F_name_r0.other W6 (Or.inr (slot_ne (Or.inr (hw _ (List.mem_of_getElem? (i := 54) rfl))) (Or.inr (hw _ (List.mem_of_getElem? (i := 58) rfl))) (by decide) (t := (.object "java/lang/String")) (t' := (.object "com/example/facetree/facetree/model/RequiredBehavior")) (by decide) (by decide)))
  replace F_type_r0 := F_type_r0.other W6 (Or.inr (slot_ne (Or.inr (hw _ (List.mem_of_getElem? (i := 56) rfl))) (Or.inr (hw _ (List.mem_of_getElem? (i := 58) rfl))) (by decide) (t := (.object "com/example/facetree/facetree/model/AttributeType")) (t' := (.object "com/example/facetree/facetree/model/RequiredBehavior")) (by decide) (by decide)))
  replace F_requiredBehavior_r0 := F_requiredBehavior_r0.same W6
  replace F_target_r0 := F_target_r0.other W6 (Or.inr (slot_ne (Or.inr (hw _ (List.mem_of_getElem? (i := 60) rfl))) (Or.inr (hw _ (List.mem_of_getElem? (i := 58) rfl))) (by decide) (t := (.object "com/example/facetree/facetree/model/AttributeKey")) (t' := (.object "com/example/facetree/facetree/model/RequiredBehavior")) (by decide) (by decide)))
  have Z7 : n0 ≤ h6.size := Nat.le_trans Z5 (Keep.of_wr W6).1
  replace KC := KC.wr W6 (Or.inl (List.mem_of_getElem? (i := 0) rfl))
  have N6 := Fr.snoc X6 N4 g_r0
  show W p e below _ (T6.setTop (mkF m 19 #[.val (.ref r0), .val (.ref r1), .val (.ref r2), .val .null, .val .null] []))
  refine W.go (fun _ hr => XS.aloadN X6.here hx rfl (hb hby d9_19) rfl rfl hr) ?_
  show W p e below _ (T6.setTop (mkF m 20 #[.val (.ref r0), .val (.ref r1), .val (.ref r2), .val .null, .val .null] [(.ref r0)]))
  refine W.go (fun _ hr => XS.aload X6.here hx rfl (hb hby d9_20) rfl rfl hr) ?_
  show W p e below _ (T6.setTop (mkF m 22 #[.val (.ref r0), .val (.ref r1), .val (.ref r2), .val .null, .val .null] [.null, (.ref r0)]))
  obtain ⟨T8, h8, X8, e8, W8, st8⟩ := putF X6 hx hZ hown (host := "") (Or.inl (hw _ (List.mem_of_getElem? (i := 59) rfl))) Via.refl e6 F_target_r0 E_r0 (Or.inr ⟨(hw _ (List.mem_of_getElem? (i := 60) rfl)), rfl, hnm⟩) (hw _ (List.mem_of_getElem? (i := 39) rfl)) (ty := (.object "com/example/facetree/facetree/model/AttributeKey")) (by decide) rfl rfl (g := (mkF m 22 #[.val (.ref r0), .val (.ref r1), .val (.ref r2), .val .null, .val .null] [.null, (.ref r0)])) rfl rfl (hb hby d9_22)
  refine W.go st8 ?_
  replace E_r0 := E_r0.wr W8
  replace F_name_r0 := F_name_r0.other W8 (Or.inr (slot_ne (Or.inr (hw _ (List.mem_of_getElem? (i := 54) rfl))) (Or.inr (hw _ (List.mem_of_getElem? (i := 60) rfl))) (by decide) (t := (.object "java/lang/String")) (t' := (.object "com/example/facetree/facetree/model/AttributeKey")) (by decide) (by decide)))
  replace F_type_r0 := F_type_r0.other W8 (Or.inr (slot_ne (Or.inr (hw _ (List.mem_of_getElem? (i := 56) rfl))) (Or.inr (hw _ (List.mem_of_getElem? (i := 60) rfl))) (by decide) (t := (.object "com/example/facetree/facetree/model/AttributeType")) (t' := (.object "com/example/facetree/facetree/model/AttributeKey")) (by decide) (by decide)))
  replace F_requiredBehavior_r0 := F_requiredBehavior_r0.other W8 (Or.inr (slot_ne (Or.inr (hw _ (List.mem_of_getElem? (i := 58) rfl))) (Or.inr (hw _ (List.mem_of_getElem? (i := 60) rfl))) (by decide) (t := (.object "com/example/facetree/facetree/model/RequiredBehavior")) (t' := (.object "com/example/facetree/facetree/model/AttributeKey")) (by decide) (by decide)))
  replace F_target_r0 := F_target_r0.same W8
  have Z9 : n0 ≤ h8.size := Nat.le_trans Z7 (Keep.of_wr W8).1
  replace KC := KC.wr W8 (Or.inl (List.mem_of_getElem? (i := 0) rfl))
  have N8 := Fr.snoc X8 N6 g_r0
  show W p e below _ (T8.setTop (mkF m 25 #[.val (.ref r0), .val (.ref r1), .val (.ref r2), .val .null, .val .null] []))
  exact W.retV X8 hx hlk hret (hb hby d9_25) (by decide) (by decide) e8 ⟨rfl, N8, KC, F_target_r0⟩
theorem d8_0 : decode prog_2_method_1_code 0 = .ok (.aload_n 0, 1) := by decide +kernel
theorem d8_1 : decode prog_2_method_1_code 1 = .ok (.aload_n 1, 1) := by decide +kernel
theorem d8_2 : decode prog_2_method_1_code 2 = .ok (.aload_n 2, 1) := by decide +kernel
theorem d8_3 : decode prog_2_method_1_code 3 = .ok (.aload_n 3, 1) := by decide +kernel
theorem d8_4 : decode prog_2_method_1_code 4 = .ok (.aconst_null, 1) := by decide +kernel
theorem d8_5 : decode prog_2_method_1_code 5 = .ok (.invokespecial 25, 3) := by decide +kernel
theorem pd_65 : parseMethodDescriptor "(Ljava/lang/String;Lcom/example/facetree/facetree/model/AttributeType;Lcom/example/facetree/facetree/model/RequiredBehavior;Lcom/example/facetree/facetree/model/AttributeKey;)V" = some ⟨[(.object "java/lang/String"), (.object "com/example/facetree/facetree/model/AttributeType"), (.object "com/example/facetree/facetree/model/RequiredBehavior"), (.object "com/example/facetree/facetree/model/AttributeKey")], none⟩ := by decide +kernel
theorem d8_8 : decode prog_2_method_1_code 8 = .ok (.return_, 1) := by decide +kernel
def Q_rmD3 (Z : State) (r0 : Addr) (r1 : Addr) (r2 : Addr) (h0 : Heap) (n0 : Nat) (v : Option Value) (h : Heap) (L : List Loc) : Prop := v = none ∧ Fr n0 L ∧ Keep h0 h [r0] ∧ Fld Z h r0 "com/example/facetree/facetree/model/AttributeDefinition" "target" "Lcom/example/facetree/facetree/model/AttributeKey;" .null
set_option maxRecDepth 65536 in
set_option maxHeartbeats 40000000 in
theorem rmD3 (l : Launch) (Z : State) (a0 : Array Value) (hw : ∀ d ∈ tables_1, d.before a0 Z = true) (r0 : Addr) (r1 : Addr) (r2 : Addr) (h0 : Heap) (n0 : Nat) (Z0 : n0 ≤ h0.size) (E_r0 : Exa Z h0 r0 "com/example/facetree/facetree/model/AttributeDefinition") (F_name_r0 : Fld Z h0 r0 "com/example/facetree/facetree/model/AttributeDefinition" "name" "Ljava/lang/String;" .null) (F_type_r0 : Fld Z h0 r0 "com/example/facetree/facetree/model/AttributeDefinition" "type" "Lcom/example/facetree/facetree/model/AttributeType;" .null) (F_requiredBehavior_r0 : Fld Z h0 r0 "com/example/facetree/facetree/model/AttributeDefinition" "requiredBehavior" "Lcom/example/facetree/facetree/model/RequiredBehavior;" .null) (F_target_r0 : Fld Z h0 r0 "com/example/facetree/facetree/model/AttributeDefinition" "target" "Lcom/example/facetree/facetree/model/AttributeKey;" .null) (g_r0 : n0 ≤ r0) :
    Ctr l Z (⟨"com/example/facetree/facetree/model/AttributeDefinition", "<init>", "(Ljava/lang/String;Lcom/example/facetree/facetree/model/AttributeType;Lcom/example/facetree/facetree/model/RequiredBehavior;)V"⟩ : MethodName) prog_2_method_1_code 4 none ({ frames := 3, cells := 0, slots := 0, locals := 40 } : Room) #[(.ref r0), (.ref r1), (.ref r2), .null] h0 (Q_rmD3 Z r0 r1 r2 h0 n0) := by
  refine Ctr.body (fr := fun m => mkF m 0 #[.val (.ref r0), .val (.ref r1), .val (.ref r2), .val .null] []) (plainFor_of_name pn_com_example_facetree_facetree_model_AttributeDefinition) (fun m => by first | (simp [entryFrame, mkF, argsToLocals, Value.category]; done) | rfl) fun p e s m below meth c s₁ hx hby hml hZ hown hnm hret hlk X0 e0 => ?_
  have N0 := Fr.nil n0
  have hown : s.vm.findClass "com/example/facetree/facetree/model/AttributeDefinition" = some m.cls := hown
  have KC : Keep h0 h0 [r0] := Keep.refl _ _
  show W p e below _ (s₁.setTop (mkF m 0 #[.val (.ref r0), .val (.ref r1), .val (.ref r2), .val .null] []))
  refine W.go (fun _ hr => XS.aloadN X0.here hx rfl (hb hby d8_0) rfl rfl hr) ?_
  show W p e below _ (s₁.setTop (mkF m 1 #[.val (.ref r0), .val (.ref r1), .val (.ref r2), .val .null] [(.ref r0)]))
  refine W.go (fun _ hr => XS.aloadN X0.here hx rfl (hb hby d8_1) rfl rfl hr) ?_
  show W p e below _ (s₁.setTop (mkF m 2 #[.val (.ref r0), .val (.ref r1), .val (.ref r2), .val .null] [(.ref r1), (.ref r0)]))
  refine W.go (fun _ hr => XS.aloadN X0.here hx rfl (hb hby d8_2) rfl rfl hr) ?_
  show W p e below _ (s₁.setTop (mkF m 3 #[.val (.ref r0), .val (.ref r1), .val (.ref r2), .val .null] [(.ref r2), (.ref r1), (.ref r0)]))
  refine W.go (fun _ hr => XS.aloadN X0.here hx rfl (hb hby d8_3) rfl rfl hr) ?_
  show W p e below _ (s₁.setTop (mkF m 4 #[.val (.ref r0), .val (.ref r1), .val (.ref r2), .val .null] [.null, (.ref r2), (.ref r1), (.ref r0)]))
  refine W.go (fun _ hr => XS.aconstNull X0.here hx rfl (hb hby d8_4) hr) ?_
  show W p e below _ (s₁.setTop (mkF m 5 #[.val (.ref r0), .val (.ref r1), .val (.ref r2), .val .null] [.null, .null, (.ref r2), (.ref r1), (.ref r0)]))
  refine W.callI X0 hx hZ hown (g := (mkF m 5 #[.val (.ref r0), .val (.ref r1), .val (.ref r2), .val .null] [.null, .null, (.ref r2), (.ref r1), (.ref r0)])) (by rw [hml]; rfl) (hw _ (List.mem_of_getElem? (i := 44) rfl)) (hw _ (List.mem_of_getElem? (i := 45) rfl)) (hw _ (List.mem_of_getElem? (i := 40) rfl)) (hw _ (List.mem_of_getElem? (i := 46) rfl)) e0 (rmD1 l Z a0 hw r0 r1 r2 h0 n0 Z0 E_r0 F_name_r0 F_type_r0 F_requiredBehavior_r0 F_target_r0 g_r0) rfl (by decide) pd_65 rfl (b := r0) (argsL := [(.ref r1), (.ref r2), .null, .null]) (rest := []) rfl rfl rfl (hb hby d8_5) (W0 := 0) rfl (by decide) (by decide) (by decide) (by decide) (fun v1 T1 h1 L1 X1 e1 hQ1 => ?_)
  obtain ⟨rfl, N1q, K1, Ft1⟩ := hQ1
  have N1 := Fr.app N0 N1q
  replace E_r0 := E_r0.keep K1
  have Z2 : n0 ≤ h1.size := Nat.le_trans Z0 K1.1
  replace KC := KC.trans K1 (allS (Or.inl (List.mem_of_getElem? (i := 0) rfl)) all0)
  show W p e below _ (T1.setTop (mkF m 8 #[.val (.ref r0), .val (.ref r1), .val (.ref r2), .val .null] []))
  exact W.retV X1 hx hlk hret (hb hby d8_8) (by decide) (by decide) e1 ⟨rfl, N1, KC, Ft1⟩
theorem d11_0 : decode prog_2_method_3_code 0 = .ok (.aload_n 0, 1) := by decide +kernel
theorem d11_1 : decode prog_2_method_3_code 1 = .ok (.getfield 21, 3) := by decide +kernel
theorem d11_4 : decode prog_2_method_3_code 4 = .ok (.ifnull 7, 3) := by decide +kernel
theorem d11_11 : decode prog_2_method_3_code 11 = .ok (.iconst 0, 1) := by decide +kernel
theorem d11_12 : decode prog_2_method_3_code 12 = .ok (.ireturn, 1) := by decide +kernel
def Q_rmR0 (Z : State) (r0 : Addr) (h0 : Heap) (n0 : Nat) (v : Option Value) (h : Heap) (L : List Loc) : Prop := v = some (.int (0 : Int32)) ∧ Fr n0 L ∧ h = h0
set_option maxRecDepth 65536 in
set_option maxHeartbeats 40000000 in
theorem rmR0 (l : Launch) (Z : State) (a0 : Array Value) (hw : ∀ d ∈ tables_1, d.before a0 Z = true) (r0 : Addr) (h0 : Heap) (n0 : Nat) (Z0 : n0 ≤ h0.size) (F_target_r0 : Fld Z h0 r0 "com/example/facetree/facetree/model/AttributeDefinition" "target" "Lcom/example/facetree/facetree/model/AttributeKey;" .null) :
    Ctr l Z (⟨"com/example/facetree/facetree/model/AttributeDefinition", "isReference", "()Z"⟩ : MethodName) prog_2_method_3_code 1 (some .boolean) ({ frames := 0, cells := 0, slots := 0, locals := 0 } : Room) #[(.ref r0)] h0 (Q_rmR0 Z r0 h0 n0) := by
  refine Ctr.body (fr := fun m => mkF m 0 #[.val (.ref r0)] []) (plainFor_of_name pn_com_example_facetree_facetree_model_AttributeDefinition) (fun m => by first | (simp [entryFrame, mkF, argsToLocals, Value.category]; done) | rfl) fun p e s m below meth c s₁ hx hby hml hZ hown hnm hret hlk X0 e0 => ?_
  have N0 := Fr.nil n0
  have hown : s.vm.findClass "com/example/facetree/facetree/model/AttributeDefinition" = some m.cls := hown
  show W p e below _ (s₁.setTop (mkF m 0 #[.val (.ref r0)] []))
  refine W.go (fun _ hr => XS.aloadN X0.here hx rfl (hb hby d11_0) rfl rfl hr) ?_
  show W p e below _ (s₁.setTop (mkF m 1 #[.val (.ref r0)] [(.ref r0)]))
  obtain ⟨T1, X1, e1, st1⟩ := getF X0 hx hZ hown (host := "") (Or.inl (hw _ (List.mem_of_getElem? (i := 59) rfl))) Via.refl e0 F_target_r0 (g := (mkF m 1 #[.val (.ref r0)] [(.ref r0)])) rfl rfl (hb hby d11_1)
  refine W.go st1 ?_
  show W p e below _ (T1.setTop (mkF m 4 #[.val (.ref r0)] [.null]))
  refine W.go (fun _ hr => XS.ifnullYes X1.here hx rfl (pc0 := 4) (pc' := 11) rfl (hb hby d11_4) rfl (by decide) (by decide) hr) ?_
  show W p e below _ (T1.setTop (mkF m 11 #[.val (.ref r0)] []))
  refine W.go (fun _ hr => XS.iconst X1.here hx rfl (hb hby d11_11) hr) ?_
  show W p e below _ (T1.setTop (mkF m 12 #[.val (.ref r0)] [(.int (0 : Int32))]))
  exact W.retB X1 hx hlk (t := .boolean) hret (by simp) (hb hby d11_12) (by decide) (by decide) e1 ⟨rfl, N0, rfl⟩
theorem d11_7 : decode prog_2_method_3_code 7 = .ok (.iconst 1, 1) := by decide +kernel
theorem d11_8 : decode prog_2_method_3_code 8 = .ok (.goto 4, 3) := by decide +kernel
def Q_rmR1 (Z : State) (r0 : Addr) (t : Addr) (h0 : Heap) (n0 : Nat) (v : Option Value) (h : Heap) (L : List Loc) : Prop := v = some (.int (1 : Int32)) ∧ Fr n0 L ∧ h = h0
set_option maxRecDepth 65536 in
set_option maxHeartbeats 40000000 in
theorem rmR1 (l : Launch) (Z : State) (a0 : Array Value) (hw : ∀ d ∈ tables_1, d.before a0 Z = true) (r0 : Addr) (t : Addr) (h0 : Heap) (n0 : Nat) (Z0 : n0 ≤ h0.size) (F_target_r0 : Fld Z h0 r0 "com/example/facetree/facetree/model/AttributeDefinition" "target" "Lcom/example/facetree/facetree/model/AttributeKey;" (.ref t)) :
    Ctr l Z (⟨"com/example/facetree/facetree/model/AttributeDefinition", "isReference", "()Z"⟩ : MethodName) prog_2_method_3_code 1 (some .boolean) ({ frames := 0, cells := 0, slots := 0, locals := 0 } : Room) #[(.ref r0)] h0 (Q_rmR1 Z r0 t h0 n0) := by
  refine Ctr.body (fr := fun m => mkF m 0 #[.val (.ref r0)] []) (plainFor_of_name pn_com_example_facetree_facetree_model_AttributeDefinition) (fun m => by first | (simp [entryFrame, mkF, argsToLocals, Value.category]; done) | rfl) fun p e s m below meth c s₁ hx hby hml hZ hown hnm hret hlk X0 e0 => ?_
  have N0 := Fr.nil n0
  have hown : s.vm.findClass "com/example/facetree/facetree/model/AttributeDefinition" = some m.cls := hown
  show W p e below _ (s₁.setTop (mkF m 0 #[.val (.ref r0)] []))
  refine W.go (fun _ hr => XS.aloadN X0.here hx rfl (hb hby d11_0) rfl rfl hr) ?_
  show W p e below _ (s₁.setTop (mkF m 1 #[.val (.ref r0)] [(.ref r0)]))
  obtain ⟨T1, X1, e1, st1⟩ := getF X0 hx hZ hown (host := "") (Or.inl (hw _ (List.mem_of_getElem? (i := 59) rfl))) Via.refl e0 F_target_r0 (g := (mkF m 1 #[.val (.ref r0)] [(.ref r0)])) rfl rfl (hb hby d11_1)
  refine W.go st1 ?_
  show W p e below _ (T1.setTop (mkF m 4 #[.val (.ref r0)] [(.ref t)]))
  refine W.go (fun _ hr => XS.ifnullNo X1.here hx rfl (hb hby d11_4) rfl hr) ?_
  show W p e below _ (T1.setTop (mkF m 7 #[.val (.ref r0)] []))
  refine W.go (fun _ hr => XS.iconst X1.here hx rfl (hb hby d11_7) hr) ?_
  show W p e below _ (T1.setTop (mkF m 8 #[.val (.ref r0)] [(.int (1 : Int32))]))
  refine W.go (fun _ hr => XS.goto X1.here hx rfl (pc0 := 8) (pc' := 12) rfl (hb hby d11_8) (by decide) (by decide) hr) ?_
  show W p e below _ (T1.setTop (mkF m 12 #[.val (.ref r0)] [(.int (1 : Int32))]))
  exact W.retB X1 hx hlk (t := .boolean) hret (by simp) (hb hby d11_12) (by decide) (by decide) e1 ⟨rfl, N0, rfl⟩
theorem pd_74 : parseMethodDescriptor "([C)V" = some ⟨[(.array .char)], none⟩ := by decide +kernel
theorem pd_75 : parseMethodDescriptor "(I)Lcom/example/facetree/facetree/model/AttributeType;" = some ⟨[.int], some (.object "com/example/facetree/facetree/model/AttributeType")⟩ := by decide +kernel
theorem pd_76 : parseMethodDescriptor "(Ljava/lang/String;Lcom/example/facetree/facetree/model/AttributeType;Lcom/example/facetree/facetree/model/RequiredBehavior;)V" = some ⟨[(.object "java/lang/String"), (.object "com/example/facetree/facetree/model/AttributeType"), (.object "com/example/facetree/facetree/model/RequiredBehavior")], none⟩ := by decide +kernel
theorem pd_77 : parseMethodDescriptor "()Z" = some ⟨[], some .boolean⟩ := by decide +kernel
theorem pd_78 : parseMethodDescriptor "(Ljava/lang/String;Ljava/lang/String;)V" = some ⟨[(.object "java/lang/String"), (.object "java/lang/String")], none⟩ := by decide +kernel
def Q_rm0 (Z : State) (p0 : Int32) (p1 : Int32) (p2 : Int32) (p3 : Int32) (p4 : Int32) (w_STRING : Addr) (w_NUMBER : Addr) (w_BOOLEAN : Addr) (w_DATETIME : Addr) (w_BINARY : Addr) (zCS : Int32) (h0 : Heap) (n0 : Nat) (v : Option Value) (h : Heap) (L : List Loc) : Prop := v = some (.int (1 : Int32)) ∧ Fr n0 L
set_option maxRecDepth 65536 in
set_option maxHeartbeats 40000000 in
theorem rm0 (l : Launch) (Z : State) (a0 : Array Value) (hw : ∀ d ∈ tables_1, d.before a0 Z = true) (p0 : Int32) (p1 : Int32) (p2 : Int32) (p3 : Int32) (p4 : Int32) (w_STRING : Addr) (w_NUMBER : Addr) (w_BOOLEAN : Addr) (w_DATETIME : Addr) (w_BINARY : Addr) (zCS : Int32) (h0 : Heap) (n0 : Nat) (Z0 : n0 ≤ h0.size) (S_STRING : Sta Z h0 "com/example/facetree/facetree/model/AttributeType" "STRING" "Lcom/example/facetree/facetree/model/AttributeType;" (.ref w_STRING)) (S_NUMBER : Sta Z h0 "com/example/facetree/facetree/model/AttributeType" "NUMBER" "Lcom/example/facetree/facetree/model/AttributeType;" (.ref w_NUMBER)) (S_BOOLEAN : Sta Z h0 "com/example/facetree/facetree/model/AttributeType" "BOOLEAN" "Lcom/example/facetree/facetree/model/AttributeType;" (.ref w_BOOLEAN)) (S_DATETIME : Sta Z h0 "com/example/facetree/facetree/model/AttributeType" "DATETIME" "Lcom/example/facetree/facetree/model/AttributeType;" (.ref w_DATETIME)) (S_BINARY : Sta Z h0 "com/example/facetree/facetree/model/AttributeType" "BINARY" "Lcom/example/facetree/facetree/model/AttributeType;" (.ref w_BINARY)) (S_COMPACT_STRINGS : Sta Z h0 "java/lang/String" "COMPACT_STRINGS" "Z" (.int zCS)) (hCS : ¬ zCS = 0) :
    Ctr l Z x code maxLocals ret room_1 #[(.int p0), (.int p1), (.int p2), (.int p3), (.int p4)] h0 (Q_rm0 Z p0 p1 p2 p3 p4 w_STRING w_NUMBER w_BOOLEAN w_DATETIME w_BINARY zCS h0 n0) := by
  refine Ctr.body (fr := fun m => mkF m 0 #[.val (.int p0), .val (.int p1), .val (.int p2), .val (.int p3), .val (.int p4), .unset, .unset, .unset, .unset, .unset, .unset, .unset, .unset, .unset, .unset] []) (plainFor_of_name pn_com_example_facetree_facetree_model_AttributeDefinitionIsReferencePinLaw) (fun m => by first | (simp [entryFrame, mkF, argsToLocals, Value.category, maxLocals]; done) | rfl) fun p e s m below meth c s₁ hx hby hml hZ hown hnm hret hlk X0 e0 => ?_
  have N0 := Fr.nil n0
  have hown : s.vm.findClass "com/example/facetree/facetree/model/AttributeDefinitionIsReferencePinLaw" = some m.cls := hown
  show W p e below _ (s₁.setTop (mkF m 0 #[.val (.int p0), .val (.int p1), .val (.int p2), .val (.int p3), .val (.int p4), .unset, .unset, .unset, .unset, .unset, .unset, .unset, .unset, .unset, .unset] []))
  refine W.go (fun _ hr => XS.iload X0.here hx rfl (hb hby at_0) rfl hr) ?_
  show W p e below _ (s₁.setTop (mkF m 2 #[.val (.int p0), .val (.int p1), .val (.int p2), .val (.int p3), .val (.int p4), .unset, .unset, .unset, .unset, .unset, .unset, .unset, .unset, .unset, .unset] [(.int p4)]))
  refine W.go (fun _ hr => XS.iconst X0.here hx rfl (hb hby at_2) hr) ?_
  show W p e below _ (s₁.setTop (mkF m 3 #[.val (.int p0), .val (.int p1), .val (.int p2), .val (.int p3), .val (.int p4), .unset, .unset, .unset, .unset, .unset, .unset, .unset, .unset, .unset, .unset] [(.int (1 : Int32)), (.int p4)]))
  refine W.go (fun _ hr => XS.iand X0.here hx rfl (hb hby at_3) rfl hr) ?_
  show W p e below _ (s₁.setTop (mkF m 4 #[.val (.int p0), .val (.int p1), .val (.int p2), .val (.int p3), .val (.int p4), .unset, .unset, .unset, .unset, .unset, .unset, .unset, .unset, .unset, .unset] [(.int (p4 &&& (1 : Int32)))]))
  by_cases hc4_1 : (p4 &&& (1 : Int32)) = (0 : Int32)
  · refine W.go (fun _ hr => XS.ifYes X0.here hx rfl (pc0 := 4) (pc' := 11) rfl (hb hby at_4) rfl ((if0 _ _).trans (teq hc4_1).1) (by decide) (by decide) hr) ?_
    show W p e below _ (s₁.setTop (mkF m 11 #[.val (.int p0), .val (.int p1), .val (.int p2), .val (.int p3), .val (.int p4), .unset, .unset, .unset, .unset, .unset, .unset, .unset, .unset, .unset, .unset] []))
    refine W.go (fun _ hr => XS.iconst X0.here hx rfl (hb hby at_11) hr) ?_
    show W p e below _ (s₁.setTop (mkF m 12 #[.val (.int p0), .val (.int p1), .val (.int p2), .val (.int p3), .val (.int p4), .unset, .unset, .unset, .unset, .unset, .unset, .unset, .unset, .unset, .unset] [(.int (0 : Int32))]))
    refine W.go (fun _ hr => XS.istore X0.here hx rfl (hb hby at_12) rfl (l' := #[.val (.int p0), .val (.int p1), .val (.int p2), .val (.int p3), .val (.int p4), .val (.int (0 : Int32)), .unset, .unset, .unset, .unset, .unset, .unset, .unset, .unset, .unset]) rfl hr) ?_
    show W p e below _ (s₁.setTop (mkF m 14 #[.val (.int p0), .val (.int p1), .val (.int p2), .val (.int p3), .val (.int p4), .val (.int (0 : Int32)), .unset, .unset, .unset, .unset, .unset, .unset, .unset, .unset, .unset] []))
    refine W.go (fun _ hr => XS.iconst X0.here hx rfl (hb hby at_14) hr) ?_
    show W p e below _ (s₁.setTop (mkF m 15 #[.val (.int p0), .val (.int p1), .val (.int p2), .val (.int p3), .val (.int p4), .val (.int (0 : Int32)), .unset, .unset, .unset, .unset, .unset, .unset, .unset, .unset, .unset] [(.int (1 : Int32))]))
    obtain ⟨T2, h2, k2, X2, e2, E2, A2, E_b2, st2⟩ := newPE X0 hx hZ (hw _ (List.mem_of_getElem? (i := 0) rfl)) e0 (g := (mkF m 15 #[.val (.int p0), .val (.int p1), .val (.int p2), .val (.int p3), .val (.int p4), .val (.int (0 : Int32)), .unset, .unset, .unset, .unset, .unset, .unset, .unset, .unset, .unset] [(.int (1 : Int32))])) rfl (hb hby at_15) rfl (by decide) (cap := 1) (by decide) (by decide) (by decide) (by decide) (ad := "[C") (by decide)
    obtain ⟨b2, g2⟩ : ∃ z, z = h0.size := ⟨_, rfl⟩
    rw [← g2] at A2 E_b2 st2
    have g_b2 : n0 ≤ b2 := Nat.le_trans Z0 (Nat.le_of_eq g2.symm)
    replace S_STRING := Sta.ext E2 S_STRING
    replace S_NUMBER := Sta.ext E2 S_NUMBER
    replace S_BOOLEAN := Sta.ext E2 S_BOOLEAN
    replace S_DATETIME := Sta.ext E2 S_DATETIME
    replace S_BINARY := Sta.ext E2 S_BINARY
    replace S_COMPACT_STRINGS := Sta.ext E2 S_COMPACT_STRINGS
    have Z3 : n0 ≤ h2.size := Nat.le_trans Z0 E2.1
    have V_b2 : Arv Z h2 b2 k2 .char (1 : Int32) [(.int (0 : Int32))] (.int (0 : Int32)) := (Arv.new A2 (by decide)).pad (pad_rep [] (.int (0 : Int32)) 1)
    refine W.go st2 ?_
    show W p e below _ (T2.setTop (mkF m 17 #[.val (.int p0), .val (.int p1), .val (.int p2), .val (.int p3), .val (.int p4), .val (.int (0 : Int32)), .unset, .unset, .unset, .unset, .unset, .unset, .unset, .unset, .unset] [(.ref b2)]))
    refine W.go (fun _ hr => XS.dup X2.here hx rfl (hb hby at_17) rfl rfl hr) ?_
    show W p e below _ (T2.setTop (mkF m 18 #[.val (.int p0), .val (.int p1), .val (.int p2), .val (.int p3), .val (.int p4), .val (.int (0 : Int32)), .unset, .unset, .unset, .unset, .unset, .unset, .unset, .unset, .unset] [(.ref b2), (.ref b2)]))
    refine W.go (fun _ hr => XS.iconst X2.here hx rfl (hb hby at_18) hr) ?_
    show W p e below _ (T2.setTop (mkF m 19 #[.val (.int p0), .val (.int p1), .val (.int p2), .val (.int p3), .val (.int p4), .val (.int (0 : Int32)), .unset, .unset, .unset, .unset, .unset, .unset, .unset, .unset, .unset] [(.int (0 : Int32)), (.ref b2), (.ref b2)]))
    refine W.go (fun _ hr => XS.iloadN X2.here hx rfl (hb hby at_19) rfl hr) ?_
    show W p e below _ (T2.setTop (mkF m 20 #[.val (.int p0), .val (.int p1), .val (.int p2), .val (.int p3), .val (.int p4), .val (.int (0 : Int32)), .unset, .unset, .unset, .unset, .unset, .unset, .unset, .unset, .unset] [(.int p0), (.int (0 : Int32)), (.ref b2), (.ref b2)]))
    refine W.go (fun _ hr => XS.sipush X2.here hx rfl (hb hby at_20) hr) ?_
    show W p e below _ (T2.setTop (mkF m 23 #[.val (.int p0), .val (.int p1), .val (.int p2), .val (.int p3), .val (.int p4), .val (.int (0 : Int32)), .unset, .unset, .unset, .unset, .unset, .unset, .unset, .unset, .unset] [(.int (255 : Int32)), (.int p0), (.int (0 : Int32)), (.ref b2), (.ref b2)]))
    refine W.go (fun _ hr => XS.iand X2.here hx rfl (hb hby at_23) rfl hr) ?_
    show W p e below _ (T2.setTop (mkF m 24 #[.val (.int p0), .val (.int p1), .val (.int p2), .val (.int p3), .val (.int p4), .val (.int (0 : Int32)), .unset, .unset, .unset, .unset, .unset, .unset, .unset, .unset, .unset] [(.int (p0 &&& (255 : Int32))), (.int (0 : Int32)), (.ref b2), (.ref b2)]))
    refine W.go (fun _ hr => XS.i2c X2.here hx rfl (hb hby at_24) rfl hr) ?_
    show W p e below _ (T2.setTop (mkF m 25 #[.val (.int p0), .val (.int p1), .val (.int p2), .val (.int p3), .val (.int p4), .val (.int (0 : Int32)), .unset, .unset, .unset, .unset, .unset, .unset, .unset, .unset, .unset] [(.int ((p0 &&& (255 : Int32)).toUInt32.toUInt16.toUInt32.toInt32)), (.int (0 : Int32)), (.ref b2), (.ref b2)]))
    obtain ⟨cl4, Ar4, q4, S4, Nn4, H4, G4⟩ := V_b2
    have hin4 : ¬ ((0 : Int32) < 0 ∨ cl4.slots.size ≤ ((0 : Int32)).toNatClampNeg) := inb_of S4 ⟨by decide, by decide⟩
    obtain ⟨T4, h4, X4, e4, W4, st4⟩ := stC X2 hx hZ e2 Ar4 (j := (0 : Int32)) hin4 (g := (mkF m 25 #[.val (.int p0), .val (.int p1), .val (.int p2), .val (.int p3), .val (.int p4), .val (.int (0 : Int32)), .unset, .unset, .unset, .unset, .unset, .unset, .unset, .unset, .unset] [(.int ((p0 &&& (255 : Int32)).toUInt32.toUInt16.toUInt32.toInt32)), (.int (0 : Int32)), (.ref b2), (.ref b2)])) rfl rfl (hb hby at_25)
    replace V_b2 : Arv Z h4 b2 k2 .char (1 : Int32) [(.int (nar .char ((p0 &&& (255 : Int32)).toUInt32.toUInt16.toUInt32.toInt32)))] (.int (0 : Int32)) := Arv.set Ar4 q4 S4 Nn4 H4 G4 (fits_nar_char _) W4 0 rfl (Nat.le_of_ble_eq_true rfl)
    replace S_STRING := Sta.wr W4 S_STRING
    replace S_NUMBER := Sta.wr W4 S_NUMBER
    replace S_BOOLEAN := Sta.wr W4 S_BOOLEAN
    replace S_DATETIME := Sta.wr W4 S_DATETIME
    replace S_BINARY := Sta.wr W4 S_BINARY
    replace S_COMPACT_STRINGS := Sta.wr W4 S_COMPACT_STRINGS
    replace E_b2 := E_b2.wr W4
    have Z5 : n0 ≤ h4.size := Nat.le_trans Z3 (Keep.of_wr W4).1
    refine W.go st4 ?_
    have N4 := Fr.snoc X4 N0 g_b2
    show W p e below _ (T4.setTop (mkF m 26 #[.val (.int p0), .val (.int p1), .val (.int p2), .val (.int p3), .val (.int p4), .val (.int (0 : Int32)), .unset, .unset, .unset, .unset, .unset, .unset, .unset, .unset, .unset] [(.ref b2)]))
    refine W.go (fun _ hr => XS.astore X4.here hx rfl (hb hby at_26) rfl rfl (l' := #[.val (.int p0), .val (.int p1), .val (.int p2), .val (.int p3), .val (.int p4), .val (.int (0 : Int32)), .val (.ref b2), .unset, .unset, .unset, .unset, .unset, .unset, .unset, .unset]) rfl hr) ?_
    show W p e below _ (T4.setTop (mkF m 28 #[.val (.int p0), .val (.int p1), .val (.int p2), .val (.int p3), .val (.int p4), .val (.int (0 : Int32)), .val (.ref b2), .unset, .unset, .unset, .unset, .unset, .unset, .unset, .unset] []))
    obtain ⟨T6, h6, X6, e6, E6, E_b6, D6, U6, st6⟩ := newO X4 hx hZ hown (hw _ (List.mem_of_getElem? (i := 1) rfl)) (hw _ (List.mem_of_getElem? (i := 2) rfl)) (hw _ (List.mem_of_getElem? (i := 3) rfl)) e4 (g := (mkF m 28 #[.val (.int p0), .val (.int p1), .val (.int p2), .val (.int p3), .val (.int p4), .val (.int (0 : Int32)), .val (.ref b2), .unset, .unset, .unset, .unset, .unset, .unset, .unset, .unset] [])) rfl (hb hby at_28) (by decide) (by decide)
    obtain ⟨b6, g6⟩ : ∃ z, z = h4.size := ⟨_, rfl⟩
    rw [← g6] at E_b6 D6 U6 st6
    have ne_b2_b6 : b2 ≠ b6 := Nat.ne_of_lt (Nat.lt_of_lt_of_le E_b2.lt (Nat.le_of_eq g6.symm))
    have g_b6 : n0 ≤ b6 := Nat.le_trans Z5 (Nat.le_of_eq g6.symm)
    replace S_STRING := Sta.ext E6 S_STRING
    replace S_NUMBER := Sta.ext E6 S_NUMBER
    replace S_BOOLEAN := Sta.ext E6 S_BOOLEAN
    replace S_DATETIME := Sta.ext E6 S_DATETIME
    replace S_BINARY := Sta.ext E6 S_BINARY
    replace S_COMPACT_STRINGS := Sta.ext E6 S_COMPACT_STRINGS
    replace E_b2 := E_b2.ext E6
    replace V_b2 := V_b2.ext E6
    have Z7 : n0 ≤ h6.size := Nat.le_trans Z5 E6.1
    have F_coder_b6 : Fld Z h6 b6 "java/lang/String" "coder" "B" (.int (0 : Int32)) := D6 (Or.inr (hw _ (List.mem_of_getElem? (i := 27) rfl))) (ty := .byte) (by decide)
    have F_value_b6 : Fld Z h6 b6 "java/lang/String" "value" "[B" .null := D6 (Or.inr (hw _ (List.mem_of_getElem? (i := 29) rfl))) (ty := (.array .byte)) (by decide)
    refine W.go st6 ?_
    show W p e below _ (T6.setTop (mkF m 31 #[.val (.int p0), .val (.int p1), .val (.int p2), .val (.int p3), .val (.int p4), .val (.int (0 : Int32)), .val (.ref b2), .unset, .unset, .unset, .unset, .unset, .unset, .unset, .unset] [(.ref b6)]))
    refine W.go (fun _ hr => XS.dup X6.here hx rfl (hb hby at_31) rfl rfl hr) ?_
    show W p e below _ (T6.setTop (mkF m 32 #[.val (.int p0), .val (.int p1), .val (.int p2), .val (.int p3), .val (.int p4), .val (.int (0 : Int32)), .val (.ref b2), .unset, .unset, .unset, .unset, .unset, .unset, .unset, .unset] [(.ref b6), (.ref b6)]))
    refine W.go (fun _ hr => XS.aload X6.here hx rfl (hb hby at_32) rfl rfl hr) ?_
    show W p e below _ (T6.setTop (mkF m 34 #[.val (.int p0), .val (.int p1), .val (.int p2), .val (.int p3), .val (.int p4), .val (.int (0 : Int32)), .val (.ref b2), .unset, .unset, .unset, .unset, .unset, .unset, .unset, .unset] [(.ref b2), (.ref b6), (.ref b6)]))
    have hlat8 : ∀ c ∈ [(nar .char ((p0 &&& (255 : Int32)).toUInt32.toUInt16.toUInt32.toInt32))], ¬ c < 0 ∧ ¬ (255 : Int32) < c := by
      intro c hc
      simp only [List.mem_cons, List.not_mem_nil, or_false] at hc
      rcases hc with rfl
      · exact (own_c255 p0)
    refine W.callIK X6 hx hZ hown (g := (mkF m 34 #[.val (.int p0), .val (.int p1), .val (.int p2), .val (.int p3), .val (.int p4), .val (.int (0 : Int32)), .val (.ref b2), .unset, .unset, .unset, .unset, .unset, .unset, .unset, .unset] [(.ref b2), (.ref b6), (.ref b6)])) (by rw [hml]; rfl) (hw _ (List.mem_of_getElem? (i := 4) rfl)) (hw _ (List.mem_of_getElem? (i := 5) rfl)) (hw _ (List.mem_of_getElem? (i := 6) rfl)) e6 (StrChars.Road.backV (W := 1) hZ (fun d hd => hw d (own_ws d hd)) (kI := 4) (hw _ (List.mem_of_getElem? (i := 2) rfl)) (cs := [(nar .char ((p0 &&& (255 : Int32)).toUInt32.toUInt16.toUInt32.toInt32))]) (bs := [((nar .char ((p0 &&& (255 : Int32)).toUInt32.toUInt16.toUInt32.toInt32))).toInt8.toInt32]) (n := 1) g_b6 Z7 E_b6 F_value_b6 F_coder_b6 V_b2 S_COMPACT_STRINGS hCS rfl rfl (by decide) (by decide) hlat8 rfl (by decide) (by decide)) rfl (by decide) pd_74 rfl (b := b6) (argsL := [(.ref b2)]) (rest := [(.ref b6)]) rfl rfl rfl (hb hby at_34) (W0 := 1) rfl (by decide) (by decide) (fun v8 T8 h8 L8 X8 e8 hQ8 => ?_)
    obtain ⟨rfl, N8q, K8, Ee8, Fc8, t8, kb8, gt8, st8, nt8, Fv8, V_t8⟩ := hQ8
    have N8 := Fr.app N4 N8q
    have ne_b2_t8 : b2 ≠ t8 := Nat.ne_of_lt (Nat.lt_of_lt_of_le E_b2.lt st8)
    have ne_b6_t8 : b6 ≠ t8 := Nat.ne_of_lt (Nat.lt_of_lt_of_le E_b6.lt st8)
    have g_t8 : n0 ≤ t8 := Nat.le_trans Z7 st8
    replace S_STRING := Sta.keep S_STRING K8 (nsS E_b6.nostat ns0)
    replace S_NUMBER := Sta.keep S_NUMBER K8 (nsS E_b6.nostat ns0)
    replace S_BOOLEAN := Sta.keep S_BOOLEAN K8 (nsS E_b6.nostat ns0)
    replace S_DATETIME := Sta.keep S_DATETIME K8 (nsS E_b6.nostat ns0)
    replace S_BINARY := Sta.keep S_BINARY K8 (nsS E_b6.nostat ns0)
    replace S_COMPACT_STRINGS := Sta.keep S_COMPACT_STRINGS K8 (nsS E_b6.nostat ns0)
    replace E_b2 := E_b2.keep K8
    replace V_b2 := V_b2.keep K8 (ninS ne_b2_b6 nin0)
    replace E_b6 := E_b6.keep K8
    have Z9 : n0 ≤ h8.size := Nat.le_trans Z7 K8.1
    have F_value_b6 := Fv8
    have F_coder_b6 := Fc8
    show W p e below _ (T8.setTop (mkF m 37 #[.val (.int p0), .val (.int p1), .val (.int p2), .val (.int p3), .val (.int p4), .val (.int (0 : Int32)), .val (.ref b2), .unset, .unset, .unset, .unset, .unset, .unset, .unset, .unset] [(.ref b6)]))
    refine W.go (fun _ hr => XS.astore X8.here hx rfl (hb hby at_37) rfl rfl (l' := #[.val (.int p0), .val (.int p1), .val (.int p2), .val (.int p3), .val (.int p4), .val (.int (0 : Int32)), .val (.ref b2), .val (.ref b6), .unset, .unset, .unset, .unset, .unset, .unset, .unset]) rfl hr) ?_
    show W p e below _ (T8.setTop (mkF m 39 #[.val (.int p0), .val (.int p1), .val (.int p2), .val (.int p3), .val (.int p4), .val (.int (0 : Int32)), .val (.ref b2), .val (.ref b6), .unset, .unset, .unset, .unset, .unset, .unset, .unset] []))
    refine W.go (fun _ hr => XS.iconst X8.here hx rfl (hb hby at_39) hr) ?_
    show W p e below _ (T8.setTop (mkF m 40 #[.val (.int p0), .val (.int p1), .val (.int p2), .val (.int p3), .val (.int p4), .val (.int (0 : Int32)), .val (.ref b2), .val (.ref b6), .unset, .unset, .unset, .unset, .unset, .unset, .unset] [(.int (1 : Int32))]))
    obtain ⟨T10, h10, k10, X10, e10, E10, A10, E_b10, st10⟩ := newPE X8 hx hZ (hw _ (List.mem_of_getElem? (i := 0) rfl)) e8 (g := (mkF m 40 #[.val (.int p0), .val (.int p1), .val (.int p2), .val (.int p3), .val (.int p4), .val (.int (0 : Int32)), .val (.ref b2), .val (.ref b6), .unset, .unset, .unset, .unset, .unset, .unset, .unset] [(.int (1 : Int32))])) rfl (hb hby at_40) rfl (by decide) (cap := 1) (by decide) (by decide) (by decide) (by decide) (ad := "[C") (by decide)
    obtain ⟨b10, g10⟩ : ∃ z, z = h8.size := ⟨_, rfl⟩
    rw [← g10] at A10 E_b10 st10
    have ne_b2_b10 : b2 ≠ b10 := Nat.ne_of_lt (Nat.lt_of_lt_of_le E_b2.lt (Nat.le_of_eq g10.symm))
    have ne_b6_b10 : b6 ≠ b10 := Nat.ne_of_lt (Nat.lt_of_lt_of_le E_b6.lt (Nat.le_of_eq g10.symm))
    have ne_t8_b10 : t8 ≠ b10 := Nat.ne_of_lt (Nat.lt_of_lt_of_le V_t8.lt (Nat.le_of_eq g10.symm))
    have g_b10 : n0 ≤ b10 := Nat.le_trans Z9 (Nat.le_of_eq g10.symm)
    replace S_STRING := Sta.ext E10 S_STRING
    replace S_NUMBER := Sta.ext E10 S_NUMBER
    replace S_BOOLEAN := Sta.ext E10 S_BOOLEAN
    replace S_DATETIME := Sta.ext E10 S_DATETIME
    replace S_BINARY := Sta.ext E10 S_BINARY
    replace S_COMPACT_STRINGS := Sta.ext E10 S_COMPACT_STRINGS
    replace E_b2 := E_b2.ext E10
    replace V_b2 := V_b2.ext E10
    replace E_b6 := E_b6.ext E10
    replace F_value_b6 := F_value_b6.ext E10
    replace F_coder_b6 := F_coder_b6.ext E10
    replace V_t8 := V_t8.ext E10
    have Z11 : n0 ≤ h10.size := Nat.le_trans Z9 E10.1
    have V_b10 : Arv Z h10 b10 k10 .char (1 : Int32) [(.int (0 : Int32))] (.int (0 : Int32)) := (Arv.new A10 (by decide)).pad (pad_rep [] (.int (0 : Int32)) 1)
    refine W.go st10 ?_
    show W p e below _ (T10.setTop (mkF m 42 #[.val (.int p0), .val (.int p1), .val (.int p2), .val (.int p3), .val (.int p4), .val (.int (0 : Int32)), .val (.ref b2), .val (.ref b6), .unset, .unset, .unset, .unset, .unset, .unset, .unset] [(.ref b10)]))
    refine W.go (fun _ hr => XS.dup X10.here hx rfl (hb hby at_42) rfl rfl hr) ?_
    show W p e below _ (T10.setTop (mkF m 43 #[.val (.int p0), .val (.int p1), .val (.int p2), .val (.int p3), .val (.int p4), .val (.int (0 : Int32)), .val (.ref b2), .val (.ref b6), .unset, .unset, .unset, .unset, .unset, .unset, .unset] [(.ref b10), (.ref b10)]))
    refine W.go (fun _ hr => XS.iconst X10.here hx rfl (hb hby at_43) hr) ?_
    show W p e below _ (T10.setTop (mkF m 44 #[.val (.int p0), .val (.int p1), .val (.int p2), .val (.int p3), .val (.int p4), .val (.int (0 : Int32)), .val (.ref b2), .val (.ref b6), .unset, .unset, .unset, .unset, .unset, .unset, .unset] [(.int (0 : Int32)), (.ref b10), (.ref b10)]))
    refine W.go (fun _ hr => XS.iloadN X10.here hx rfl (hb hby at_44) rfl hr) ?_
    show W p e below _ (T10.setTop (mkF m 45 #[.val (.int p0), .val (.int p1), .val (.int p2), .val (.int p3), .val (.int p4), .val (.int (0 : Int32)), .val (.ref b2), .val (.ref b6), .unset, .unset, .unset, .unset, .unset, .unset, .unset] [(.int p1), (.int (0 : Int32)), (.ref b10), (.ref b10)]))
    refine W.go (fun _ hr => XS.sipush X10.here hx rfl (hb hby at_45) hr) ?_
    show W p e below _ (T10.setTop (mkF m 48 #[.val (.int p0), .val (.int p1), .val (.int p2), .val (.int p3), .val (.int p4), .val (.int (0 : Int32)), .val (.ref b2), .val (.ref b6), .unset, .unset, .unset, .unset, .unset, .unset, .unset] [(.int (255 : Int32)), (.int p1), (.int (0 : Int32)), (.ref b10), (.ref b10)]))
    refine W.go (fun _ hr => XS.iand X10.here hx rfl (hb hby at_48) rfl hr) ?_
    show W p e below _ (T10.setTop (mkF m 49 #[.val (.int p0), .val (.int p1), .val (.int p2), .val (.int p3), .val (.int p4), .val (.int (0 : Int32)), .val (.ref b2), .val (.ref b6), .unset, .unset, .unset, .unset, .unset, .unset, .unset] [(.int (p1 &&& (255 : Int32))), (.int (0 : Int32)), (.ref b10), (.ref b10)]))
    refine W.go (fun _ hr => XS.i2c X10.here hx rfl (hb hby at_49) rfl hr) ?_
    show W p e below _ (T10.setTop (mkF m 50 #[.val (.int p0), .val (.int p1), .val (.int p2), .val (.int p3), .val (.int p4), .val (.int (0 : Int32)), .val (.ref b2), .val (.ref b6), .unset, .unset, .unset, .unset, .unset, .unset, .unset] [(.int ((p1 &&& (255 : Int32)).toUInt32.toUInt16.toUInt32.toInt32)), (.int (0 : Int32)), (.ref b10), (.ref b10)]))
    obtain ⟨cl12, Ar12, q12, S12, Nn12, H12, G12⟩ := V_b10
    have hin12 : ¬ ((0 : Int32) < 0 ∨ cl12.slots.size ≤ ((0 : Int32)).toNatClampNeg) := inb_of S12 ⟨by decide, by decide⟩
    obtain ⟨T12, h12, X12, e12, W12, st12⟩ := stC X10 hx hZ e10 Ar12 (j := (0 : Int32)) hin12 (g := (mkF m 50 #[.val (.int p0), .val (.int p1), .val (.int p2), .val (.int p3), .val (.int p4), .val (.int (0 : Int32)), .val (.ref b2), .val (.ref b6), .unset, .unset, .unset, .unset, .unset, .unset, .unset] [(.int ((p1 &&& (255 : Int32)).toUInt32.toUInt16.toUInt32.toInt32)), (.int (0 : Int32)), (.ref b10), (.ref b10)])) rfl rfl (hb hby at_50)
    replace V_b10 : Arv Z h12 b10 k10 .char (1 : Int32) [(.int (nar .char ((p1 &&& (255 : Int32)).toUInt32.toUInt16.toUInt32.toInt32)))] (.int (0 : Int32)) := Arv.set Ar12 q12 S12 Nn12 H12 G12 (fits_nar_char _) W12 0 rfl (Nat.le_of_ble_eq_true rfl)
    replace S_STRING := Sta.wr W12 S_STRING
    replace S_NUMBER := Sta.wr W12 S_NUMBER
    replace S_BOOLEAN := Sta.wr W12 S_BOOLEAN
    replace S_DATETIME := Sta.wr W12 S_DATETIME
    replace S_BINARY := Sta.wr W12 S_BINARY
    replace S_COMPACT_STRINGS := Sta.wr W12 S_COMPACT_STRINGS
    replace E_b2 := E_b2.wr W12
    replace V_b2 := V_b2.other W12 ne_b2_b10
    replace E_b6 := E_b6.wr W12
    replace F_value_b6 := F_value_b6.other W12 (Or.inl ne_b6_b10)
    replace F_coder_b6 := F_coder_b6.other W12 (Or.inl ne_b6_b10)
    replace V_t8 := V_t8.other W12 ne_t8_b10
    replace E_b10 := E_b10.wr W12
    have Z13 : n0 ≤ h12.size := Nat.le_trans Z11 (Keep.of_wr W12).1
    refine W.go st12 ?_
    have N12 := Fr.snoc X12 N8 g_b10
    show W p e below _ (T12.setTop (mkF m 51 #[.val (.int p0), .val (.int p1), .val (.int p2), .val (.int p3), .val (.int p4), .val (.int (0 : Int32)), .val (.ref b2), .val (.ref b6), .unset, .unset, .unset, .unset, .unset, .unset, .unset] [(.ref b10)]))
    refine W.go (fun _ hr => XS.astore X12.here hx rfl (hb hby at_51) rfl rfl (l' := #[.val (.int p0), .val (.int p1), .val (.int p2), .val (.int p3), .val (.int p4), .val (.int (0 : Int32)), .val (.ref b2), .val (.ref b6), .val (.ref b10), .unset, .unset, .unset, .unset, .unset, .unset]) rfl hr) ?_
    show W p e below _ (T12.setTop (mkF m 53 #[.val (.int p0), .val (.int p1), .val (.int p2), .val (.int p3), .val (.int p4), .val (.int (0 : Int32)), .val (.ref b2), .val (.ref b6), .val (.ref b10), .unset, .unset, .unset, .unset, .unset, .unset] []))
    obtain ⟨T14, h14, X14, e14, E14, E_b14, D14, U14, st14⟩ := newO X12 hx hZ hown (hw _ (List.mem_of_getElem? (i := 1) rfl)) (hw _ (List.mem_of_getElem? (i := 2) rfl)) (hw _ (List.mem_of_getElem? (i := 3) rfl)) e12 (g := (mkF m 53 #[.val (.int p0), .val (.int p1), .val (.int p2), .val (.int p3), .val (.int p4), .val (.int (0 : Int32)), .val (.ref b2), .val (.ref b6), .val (.ref b10), .unset, .unset, .unset, .unset, .unset, .unset] [])) rfl (hb hby at_53) (by decide) (by decide)
    obtain ⟨b14, g14⟩ : ∃ z, z = h12.size := ⟨_, rfl⟩
    rw [← g14] at E_b14 D14 U14 st14
    have ne_b2_b14 : b2 ≠ b14 := Nat.ne_of_lt (Nat.lt_of_lt_of_le E_b2.lt (Nat.le_of_eq g14.symm))
    have ne_b6_b14 : b6 ≠ b14 := Nat.ne_of_lt (Nat.lt_of_lt_of_le E_b6.lt (Nat.le_of_eq g14.symm))
    have ne_t8_b14 : t8 ≠ b14 := Nat.ne_of_lt (Nat.lt_of_lt_of_le V_t8.lt (Nat.le_of_eq g14.symm))
    have ne_b10_b14 : b10 ≠ b14 := Nat.ne_of_lt (Nat.lt_of_lt_of_le E_b10.lt (Nat.le_of_eq g14.symm))
    have g_b14 : n0 ≤ b14 := Nat.le_trans Z13 (Nat.le_of_eq g14.symm)
    replace S_STRING := Sta.ext E14 S_STRING
    replace S_NUMBER := Sta.ext E14 S_NUMBER
    replace S_BOOLEAN := Sta.ext E14 S_BOOLEAN
    replace S_DATETIME := Sta.ext E14 S_DATETIME
    replace S_BINARY := Sta.ext E14 S_BINARY
    replace S_COMPACT_STRINGS := Sta.ext E14 S_COMPACT_STRINGS
    replace E_b2 := E_b2.ext E14
    replace V_b2 := V_b2.ext E14
    replace E_b6 := E_b6.ext E14
    replace F_value_b6 := F_value_b6.ext E14
    replace F_coder_b6 := F_coder_b6.ext E14
    replace V_t8 := V_t8.ext E14
    replace E_b10 := E_b10.ext E14
    replace V_b10 := V_b10.ext E14
    have Z15 : n0 ≤ h14.size := Nat.le_trans Z13 E14.1
    have F_coder_b14 : Fld Z h14 b14 "java/lang/String" "coder" "B" (.int (0 : Int32)) := D14 (Or.inr (hw _ (List.mem_of_getElem? (i := 27) rfl))) (ty := .byte) (by decide)
    have F_value_b14 : Fld Z h14 b14 "java/lang/String" "value" "[B" .null := D14 (Or.inr (hw _ (List.mem_of_getElem? (i := 29) rfl))) (ty := (.array .byte)) (by decide)
    refine W.go st14 ?_
    show W p e below _ (T14.setTop (mkF m 56 #[.val (.int p0), .val (.int p1), .val (.int p2), .val (.int p3), .val (.int p4), .val (.int (0 : Int32)), .val (.ref b2), .val (.ref b6), .val (.ref b10), .unset, .unset, .unset, .unset, .unset, .unset] [(.ref b14)]))
    refine W.go (fun _ hr => XS.dup X14.here hx rfl (hb hby at_56) rfl rfl hr) ?_
    show W p e below _ (T14.setTop (mkF m 57 #[.val (.int p0), .val (.int p1), .val (.int p2), .val (.int p3), .val (.int p4), .val (.int (0 : Int32)), .val (.ref b2), .val (.ref b6), .val (.ref b10), .unset, .unset, .unset, .unset, .unset, .unset] [(.ref b14), (.ref b14)]))
    refine W.go (fun _ hr => XS.aload X14.here hx rfl (hb hby at_57) rfl rfl hr) ?_
    show W p e below _ (T14.setTop (mkF m 59 #[.val (.int p0), .val (.int p1), .val (.int p2), .val (.int p3), .val (.int p4), .val (.int (0 : Int32)), .val (.ref b2), .val (.ref b6), .val (.ref b10), .unset, .unset, .unset, .unset, .unset, .unset] [(.ref b10), (.ref b14), (.ref b14)]))
    have hlat16 : ∀ c ∈ [(nar .char ((p1 &&& (255 : Int32)).toUInt32.toUInt16.toUInt32.toInt32))], ¬ c < 0 ∧ ¬ (255 : Int32) < c := by
      intro c hc
      simp only [List.mem_cons, List.not_mem_nil, or_false] at hc
      rcases hc with rfl
      · exact (own_c255 p1)
    refine W.callIK X14 hx hZ hown (g := (mkF m 59 #[.val (.int p0), .val (.int p1), .val (.int p2), .val (.int p3), .val (.int p4), .val (.int (0 : Int32)), .val (.ref b2), .val (.ref b6), .val (.ref b10), .unset, .unset, .unset, .unset, .unset, .unset] [(.ref b10), (.ref b14), (.ref b14)])) (by rw [hml]; rfl) (hw _ (List.mem_of_getElem? (i := 4) rfl)) (hw _ (List.mem_of_getElem? (i := 5) rfl)) (hw _ (List.mem_of_getElem? (i := 6) rfl)) e14 (StrChars.Road.backV (W := 1) hZ (fun d hd => hw d (own_ws d hd)) (kI := 4) (hw _ (List.mem_of_getElem? (i := 2) rfl)) (cs := [(nar .char ((p1 &&& (255 : Int32)).toUInt32.toUInt16.toUInt32.toInt32))]) (bs := [((nar .char ((p1 &&& (255 : Int32)).toUInt32.toUInt16.toUInt32.toInt32))).toInt8.toInt32]) (n := 1) g_b14 Z15 E_b14 F_value_b14 F_coder_b14 V_b10 S_COMPACT_STRINGS hCS rfl rfl (by decide) (by decide) hlat16 rfl (by decide) (by decide)) rfl (by decide) pd_74 rfl (b := b14) (argsL := [(.ref b10)]) (rest := [(.ref b14)]) rfl rfl rfl (hb hby at_59) (W0 := 1) rfl (by decide) (by decide) (fun v16 T16 h16 L16 X16 e16 hQ16 => ?_)
    obtain ⟨rfl, N16q, K16, Ee16, Fc16, t16, kb16, gt16, st16, nt16, Fv16, V_t16⟩ := hQ16
    have N16 := Fr.app N12 N16q
    have ne_b2_t16 : b2 ≠ t16 := Nat.ne_of_lt (Nat.lt_of_lt_of_le E_b2.lt st16)
    have ne_b6_t16 : b6 ≠ t16 := Nat.ne_of_lt (Nat.lt_of_lt_of_le E_b6.lt st16)
    have ne_t8_t16 : t8 ≠ t16 := Nat.ne_of_lt (Nat.lt_of_lt_of_le V_t8.lt st16)
    have ne_b10_t16 : b10 ≠ t16 := Nat.ne_of_lt (Nat.lt_of_lt_of_le E_b10.lt st16)
    have ne_b14_t16 : b14 ≠ t16 := Nat.ne_of_lt (Nat.lt_of_lt_of_le E_b14.lt st16)
    have g_t16 : n0 ≤ t16 := Nat.le_trans Z15 st16
    replace S_STRING := Sta.keep S_STRING K16 (nsS E_b14.nostat ns0)
    replace S_NUMBER := Sta.keep S_NUMBER K16 (nsS E_b14.nostat ns0)
    replace S_BOOLEAN := Sta.keep S_BOOLEAN K16 (nsS E_b14.nostat ns0)
    replace S_DATETIME := Sta.keep S_DATETIME K16 (nsS E_b14.nostat ns0)
    replace S_BINARY := Sta.keep S_BINARY K16 (nsS E_b14.nostat ns0)
    replace S_COMPACT_STRINGS := Sta.keep S_COMPACT_STRINGS K16 (nsS E_b14.nostat ns0)
    replace E_b2 := E_b2.keep K16
    replace V_b2 := V_b2.keep K16 (ninS ne_b2_b14 nin0)
    replace E_b6 := E_b6.keep K16
    replace F_value_b6 := F_value_b6.keep K16 (ninS ne_b6_b14 nin0)
    replace F_coder_b6 := F_coder_b6.keep K16 (ninS ne_b6_b14 nin0)
    replace V_t8 := V_t8.keep K16 (ninS ne_t8_b14 nin0)
    replace E_b10 := E_b10.keep K16
    replace V_b10 := V_b10.keep K16 (ninS ne_b10_b14 nin0)
    replace E_b14 := E_b14.keep K16
    have Z17 : n0 ≤ h16.size := Nat.le_trans Z15 K16.1
    have F_value_b14 := Fv16
    have F_coder_b14 := Fc16
    show W p e below _ (T16.setTop (mkF m 62 #[.val (.int p0), .val (.int p1), .val (.int p2), .val (.int p3), .val (.int p4), .val (.int (0 : Int32)), .val (.ref b2), .val (.ref b6), .val (.ref b10), .unset, .unset, .unset, .unset, .unset, .unset] [(.ref b14)]))
    refine W.go (fun _ hr => XS.astore X16.here hx rfl (hb hby at_62) rfl rfl (l' := #[.val (.int p0), .val (.int p1), .val (.int p2), .val (.int p3), .val (.int p4), .val (.int (0 : Int32)), .val (.ref b2), .val (.ref b6), .val (.ref b10), .val (.ref b14), .unset, .unset, .unset, .unset, .unset]) rfl hr) ?_
    show W p e below _ (T16.setTop (mkF m 64 #[.val (.int p0), .val (.int p1), .val (.int p2), .val (.int p3), .val (.int p4), .val (.int (0 : Int32)), .val (.ref b2), .val (.ref b6), .val (.ref b10), .val (.ref b14), .unset, .unset, .unset, .unset, .unset] []))
    refine W.go (fun _ hr => XS.iconst X16.here hx rfl (hb hby at_64) hr) ?_
    show W p e below _ (T16.setTop (mkF m 65 #[.val (.int p0), .val (.int p1), .val (.int p2), .val (.int p3), .val (.int p4), .val (.int (0 : Int32)), .val (.ref b2), .val (.ref b6), .val (.ref b10), .val (.ref b14), .unset, .unset, .unset, .unset, .unset] [(.int (1 : Int32))]))
    obtain ⟨T18, h18, k18, X18, e18, E18, A18, E_b18, st18⟩ := newPE X16 hx hZ (hw _ (List.mem_of_getElem? (i := 0) rfl)) e16 (g := (mkF m 65 #[.val (.int p0), .val (.int p1), .val (.int p2), .val (.int p3), .val (.int p4), .val (.int (0 : Int32)), .val (.ref b2), .val (.ref b6), .val (.ref b10), .val (.ref b14), .unset, .unset, .unset, .unset, .unset] [(.int (1 : Int32))])) rfl (hb hby at_65) rfl (by decide) (cap := 1) (by decide) (by decide) (by decide) (by decide) (ad := "[C") (by decide)
    obtain ⟨b18, g18⟩ : ∃ z, z = h16.size := ⟨_, rfl⟩
    rw [← g18] at A18 E_b18 st18
    have ne_b2_b18 : b2 ≠ b18 := Nat.ne_of_lt (Nat.lt_of_lt_of_le E_b2.lt (Nat.le_of_eq g18.symm))
    have ne_b6_b18 : b6 ≠ b18 := Nat.ne_of_lt (Nat.lt_of_lt_of_le E_b6.lt (Nat.le_of_eq g18.symm))
    have ne_t8_b18 : t8 ≠ b18 := Nat.ne_of_lt (Nat.lt_of_lt_of_le V_t8.lt (Nat.le_of_eq g18.symm))
    have ne_b10_b18 : b10 ≠ b18 := Nat.ne_of_lt (Nat.lt_of_lt_of_le E_b10.lt (Nat.le_of_eq g18.symm))
    have ne_b14_b18 : b14 ≠ b18 := Nat.ne_of_lt (Nat.lt_of_lt_of_le E_b14.lt (Nat.le_of_eq g18.symm))
    have ne_t16_b18 : t16 ≠ b18 := Nat.ne_of_lt (Nat.lt_of_lt_of_le V_t16.lt (Nat.le_of_eq g18.symm))
    have g_b18 : n0 ≤ b18 := Nat.le_trans Z17 (Nat.le_of_eq g18.symm)
    replace S_STRING := Sta.ext E18 S_STRING
    replace S_NUMBER := Sta.ext E18 S_NUMBER
    replace S_BOOLEAN := Sta.ext E18 S_BOOLEAN
    replace S_DATETIME := Sta.ext E18 S_DATETIME
    replace S_BINARY := Sta.ext E18 S_BINARY
    replace S_COMPACT_STRINGS := Sta.ext E18 S_COMPACT_STRINGS
    replace E_b2 := E_b2.ext E18
    replace V_b2 := V_b2.ext E18
    replace E_b6 := E_b6.ext E18
    replace F_value_b6 := F_value_b6.ext E18
    replace F_coder_b6 := F_coder_b6.ext E18
    replace V_t8 := V_t8.ext E18
    replace E_b10 := E_b10.ext E18
    replace V_b10 := V_b10.ext E18
    replace E_b14 := E_b14.ext E18
    replace F_value_b14 := F_value_b14.ext E18
    replace F_coder_b14 := F_coder_b14.ext E18
    replace V_t16 := V_t16.ext E18
    have Z19 : n0 ≤ h18.size := Nat.le_trans Z17 E18.1
    have V_b18 : Arv Z h18 b18 k18 .char (1 : Int32) [(.int (0 : Int32))] (.int (0 : Int32)) := (Arv.new A18 (by decide)).pad (pad_rep [] (.int (0 : Int32)) 1)
    refine W.go st18 ?_
    show W p e below _ (T18.setTop (mkF m 67 #[.val (.int p0), .val (.int p1), .val (.int p2), .val (.int p3), .val (.int p4), .val (.int (0 : Int32)), .val (.ref b2), .val (.ref b6), .val (.ref b10), .val (.ref b14), .unset, .unset, .unset, .unset, .unset] [(.ref b18)]))
    refine W.go (fun _ hr => XS.dup X18.here hx rfl (hb hby at_67) rfl rfl hr) ?_
    show W p e below _ (T18.setTop (mkF m 68 #[.val (.int p0), .val (.int p1), .val (.int p2), .val (.int p3), .val (.int p4), .val (.int (0 : Int32)), .val (.ref b2), .val (.ref b6), .val (.ref b10), .val (.ref b14), .unset, .unset, .unset, .unset, .unset] [(.ref b18), (.ref b18)]))
    refine W.go (fun _ hr => XS.iconst X18.here hx rfl (hb hby at_68) hr) ?_
    show W p e below _ (T18.setTop (mkF m 69 #[.val (.int p0), .val (.int p1), .val (.int p2), .val (.int p3), .val (.int p4), .val (.int (0 : Int32)), .val (.ref b2), .val (.ref b6), .val (.ref b10), .val (.ref b14), .unset, .unset, .unset, .unset, .unset] [(.int (0 : Int32)), (.ref b18), (.ref b18)]))
    refine W.go (fun _ hr => XS.iloadN X18.here hx rfl (hb hby at_69) rfl hr) ?_
    show W p e below _ (T18.setTop (mkF m 70 #[.val (.int p0), .val (.int p1), .val (.int p2), .val (.int p3), .val (.int p4), .val (.int (0 : Int32)), .val (.ref b2), .val (.ref b6), .val (.ref b10), .val (.ref b14), .unset, .unset, .unset, .unset, .unset] [(.int p2), (.int (0 : Int32)), (.ref b18), (.ref b18)]))
    refine W.go (fun _ hr => XS.sipush X18.here hx rfl (hb hby at_70) hr) ?_
    show W p e below _ (T18.setTop (mkF m 73 #[.val (.int p0), .val (.int p1), .val (.int p2), .val (.int p3), .val (.int p4), .val (.int (0 : Int32)), .val (.ref b2), .val (.ref b6), .val (.ref b10), .val (.ref b14), .unset, .unset, .unset, .unset, .unset] [(.int (255 : Int32)), (.int p2), (.int (0 : Int32)), (.ref b18), (.ref b18)]))
    refine W.go (fun _ hr => XS.iand X18.here hx rfl (hb hby at_73) rfl hr) ?_
    show W p e below _ (T18.setTop (mkF m 74 #[.val (.int p0), .val (.int p1), .val (.int p2), .val (.int p3), .val (.int p4), .val (.int (0 : Int32)), .val (.ref b2), .val (.ref b6), .val (.ref b10), .val (.ref b14), .unset, .unset, .unset, .unset, .unset] [(.int (p2 &&& (255 : Int32))), (.int (0 : Int32)), (.ref b18), (.ref b18)]))
    refine W.go (fun _ hr => XS.i2c X18.here hx rfl (hb hby at_74) rfl hr) ?_
    show W p e below _ (T18.setTop (mkF m 75 #[.val (.int p0), .val (.int p1), .val (.int p2), .val (.int p3), .val (.int p4), .val (.int (0 : Int32)), .val (.ref b2), .val (.ref b6), .val (.ref b10), .val (.ref b14), .unset, .unset, .unset, .unset, .unset] [(.int ((p2 &&& (255 : Int32)).toUInt32.toUInt16.toUInt32.toInt32)), (.int (0 : Int32)), (.ref b18), (.ref b18)]))
    obtain ⟨cl20, Ar20, q20, S20, Nn20, H20, G20⟩ := V_b18
    have hin20 : ¬ ((0 : Int32) < 0 ∨ cl20.slots.size ≤ ((0 : Int32)).toNatClampNeg) := inb_of S20 ⟨by decide, by decide⟩
    obtain ⟨T20, h20, X20, e20, W20, st20⟩ := stC X18 hx hZ e18 Ar20 (j := (0 : Int32)) hin20 (g := (mkF m 75 #[.val (.int p0), .val (.int p1), .val (.int p2), .val (.int p3), .val (.int p4), .val (.int (0 : Int32)), .val (.ref b2), .val (.ref b6), .val (.ref b10), .val (.ref b14), .unset, .unset, .unset, .unset, .unset] [(.int ((p2 &&& (255 : Int32)).toUInt32.toUInt16.toUInt32.toInt32)), (.int (0 : Int32)), (.ref b18), (.ref b18)])) rfl rfl (hb hby at_75)
    replace V_b18 : Arv Z h20 b18 k18 .char (1 : Int32) [(.int (nar .char ((p2 &&& (255 : Int32)).toUInt32.toUInt16.toUInt32.toInt32)))] (.int (0 : Int32)) := Arv.set Ar20 q20 S20 Nn20 H20 G20 (fits_nar_char _) W20 0 rfl (Nat.le_of_ble_eq_true rfl)
    replace S_STRING := Sta.wr W20 S_STRING
    replace S_NUMBER := Sta.wr W20 S_NUMBER
    replace S_BOOLEAN := Sta.wr W20 S_BOOLEAN
    replace S_DATETIME := Sta.wr W20 S_DATETIME
    replace S_BINARY := Sta.wr W20 S_BINARY
    replace S_COMPACT_STRINGS := Sta.wr W20 S_COMPACT_STRINGS
    replace E_b2 := E_b2.wr W20
    replace V_b2 := V_b2.other W20 ne_b2_b18
    replace E_b6 := E_b6.wr W20
    replace F_value_b6 := F_value_b6.other W20 (Or.inl ne_b6_b18)
    replace F_coder_b6 := F_coder_b6.other W20 (Or.inl ne_b6_b18)
    replace V_t8 := V_t8.other W20 ne_t8_b18
    replace E_b10 := E_b10.wr W20
    replace V_b10 := V_b10.other W20 ne_b10_b18
    replace E_b14 := E_b14.wr W20
    replace F_value_b14 := F_value_b14.other W20 (Or.inl ne_b14_b18)
    replace F_coder_b14 := F_coder_b14.other W20 (Or.inl ne_b14_b18)
    replace V_t16 := V_t16.other W20 ne_t16_b18
    replace E_b18 := E_b18.wr W20
    have Z21 : n0 ≤ h20.size := Nat.le_trans Z19 (Keep.of_wr W20).1
    refine W.go st20 ?_
    have N20 := Fr.snoc X20 N16 g_b18
    show W p e below _ (T20.setTop (mkF m 76 #[.val (.int p0), .val (.int p1), .val (.int p2), .val (.int p3), .val (.int p4), .val (.int (0 : Int32)), .val (.ref b2), .val (.ref b6), .val (.ref b10), .val (.ref b14), .unset, .unset, .unset, .unset, .unset] [(.ref b18)]))
    refine W.go (fun _ hr => XS.astore X20.here hx rfl (hb hby at_76) rfl rfl (l' := #[.val (.int p0), .val (.int p1), .val (.int p2), .val (.int p3), .val (.int p4), .val (.int (0 : Int32)), .val (.ref b2), .val (.ref b6), .val (.ref b10), .val (.ref b14), .val (.ref b18), .unset, .unset, .unset, .unset]) rfl hr) ?_
    show W p e below _ (T20.setTop (mkF m 78 #[.val (.int p0), .val (.int p1), .val (.int p2), .val (.int p3), .val (.int p4), .val (.int (0 : Int32)), .val (.ref b2), .val (.ref b6), .val (.ref b10), .val (.ref b14), .val (.ref b18), .unset, .unset, .unset, .unset] []))
    obtain ⟨T22, h22, X22, e22, E22, E_b22, D22, U22, st22⟩ := newO X20 hx hZ hown (hw _ (List.mem_of_getElem? (i := 1) rfl)) (hw _ (List.mem_of_getElem? (i := 2) rfl)) (hw _ (List.mem_of_getElem? (i := 3) rfl)) e20 (g := (mkF m 78 #[.val (.int p0), .val (.int p1), .val (.int p2), .val (.int p3), .val (.int p4), .val (.int (0 : Int32)), .val (.ref b2), .val (.ref b6), .val (.ref b10), .val (.ref b14), .val (.ref b18), .unset, .unset, .unset, .unset] [])) rfl (hb hby at_78) (by decide) (by decide)
    obtain ⟨b22, g22⟩ : ∃ z, z = h20.size := ⟨_, rfl⟩
    rw [← g22] at E_b22 D22 U22 st22
    have ne_b2_b22 : b2 ≠ b22 := Nat.ne_of_lt (Nat.lt_of_lt_of_le E_b2.lt (Nat.le_of_eq g22.symm))
    have ne_b6_b22 : b6 ≠ b22 := Nat.ne_of_lt (Nat.lt_of_lt_of_le E_b6.lt (Nat.le_of_eq g22.symm))
    have ne_t8_b22 : t8 ≠ b22 := Nat.ne_of_lt (Nat.lt_of_lt_of_le V_t8.lt (Nat.le_of_eq g22.symm))
    have ne_b10_b22 : b10 ≠ b22 := Nat.ne_of_lt (Nat.lt_of_lt_of_le E_b10.lt (Nat.le_of_eq g22.symm))
    have ne_b14_b22 : b14 ≠ b22 := Nat.ne_of_lt (Nat.lt_of_lt_of_le E_b14.lt (Nat.le_of_eq g22.symm))
    have ne_t16_b22 : t16 ≠ b22 := Nat.ne_of_lt (Nat.lt_of_lt_of_le V_t16.lt (Nat.le_of_eq g22.symm))
    have ne_b18_b22 : b18 ≠ b22 := Nat.ne_of_lt (Nat.lt_of_lt_of_le E_b18.lt (Nat.le_of_eq g22.symm))
    have g_b22 : n0 ≤ b22 := Nat.le_trans Z21 (Nat.le_of_eq g22.symm)
    replace S_STRING := Sta.ext E22 S_STRING
    replace S_NUMBER := Sta.ext E22 S_NUMBER
    replace S_BOOLEAN := Sta.ext E22 S_BOOLEAN
    replace S_DATETIME := Sta.ext E22 S_DATETIME
    replace S_BINARY := Sta.ext E22 S_BINARY
    replace S_COMPACT_STRINGS := Sta.ext E22 S_COMPACT_STRINGS
    replace E_b2 := E_b2.ext E22
    replace V_b2 := V_b2.ext E22
    replace E_b6 := E_b6.ext E22
    replace F_value_b6 := F_value_b6.ext E22
    replace F_coder_b6 := F_coder_b6.ext E22
    replace V_t8 := V_t8.ext E22
    replace E_b10 := E_b10.ext E22
    replace V_b10 := V_b10.ext E22
    replace E_b14 := E_b14.ext E22
    replace F_value_b14 := F_value_b14.ext E22
    replace F_coder_b14 := F_coder_b14.ext E22
    replace V_t16 := V_t16.ext E22
    replace E_b18 := E_b18.ext E22
    replace V_b18 := V_b18.ext E22
    have Z23 : n0 ≤ h22.size := Nat.le_trans Z21 E22.1
    have F_coder_b22 : Fld Z h22 b22 "java/lang/String" "coder" "B" (.int (0 : Int32)) := D22 (Or.inr (hw _ (List.mem_of_getElem? (i := 27) rfl))) (ty := .byte) (by decide)
    have F_value_b22 : Fld Z h22 b22 "java/lang/String" "value" "[B" .null := D22 (Or.inr (hw _ (List.mem_of_getElem? (i := 29) rfl))) (ty := (.array .byte)) (by decide)
    refine W.go st22 ?_
    show W p e below _ (T22.setTop (mkF m 81 #[.val (.int p0), .val (.int p1), .val (.int p2), .val (.int p3), .val (.int p4), .val (.int (0 : Int32)), .val (.ref b2), .val (.ref b6), .val (.ref b10), .val (.ref b14), .val (.ref b18), .unset, .unset, .unset, .unset] [(.ref b22)]))
    refine W.go (fun _ hr => XS.dup X22.here hx rfl (hb hby at_81) rfl rfl hr) ?_
    show W p e below _ (T22.setTop (mkF m 82 #[.val (.int p0), .val (.int p1), .val (.int p2), .val (.int p3), .val (.int p4), .val (.int (0 : Int32)), .val (.ref b2), .val (.ref b6), .val (.ref b10), .val (.ref b14), .val (.ref b18), .unset, .unset, .unset, .unset] [(.ref b22), (.ref b22)]))
    refine W.go (fun _ hr => XS.aload X22.here hx rfl (hb hby at_82) rfl rfl hr) ?_
    show W p e below _ (T22.setTop (mkF m 84 #[.val (.int p0), .val (.int p1), .val (.int p2), .val (.int p3), .val (.int p4), .val (.int (0 : Int32)), .val (.ref b2), .val (.ref b6), .val (.ref b10), .val (.ref b14), .val (.ref b18), .unset, .unset, .unset, .unset] [(.ref b18), (.ref b22), (.ref b22)]))
    have hlat24 : ∀ c ∈ [(nar .char ((p2 &&& (255 : Int32)).toUInt32.toUInt16.toUInt32.toInt32))], ¬ c < 0 ∧ ¬ (255 : Int32) < c := by
      intro c hc
      simp only [List.mem_cons, List.not_mem_nil, or_false] at hc
      rcases hc with rfl
      · exact (own_c255 p2)
    refine W.callIK X22 hx hZ hown (g := (mkF m 84 #[.val (.int p0), .val (.int p1), .val (.int p2), .val (.int p3), .val (.int p4), .val (.int (0 : Int32)), .val (.ref b2), .val (.ref b6), .val (.ref b10), .val (.ref b14), .val (.ref b18), .unset, .unset, .unset, .unset] [(.ref b18), (.ref b22), (.ref b22)])) (by rw [hml]; rfl) (hw _ (List.mem_of_getElem? (i := 4) rfl)) (hw _ (List.mem_of_getElem? (i := 5) rfl)) (hw _ (List.mem_of_getElem? (i := 6) rfl)) e22 (StrChars.Road.backV (W := 1) hZ (fun d hd => hw d (own_ws d hd)) (kI := 4) (hw _ (List.mem_of_getElem? (i := 2) rfl)) (cs := [(nar .char ((p2 &&& (255 : Int32)).toUInt32.toUInt16.toUInt32.toInt32))]) (bs := [((nar .char ((p2 &&& (255 : Int32)).toUInt32.toUInt16.toUInt32.toInt32))).toInt8.toInt32]) (n := 1) g_b22 Z23 E_b22 F_value_b22 F_coder_b22 V_b18 S_COMPACT_STRINGS hCS rfl rfl (by decide) (by decide) hlat24 rfl (by decide) (by decide)) rfl (by decide) pd_74 rfl (b := b22) (argsL := [(.ref b18)]) (rest := [(.ref b22)]) rfl rfl rfl (hb hby at_84) (W0 := 1) rfl (by decide) (by decide) (fun v24 T24 h24 L24 X24 e24 hQ24 => ?_)
    obtain ⟨rfl, N24q, K24, Ee24, Fc24, t24, kb24, gt24, st24, nt24, Fv24, V_t24⟩ := hQ24
    have N24 := Fr.app N20 N24q
    have ne_b2_t24 : b2 ≠ t24 := Nat.ne_of_lt (Nat.lt_of_lt_of_le E_b2.lt st24)
    have ne_b6_t24 : b6 ≠ t24 := Nat.ne_of_lt (Nat.lt_of_lt_of_le E_b6.lt st24)
    have ne_t8_t24 : t8 ≠ t24 := Nat.ne_of_lt (Nat.lt_of_lt_of_le V_t8.lt st24)
    have ne_b10_t24 : b10 ≠ t24 := Nat.ne_of_lt (Nat.lt_of_lt_of_le E_b10.lt st24)
    have ne_b14_t24 : b14 ≠ t24 := Nat.ne_of_lt (Nat.lt_of_lt_of_le E_b14.lt st24)
    have ne_t16_t24 : t16 ≠ t24 := Nat.ne_of_lt (Nat.lt_of_lt_of_le V_t16.lt st24)
    have ne_b18_t24 : b18 ≠ t24 := Nat.ne_of_lt (Nat.lt_of_lt_of_le E_b18.lt st24)
    have ne_b22_t24 : b22 ≠ t24 := Nat.ne_of_lt (Nat.lt_of_lt_of_le E_b22.lt st24)
    have g_t24 : n0 ≤ t24 := Nat.le_trans Z23 st24
    replace S_STRING := Sta.keep S_STRING K24 (nsS E_b22.nostat ns0)
    replace S_NUMBER := Sta.keep S_NUMBER K24 (nsS E_b22.nostat ns0)
    replace S_BOOLEAN := Sta.keep S_BOOLEAN K24 (nsS E_b22.nostat ns0)
    replace S_DATETIME := Sta.keep S_DATETIME K24 (nsS E_b22.nostat ns0)
    replace S_BINARY := Sta.keep S_BINARY K24 (nsS E_b22.nostat ns0)
    replace S_COMPACT_STRINGS := Sta.keep S_COMPACT_STRINGS K24 (nsS E_b22.nostat ns0)
    replace E_b2 := E_b2.keep K24
    replace V_b2 := V_b2.keep K24 (ninS ne_b2_b22 nin0)
    replace E_b6 := E_b6.keep K24
    replace F_value_b6 := F_value_b6.keep K24 (ninS ne_b6_b22 nin0)
    replace F_coder_b6 := F_coder_b6.keep K24 (ninS ne_b6_b22 nin0)
    replace V_t8 := V_t8.keep K24 (ninS ne_t8_b22 nin0)
    replace E_b10 := E_b10.keep K24
    replace V_b10 := V_b10.keep K24 (ninS ne_b10_b22 nin0)
    replace E_b14 := E_b14.keep K24
    replace F_value_b14 := F_value_b14.keep K24 (ninS ne_b14_b22 nin0)
    replace F_coder_b14 := F_coder_b14.keep K24 (ninS ne_b14_b22 nin0)
    replace V_t16 := V_t16.keep K24 (ninS ne_t16_b22 nin0)
    replace E_b18 := E_b18.keep K24
    replace V_b18 := V_b18.keep K24 (ninS ne_b18_b22 nin0)
    replace E_b22 := E_b22.keep K24
    have Z25 : n0 ≤ h24.size := Nat.le_trans Z23 K24.1
    have F_value_b22 := Fv24
    have F_coder_b22 := Fc24
    show W p e below _ (T24.setTop (mkF m 87 #[.val (.int p0), .val (.int p1), .val (.int p2), .val (.int p3), .val (.int p4), .val (.int (0 : Int32)), .val (.ref b2), .val (.ref b6), .val (.ref b10), .val (.ref b14), .val (.ref b18), .unset, .unset, .unset, .unset] [(.ref b22)]))
    refine W.go (fun _ hr => XS.astore X24.here hx rfl (hb hby at_87) rfl rfl (l' := #[.val (.int p0), .val (.int p1), .val (.int p2), .val (.int p3), .val (.int p4), .val (.int (0 : Int32)), .val (.ref b2), .val (.ref b6), .val (.ref b10), .val (.ref b14), .val (.ref b18), .val (.ref b22), .unset, .unset, .unset]) rfl hr) ?_
    show W p e below _ (T24.setTop (mkF m 89 #[.val (.int p0), .val (.int p1), .val (.int p2), .val (.int p3), .val (.int p4), .val (.int (0 : Int32)), .val (.ref b2), .val (.ref b6), .val (.ref b10), .val (.ref b14), .val (.ref b18), .val (.ref b22), .unset, .unset, .unset] []))
    refine W.go (fun _ hr => XS.iloadN X24.here hx rfl (hb hby at_89) rfl hr) ?_
    show W p e below _ (T24.setTop (mkF m 90 #[.val (.int p0), .val (.int p1), .val (.int p2), .val (.int p3), .val (.int p4), .val (.int (0 : Int32)), .val (.ref b2), .val (.ref b6), .val (.ref b10), .val (.ref b14), .val (.ref b18), .val (.ref b22), .unset, .unset, .unset] [(.int p3)]))
    refine W.callS X24 hx hZ hown (g := (mkF m 90 #[.val (.int p0), .val (.int p1), .val (.int p2), .val (.int p3), .val (.int p4), .val (.int (0 : Int32)), .val (.ref b2), .val (.ref b6), .val (.ref b10), .val (.ref b14), .val (.ref b18), .val (.ref b22), .unset, .unset, .unset] [(.int p3)])) (by rw [hml]; rfl) (hw _ (List.mem_of_getElem? (i := 30) rfl)) (hw _ (List.mem_of_getElem? (i := 31) rfl)) (hw _ (List.mem_of_getElem? (i := 32) rfl)) (hw _ (List.mem_of_getElem? (i := 33) rfl)) e24 (rm7 l Z a0 hw p3 w_STRING w_NUMBER w_BOOLEAN w_DATETIME w_BINARY h24 n0 Z25 S_STRING S_NUMBER S_BOOLEAN S_DATETIME S_BINARY) (by decide) pd_75 rfl (argsL := [(.int p3)]) (rest := []) rfl rfl rfl (hb hby at_90) (W0 := 0) rfl (by decide) (by decide) (by decide) (by decide) (fun v26 T26 h26 L26 X26 e26 hQ26 => ?_)
    obtain ⟨t26, rfl, N26q, hh26⟩ := hQ26
    obtain rfl := hh26.symm
    have N26 := Fr.app N24 N26q
    show W p e below _ (T26.setTop (mkF m 93 #[.val (.int p0), .val (.int p1), .val (.int p2), .val (.int p3), .val (.int p4), .val (.int (0 : Int32)), .val (.ref b2), .val (.ref b6), .val (.ref b10), .val (.ref b14), .val (.ref b18), .val (.ref b22), .unset, .unset, .unset] [(.ref t26)]))
    refine W.go (fun _ hr => XS.astore X26.here hx rfl (hb hby at_93) rfl rfl (l' := #[.val (.int p0), .val (.int p1), .val (.int p2), .val (.int p3), .val (.int p4), .val (.int (0 : Int32)), .val (.ref b2), .val (.ref b6), .val (.ref b10), .val (.ref b14), .val (.ref b18), .val (.ref b22), .val (.ref t26), .unset, .unset]) rfl hr) ?_
    show W p e below _ (T26.setTop (mkF m 95 #[.val (.int p0), .val (.int p1), .val (.int p2), .val (.int p3), .val (.int p4), .val (.int (0 : Int32)), .val (.ref b2), .val (.ref b6), .val (.ref b10), .val (.ref b14), .val (.ref b18), .val (.ref b22), .val (.ref t26), .unset, .unset] []))
    refine W.go (fun _ hr => XS.iload X26.here hx rfl (hb hby at_95) rfl hr) ?_
    show W p e below _ (T26.setTop (mkF m 97 #[.val (.int p0), .val (.int p1), .val (.int p2), .val (.int p3), .val (.int p4), .val (.int (0 : Int32)), .val (.ref b2), .val (.ref b6), .val (.ref b10), .val (.ref b14), .val (.ref b18), .val (.ref b22), .val (.ref t26), .unset, .unset] [(.int (0 : Int32))]))
    refine W.go (fun _ hr => XS.ifYes X26.here hx rfl (pc0 := 97) (pc' := 132) rfl (hb hby at_97) rfl ((if0 _ _).trans (teq (by decide : ((0 : Int32) = (0 : Int32)))).1) (by decide) (by decide) hr) ?_
    show W p e below _ (T26.setTop (mkF m 132 #[.val (.int p0), .val (.int p1), .val (.int p2), .val (.int p3), .val (.int p4), .val (.int (0 : Int32)), .val (.ref b2), .val (.ref b6), .val (.ref b10), .val (.ref b14), .val (.ref b18), .val (.ref b22), .val (.ref t26), .unset, .unset] []))
    obtain ⟨T27, h27, X27, e27, E27, E_b27, D27, U27, st27⟩ := newO X26 hx hZ hown (hw _ (List.mem_of_getElem? (i := 38) rfl)) (hw _ (List.mem_of_getElem? (i := 39) rfl)) (hw _ (List.mem_of_getElem? (i := 40) rfl)) e26 (g := (mkF m 132 #[.val (.int p0), .val (.int p1), .val (.int p2), .val (.int p3), .val (.int p4), .val (.int (0 : Int32)), .val (.ref b2), .val (.ref b6), .val (.ref b10), .val (.ref b14), .val (.ref b18), .val (.ref b22), .val (.ref t26), .unset, .unset] [])) rfl (hb hby at_132) (by decide) (by decide)
    obtain ⟨b27, g27⟩ : ∃ z, z = h24.size := ⟨_, rfl⟩
    rw [← g27] at E_b27 D27 U27 st27
    have ne_b2_b27 : b2 ≠ b27 := Nat.ne_of_lt (Nat.lt_of_lt_of_le E_b2.lt (Nat.le_of_eq g27.symm))
    have ne_b6_b27 : b6 ≠ b27 := Nat.ne_of_lt (Nat.lt_of_lt_of_le E_b6.lt (Nat.le_of_eq g27.symm))
    have ne_t8_b27 : t8 ≠ b27 := Nat.ne_of_lt (Nat.lt_of_lt_of_le V_t8.lt (Nat.le_of_eq g27.symm))
    have ne_b10_b27 : b10 ≠ b27 := Nat.ne_of_lt (Nat.lt_of_lt_of_le E_b10.lt (Nat.le_of_eq g27.symm))
    have ne_b14_b27 : b14 ≠ b27 := Nat.ne_of_lt (Nat.lt_of_lt_of_le E_b14.lt (Nat.le_of_eq g27.symm))
    have ne_t16_b27 : t16 ≠ b27 := Nat.ne_of_lt (Nat.lt_of_lt_of_le V_t16.lt (Nat.le_of_eq g27.symm))
    have ne_b18_b27 : b18 ≠ b27 := Nat.ne_of_lt (Nat.lt_of_lt_of_le E_b18.lt (Nat.le_of_eq g27.symm))
    have ne_b22_b27 : b22 ≠ b27 := Nat.ne_of_lt (Nat.lt_of_lt_of_le E_b22.lt (Nat.le_of_eq g27.symm))
    have ne_t24_b27 : t24 ≠ b27 := Nat.ne_of_lt (Nat.lt_of_lt_of_le V_t24.lt (Nat.le_of_eq g27.symm))
    have g_b27 : n0 ≤ b27 := Nat.le_trans Z25 (Nat.le_of_eq g27.symm)
    replace S_STRING := Sta.ext E27 S_STRING
    replace S_NUMBER := Sta.ext E27 S_NUMBER
    replace S_BOOLEAN := Sta.ext E27 S_BOOLEAN
    replace S_DATETIME := Sta.ext E27 S_DATETIME
    replace S_BINARY := Sta.ext E27 S_BINARY
    replace S_COMPACT_STRINGS := Sta.ext E27 S_COMPACT_STRINGS
    replace E_b2 := E_b2.ext E27
    replace V_b2 := V_b2.ext E27
    replace E_b6 := E_b6.ext E27
    replace F_value_b6 := F_value_b6.ext E27
    replace F_coder_b6 := F_coder_b6.ext E27
    replace V_t8 := V_t8.ext E27
    replace E_b10 := E_b10.ext E27
    replace V_b10 := V_b10.ext E27
    replace E_b14 := E_b14.ext E27
    replace F_value_b14 := F_value_b14.ext E27
    replace F_coder_b14 := F_coder_b14.ext E27
    replace V_t16 := V_t16.ext E27
    replace E_b18 := E_b18.ext E27
    replace V_b18 := V_b18.ext E27
    replace E_b22 := E_b22.ext E27
    replace F_value_b22 := F_value_b22.ext E27
    replace F_coder_b22 := F_coder_b22.ext E27
    replace V_t24 := V_t24.ext E27
    have Z28 : n0 ≤ h27.size := Nat.le_trans Z25 E27.1
    have F_name_b27 : Fld Z h27 b27 "com/example/facetree/facetree/model/AttributeDefinition" "name" "Ljava/lang/String;" .null := D27 (Or.inr (hw _ (List.mem_of_getElem? (i := 54) rfl))) (ty := (.object "java/lang/String")) (by decide)
    have F_type_b27 : Fld Z h27 b27 "com/example/facetree/facetree/model/AttributeDefinition" "type" "Lcom/example/facetree/facetree/model/AttributeType;" .null := D27 (Or.inr (hw _ (List.mem_of_getElem? (i := 56) rfl))) (ty := (.object "com/example/facetree/facetree/model/AttributeType")) (by decide)
    have F_requiredBehavior_b27 : Fld Z h27 b27 "com/example/facetree/facetree/model/AttributeDefinition" "requiredBehavior" "Lcom/example/facetree/facetree/model/RequiredBehavior;" .null := D27 (Or.inr (hw _ (List.mem_of_getElem? (i := 58) rfl))) (ty := (.object "com/example/facetree/facetree/model/RequiredBehavior")) (by decide)
    have F_target_b27 : Fld Z h27 b27 "com/example/facetree/facetree/model/AttributeDefinition" "target" "Lcom/example/facetree/facetree/model/AttributeKey;" .null := D27 (Or.inr (hw _ (List.mem_of_getElem? (i := 60) rfl))) (ty := (.object "com/example/facetree/facetree/model/AttributeKey")) (by decide)
    refine W.go st27 ?_
    show W p e below _ (T27.setTop (mkF m 135 #[.val (.int p0), .val (.int p1), .val (.int p2), .val (.int p3), .val (.int p4), .val (.int (0 : Int32)), .val (.ref b2), .val (.ref b6), .val (.ref b10), .val (.ref b14), .val (.ref b18), .val (.ref b22), .val (.ref t26), .unset, .unset] [(.ref b27)]))
    refine W.go (fun _ hr => XS.dup X27.here hx rfl (hb hby at_135) rfl rfl hr) ?_
    show W p e below _ (T27.setTop (mkF m 136 #[.val (.int p0), .val (.int p1), .val (.int p2), .val (.int p3), .val (.int p4), .val (.int (0 : Int32)), .val (.ref b2), .val (.ref b6), .val (.ref b10), .val (.ref b14), .val (.ref b18), .val (.ref b22), .val (.ref t26), .unset, .unset] [(.ref b27), (.ref b27)]))
    refine W.go (fun _ hr => XS.aload X27.here hx rfl (hb hby at_136) rfl rfl hr) ?_
    show W p e below _ (T27.setTop (mkF m 138 #[.val (.int p0), .val (.int p1), .val (.int p2), .val (.int p3), .val (.int p4), .val (.int (0 : Int32)), .val (.ref b2), .val (.ref b6), .val (.ref b10), .val (.ref b14), .val (.ref b18), .val (.ref b22), .val (.ref t26), .unset, .unset] [(.ref b6), (.ref b27), (.ref b27)]))
    refine W.go (fun _ hr => XS.aload X27.here hx rfl (hb hby at_138) rfl rfl hr) ?_
    show W p e below _ (T27.setTop (mkF m 140 #[.val (.int p0), .val (.int p1), .val (.int p2), .val (.int p3), .val (.int p4), .val (.int (0 : Int32)), .val (.ref b2), .val (.ref b6), .val (.ref b10), .val (.ref b14), .val (.ref b18), .val (.ref b22), .val (.ref t26), .unset, .unset] [(.ref t26), (.ref b6), (.ref b27), (.ref b27)]))
    refine W.go (fun _ hr => XS.aconstNull X27.here hx rfl (hb hby at_140) hr) ?_
    show W p e below _ (T27.setTop (mkF m 141 #[.val (.int p0), .val (.int p1), .val (.int p2), .val (.int p3), .val (.int p4), .val (.int (0 : Int32)), .val (.ref b2), .val (.ref b6), .val (.ref b10), .val (.ref b14), .val (.ref b18), .val (.ref b22), .val (.ref t26), .unset, .unset] [.null, (.ref t26), (.ref b6), (.ref b27), (.ref b27)]))
    refine W.callI X27 hx hZ hown (g := (mkF m 141 #[.val (.int p0), .val (.int p1), .val (.int p2), .val (.int p3), .val (.int p4), .val (.int (0 : Int32)), .val (.ref b2), .val (.ref b6), .val (.ref b10), .val (.ref b14), .val (.ref b18), .val (.ref b22), .val (.ref t26), .unset, .unset] [.null, (.ref t26), (.ref b6), (.ref b27), (.ref b27)])) (by rw [hml]; rfl) (hw _ (List.mem_of_getElem? (i := 41) rfl)) (hw _ (List.mem_of_getElem? (i := 42) rfl)) (hw _ (List.mem_of_getElem? (i := 40) rfl)) (hw _ (List.mem_of_getElem? (i := 43) rfl)) e27 (rmD3 l Z a0 hw b27 b6 t26 h27 n0 Z28 E_b27 F_name_b27 F_type_b27 F_requiredBehavior_b27 F_target_b27 g_b27) rfl (by decide) pd_76 rfl (b := b27) (argsL := [(.ref b6), (.ref t26), .null]) (rest := [(.ref b27)]) rfl rfl rfl (hb hby at_141) (W0 := 1) rfl (by decide) (by decide) (by decide) (by decide) (fun v29 T29 h29 L29 X29 e29 hQ29 => ?_)
    obtain ⟨rfl, N29q, K29, Ft29⟩ := hQ29
    have N29 := Fr.app N26 N29q
    replace S_STRING := Sta.keep S_STRING K29 (nsS E_b27.nostat ns0)
    replace S_NUMBER := Sta.keep S_NUMBER K29 (nsS E_b27.nostat ns0)
    replace S_BOOLEAN := Sta.keep S_BOOLEAN K29 (nsS E_b27.nostat ns0)
    replace S_DATETIME := Sta.keep S_DATETIME K29 (nsS E_b27.nostat ns0)
    replace S_BINARY := Sta.keep S_BINARY K29 (nsS E_b27.nostat ns0)
    replace S_COMPACT_STRINGS := Sta.keep S_COMPACT_STRINGS K29 (nsS E_b27.nostat ns0)
    replace E_b2 := E_b2.keep K29
    replace V_b2 := V_b2.keep K29 (ninS ne_b2_b27 nin0)
    replace E_b6 := E_b6.keep K29
    replace F_value_b6 := F_value_b6.keep K29 (ninS ne_b6_b27 nin0)
    replace F_coder_b6 := F_coder_b6.keep K29 (ninS ne_b6_b27 nin0)
    replace V_t8 := V_t8.keep K29 (ninS ne_t8_b27 nin0)
    replace E_b10 := E_b10.keep K29
    replace V_b10 := V_b10.keep K29 (ninS ne_b10_b27 nin0)
    replace E_b14 := E_b14.keep K29
    replace F_value_b14 := F_value_b14.keep K29 (ninS ne_b14_b27 nin0)
    replace F_coder_b14 := F_coder_b14.keep K29 (ninS ne_b14_b27 nin0)
    replace V_t16 := V_t16.keep K29 (ninS ne_t16_b27 nin0)
    replace E_b18 := E_b18.keep K29
    replace V_b18 := V_b18.keep K29 (ninS ne_b18_b27 nin0)
    replace E_b22 := E_b22.keep K29
    replace F_value_b22 := F_value_b22.keep K29 (ninS ne_b22_b27 nin0)
    replace F_coder_b22 := F_coder_b22.keep K29 (ninS ne_b22_b27 nin0)
    replace V_t24 := V_t24.keep K29 (ninS ne_t24_b27 nin0)
    replace E_b27 := E_b27.keep K29
    have Z30 : n0 ≤ h29.size := Nat.le_trans Z28 K29.1
    show W p e below _ (T29.setTop (mkF m 144 #[.val (.int p0), .val (.int p1), .val (.int p2), .val (.int p3), .val (.int p4), .val (.int (0 : Int32)), .val (.ref b2), .val (.ref b6), .val (.ref b10), .val (.ref b14), .val (.ref b18), .val (.ref b22), .val (.ref t26), .unset, .unset] [(.ref b27)]))
    refine W.go (fun _ hr => XS.astore X29.here hx rfl (hb hby at_144) rfl rfl (l' := #[.val (.int p0), .val (.int p1), .val (.int p2), .val (.int p3), .val (.int p4), .val (.int (0 : Int32)), .val (.ref b2), .val (.ref b6), .val (.ref b10), .val (.ref b14), .val (.ref b18), .val (.ref b22), .val (.ref t26), .val (.ref b27), .unset]) rfl hr) ?_
    show W p e below _ (T29.setTop (mkF m 146 #[.val (.int p0), .val (.int p1), .val (.int p2), .val (.int p3), .val (.int p4), .val (.int (0 : Int32)), .val (.ref b2), .val (.ref b6), .val (.ref b10), .val (.ref b14), .val (.ref b18), .val (.ref b22), .val (.ref t26), .val (.ref b27), .unset] []))
    refine W.go (fun _ hr => XS.aload X29.here hx rfl (hb hby at_146) rfl rfl hr) ?_
    show W p e below _ (T29.setTop (mkF m 148 #[.val (.int p0), .val (.int p1), .val (.int p2), .val (.int p3), .val (.int p4), .val (.int (0 : Int32)), .val (.ref b2), .val (.ref b6), .val (.ref b10), .val (.ref b14), .val (.ref b18), .val (.ref b22), .val (.ref t26), .val (.ref b27), .unset] [(.ref b27)]))
    refine W.callV X29 hx hZ hown (g := (mkF m 148 #[.val (.int p0), .val (.int p1), .val (.int p2), .val (.int p3), .val (.int p4), .val (.int (0 : Int32)), .val (.ref b2), .val (.ref b6), .val (.ref b10), .val (.ref b14), .val (.ref b18), .val (.ref b22), .val (.ref t26), .val (.ref b27), .unset] [(.ref b27)])) (by rw [hml]; rfl) (hw _ (List.mem_of_getElem? (i := 61) rfl)) (hw _ (List.mem_of_getElem? (i := 62) rfl)) (hw _ (List.mem_of_getElem? (i := 64) rfl)) (hw _ (List.mem_of_getElem? (i := 63) rfl)) (hw _ (List.mem_of_getElem? (i := 40) rfl)) (hw _ (List.mem_of_getElem? (i := 65) rfl)) e29 (rmR0 l Z a0 hw b27 h29 n0 Z30 Ft29) (notFace_of_selects (args := #[]) (mvT hZ (hw _ (List.mem_of_getElem? (i := 64) rfl)))) (by decide) pd_77 rfl E_b27 (argsL := []) (rest := []) rfl rfl rfl (hb hby at_148) (W0 := 0) rfl (by decide) (by decide) (by decide) (by decide) (fun v31 T31 h31 L31 X31 e31 hQ31 => ?_)
    obtain ⟨rfl, N31q, hh31⟩ := hQ31
    obtain rfl := hh31.symm
    have N31 := Fr.app N29 N31q
    show W p e below _ (T31.setTop (mkF m 151 #[.val (.int p0), .val (.int p1), .val (.int p2), .val (.int p3), .val (.int p4), .val (.int (0 : Int32)), .val (.ref b2), .val (.ref b6), .val (.ref b10), .val (.ref b14), .val (.ref b18), .val (.ref b22), .val (.ref t26), .val (.ref b27), .unset] [(.int (0 : Int32))]))
    refine W.go (fun _ hr => XS.iload X31.here hx rfl (hb hby at_151) rfl hr) ?_
    show W p e below _ (T31.setTop (mkF m 153 #[.val (.int p0), .val (.int p1), .val (.int p2), .val (.int p3), .val (.int p4), .val (.int (0 : Int32)), .val (.ref b2), .val (.ref b6), .val (.ref b10), .val (.ref b14), .val (.ref b18), .val (.ref b22), .val (.ref t26), .val (.ref b27), .unset] [(.int (0 : Int32)), (.int (0 : Int32))]))
    refine W.go (fun _ hr => XS.icmpNo X31.here hx rfl (hb hby at_153) rfl (teq (by decide : ((0 : Int32) = (0 : Int32)))).2 hr) ?_
    show W p e below _ (T31.setTop (mkF m 156 #[.val (.int p0), .val (.int p1), .val (.int p2), .val (.int p3), .val (.int p4), .val (.int (0 : Int32)), .val (.ref b2), .val (.ref b6), .val (.ref b10), .val (.ref b14), .val (.ref b18), .val (.ref b22), .val (.ref t26), .val (.ref b27), .unset] []))
    refine W.go (fun _ hr => XS.iconst X31.here hx rfl (hb hby at_156) hr) ?_
    show W p e below _ (T31.setTop (mkF m 157 #[.val (.int p0), .val (.int p1), .val (.int p2), .val (.int p3), .val (.int p4), .val (.int (0 : Int32)), .val (.ref b2), .val (.ref b6), .val (.ref b10), .val (.ref b14), .val (.ref b18), .val (.ref b22), .val (.ref t26), .val (.ref b27), .unset] [(.int (1 : Int32))]))
    refine W.go (fun _ hr => XS.goto X31.here hx rfl (pc0 := 157) (pc' := 161) rfl (hb hby at_157) (by decide) (by decide) hr) ?_
    show W p e below _ (T31.setTop (mkF m 161 #[.val (.int p0), .val (.int p1), .val (.int p2), .val (.int p3), .val (.int p4), .val (.int (0 : Int32)), .val (.ref b2), .val (.ref b6), .val (.ref b10), .val (.ref b14), .val (.ref b18), .val (.ref b22), .val (.ref t26), .val (.ref b27), .unset] [(.int (1 : Int32))]))
    exact W.retB X31 hx hlk (t := .boolean) hret (by simp) (hb hby at_161) (by decide) (by decide) e31 ⟨rfl, N31⟩
  · refine W.go (fun _ hr => XS.ifNo X0.here hx rfl (hb hby at_4) rfl ((if0 _ _).trans (feq hc4_1).1) hr) ?_
    show W p e below _ (s₁.setTop (mkF m 7 #[.val (.int p0), .val (.int p1), .val (.int p2), .val (.int p3), .val (.int p4), .unset, .unset, .unset, .unset, .unset, .unset, .unset, .unset, .unset, .unset] []))
    refine W.go (fun _ hr => XS.iconst X0.here hx rfl (hb hby at_7) hr) ?_
    show W p e below _ (s₁.setTop (mkF m 8 #[.val (.int p0), .val (.int p1), .val (.int p2), .val (.int p3), .val (.int p4), .unset, .unset, .unset, .unset, .unset, .unset, .unset, .unset, .unset, .unset] [(.int (1 : Int32))]))
    refine W.go (fun _ hr => XS.goto X0.here hx rfl (pc0 := 8) (pc' := 12) rfl (hb hby at_8) (by decide) (by decide) hr) ?_
    show W p e below _ (s₁.setTop (mkF m 12 #[.val (.int p0), .val (.int p1), .val (.int p2), .val (.int p3), .val (.int p4), .unset, .unset, .unset, .unset, .unset, .unset, .unset, .unset, .unset, .unset] [(.int (1 : Int32))]))
    refine W.go (fun _ hr => XS.istore X0.here hx rfl (hb hby at_12) rfl (l' := #[.val (.int p0), .val (.int p1), .val (.int p2), .val (.int p3), .val (.int p4), .val (.int (1 : Int32)), .unset, .unset, .unset, .unset, .unset, .unset, .unset, .unset, .unset]) rfl hr) ?_
    show W p e below _ (s₁.setTop (mkF m 14 #[.val (.int p0), .val (.int p1), .val (.int p2), .val (.int p3), .val (.int p4), .val (.int (1 : Int32)), .unset, .unset, .unset, .unset, .unset, .unset, .unset, .unset, .unset] []))
    refine W.go (fun _ hr => XS.iconst X0.here hx rfl (hb hby at_14) hr) ?_
    show W p e below _ (s₁.setTop (mkF m 15 #[.val (.int p0), .val (.int p1), .val (.int p2), .val (.int p3), .val (.int p4), .val (.int (1 : Int32)), .unset, .unset, .unset, .unset, .unset, .unset, .unset, .unset, .unset] [(.int (1 : Int32))]))
    obtain ⟨T32, h32, k32, X32, e32, E32, A32, E_b32, st32⟩ := newPE X0 hx hZ (hw _ (List.mem_of_getElem? (i := 0) rfl)) e0 (g := (mkF m 15 #[.val (.int p0), .val (.int p1), .val (.int p2), .val (.int p3), .val (.int p4), .val (.int (1 : Int32)), .unset, .unset, .unset, .unset, .unset, .unset, .unset, .unset, .unset] [(.int (1 : Int32))])) rfl (hb hby at_15) rfl (by decide) (cap := 1) (by decide) (by decide) (by decide) (by decide) (ad := "[C") (by decide)
    obtain ⟨b32, g32⟩ : ∃ z, z = h0.size := ⟨_, rfl⟩
    rw [← g32] at A32 E_b32 st32
    have g_b32 : n0 ≤ b32 := Nat.le_trans Z0 (Nat.le_of_eq g32.symm)
    replace S_STRING := Sta.ext E32 S_STRING
    replace S_NUMBER := Sta.ext E32 S_NUMBER
    replace S_BOOLEAN := Sta.ext E32 S_BOOLEAN
    replace S_DATETIME := Sta.ext E32 S_DATETIME
    replace S_BINARY := Sta.ext E32 S_BINARY
    replace S_COMPACT_STRINGS := Sta.ext E32 S_COMPACT_STRINGS
    have Z33 : n0 ≤ h32.size := Nat.le_trans Z0 E32.1
    have V_b32 : Arv Z h32 b32 k32 .char (1 : Int32) [(.int (0 : Int32))] (.int (0 : Int32)) := (Arv.new A32 (by decide)).pad (pad_rep [] (.int (0 : Int32)) 1)
    refine W.go st32 ?_
    show W p e below _ (T32.setTop (mkF m 17 #[.val (.int p0), .val (.int p1), .val (.int p2), .val (.int p3), .val (.int p4), .val (.int (1 : Int32)), .unset, .unset, .unset, .unset, .unset, .unset, .unset, .unset, .unset] [(.ref b32)]))
    refine W.go (fun _ hr => XS.dup X32.here hx rfl (hb hby at_17) rfl rfl hr) ?_
    show W p e below _ (T32.setTop (mkF m 18 #[.val (.int p0), .val (.int p1), .val (.int p2), .val (.int p3), .val (.int p4), .val (.int (1 : Int32)), .unset, .unset, .unset, .unset, .unset, .unset, .unset, .unset, .unset] [(.ref b32), (.ref b32)]))
    refine W.go (fun _ hr => XS.iconst X32.here hx rfl (hb hby at_18) hr) ?_
    show W p e below _ (T32.setTop (mkF m 19 #[.val (.int p0), .val (.int p1), .val (.int p2), .val (.int p3), .val (.int p4), .val (.int (1 : Int32)), .unset, .unset, .unset, .unset, .unset, .unset, .unset, .unset, .unset] [(.int (0 : Int32)), (.ref b32), (.ref b32)]))
    refine W.go (fun _ hr => XS.iloadN X32.here hx rfl (hb hby at_19) rfl hr) ?_
    show W p e below _ (T32.setTop (mkF m 20 #[.val (.int p0), .val (.int p1), .val (.int p2), .val (.int p3), .val (.int p4), .val (.int (1 : Int32)), .unset, .unset, .unset, .unset, .unset, .unset, .unset, .unset, .unset] [(.int p0), (.int (0 : Int32)), (.ref b32), (.ref b32)]))
    refine W.go (fun _ hr => XS.sipush X32.here hx rfl (hb hby at_20) hr) ?_
    show W p e below _ (T32.setTop (mkF m 23 #[.val (.int p0), .val (.int p1), .val (.int p2), .val (.int p3), .val (.int p4), .val (.int (1 : Int32)), .unset, .unset, .unset, .unset, .unset, .unset, .unset, .unset, .unset] [(.int (255 : Int32)), (.int p0), (.int (0 : Int32)), (.ref b32), (.ref b32)]))
    refine W.go (fun _ hr => XS.iand X32.here hx rfl (hb hby at_23) rfl hr) ?_
    show W p e below _ (T32.setTop (mkF m 24 #[.val (.int p0), .val (.int p1), .val (.int p2), .val (.int p3), .val (.int p4), .val (.int (1 : Int32)), .unset, .unset, .unset, .unset, .unset, .unset, .unset, .unset, .unset] [(.int (p0 &&& (255 : Int32))), (.int (0 : Int32)), (.ref b32), (.ref b32)]))
    refine W.go (fun _ hr => XS.i2c X32.here hx rfl (hb hby at_24) rfl hr) ?_
    show W p e below _ (T32.setTop (mkF m 25 #[.val (.int p0), .val (.int p1), .val (.int p2), .val (.int p3), .val (.int p4), .val (.int (1 : Int32)), .unset, .unset, .unset, .unset, .unset, .unset, .unset, .unset, .unset] [(.int ((p0 &&& (255 : Int32)).toUInt32.toUInt16.toUInt32.toInt32)), (.int (0 : Int32)), (.ref b32), (.ref b32)]))
    obtain ⟨cl34, Ar34, q34, S34, Nn34, H34, G34⟩ := V_b32
    have hin34 : ¬ ((0 : Int32) < 0 ∨ cl34.slots.size ≤ ((0 : Int32)).toNatClampNeg) := inb_of S34 ⟨by decide, by decide⟩
    obtain ⟨T34, h34, X34, e34, W34, st34⟩ := stC X32 hx hZ e32 Ar34 (j := (0 : Int32)) hin34 (g := (mkF m 25 #[.val (.int p0), .val (.int p1), .val (.int p2), .val (.int p3), .val (.int p4), .val (.int (1 : Int32)), .unset, .unset, .unset, .unset, .unset, .unset, .unset, .unset, .unset] [(.int ((p0 &&& (255 : Int32)).toUInt32.toUInt16.toUInt32.toInt32)), (.int (0 : Int32)), (.ref b32), (.ref b32)])) rfl rfl (hb hby at_25)
    replace V_b32 : Arv Z h34 b32 k32 .char (1 : Int32) [(.int (nar .char ((p0 &&& (255 : Int32)).toUInt32.toUInt16.toUInt32.toInt32)))] (.int (0 : Int32)) := Arv.set Ar34 q34 S34 Nn34 H34 G34 (fits_nar_char _) W34 0 rfl (Nat.le_of_ble_eq_true rfl)
    replace S_STRING := Sta.wr W34 S_STRING
    replace S_NUMBER := Sta.wr W34 S_NUMBER
    replace S_BOOLEAN := Sta.wr W34 S_BOOLEAN
    replace S_DATETIME := Sta.wr W34 S_DATETIME
    replace S_BINARY := Sta.wr W34 S_BINARY
    replace S_COMPACT_STRINGS := Sta.wr W34 S_COMPACT_STRINGS
    replace E_b32 := E_b32.wr W34
    have Z35 : n0 ≤ h34.size := Nat.le_trans Z33 (Keep.of_wr W34).1
    refine W.go st34 ?_
    have N34 := Fr.snoc X34 N0 g_b32
    show W p e below _ (T34.setTop (mkF m 26 #[.val (.int p0), .val (.int p1), .val (.int p2), .val (.int p3), .val (.int p4), .val (.int (1 : Int32)), .unset, .unset, .unset, .unset, .unset, .unset, .unset, .unset, .unset] [(.ref b32)]))
    refine W.go (fun _ hr => XS.astore X34.here hx rfl (hb hby at_26) rfl rfl (l' := #[.val (.int p0), .val (.int p1), .val (.int p2), .val (.int p3), .val (.int p4), .val (.int (1 : Int32)), .val (.ref b32), .unset, .unset, .unset, .unset, .unset, .unset, .unset, .unset]) rfl hr) ?_
    show W p e below _ (T34.setTop (mkF m 28 #[.val (.int p0), .val (.int p1), .val (.int p2), .val (.int p3), .val (.int p4), .val (.int (1 : Int32)), .val (.ref b32), .unset, .unset, .unset, .unset, .unset, .unset, .unset, .unset] []))
    obtain ⟨T36, h36, X36, e36, E36, E_b36, D36, U36, st36⟩ := newO X34 hx hZ hown (hw _ (List.mem_of_getElem? (i := 1) rfl)) (hw _ (List.mem_of_getElem? (i := 2) rfl)) (hw _ (List.mem_of_getElem? (i := 3) rfl)) e34 (g := (mkF m 28 #[.val (.int p0), .val (.int p1), .val (.int p2), .val (.int p3), .val (.int p4), .val (.int (1 : Int32)), .val (.ref b32), .unset, .unset, .unset, .unset, .unset, .unset, .unset, .unset] [])) rfl (hb hby at_28) (by decide) (by decide)
    obtain ⟨b36, g36⟩ : ∃ z, z = h34.size := ⟨_, rfl⟩
    rw [← g36] at E_b36 D36 U36 st36
    have ne_b32_b36 : b32 ≠ b36 := Nat.ne_of_lt (Nat.lt_of_lt_of_le E_b32.lt (Nat.le_of_eq g36.symm))
    have g_b36 : n0 ≤ b36 := Nat.le_trans Z35 (Nat.le_of_eq g36.symm)
    replace S_STRING := Sta.ext E36 S_STRING
    replace S_NUMBER := Sta.ext E36 S_NUMBER
    replace S_BOOLEAN := Sta.ext E36 S_BOOLEAN
    replace S_DATETIME := Sta.ext E36 S_DATETIME
    replace S_BINARY := Sta.ext E36 S_BINARY
    replace S_COMPACT_STRINGS := Sta.ext E36 S_COMPACT_STRINGS
    replace E_b32 := E_b32.ext E36
    replace V_b32 := V_b32.ext E36
    have Z37 : n0 ≤ h36.size := Nat.le_trans Z35 E36.1
    have F_coder_b36 : Fld Z h36 b36 "java/lang/String" "coder" "B" (.int (0 : Int32)) := D36 (Or.inr (hw _ (List.mem_of_getElem? (i := 27) rfl))) (ty := .byte) (by decide)
    have F_value_b36 : Fld Z h36 b36 "java/lang/String" "value" "[B" .null := D36 (Or.inr (hw _ (List.mem_of_getElem? (i := 29) rfl))) (ty := (.array .byte)) (by decide)
    refine W.go st36 ?_
    show W p e below _ (T36.setTop (mkF m 31 #[.val (.int p0), .val (.int p1), .val (.int p2), .val (.int p3), .val (.int p4), .val (.int (1 : Int32)), .val (.ref b32), .unset, .unset, .unset, .unset, .unset, .unset, .unset, .unset] [(.ref b36)]))
    refine W.go (fun _ hr => XS.dup X36.here hx rfl (hb hby at_31) rfl rfl hr) ?_
    show W p e below _ (T36.setTop (mkF m 32 #[.val (.int p0), .val (.int p1), .val (.int p2), .val (.int p3), .val (.int p4), .val (.int (1 : Int32)), .val (.ref b32), .unset, .unset, .unset, .unset, .unset, .unset, .unset, .unset] [(.ref b36), (.ref b36)]))
    refine W.go (fun _ hr => XS.aload X36.here hx rfl (hb hby at_32) rfl rfl hr) ?_
    show W p e below _ (T36.setTop (mkF m 34 #[.val (.int p0), .val (.int p1), .val (.int p2), .val (.int p3), .val (.int p4), .val (.int (1 : Int32)), .val (.ref b32), .unset, .unset, .unset, .unset, .unset, .unset, .unset, .unset] [(.ref b32), (.ref b36), (.ref b36)]))
    have hlat38 : ∀ c ∈ [(nar .char ((p0 &&& (255 : Int32)).toUInt32.toUInt16.toUInt32.toInt32))], ¬ c < 0 ∧ ¬ (255 : Int32) < c := by
      intro c hc
      simp only [List.mem_cons, List.not_mem_nil, or_false] at hc
      rcases hc with rfl
      · exact (own_c255 p0)
    refine W.callIK X36 hx hZ hown (g := (mkF m 34 #[.val (.int p0), .val (.int p1), .val (.int p2), .val (.int p3), .val (.int p4), .val (.int (1 : Int32)), .val (.ref b32), .unset, .unset, .unset, .unset, .unset, .unset, .unset, .unset] [(.ref b32), (.ref b36), (.ref b36)])) (by rw [hml]; rfl) (hw _ (List.mem_of_getElem? (i := 4) rfl)) (hw _ (List.mem_of_getElem? (i := 5) rfl)) (hw _ (List.mem_of_getElem? (i := 6) rfl)) e36 (StrChars.Road.backV (W := 1) hZ (fun d hd => hw d (own_ws d hd)) (kI := 4) (hw _ (List.mem_of_getElem? (i := 2) rfl)) (cs := [(nar .char ((p0 &&& (255 : Int32)).toUInt32.toUInt16.toUInt32.toInt32))]) (bs := [((nar .char ((p0 &&& (255 : Int32)).toUInt32.toUInt16.toUInt32.toInt32))).toInt8.toInt32]) (n := 1) g_b36 Z37 E_b36 F_value_b36 F_coder_b36 V_b32 S_COMPACT_STRINGS hCS rfl rfl (by decide) (by decide) hlat38 rfl (by decide) (by decide)) rfl (by decide) pd_74 rfl (b := b36) (argsL := [(.ref b32)]) (rest := [(.ref b36)]) rfl rfl rfl (hb hby at_34) (W0 := 1) rfl (by decide) (by decide) (fun v38 T38 h38 L38 X38 e38 hQ38 => ?_)
    obtain ⟨rfl, N38q, K38, Ee38, Fc38, t38, kb38, gt38, st38, nt38, Fv38, V_t38⟩ := hQ38
    have N38 := Fr.app N34 N38q
    have ne_b32_t38 : b32 ≠ t38 := Nat.ne_of_lt (Nat.lt_of_lt_of_le E_b32.lt st38)
    have ne_b36_t38 : b36 ≠ t38 := Nat.ne_of_lt (Nat.lt_of_lt_of_le E_b36.lt st38)
    have g_t38 : n0 ≤ t38 := Nat.le_trans Z37 st38
    replace S_STRING := Sta.keep S_STRING K38 (nsS E_b36.nostat ns0)
    replace S_NUMBER := Sta.keep S_NUMBER K38 (nsS E_b36.nostat ns0)
    replace S_BOOLEAN := Sta.keep S_BOOLEAN K38 (nsS E_b36.nostat ns0)
    replace S_DATETIME := Sta.keep S_DATETIME K38 (nsS E_b36.nostat ns0)
    replace S_BINARY := Sta.keep S_BINARY K38 (nsS E_b36.nostat ns0)
    replace S_COMPACT_STRINGS := Sta.keep S_COMPACT_STRINGS K38 (nsS E_b36.nostat ns0)
    replace E_b32 := E_b32.keep K38
    replace V_b32 := V_b32.keep K38 (ninS ne_b32_b36 nin0)
    replace E_b36 := E_b36.keep K38
    have Z39 : n0 ≤ h38.size := Nat.le_trans Z37 K38.1
    have F_value_b36 := Fv38
    have F_coder_b36 := Fc38
    show W p e below _ (T38.setTop (mkF m 37 #[.val (.int p0), .val (.int p1), .val (.int p2), .val (.int p3), .val (.int p4), .val (.int (1 : Int32)), .val (.ref b32), .unset, .unset, .unset, .unset, .unset, .unset, .unset, .unset] [(.ref b36)]))
    refine W.go (fun _ hr => XS.astore X38.here hx rfl (hb hby at_37) rfl rfl (l' := #[.val (.int p0), .val (.int p1), .val (.int p2), .val (.int p3), .val (.int p4), .val (.int (1 : Int32)), .val (.ref b32), .val (.ref b36), .unset, .unset, .unset, .unset, .unset, .unset, .unset]) rfl hr) ?_
    show W p e below _ (T38.setTop (mkF m 39 #[.val (.int p0), .val (.int p1), .val (.int p2), .val (.int p3), .val (.int p4), .val (.int (1 : Int32)), .val (.ref b32), .val (.ref b36), .unset, .unset, .unset, .unset, .unset, .unset, .unset] []))
    refine W.go (fun _ hr => XS.iconst X38.here hx rfl (hb hby at_39) hr) ?_
    show W p e below _ (T38.setTop (mkF m 40 #[.val (.int p0), .val (.int p1), .val (.int p2), .val (.int p3), .val (.int p4), .val (.int (1 : Int32)), .val (.ref b32), .val (.ref b36), .unset, .unset, .unset, .unset, .unset, .unset, .unset] [(.int (1 : Int32))]))
    obtain ⟨T40, h40, k40, X40, e40, E40, A40, E_b40, st40⟩ := newPE X38 hx hZ (hw _ (List.mem_of_getElem? (i := 0) rfl)) e38 (g := (mkF m 40 #[.val (.int p0), .val (.int p1), .val (.int p2), .val (.int p3), .val (.int p4), .val (.int (1 : Int32)), .val (.ref b32), .val (.ref b36), .unset, .unset, .unset, .unset, .unset, .unset, .unset] [(.int (1 : Int32))])) rfl (hb hby at_40) rfl (by decide) (cap := 1) (by decide) (by decide) (by decide) (by decide) (ad := "[C") (by decide)
    obtain ⟨b40, g40⟩ : ∃ z, z = h38.size := ⟨_, rfl⟩
    rw [← g40] at A40 E_b40 st40
    have ne_b32_b40 : b32 ≠ b40 := Nat.ne_of_lt (Nat.lt_of_lt_of_le E_b32.lt (Nat.le_of_eq g40.symm))
    have ne_b36_b40 : b36 ≠ b40 := Nat.ne_of_lt (Nat.lt_of_lt_of_le E_b36.lt (Nat.le_of_eq g40.symm))
    have ne_t38_b40 : t38 ≠ b40 := Nat.ne_of_lt (Nat.lt_of_lt_of_le V_t38.lt (Nat.le_of_eq g40.symm))
    have g_b40 : n0 ≤ b40 := Nat.le_trans Z39 (Nat.le_of_eq g40.symm)
    replace S_STRING := Sta.ext E40 S_STRING
    replace S_NUMBER := Sta.ext E40 S_NUMBER
    replace S_BOOLEAN := Sta.ext E40 S_BOOLEAN
    replace S_DATETIME := Sta.ext E40 S_DATETIME
    replace S_BINARY := Sta.ext E40 S_BINARY
    replace S_COMPACT_STRINGS := Sta.ext E40 S_COMPACT_STRINGS
    replace E_b32 := E_b32.ext E40
    replace V_b32 := V_b32.ext E40
    replace E_b36 := E_b36.ext E40
    replace F_value_b36 := F_value_b36.ext E40
    replace F_coder_b36 := F_coder_b36.ext E40
    replace V_t38 := V_t38.ext E40
    have Z41 : n0 ≤ h40.size := Nat.le_trans Z39 E40.1
    have V_b40 : Arv Z h40 b40 k40 .char (1 : Int32) [(.int (0 : Int32))] (.int (0 : Int32)) := (Arv.new A40 (by decide)).pad (pad_rep [] (.int (0 : Int32)) 1)
    refine W.go st40 ?_
    show W p e below _ (T40.setTop (mkF m 42 #[.val (.int p0), .val (.int p1), .val (.int p2), .val (.int p3), .val (.int p4), .val (.int (1 : Int32)), .val (.ref b32), .val (.ref b36), .unset, .unset, .unset, .unset, .unset, .unset, .unset] [(.ref b40)]))
    refine W.go (fun _ hr => XS.dup X40.here hx rfl (hb hby at_42) rfl rfl hr) ?_
    show W p e below _ (T40.setTop (mkF m 43 #[.val (.int p0), .val (.int p1), .val (.int p2), .val (.int p3), .val (.int p4), .val (.int (1 : Int32)), .val (.ref b32), .val (.ref b36), .unset, .unset, .unset, .unset, .unset, .unset, .unset] [(.ref b40), (.ref b40)]))
    refine W.go (fun _ hr => XS.iconst X40.here hx rfl (hb hby at_43) hr) ?_
    show W p e below _ (T40.setTop (mkF m 44 #[.val (.int p0), .val (.int p1), .val (.int p2), .val (.int p3), .val (.int p4), .val (.int (1 : Int32)), .val (.ref b32), .val (.ref b36), .unset, .unset, .unset, .unset, .unset, .unset, .unset] [(.int (0 : Int32)), (.ref b40), (.ref b40)]))
    refine W.go (fun _ hr => XS.iloadN X40.here hx rfl (hb hby at_44) rfl hr) ?_
    show W p e below _ (T40.setTop (mkF m 45 #[.val (.int p0), .val (.int p1), .val (.int p2), .val (.int p3), .val (.int p4), .val (.int (1 : Int32)), .val (.ref b32), .val (.ref b36), .unset, .unset, .unset, .unset, .unset, .unset, .unset] [(.int p1), (.int (0 : Int32)), (.ref b40), (.ref b40)]))
    refine W.go (fun _ hr => XS.sipush X40.here hx rfl (hb hby at_45) hr) ?_
    show W p e below _ (T40.setTop (mkF m 48 #[.val (.int p0), .val (.int p1), .val (.int p2), .val (.int p3), .val (.int p4), .val (.int (1 : Int32)), .val (.ref b32), .val (.ref b36), .unset, .unset, .unset, .unset, .unset, .unset, .unset] [(.int (255 : Int32)), (.int p1), (.int (0 : Int32)), (.ref b40), (.ref b40)]))
    refine W.go (fun _ hr => XS.iand X40.here hx rfl (hb hby at_48) rfl hr) ?_
    show W p e below _ (T40.setTop (mkF m 49 #[.val (.int p0), .val (.int p1), .val (.int p2), .val (.int p3), .val (.int p4), .val (.int (1 : Int32)), .val (.ref b32), .val (.ref b36), .unset, .unset, .unset, .unset, .unset, .unset, .unset] [(.int (p1 &&& (255 : Int32))), (.int (0 : Int32)), (.ref b40), (.ref b40)]))
    refine W.go (fun _ hr => XS.i2c X40.here hx rfl (hb hby at_49) rfl hr) ?_
    show W p e below _ (T40.setTop (mkF m 50 #[.val (.int p0), .val (.int p1), .val (.int p2), .val (.int p3), .val (.int p4), .val (.int (1 : Int32)), .val (.ref b32), .val (.ref b36), .unset, .unset, .unset, .unset, .unset, .unset, .unset] [(.int ((p1 &&& (255 : Int32)).toUInt32.toUInt16.toUInt32.toInt32)), (.int (0 : Int32)), (.ref b40), (.ref b40)]))
    obtain ⟨cl42, Ar42, q42, S42, Nn42, H42, G42⟩ := V_b40
    have hin42 : ¬ ((0 : Int32) < 0 ∨ cl42.slots.size ≤ ((0 : Int32)).toNatClampNeg) := inb_of S42 ⟨by decide, by decide⟩
    obtain ⟨T42, h42, X42, e42, W42, st42⟩ := stC X40 hx hZ e40 Ar42 (j := (0 : Int32)) hin42 (g := (mkF m 50 #[.val (.int p0), .val (.int p1), .val (.int p2), .val (.int p3), .val (.int p4), .val (.int (1 : Int32)), .val (.ref b32), .val (.ref b36), .unset, .unset, .unset, .unset, .unset, .unset, .unset] [(.int ((p1 &&& (255 : Int32)).toUInt32.toUInt16.toUInt32.toInt32)), (.int (0 : Int32)), (.ref b40), (.ref b40)])) rfl rfl (hb hby at_50)
    replace V_b40 : Arv Z h42 b40 k40 .char (1 : Int32) [(.int (nar .char ((p1 &&& (255 : Int32)).toUInt32.toUInt16.toUInt32.toInt32)))] (.int (0 : Int32)) := Arv.set Ar42 q42 S42 Nn42 H42 G42 (fits_nar_char _) W42 0 rfl (Nat.le_of_ble_eq_true rfl)
    replace S_STRING := Sta.wr W42 S_STRING
    replace S_NUMBER := Sta.wr W42 S_NUMBER
    replace S_BOOLEAN := Sta.wr W42 S_BOOLEAN
    replace S_DATETIME := Sta.wr W42 S_DATETIME
    replace S_BINARY := Sta.wr W42 S_BINARY
    replace S_COMPACT_STRINGS := Sta.wr W42 S_COMPACT_STRINGS
    replace E_b32 := E_b32.wr W42
    replace V_b32 := V_b32.other W42 ne_b32_b40
    replace E_b36 := E_b36.wr W42
    replace F_value_b36 := F_value_b36.other W42 (Or.inl ne_b36_b40)
    replace F_coder_b36 := F_coder_b36.other W42 (Or.inl ne_b36_b40)
    replace V_t38 := V_t38.other W42 ne_t38_b40
    replace E_b40 := E_b40.wr W42
    have Z43 : n0 ≤ h42.size := Nat.le_trans Z41 (Keep.of_wr W42).1
    refine W.go st42 ?_
    have N42 := Fr.snoc X42 N38 g_b40
    show W p e below _ (T42.setTop (mkF m 51 #[.val (.int p0), .val (.int p1), .val (.int p2), .val (.int p3), .val (.int p4), .val (.int (1 : Int32)), .val (.ref b32), .val (.ref b36), .unset, .unset, .unset, .unset, .unset, .unset, .unset] [(.ref b40)]))
    refine W.go (fun _ hr => XS.astore X42.here hx rfl (hb hby at_51) rfl rfl (l' := #[.val (.int p0), .val (.int p1), .val (.int p2), .val (.int p3), .val (.int p4), .val (.int (1 : Int32)), .val (.ref b32), .val (.ref b36), .val (.ref b40), .unset, .unset, .unset, .unset, .unset, .unset]) rfl hr) ?_
    show W p e below _ (T42.setTop (mkF m 53 #[.val (.int p0), .val (.int p1), .val (.int p2), .val (.int p3), .val (.int p4), .val (.int (1 : Int32)), .val (.ref b32), .val (.ref b36), .val (.ref b40), .unset, .unset, .unset, .unset, .unset, .unset] []))
    obtain ⟨T44, h44, X44, e44, E44, E_b44, D44, U44, st44⟩ := newO X42 hx hZ hown (hw _ (List.mem_of_getElem? (i := 1) rfl)) (hw _ (List.mem_of_getElem? (i := 2) rfl)) (hw _ (List.mem_of_getElem? (i := 3) rfl)) e42 (g := (mkF m 53 #[.val (.int p0), .val (.int p1), .val (.int p2), .val (.int p3), .val (.int p4), .val (.int (1 : Int32)), .val (.ref b32), .val (.ref b36), .val (.ref b40), .unset, .unset, .unset, .unset, .unset, .unset] [])) rfl (hb hby at_53) (by decide) (by decide)
    obtain ⟨b44, g44⟩ : ∃ z, z = h42.size := ⟨_, rfl⟩
    rw [← g44] at E_b44 D44 U44 st44
    have ne_b32_b44 : b32 ≠ b44 := Nat.ne_of_lt (Nat.lt_of_lt_of_le E_b32.lt (Nat.le_of_eq g44.symm))
    have ne_b36_b44 : b36 ≠ b44 := Nat.ne_of_lt (Nat.lt_of_lt_of_le E_b36.lt (Nat.le_of_eq g44.symm))
    have ne_t38_b44 : t38 ≠ b44 := Nat.ne_of_lt (Nat.lt_of_lt_of_le V_t38.lt (Nat.le_of_eq g44.symm))
    have ne_b40_b44 : b40 ≠ b44 := Nat.ne_of_lt (Nat.lt_of_lt_of_le E_b40.lt (Nat.le_of_eq g44.symm))
    have g_b44 : n0 ≤ b44 := Nat.le_trans Z43 (Nat.le_of_eq g44.symm)
    replace S_STRING := Sta.ext E44 S_STRING
    replace S_NUMBER := Sta.ext E44 S_NUMBER
    replace S_BOOLEAN := Sta.ext E44 S_BOOLEAN
    replace S_DATETIME := Sta.ext E44 S_DATETIME
    replace S_BINARY := Sta.ext E44 S_BINARY
    replace S_COMPACT_STRINGS := Sta.ext E44 S_COMPACT_STRINGS
    replace E_b32 := E_b32.ext E44
    replace V_b32 := V_b32.ext E44
    replace E_b36 := E_b36.ext E44
    replace F_value_b36 := F_value_b36.ext E44
    replace F_coder_b36 := F_coder_b36.ext E44
    replace V_t38 := V_t38.ext E44
    replace E_b40 := E_b40.ext E44
    replace V_b40 := V_b40.ext E44
    have Z45 : n0 ≤ h44.size := Nat.le_trans Z43 E44.1
    have F_coder_b44 : Fld Z h44 b44 "java/lang/String" "coder" "B" (.int (0 : Int32)) := D44 (Or.inr (hw _ (List.mem_of_getElem? (i := 27) rfl))) (ty := .byte) (by decide)
    have F_value_b44 : Fld Z h44 b44 "java/lang/String" "value" "[B" .null := D44 (Or.inr (hw _ (List.mem_of_getElem? (i := 29) rfl))) (ty := (.array .byte)) (by decide)
    refine W.go st44 ?_
    show W p e below _ (T44.setTop (mkF m 56 #[.val (.int p0), .val (.int p1), .val (.int p2), .val (.int p3), .val (.int p4), .val (.int (1 : Int32)), .val (.ref b32), .val (.ref b36), .val (.ref b40), .unset, .unset, .unset, .unset, .unset, .unset] [(.ref b44)]))
    refine W.go (fun _ hr => XS.dup X44.here hx rfl (hb hby at_56) rfl rfl hr) ?_
    show W p e below _ (T44.setTop (mkF m 57 #[.val (.int p0), .val (.int p1), .val (.int p2), .val (.int p3), .val (.int p4), .val (.int (1 : Int32)), .val (.ref b32), .val (.ref b36), .val (.ref b40), .unset, .unset, .unset, .unset, .unset, .unset] [(.ref b44), (.ref b44)]))
    refine W.go (fun _ hr => XS.aload X44.here hx rfl (hb hby at_57) rfl rfl hr) ?_
    show W p e below _ (T44.setTop (mkF m 59 #[.val (.int p0), .val (.int p1), .val (.int p2), .val (.int p3), .val (.int p4), .val (.int (1 : Int32)), .val (.ref b32), .val (.ref b36), .val (.ref b40), .unset, .unset, .unset, .unset, .unset, .unset] [(.ref b40), (.ref b44), (.ref b44)]))
    have hlat46 : ∀ c ∈ [(nar .char ((p1 &&& (255 : Int32)).toUInt32.toUInt16.toUInt32.toInt32))], ¬ c < 0 ∧ ¬ (255 : Int32) < c := by
      intro c hc
      simp only [List.mem_cons, List.not_mem_nil, or_false] at hc
      rcases hc with rfl
      · exact (own_c255 p1)
    refine W.callIK X44 hx hZ hown (g := (mkF m 59 #[.val (.int p0), .val (.int p1), .val (.int p2), .val (.int p3), .val (.int p4), .val (.int (1 : Int32)), .val (.ref b32), .val (.ref b36), .val (.ref b40), .unset, .unset, .unset, .unset, .unset, .unset] [(.ref b40), (.ref b44), (.ref b44)])) (by rw [hml]; rfl) (hw _ (List.mem_of_getElem? (i := 4) rfl)) (hw _ (List.mem_of_getElem? (i := 5) rfl)) (hw _ (List.mem_of_getElem? (i := 6) rfl)) e44 (StrChars.Road.backV (W := 1) hZ (fun d hd => hw d (own_ws d hd)) (kI := 4) (hw _ (List.mem_of_getElem? (i := 2) rfl)) (cs := [(nar .char ((p1 &&& (255 : Int32)).toUInt32.toUInt16.toUInt32.toInt32))]) (bs := [((nar .char ((p1 &&& (255 : Int32)).toUInt32.toUInt16.toUInt32.toInt32))).toInt8.toInt32]) (n := 1) g_b44 Z45 E_b44 F_value_b44 F_coder_b44 V_b40 S_COMPACT_STRINGS hCS rfl rfl (by decide) (by decide) hlat46 rfl (by decide) (by decide)) rfl (by decide) pd_74 rfl (b := b44) (argsL := [(.ref b40)]) (rest := [(.ref b44)]) rfl rfl rfl (hb hby at_59) (W0 := 1) rfl (by decide) (by decide) (fun v46 T46 h46 L46 X46 e46 hQ46 => ?_)
    obtain ⟨rfl, N46q, K46, Ee46, Fc46, t46, kb46, gt46, st46, nt46, Fv46, V_t46⟩ := hQ46
    have N46 := Fr.app N42 N46q
    have ne_b32_t46 : b32 ≠ t46 := Nat.ne_of_lt (Nat.lt_of_lt_of_le E_b32.lt st46)
    have ne_b36_t46 : b36 ≠ t46 := Nat.ne_of_lt (Nat.lt_of_lt_of_le E_b36.lt st46)
    have ne_t38_t46 : t38 ≠ t46 := Nat.ne_of_lt (Nat.lt_of_lt_of_le V_t38.lt st46)
    have ne_b40_t46 : b40 ≠ t46 := Nat.ne_of_lt (Nat.lt_of_lt_of_le E_b40.lt st46)
    have ne_b44_t46 : b44 ≠ t46 := Nat.ne_of_lt (Nat.lt_of_lt_of_le E_b44.lt st46)
    have g_t46 : n0 ≤ t46 := Nat.le_trans Z45 st46
    replace S_STRING := Sta.keep S_STRING K46 (nsS E_b44.nostat ns0)
    replace S_NUMBER := Sta.keep S_NUMBER K46 (nsS E_b44.nostat ns0)
    replace S_BOOLEAN := Sta.keep S_BOOLEAN K46 (nsS E_b44.nostat ns0)
    replace S_DATETIME := Sta.keep S_DATETIME K46 (nsS E_b44.nostat ns0)
    replace S_BINARY := Sta.keep S_BINARY K46 (nsS E_b44.nostat ns0)
    replace S_COMPACT_STRINGS := Sta.keep S_COMPACT_STRINGS K46 (nsS E_b44.nostat ns0)
    replace E_b32 := E_b32.keep K46
    replace V_b32 := V_b32.keep K46 (ninS ne_b32_b44 nin0)
    replace E_b36 := E_b36.keep K46
    replace F_value_b36 := F_value_b36.keep K46 (ninS ne_b36_b44 nin0)
    replace F_coder_b36 := F_coder_b36.keep K46 (ninS ne_b36_b44 nin0)
    replace V_t38 := V_t38.keep K46 (ninS ne_t38_b44 nin0)
    replace E_b40 := E_b40.keep K46
    replace V_b40 := V_b40.keep K46 (ninS ne_b40_b44 nin0)
    replace E_b44 := E_b44.keep K46
    have Z47 : n0 ≤ h46.size := Nat.le_trans Z45 K46.1
    have F_value_b44 := Fv46
    have F_coder_b44 := Fc46
    show W p e below _ (T46.setTop (mkF m 62 #[.val (.int p0), .val (.int p1), .val (.int p2), .val (.int p3), .val (.int p4), .val (.int (1 : Int32)), .val (.ref b32), .val (.ref b36), .val (.ref b40), .unset, .unset, .unset, .unset, .unset, .unset] [(.ref b44)]))
    refine W.go (fun _ hr => XS.astore X46.here hx rfl (hb hby at_62) rfl rfl (l' := #[.val (.int p0), .val (.int p1), .val (.int p2), .val (.int p3), .val (.int p4), .val (.int (1 : Int32)), .val (.ref b32), .val (.ref b36), .val (.ref b40), .val (.ref b44), .unset, .unset, .unset, .unset, .unset]) rfl hr) ?_
    show W p e below _ (T46.setTop (mkF m 64 #[.val (.int p0), .val (.int p1), .val (.int p2), .val (.int p3), .val (.int p4), .val (.int (1 : Int32)), .val (.ref b32), .val (.ref b36), .val (.ref b40), .val (.ref b44), .unset, .unset, .unset, .unset, .unset] []))
    refine W.go (fun _ hr => XS.iconst X46.here hx rfl (hb hby at_64) hr) ?_
    show W p e below _ (T46.setTop (mkF m 65 #[.val (.int p0), .val (.int p1), .val (.int p2), .val (.int p3), .val (.int p4), .val (.int (1 : Int32)), .val (.ref b32), .val (.ref b36), .val (.ref b40), .val (.ref b44), .unset, .unset, .unset, .unset, .unset] [(.int (1 : Int32))]))
    obtain ⟨T48, h48, k48, X48, e48, E48, A48, E_b48, st48⟩ := newPE X46 hx hZ (hw _ (List.mem_of_getElem? (i := 0) rfl)) e46 (g := (mkF m 65 #[.val (.int p0), .val (.int p1), .val (.int p2), .val (.int p3), .val (.int p4), .val (.int (1 : Int32)), .val (.ref b32), .val (.ref b36), .val (.ref b40), .val (.ref b44), .unset, .unset, .unset, .unset, .unset] [(.int (1 : Int32))])) rfl (hb hby at_65) rfl (by decide) (cap := 1) (by decide) (by decide) (by decide) (by decide) (ad := "[C") (by decide)
    obtain ⟨b48, g48⟩ : ∃ z, z = h46.size := ⟨_, rfl⟩
    rw [← g48] at A48 E_b48 st48
    have ne_b32_b48 : b32 ≠ b48 := Nat.ne_of_lt (Nat.lt_of_lt_of_le E_b32.lt (Nat.le_of_eq g48.symm))
    have ne_b36_b48 : b36 ≠ b48 := Nat.ne_of_lt (Nat.lt_of_lt_of_le E_b36.lt (Nat.le_of_eq g48.symm))
    have ne_t38_b48 : t38 ≠ b48 := Nat.ne_of_lt (Nat.lt_of_lt_of_le V_t38.lt (Nat.le_of_eq g48.symm))
    have ne_b40_b48 : b40 ≠ b48 := Nat.ne_of_lt (Nat.lt_of_lt_of_le E_b40.lt (Nat.le_of_eq g48.symm))
    have ne_b44_b48 : b44 ≠ b48 := Nat.ne_of_lt (Nat.lt_of_lt_of_le E_b44.lt (Nat.le_of_eq g48.symm))
    have ne_t46_b48 : t46 ≠ b48 := Nat.ne_of_lt (Nat.lt_of_lt_of_le V_t46.lt (Nat.le_of_eq g48.symm))
    have g_b48 : n0 ≤ b48 := Nat.le_trans Z47 (Nat.le_of_eq g48.symm)
    replace S_STRING := Sta.ext E48 S_STRING
    replace S_NUMBER := Sta.ext E48 S_NUMBER
    replace S_BOOLEAN := Sta.ext E48 S_BOOLEAN
    replace S_DATETIME := Sta.ext E48 S_DATETIME
    replace S_BINARY := Sta.ext E48 S_BINARY
    replace S_COMPACT_STRINGS := Sta.ext E48 S_COMPACT_STRINGS
    replace E_b32 := E_b32.ext E48
    replace V_b32 := V_b32.ext E48
    replace E_b36 := E_b36.ext E48
    replace F_value_b36 := F_value_b36.ext E48
    replace F_coder_b36 := F_coder_b36.ext E48
    replace V_t38 := V_t38.ext E48
    replace E_b40 := E_b40.ext E48
    replace V_b40 := V_b40.ext E48
    replace E_b44 := E_b44.ext E48
    replace F_value_b44 := F_value_b44.ext E48
    replace F_coder_b44 := F_coder_b44.ext E48
    replace V_t46 := V_t46.ext E48
    have Z49 : n0 ≤ h48.size := Nat.le_trans Z47 E48.1
    have V_b48 : Arv Z h48 b48 k48 .char (1 : Int32) [(.int (0 : Int32))] (.int (0 : Int32)) := (Arv.new A48 (by decide)).pad (pad_rep [] (.int (0 : Int32)) 1)
    refine W.go st48 ?_
    show W p e below _ (T48.setTop (mkF m 67 #[.val (.int p0), .val (.int p1), .val (.int p2), .val (.int p3), .val (.int p4), .val (.int (1 : Int32)), .val (.ref b32), .val (.ref b36), .val (.ref b40), .val (.ref b44), .unset, .unset, .unset, .unset, .unset] [(.ref b48)]))
    refine W.go (fun _ hr => XS.dup X48.here hx rfl (hb hby at_67) rfl rfl hr) ?_
    show W p e below _ (T48.setTop (mkF m 68 #[.val (.int p0), .val (.int p1), .val (.int p2), .val (.int p3), .val (.int p4), .val (.int (1 : Int32)), .val (.ref b32), .val (.ref b36), .val (.ref b40), .val (.ref b44), .unset, .unset, .unset, .unset, .unset] [(.ref b48), (.ref b48)]))
    refine W.go (fun _ hr => XS.iconst X48.here hx rfl (hb hby at_68) hr) ?_
    show W p e below _ (T48.setTop (mkF m 69 #[.val (.int p0), .val (.int p1), .val (.int p2), .val (.int p3), .val (.int p4), .val (.int (1 : Int32)), .val (.ref b32), .val (.ref b36), .val (.ref b40), .val (.ref b44), .unset, .unset, .unset, .unset, .unset] [(.int (0 : Int32)), (.ref b48), (.ref b48)]))
    refine W.go (fun _ hr => XS.iloadN X48.here hx rfl (hb hby at_69) rfl hr) ?_
    show W p e below _ (T48.setTop (mkF m 70 #[.val (.int p0), .val (.int p1), .val (.int p2), .val (.int p3), .val (.int p4), .val (.int (1 : Int32)), .val (.ref b32), .val (.ref b36), .val (.ref b40), .val (.ref b44), .unset, .unset, .unset, .unset, .unset] [(.int p2), (.int (0 : Int32)), (.ref b48), (.ref b48)]))
    refine W.go (fun _ hr => XS.sipush X48.here hx rfl (hb hby at_70) hr) ?_
    show W p e below _ (T48.setTop (mkF m 73 #[.val (.int p0), .val (.int p1), .val (.int p2), .val (.int p3), .val (.int p4), .val (.int (1 : Int32)), .val (.ref b32), .val (.ref b36), .val (.ref b40), .val (.ref b44), .unset, .unset, .unset, .unset, .unset] [(.int (255 : Int32)), (.int p2), (.int (0 : Int32)), (.ref b48), (.ref b48)]))
    refine W.go (fun _ hr => XS.iand X48.here hx rfl (hb hby at_73) rfl hr) ?_
    show W p e below _ (T48.setTop (mkF m 74 #[.val (.int p0), .val (.int p1), .val (.int p2), .val (.int p3), .val (.int p4), .val (.int (1 : Int32)), .val (.ref b32), .val (.ref b36), .val (.ref b40), .val (.ref b44), .unset, .unset, .unset, .unset, .unset] [(.int (p2 &&& (255 : Int32))), (.int (0 : Int32)), (.ref b48), (.ref b48)]))
    refine W.go (fun _ hr => XS.i2c X48.here hx rfl (hb hby at_74) rfl hr) ?_
    show W p e below _ (T48.setTop (mkF m 75 #[.val (.int p0), .val (.int p1), .val (.int p2), .val (.int p3), .val (.int p4), .val (.int (1 : Int32)), .val (.ref b32), .val (.ref b36), .val (.ref b40), .val (.ref b44), .unset, .unset, .unset, .unset, .unset] [(.int ((p2 &&& (255 : Int32)).toUInt32.toUInt16.toUInt32.toInt32)), (.int (0 : Int32)), (.ref b48), (.ref b48)]))
    obtain ⟨cl50, Ar50, q50, S50, Nn50, H50, G50⟩ := V_b48
    have hin50 : ¬ ((0 : Int32) < 0 ∨ cl50.slots.size ≤ ((0 : Int32)).toNatClampNeg) := inb_of S50 ⟨by decide, by decide⟩
    obtain ⟨T50, h50, X50, e50, W50, st50⟩ := stC X48 hx hZ e48 Ar50 (j := (0 : Int32)) hin50 (g := (mkF m 75 #[.val (.int p0), .val (.int p1), .val (.int p2), .val (.int p3), .val (.int p4), .val (.int (1 : Int32)), .val (.ref b32), .val (.ref b36), .val (.ref b40), .val (.ref b44), .unset, .unset, .unset, .unset, .unset] [(.int ((p2 &&& (255 : Int32)).toUInt32.toUInt16.toUInt32.toInt32)), (.int (0 : Int32)), (.ref b48), (.ref b48)])) rfl rfl (hb hby at_75)
    replace V_b48 : Arv Z h50 b48 k48 .char (1 : Int32) [(.int (nar .char ((p2 &&& (255 : Int32)).toUInt32.toUInt16.toUInt32.toInt32)))] (.int (0 : Int32)) := Arv.set Ar50 q50 S50 Nn50 H50 G50 (fits_nar_char _) W50 0 rfl (Nat.le_of_ble_eq_true rfl)
    replace S_STRING := Sta.wr W50 S_STRING
    replace S_NUMBER := Sta.wr W50 S_NUMBER
    replace S_BOOLEAN := Sta.wr W50 S_BOOLEAN
    replace S_DATETIME := Sta.wr W50 S_DATETIME
    replace S_BINARY := Sta.wr W50 S_BINARY
    replace S_COMPACT_STRINGS := Sta.wr W50 S_COMPACT_STRINGS
    replace E_b32 := E_b32.wr W50
    replace V_b32 := V_b32.other W50 ne_b32_b48
    replace E_b36 := E_b36.wr W50
    replace F_value_b36 := F_value_b36.other W50 (Or.inl ne_b36_b48)
    replace F_coder_b36 := F_coder_b36.other W50 (Or.inl ne_b36_b48)
    replace V_t38 := V_t38.other W50 ne_t38_b48
    replace E_b40 := E_b40.wr W50
    replace V_b40 := V_b40.other W50 ne_b40_b48
    replace E_b44 := E_b44.wr W50
    replace F_value_b44 := F_value_b44.other W50 (Or.inl ne_b44_b48)
    replace F_coder_b44 := F_coder_b44.other W50 (Or.inl ne_b44_b48)
    replace V_t46 := V_t46.other W50 ne_t46_b48
    replace E_b48 := E_b48.wr W50
    have Z51 : n0 ≤ h50.size := Nat.le_trans Z49 (Keep.of_wr W50).1
    refine W.go st50 ?_
    have N50 := Fr.snoc X50 N46 g_b48
    show W p e below _ (T50.setTop (mkF m 76 #[.val (.int p0), .val (.int p1), .val (.int p2), .val (.int p3), .val (.int p4), .val (.int (1 : Int32)), .val (.ref b32), .val (.ref b36), .val (.ref b40), .val (.ref b44), .unset, .unset, .unset, .unset, .unset] [(.ref b48)]))
    refine W.go (fun _ hr => XS.astore X50.here hx rfl (hb hby at_76) rfl rfl (l' := #[.val (.int p0), .val (.int p1), .val (.int p2), .val (.int p3), .val (.int p4), .val (.int (1 : Int32)), .val (.ref b32), .val (.ref b36), .val (.ref b40), .val (.ref b44), .val (.ref b48), .unset, .unset, .unset, .unset]) rfl hr) ?_
    show W p e below _ (T50.setTop (mkF m 78 #[.val (.int p0), .val (.int p1), .val (.int p2), .val (.int p3), .val (.int p4), .val (.int (1 : Int32)), .val (.ref b32), .val (.ref b36), .val (.ref b40), .val (.ref b44), .val (.ref b48), .unset, .unset, .unset, .unset] []))
    obtain ⟨T52, h52, X52, e52, E52, E_b52, D52, U52, st52⟩ := newO X50 hx hZ hown (hw _ (List.mem_of_getElem? (i := 1) rfl)) (hw _ (List.mem_of_getElem? (i := 2) rfl)) (hw _ (List.mem_of_getElem? (i := 3) rfl)) e50 (g := (mkF m 78 #[.val (.int p0), .val (.int p1), .val (.int p2), .val (.int p3), .val (.int p4), .val (.int (1 : Int32)), .val (.ref b32), .val (.ref b36), .val (.ref b40), .val (.ref b44), .val (.ref b48), .unset, .unset, .unset, .unset] [])) rfl (hb hby at_78) (by decide) (by decide)
    obtain ⟨b52, g52⟩ : ∃ z, z = h50.size := ⟨_, rfl⟩
    rw [← g52] at E_b52 D52 U52 st52
    have ne_b32_b52 : b32 ≠ b52 := Nat.ne_of_lt (Nat.lt_of_lt_of_le E_b32.lt (Nat.le_of_eq g52.symm))
    have ne_b36_b52 : b36 ≠ b52 := Nat.ne_of_lt (Nat.lt_of_lt_of_le E_b36.lt (Nat.le_of_eq g52.symm))
    have ne_t38_b52 : t38 ≠ b52 := Nat.ne_of_lt (Nat.lt_of_lt_of_le V_t38.lt (Nat.le_of_eq g52.symm))
    have ne_b40_b52 : b40 ≠ b52 := Nat.ne_of_lt (Nat.lt_of_lt_of_le E_b40.lt (Nat.le_of_eq g52.symm))
    have ne_b44_b52 : b44 ≠ b52 := Nat.ne_of_lt (Nat.lt_of_lt_of_le E_b44.lt (Nat.le_of_eq g52.symm))
    have ne_t46_b52 : t46 ≠ b52 := Nat.ne_of_lt (Nat.lt_of_lt_of_le V_t46.lt (Nat.le_of_eq g52.symm))
    have ne_b48_b52 : b48 ≠ b52 := Nat.ne_of_lt (Nat.lt_of_lt_of_le E_b48.lt (Nat.le_of_eq g52.symm))
    have g_b52 : n0 ≤ b52 := Nat.le_trans Z51 (Nat.le_of_eq g52.symm)
    replace S_STRING := Sta.ext E52 S_STRING
    replace S_NUMBER := Sta.ext E52 S_NUMBER
    replace S_BOOLEAN := Sta.ext E52 S_BOOLEAN
    replace S_DATETIME := Sta.ext E52 S_DATETIME
    replace S_BINARY := Sta.ext E52 S_BINARY
    replace S_COMPACT_STRINGS := Sta.ext E52 S_COMPACT_STRINGS
    replace E_b32 := E_b32.ext E52
    replace V_b32 := V_b32.ext E52
    replace E_b36 := E_b36.ext E52
    replace F_value_b36 := F_value_b36.ext E52
    replace F_coder_b36 := F_coder_b36.ext E52
    replace V_t38 := V_t38.ext E52
    replace E_b40 := E_b40.ext E52
    replace V_b40 := V_b40.ext E52
    replace E_b44 := E_b44.ext E52
    replace F_value_b44 := F_value_b44.ext E52
    replace F_coder_b44 := F_coder_b44.ext E52
    replace V_t46 := V_t46.ext E52
    replace E_b48 := E_b48.ext E52
    replace V_b48 := V_b48.ext E52
    have Z53 : n0 ≤ h52.size := Nat.le_trans Z51 E52.1
    have F_coder_b52 : Fld Z h52 b52 "java/lang/String" "coder" "B" (.int (0 : Int32)) := D52 (Or.inr (hw _ (List.mem_of_getElem? (i := 27) rfl))) (ty := .byte) (by decide)
    have F_value_b52 : Fld Z h52 b52 "java/lang/String" "value" "[B" .null := D52 (Or.inr (hw _ (List.mem_of_getElem? (i := 29) rfl))) (ty := (.array .byte)) (by decide)
    refine W.go st52 ?_
    show W p e below _ (T52.setTop (mkF m 81 #[.val (.int p0), .val (.int p1), .val (.int p2), .val (.int p3), .val (.int p4), .val (.int (1 : Int32)), .val (.ref b32), .val (.ref b36), .val (.ref b40), .val (.ref b44), .val (.ref b48), .unset, .unset, .unset, .unset] [(.ref b52)]))
    refine W.go (fun _ hr => XS.dup X52.here hx rfl (hb hby at_81) rfl rfl hr) ?_
    show W p e below _ (T52.setTop (mkF m 82 #[.val (.int p0), .val (.int p1), .val (.int p2), .val (.int p3), .val (.int p4), .val (.int (1 : Int32)), .val (.ref b32), .val (.ref b36), .val (.ref b40), .val (.ref b44), .val (.ref b48), .unset, .unset, .unset, .unset] [(.ref b52), (.ref b52)]))
    refine W.go (fun _ hr => XS.aload X52.here hx rfl (hb hby at_82) rfl rfl hr) ?_
    show W p e below _ (T52.setTop (mkF m 84 #[.val (.int p0), .val (.int p1), .val (.int p2), .val (.int p3), .val (.int p4), .val (.int (1 : Int32)), .val (.ref b32), .val (.ref b36), .val (.ref b40), .val (.ref b44), .val (.ref b48), .unset, .unset, .unset, .unset] [(.ref b48), (.ref b52), (.ref b52)]))
    have hlat54 : ∀ c ∈ [(nar .char ((p2 &&& (255 : Int32)).toUInt32.toUInt16.toUInt32.toInt32))], ¬ c < 0 ∧ ¬ (255 : Int32) < c := by
      intro c hc
      simp only [List.mem_cons, List.not_mem_nil, or_false] at hc
      rcases hc with rfl
      · exact (own_c255 p2)
    refine W.callIK X52 hx hZ hown (g := (mkF m 84 #[.val (.int p0), .val (.int p1), .val (.int p2), .val (.int p3), .val (.int p4), .val (.int (1 : Int32)), .val (.ref b32), .val (.ref b36), .val (.ref b40), .val (.ref b44), .val (.ref b48), .unset, .unset, .unset, .unset] [(.ref b48), (.ref b52), (.ref b52)])) (by rw [hml]; rfl) (hw _ (List.mem_of_getElem? (i := 4) rfl)) (hw _ (List.mem_of_getElem? (i := 5) rfl)) (hw _ (List.mem_of_getElem? (i := 6) rfl)) e52 (StrChars.Road.backV (W := 1) hZ (fun d hd => hw d (own_ws d hd)) (kI := 4) (hw _ (List.mem_of_getElem? (i := 2) rfl)) (cs := [(nar .char ((p2 &&& (255 : Int32)).toUInt32.toUInt16.toUInt32.toInt32))]) (bs := [((nar .char ((p2 &&& (255 : Int32)).toUInt32.toUInt16.toUInt32.toInt32))).toInt8.toInt32]) (n := 1) g_b52 Z53 E_b52 F_value_b52 F_coder_b52 V_b48 S_COMPACT_STRINGS hCS rfl rfl (by decide) (by decide) hlat54 rfl (by decide) (by decide)) rfl (by decide) pd_74 rfl (b := b52) (argsL := [(.ref b48)]) (rest := [(.ref b52)]) rfl rfl rfl (hb hby at_84) (W0 := 1) rfl (by decide) (by decide) (fun v54 T54 h54 L54 X54 e54 hQ54 => ?_)
    obtain ⟨rfl, N54q, K54, Ee54, Fc54, t54, kb54, gt54, st54, nt54, Fv54, V_t54⟩ := hQ54
    have N54 := Fr.app N50 N54q
    have ne_b32_t54 : b32 ≠ t54 := Nat.ne_of_lt (Nat.lt_of_lt_of_le E_b32.lt st54)
    have ne_b36_t54 : b36 ≠ t54 := Nat.ne_of_lt (Nat.lt_of_lt_of_le E_b36.lt st54)
    have ne_t38_t54 : t38 ≠ t54 := Nat.ne_of_lt (Nat.lt_of_lt_of_le V_t38.lt st54)
    have ne_b40_t54 : b40 ≠ t54 := Nat.ne_of_lt (Nat.lt_of_lt_of_le E_b40.lt st54)
    have ne_b44_t54 : b44 ≠ t54 := Nat.ne_of_lt (Nat.lt_of_lt_of_le E_b44.lt st54)
    have ne_t46_t54 : t46 ≠ t54 := Nat.ne_of_lt (Nat.lt_of_lt_of_le V_t46.lt st54)
    have ne_b48_t54 : b48 ≠ t54 := Nat.ne_of_lt (Nat.lt_of_lt_of_le E_b48.lt st54)
    have ne_b52_t54 : b52 ≠ t54 := Nat.ne_of_lt (Nat.lt_of_lt_of_le E_b52.lt st54)
    have g_t54 : n0 ≤ t54 := Nat.le_trans Z53 st54
    replace S_STRING := Sta.keep S_STRING K54 (nsS E_b52.nostat ns0)
    replace S_NUMBER := Sta.keep S_NUMBER K54 (nsS E_b52.nostat ns0)
    replace S_BOOLEAN := Sta.keep S_BOOLEAN K54 (nsS E_b52.nostat ns0)
    replace S_DATETIME := Sta.keep S_DATETIME K54 (nsS E_b52.nostat ns0)
    replace S_BINARY := Sta.keep S_BINARY K54 (nsS E_b52.nostat ns0)
    replace S_COMPACT_STRINGS := Sta.keep S_COMPACT_STRINGS K54 (nsS E_b52.nostat ns0)
    replace E_b32 := E_b32.keep K54
    replace V_b32 := V_b32.keep K54 (ninS ne_b32_b52 nin0)
    replace E_b36 := E_b36.keep K54
    replace F_value_b36 := F_value_b36.keep K54 (ninS ne_b36_b52 nin0)
    replace F_coder_b36 := F_coder_b36.keep K54 (ninS ne_b36_b52 nin0)
    replace V_t38 := V_t38.keep K54 (ninS ne_t38_b52 nin0)
    replace E_b40 := E_b40.keep K54
    replace V_b40 := V_b40.keep K54 (ninS ne_b40_b52 nin0)
    replace E_b44 := E_b44.keep K54
    replace F_value_b44 := F_value_b44.keep K54 (ninS ne_b44_b52 nin0)
    replace F_coder_b44 := F_coder_b44.keep K54 (ninS ne_b44_b52 nin0)
    replace V_t46 := V_t46.keep K54 (ninS ne_t46_b52 nin0)
    replace E_b48 := E_b48.keep K54
    replace V_b48 := V_b48.keep K54 (ninS ne_b48_b52 nin0)
    replace E_b52 := E_b52.keep K54
    have Z55 : n0 ≤ h54.size := Nat.le_trans Z53 K54.1
    have F_value_b52 := Fv54
    have F_coder_b52 := Fc54
    show W p e below _ (T54.setTop (mkF m 87 #[.val (.int p0), .val (.int p1), .val (.int p2), .val (.int p3), .val (.int p4), .val (.int (1 : Int32)), .val (.ref b32), .val (.ref b36), .val (.ref b40), .val (.ref b44), .val (.ref b48), .unset, .unset, .unset, .unset] [(.ref b52)]))
    refine W.go (fun _ hr => XS.astore X54.here hx rfl (hb hby at_87) rfl rfl (l' := #[.val (.int p0), .val (.int p1), .val (.int p2), .val (.int p3), .val (.int p4), .val (.int (1 : Int32)), .val (.ref b32), .val (.ref b36), .val (.ref b40), .val (.ref b44), .val (.ref b48), .val (.ref b52), .unset, .unset, .unset]) rfl hr) ?_
    show W p e below _ (T54.setTop (mkF m 89 #[.val (.int p0), .val (.int p1), .val (.int p2), .val (.int p3), .val (.int p4), .val (.int (1 : Int32)), .val (.ref b32), .val (.ref b36), .val (.ref b40), .val (.ref b44), .val (.ref b48), .val (.ref b52), .unset, .unset, .unset] []))
    refine W.go (fun _ hr => XS.iloadN X54.here hx rfl (hb hby at_89) rfl hr) ?_
    show W p e below _ (T54.setTop (mkF m 90 #[.val (.int p0), .val (.int p1), .val (.int p2), .val (.int p3), .val (.int p4), .val (.int (1 : Int32)), .val (.ref b32), .val (.ref b36), .val (.ref b40), .val (.ref b44), .val (.ref b48), .val (.ref b52), .unset, .unset, .unset] [(.int p3)]))
    refine W.callS X54 hx hZ hown (g := (mkF m 90 #[.val (.int p0), .val (.int p1), .val (.int p2), .val (.int p3), .val (.int p4), .val (.int (1 : Int32)), .val (.ref b32), .val (.ref b36), .val (.ref b40), .val (.ref b44), .val (.ref b48), .val (.ref b52), .unset, .unset, .unset] [(.int p3)])) (by rw [hml]; rfl) (hw _ (List.mem_of_getElem? (i := 30) rfl)) (hw _ (List.mem_of_getElem? (i := 31) rfl)) (hw _ (List.mem_of_getElem? (i := 32) rfl)) (hw _ (List.mem_of_getElem? (i := 33) rfl)) e54 (rm7 l Z a0 hw p3 w_STRING w_NUMBER w_BOOLEAN w_DATETIME w_BINARY h54 n0 Z55 S_STRING S_NUMBER S_BOOLEAN S_DATETIME S_BINARY) (by decide) pd_75 rfl (argsL := [(.int p3)]) (rest := []) rfl rfl rfl (hb hby at_90) (W0 := 0) rfl (by decide) (by decide) (by decide) (by decide) (fun v56 T56 h56 L56 X56 e56 hQ56 => ?_)
    obtain ⟨t56, rfl, N56q, hh56⟩ := hQ56
    obtain rfl := hh56.symm
    have N56 := Fr.app N54 N56q
    show W p e below _ (T56.setTop (mkF m 93 #[.val (.int p0), .val (.int p1), .val (.int p2), .val (.int p3), .val (.int p4), .val (.int (1 : Int32)), .val (.ref b32), .val (.ref b36), .val (.ref b40), .val (.ref b44), .val (.ref b48), .val (.ref b52), .unset, .unset, .unset] [(.ref t56)]))
    refine W.go (fun _ hr => XS.astore X56.here hx rfl (hb hby at_93) rfl rfl (l' := #[.val (.int p0), .val (.int p1), .val (.int p2), .val (.int p3), .val (.int p4), .val (.int (1 : Int32)), .val (.ref b32), .val (.ref b36), .val (.ref b40), .val (.ref b44), .val (.ref b48), .val (.ref b52), .val (.ref t56), .unset, .unset]) rfl hr) ?_
    show W p e below _ (T56.setTop (mkF m 95 #[.val (.int p0), .val (.int p1), .val (.int p2), .val (.int p3), .val (.int p4), .val (.int (1 : Int32)), .val (.ref b32), .val (.ref b36), .val (.ref b40), .val (.ref b44), .val (.ref b48), .val (.ref b52), .val (.ref t56), .unset, .unset] []))
    refine W.go (fun _ hr => XS.iload X56.here hx rfl (hb hby at_95) rfl hr) ?_
    show W p e below _ (T56.setTop (mkF m 97 #[.val (.int p0), .val (.int p1), .val (.int p2), .val (.int p3), .val (.int p4), .val (.int (1 : Int32)), .val (.ref b32), .val (.ref b36), .val (.ref b40), .val (.ref b44), .val (.ref b48), .val (.ref b52), .val (.ref t56), .unset, .unset] [(.int (1 : Int32))]))
    refine W.go (fun _ hr => XS.ifNo X56.here hx rfl (hb hby at_97) rfl ((if0 _ _).trans (feq (by decide : ¬ ((1 : Int32) = (0 : Int32)))).1) hr) ?_
    show W p e below _ (T56.setTop (mkF m 100 #[.val (.int p0), .val (.int p1), .val (.int p2), .val (.int p3), .val (.int p4), .val (.int (1 : Int32)), .val (.ref b32), .val (.ref b36), .val (.ref b40), .val (.ref b44), .val (.ref b48), .val (.ref b52), .val (.ref t56), .unset, .unset] []))
    obtain ⟨T57, h57, X57, e57, E57, E_b57, D57, U57, st57⟩ := newO X56 hx hZ hown (hw _ (List.mem_of_getElem? (i := 68) rfl)) (hw _ (List.mem_of_getElem? (i := 69) rfl)) (hw _ (List.mem_of_getElem? (i := 70) rfl)) e56 (g := (mkF m 100 #[.val (.int p0), .val (.int p1), .val (.int p2), .val (.int p3), .val (.int p4), .val (.int (1 : Int32)), .val (.ref b32), .val (.ref b36), .val (.ref b40), .val (.ref b44), .val (.ref b48), .val (.ref b52), .val (.ref t56), .unset, .unset] [])) rfl (hb hby at_100) (by decide) (by decide)
    obtain ⟨b57, g57⟩ : ∃ z, z = h54.size := ⟨_, rfl⟩
    rw [← g57] at E_b57 D57 U57 st57
    have ne_b32_b57 : b32 ≠ b57 := Nat.ne_of_lt (Nat.lt_of_lt_of_le E_b32.lt (Nat.le_of_eq g57.symm))
    have ne_b36_b57 : b36 ≠ b57 := Nat.ne_of_lt (Nat.lt_of_lt_of_le E_b36.lt (Nat.le_of_eq g57.symm))
    have ne_t38_b57 : t38 ≠ b57 := Nat.ne_of_lt (Nat.lt_of_lt_of_le V_t38.lt (Nat.le_of_eq g57.symm))
    have ne_b40_b57 : b40 ≠ b57 := Nat.ne_of_lt (Nat.lt_of_lt_of_le E_b40.lt (Nat.le_of_eq g57.symm))
    have ne_b44_b57 : b44 ≠ b57 := Nat.ne_of_lt (Nat.lt_of_lt_of_le E_b44.lt (Nat.le_of_eq g57.symm))
    have ne_t46_b57 : t46 ≠ b57 := Nat.ne_of_lt (Nat.lt_of_lt_of_le V_t46.lt (Nat.le_of_eq g57.symm))
    have ne_b48_b57 : b48 ≠ b57 := Nat.ne_of_lt (Nat.lt_of_lt_of_le E_b48.lt (Nat.le_of_eq g57.symm))
    have ne_b52_b57 : b52 ≠ b57 := Nat.ne_of_lt (Nat.lt_of_lt_of_le E_b52.lt (Nat.le_of_eq g57.symm))
    have ne_t54_b57 : t54 ≠ b57 := Nat.ne_of_lt (Nat.lt_of_lt_of_le V_t54.lt (Nat.le_of_eq g57.symm))
    have g_b57 : n0 ≤ b57 := Nat.le_trans Z55 (Nat.le_of_eq g57.symm)
    replace S_STRING := Sta.ext E57 S_STRING
    replace S_NUMBER := Sta.ext E57 S_NUMBER
    replace S_BOOLEAN := Sta.ext E57 S_BOOLEAN
    replace S_DATETIME := Sta.ext E57 S_DATETIME
    replace S_BINARY := Sta.ext E57 S_BINARY
    replace S_COMPACT_STRINGS := Sta.ext E57 S_COMPACT_STRINGS
    replace E_b32 := E_b32.ext E57
    replace V_b32 := V_b32.ext E57
    replace E_b36 := E_b36.ext E57
    replace F_value_b36 := F_value_b36.ext E57
    replace F_coder_b36 := F_coder_b36.ext E57
    replace V_t38 := V_t38.ext E57
    replace E_b40 := E_b40.ext E57
    replace V_b40 := V_b40.ext E57
    replace E_b44 := E_b44.ext E57
    replace F_value_b44 := F_value_b44.ext E57
    replace F_coder_b44 := F_coder_b44.ext E57
    replace V_t46 := V_t46.ext E57
    replace E_b48 := E_b48.ext E57
    replace V_b48 := V_b48.ext E57
    replace E_b52 := E_b52.ext E57
    replace F_value_b52 := F_value_b52.ext E57
    replace F_coder_b52 := F_coder_b52.ext E57
    replace V_t54 := V_t54.ext E57
    have Z58 : n0 ≤ h57.size := Nat.le_trans Z55 E57.1
    have F_facet_b57 : Fld Z h57 b57 "com/example/facetree/facetree/model/AttributeKey" "facet" "Ljava/lang/String;" .null := D57 (Or.inr (hw _ (List.mem_of_getElem? (i := 76) rfl))) (ty := (.object "java/lang/String")) (by decide)
    have F_name_b57 : Fld Z h57 b57 "com/example/facetree/facetree/model/AttributeKey" "name" "Ljava/lang/String;" .null := D57 (Or.inr (hw _ (List.mem_of_getElem? (i := 78) rfl))) (ty := (.object "java/lang/String")) (by decide)
    refine W.go st57 ?_
    show W p e below _ (T57.setTop (mkF m 103 #[.val (.int p0), .val (.int p1), .val (.int p2), .val (.int p3), .val (.int p4), .val (.int (1 : Int32)), .val (.ref b32), .val (.ref b36), .val (.ref b40), .val (.ref b44), .val (.ref b48), .val (.ref b52), .val (.ref t56), .unset, .unset] [(.ref b57)]))
    refine W.go (fun _ hr => XS.dup X57.here hx rfl (hb hby at_103) rfl rfl hr) ?_
    show W p e below _ (T57.setTop (mkF m 104 #[.val (.int p0), .val (.int p1), .val (.int p2), .val (.int p3), .val (.int p4), .val (.int (1 : Int32)), .val (.ref b32), .val (.ref b36), .val (.ref b40), .val (.ref b44), .val (.ref b48), .val (.ref b52), .val (.ref t56), .unset, .unset] [(.ref b57), (.ref b57)]))
    refine W.go (fun _ hr => XS.aload X57.here hx rfl (hb hby at_104) rfl rfl hr) ?_
    show W p e below _ (T57.setTop (mkF m 106 #[.val (.int p0), .val (.int p1), .val (.int p2), .val (.int p3), .val (.int p4), .val (.int (1 : Int32)), .val (.ref b32), .val (.ref b36), .val (.ref b40), .val (.ref b44), .val (.ref b48), .val (.ref b52), .val (.ref t56), .unset, .unset] [(.ref b44), (.ref b57), (.ref b57)]))
    refine W.go (fun _ hr => XS.aload X57.here hx rfl (hb hby at_106) rfl rfl hr) ?_
    show W p e below _ (T57.setTop (mkF m 108 #[.val (.int p0), .val (.int p1), .val (.int p2), .val (.int p3), .val (.int p4), .val (.int (1 : Int32)), .val (.ref b32), .val (.ref b36), .val (.ref b40), .val (.ref b44), .val (.ref b48), .val (.ref b52), .val (.ref t56), .unset, .unset] [(.ref b52), (.ref b44), (.ref b57), (.ref b57)]))
    refine W.callI X57 hx hZ hown (g := (mkF m 108 #[.val (.int p0), .val (.int p1), .val (.int p2), .val (.int p3), .val (.int p4), .val (.int (1 : Int32)), .val (.ref b32), .val (.ref b36), .val (.ref b40), .val (.ref b44), .val (.ref b48), .val (.ref b52), .val (.ref t56), .unset, .unset] [(.ref b52), (.ref b44), (.ref b57), (.ref b57)])) (by rw [hml]; rfl) (hw _ (List.mem_of_getElem? (i := 71) rfl)) (hw _ (List.mem_of_getElem? (i := 72) rfl)) (hw _ (List.mem_of_getElem? (i := 70) rfl)) (hw _ (List.mem_of_getElem? (i := 73) rfl)) e57 (rm12 l Z a0 hw b57 b44 b52 h57 n0 Z58 E_b57 F_facet_b57 F_name_b57 g_b57) rfl (by decide) pd_78 rfl (b := b57) (argsL := [(.ref b44), (.ref b52)]) (rest := [(.ref b57)]) rfl rfl rfl (hb hby at_108) (W0 := 1) rfl (by decide) (by decide) (by decide) (by decide) (fun v59 T59 h59 L59 X59 e59 hQ59 => ?_)
    obtain ⟨rfl, N59q, K59⟩ := hQ59
    have N59 := Fr.app N56 N59q
    replace S_STRING := Sta.keep S_STRING K59 (nsS E_b57.nostat ns0)
    replace S_NUMBER := Sta.keep S_NUMBER K59 (nsS E_b57.nostat ns0)
    replace S_BOOLEAN := Sta.keep S_BOOLEAN K59 (nsS E_b57.nostat ns0)
    replace S_DATETIME := Sta.keep S_DATETIME K59 (nsS E_b57.nostat ns0)
    replace S_BINARY := Sta.keep S_BINARY K59 (nsS E_b57.nostat ns0)
    replace S_COMPACT_STRINGS := Sta.keep S_COMPACT_STRINGS K59 (nsS E_b57.nostat ns0)
    replace E_b32 := E_b32.keep K59
    replace V_b32 := V_b32.keep K59 (ninS ne_b32_b57 nin0)
    replace E_b36 := E_b36.keep K59
    replace F_value_b36 := F_value_b36.keep K59 (ninS ne_b36_b57 nin0)
    replace F_coder_b36 := F_coder_b36.keep K59 (ninS ne_b36_b57 nin0)
    replace V_t38 := V_t38.keep K59 (ninS ne_t38_b57 nin0)
    replace E_b40 := E_b40.keep K59
    replace V_b40 := V_b40.keep K59 (ninS ne_b40_b57 nin0)
    replace E_b44 := E_b44.keep K59
    replace F_value_b44 := F_value_b44.keep K59 (ninS ne_b44_b57 nin0)
    replace F_coder_b44 := F_coder_b44.keep K59 (ninS ne_b44_b57 nin0)
    replace V_t46 := V_t46.keep K59 (ninS ne_t46_b57 nin0)
    replace E_b48 := E_b48.keep K59
    replace V_b48 := V_b48.keep K59 (ninS ne_b48_b57 nin0)
    replace E_b52 := E_b52.keep K59
    replace F_value_b52 := F_value_b52.keep K59 (ninS ne_b52_b57 nin0)
    replace F_coder_b52 := F_coder_b52.keep K59 (ninS ne_b52_b57 nin0)
    replace V_t54 := V_t54.keep K59 (ninS ne_t54_b57 nin0)
    replace E_b57 := E_b57.keep K59
    have Z60 : n0 ≤ h59.size := Nat.le_trans Z58 K59.1
    show W p e below _ (T59.setTop (mkF m 111 #[.val (.int p0), .val (.int p1), .val (.int p2), .val (.int p3), .val (.int p4), .val (.int (1 : Int32)), .val (.ref b32), .val (.ref b36), .val (.ref b40), .val (.ref b44), .val (.ref b48), .val (.ref b52), .val (.ref t56), .unset, .unset] [(.ref b57)]))
    refine W.go (fun _ hr => XS.astore X59.here hx rfl (hb hby at_111) rfl rfl (l' := #[.val (.int p0), .val (.int p1), .val (.int p2), .val (.int p3), .val (.int p4), .val (.int (1 : Int32)), .val (.ref b32), .val (.ref b36), .val (.ref b40), .val (.ref b44), .val (.ref b48), .val (.ref b52), .val (.ref t56), .unset, .val (.ref b57)]) rfl hr) ?_
    show W p e below _ (T59.setTop (mkF m 113 #[.val (.int p0), .val (.int p1), .val (.int p2), .val (.int p3), .val (.int p4), .val (.int (1 : Int32)), .val (.ref b32), .val (.ref b36), .val (.ref b40), .val (.ref b44), .val (.ref b48), .val (.ref b52), .val (.ref t56), .unset, .val (.ref b57)] []))
    obtain ⟨T61, h61, X61, e61, E61, E_b61, D61, U61, st61⟩ := newO X59 hx hZ hown (hw _ (List.mem_of_getElem? (i := 38) rfl)) (hw _ (List.mem_of_getElem? (i := 39) rfl)) (hw _ (List.mem_of_getElem? (i := 40) rfl)) e59 (g := (mkF m 113 #[.val (.int p0), .val (.int p1), .val (.int p2), .val (.int p3), .val (.int p4), .val (.int (1 : Int32)), .val (.ref b32), .val (.ref b36), .val (.ref b40), .val (.ref b44), .val (.ref b48), .val (.ref b52), .val (.ref t56), .unset, .val (.ref b57)] [])) rfl (hb hby at_113) (by decide) (by decide)
    obtain ⟨b61, g61⟩ : ∃ z, z = h59.size := ⟨_, rfl⟩
    rw [← g61] at E_b61 D61 U61 st61
    have ne_b32_b61 : b32 ≠ b61 := Nat.ne_of_lt (Nat.lt_of_lt_of_le E_b32.lt (Nat.le_of_eq g61.symm))
    have ne_b36_b61 : b36 ≠ b61 := Nat.ne_of_lt (Nat.lt_of_lt_of_le E_b36.lt (Nat.le_of_eq g61.symm))
    have ne_t38_b61 : t38 ≠ b61 := Nat.ne_of_lt (Nat.lt_of_lt_of_le V_t38.lt (Nat.le_of_eq g61.symm))
    have ne_b40_b61 : b40 ≠ b61 := Nat.ne_of_lt (Nat.lt_of_lt_of_le E_b40.lt (Nat.le_of_eq g61.symm))
    have ne_b44_b61 : b44 ≠ b61 := Nat.ne_of_lt (Nat.lt_of_lt_of_le E_b44.lt (Nat.le_of_eq g61.symm))
    have ne_t46_b61 : t46 ≠ b61 := Nat.ne_of_lt (Nat.lt_of_lt_of_le V_t46.lt (Nat.le_of_eq g61.symm))
    have ne_b48_b61 : b48 ≠ b61 := Nat.ne_of_lt (Nat.lt_of_lt_of_le E_b48.lt (Nat.le_of_eq g61.symm))
    have ne_b52_b61 : b52 ≠ b61 := Nat.ne_of_lt (Nat.lt_of_lt_of_le E_b52.lt (Nat.le_of_eq g61.symm))
    have ne_t54_b61 : t54 ≠ b61 := Nat.ne_of_lt (Nat.lt_of_lt_of_le V_t54.lt (Nat.le_of_eq g61.symm))
    have ne_b57_b61 : b57 ≠ b61 := Nat.ne_of_lt (Nat.lt_of_lt_of_le E_b57.lt (Nat.le_of_eq g61.symm))
    have g_b61 : n0 ≤ b61 := Nat.le_trans Z60 (Nat.le_of_eq g61.symm)
    replace S_STRING := Sta.ext E61 S_STRING
    replace S_NUMBER := Sta.ext E61 S_NUMBER
    replace S_BOOLEAN := Sta.ext E61 S_BOOLEAN
    replace S_DATETIME := Sta.ext E61 S_DATETIME
    replace S_BINARY := Sta.ext E61 S_BINARY
    replace S_COMPACT_STRINGS := Sta.ext E61 S_COMPACT_STRINGS
    replace E_b32 := E_b32.ext E61
    replace V_b32 := V_b32.ext E61
    replace E_b36 := E_b36.ext E61
    replace F_value_b36 := F_value_b36.ext E61
    replace F_coder_b36 := F_coder_b36.ext E61
    replace V_t38 := V_t38.ext E61
    replace E_b40 := E_b40.ext E61
    replace V_b40 := V_b40.ext E61
    replace E_b44 := E_b44.ext E61
    replace F_value_b44 := F_value_b44.ext E61
    replace F_coder_b44 := F_coder_b44.ext E61
    replace V_t46 := V_t46.ext E61
    replace E_b48 := E_b48.ext E61
    replace V_b48 := V_b48.ext E61
    replace E_b52 := E_b52.ext E61
    replace F_value_b52 := F_value_b52.ext E61
    replace F_coder_b52 := F_coder_b52.ext E61
    replace V_t54 := V_t54.ext E61
    replace E_b57 := E_b57.ext E61
    have Z62 : n0 ≤ h61.size := Nat.le_trans Z60 E61.1
    have F_name_b61 : Fld Z h61 b61 "com/example/facetree/facetree/model/AttributeDefinition" "name" "Ljava/lang/String;" .null := D61 (Or.inr (hw _ (List.mem_of_getElem? (i := 54) rfl))) (ty := (.object "java/lang/String")) (by decide)
    have F_type_b61 : Fld Z h61 b61 "com/example/facetree/facetree/model/AttributeDefinition" "type" "Lcom/example/facetree/facetree/model/AttributeType;" .null := D61 (Or.inr (hw _ (List.mem_of_getElem? (i := 56) rfl))) (ty := (.object "com/example/facetree/facetree/model/AttributeType")) (by decide)
    have F_requiredBehavior_b61 : Fld Z h61 b61 "com/example/facetree/facetree/model/AttributeDefinition" "requiredBehavior" "Lcom/example/facetree/facetree/model/RequiredBehavior;" .null := D61 (Or.inr (hw _ (List.mem_of_getElem? (i := 58) rfl))) (ty := (.object "com/example/facetree/facetree/model/RequiredBehavior")) (by decide)
    have F_target_b61 : Fld Z h61 b61 "com/example/facetree/facetree/model/AttributeDefinition" "target" "Lcom/example/facetree/facetree/model/AttributeKey;" .null := D61 (Or.inr (hw _ (List.mem_of_getElem? (i := 60) rfl))) (ty := (.object "com/example/facetree/facetree/model/AttributeKey")) (by decide)
    refine W.go st61 ?_
    show W p e below _ (T61.setTop (mkF m 116 #[.val (.int p0), .val (.int p1), .val (.int p2), .val (.int p3), .val (.int p4), .val (.int (1 : Int32)), .val (.ref b32), .val (.ref b36), .val (.ref b40), .val (.ref b44), .val (.ref b48), .val (.ref b52), .val (.ref t56), .unset, .val (.ref b57)] [(.ref b61)]))
    refine W.go (fun _ hr => XS.dup X61.here hx rfl (hb hby at_116) rfl rfl hr) ?_
    show W p e below _ (T61.setTop (mkF m 117 #[.val (.int p0), .val (.int p1), .val (.int p2), .val (.int p3), .val (.int p4), .val (.int (1 : Int32)), .val (.ref b32), .val (.ref b36), .val (.ref b40), .val (.ref b44), .val (.ref b48), .val (.ref b52), .val (.ref t56), .unset, .val (.ref b57)] [(.ref b61), (.ref b61)]))
    refine W.go (fun _ hr => XS.aload X61.here hx rfl (hb hby at_117) rfl rfl hr) ?_
    show W p e below _ (T61.setTop (mkF m 119 #[.val (.int p0), .val (.int p1), .val (.int p2), .val (.int p3), .val (.int p4), .val (.int (1 : Int32)), .val (.ref b32), .val (.ref b36), .val (.ref b40), .val (.ref b44), .val (.ref b48), .val (.ref b52), .val (.ref t56), .unset, .val (.ref b57)] [(.ref b36), (.ref b61), (.ref b61)]))
    refine W.go (fun _ hr => XS.aload X61.here hx rfl (hb hby at_119) rfl rfl hr) ?_
    show W p e below _ (T61.setTop (mkF m 121 #[.val (.int p0), .val (.int p1), .val (.int p2), .val (.int p3), .val (.int p4), .val (.int (1 : Int32)), .val (.ref b32), .val (.ref b36), .val (.ref b40), .val (.ref b44), .val (.ref b48), .val (.ref b52), .val (.ref t56), .unset, .val (.ref b57)] [(.ref t56), (.ref b36), (.ref b61), (.ref b61)]))
    refine W.go (fun _ hr => XS.aconstNull X61.here hx rfl (hb hby at_121) hr) ?_
    show W p e below _ (T61.setTop (mkF m 122 #[.val (.int p0), .val (.int p1), .val (.int p2), .val (.int p3), .val (.int p4), .val (.int (1 : Int32)), .val (.ref b32), .val (.ref b36), .val (.ref b40), .val (.ref b44), .val (.ref b48), .val (.ref b52), .val (.ref t56), .unset, .val (.ref b57)] [.null, (.ref t56), (.ref b36), (.ref b61), (.ref b61)]))
    refine W.go (fun _ hr => XS.aload X61.here hx rfl (hb hby at_122) rfl rfl hr) ?_
    show W p e below _ (T61.setTop (mkF m 124 #[.val (.int p0), .val (.int p1), .val (.int p2), .val (.int p3), .val (.int p4), .val (.int (1 : Int32)), .val (.ref b32), .val (.ref b36), .val (.ref b40), .val (.ref b44), .val (.ref b48), .val (.ref b52), .val (.ref t56), .unset, .val (.ref b57)] [(.ref b57), .null, (.ref t56), (.ref b36), (.ref b61), (.ref b61)]))
    refine W.callI X61 hx hZ hown (g := (mkF m 124 #[.val (.int p0), .val (.int p1), .val (.int p2), .val (.int p3), .val (.int p4), .val (.int (1 : Int32)), .val (.ref b32), .val (.ref b36), .val (.ref b40), .val (.ref b44), .val (.ref b48), .val (.ref b52), .val (.ref t56), .unset, .val (.ref b57)] [(.ref b57), .null, (.ref t56), (.ref b36), (.ref b61), (.ref b61)])) (by rw [hml]; rfl) (hw _ (List.mem_of_getElem? (i := 79) rfl)) (hw _ (List.mem_of_getElem? (i := 45) rfl)) (hw _ (List.mem_of_getElem? (i := 40) rfl)) (hw _ (List.mem_of_getElem? (i := 46) rfl)) e61 (rmD0 l Z a0 hw b61 b36 t56 b57 h61 n0 Z62 E_b61 F_name_b61 F_type_b61 F_requiredBehavior_b61 F_target_b61 g_b61) rfl (by decide) pd_65 rfl (b := b61) (argsL := [(.ref b36), (.ref t56), .null, (.ref b57)]) (rest := [(.ref b61)]) rfl rfl rfl (hb hby at_124) (W0 := 1) rfl (by decide) (by decide) (by decide) (by decide) (fun v63 T63 h63 L63 X63 e63 hQ63 => ?_)
    obtain ⟨rfl, N63q, K63, Ft63⟩ := hQ63
    have N63 := Fr.app N59 N63q
    replace S_STRING := Sta.keep S_STRING K63 (nsS E_b61.nostat ns0)
    replace S_NUMBER := Sta.keep S_NUMBER K63 (nsS E_b61.nostat ns0)
    replace S_BOOLEAN := Sta.keep S_BOOLEAN K63 (nsS E_b61.nostat ns0)
    replace S_DATETIME := Sta.keep S_DATETIME K63 (nsS E_b61.nostat ns0)
    replace S_BINARY := Sta.keep S_BINARY K63 (nsS E_b61.nostat ns0)
    replace S_COMPACT_STRINGS := Sta.keep S_COMPACT_STRINGS K63 (nsS E_b61.nostat ns0)
    replace E_b32 := E_b32.keep K63
    replace V_b32 := V_b32.keep K63 (ninS ne_b32_b61 nin0)
    replace E_b36 := E_b36.keep K63
    replace F_value_b36 := F_value_b36.keep K63 (ninS ne_b36_b61 nin0)
    replace F_coder_b36 := F_coder_b36.keep K63 (ninS ne_b36_b61 nin0)
    replace V_t38 := V_t38.keep K63 (ninS ne_t38_b61 nin0)
    replace E_b40 := E_b40.keep K63
    replace V_b40 := V_b40.keep K63 (ninS ne_b40_b61 nin0)
    replace E_b44 := E_b44.keep K63
    replace F_value_b44 := F_value_b44.keep K63 (ninS ne_b44_b61 nin0)
    replace F_coder_b44 := F_coder_b44.keep K63 (ninS ne_b44_b61 nin0)
    replace V_t46 := V_t46.keep K63 (ninS ne_t46_b61 nin0)
    replace E_b48 := E_b48.keep K63
    replace V_b48 := V_b48.keep K63 (ninS ne_b48_b61 nin0)
    replace E_b52 := E_b52.keep K63
    replace F_value_b52 := F_value_b52.keep K63 (ninS ne_b52_b61 nin0)
    replace F_coder_b52 := F_coder_b52.keep K63 (ninS ne_b52_b61 nin0)
    replace V_t54 := V_t54.keep K63 (ninS ne_t54_b61 nin0)
    replace E_b57 := E_b57.keep K63
    replace E_b61 := E_b61.keep K63
    have Z64 : n0 ≤ h63.size := Nat.le_trans Z62 K63.1
    show W p e below _ (T63.setTop (mkF m 127 #[.val (.int p0), .val (.int p1), .val (.int p2), .val (.int p3), .val (.int p4), .val (.int (1 : Int32)), .val (.ref b32), .val (.ref b36), .val (.ref b40), .val (.ref b44), .val (.ref b48), .val (.ref b52), .val (.ref t56), .unset, .val (.ref b57)] [(.ref b61)]))
    refine W.go (fun _ hr => XS.astore X63.here hx rfl (hb hby at_127) rfl rfl (l' := #[.val (.int p0), .val (.int p1), .val (.int p2), .val (.int p3), .val (.int p4), .val (.int (1 : Int32)), .val (.ref b32), .val (.ref b36), .val (.ref b40), .val (.ref b44), .val (.ref b48), .val (.ref b52), .val (.ref t56), .val (.ref b61), .val (.ref b57)]) rfl hr) ?_
    show W p e below _ (T63.setTop (mkF m 129 #[.val (.int p0), .val (.int p1), .val (.int p2), .val (.int p3), .val (.int p4), .val (.int (1 : Int32)), .val (.ref b32), .val (.ref b36), .val (.ref b40), .val (.ref b44), .val (.ref b48), .val (.ref b52), .val (.ref t56), .val (.ref b61), .val (.ref b57)] []))
    refine W.go (fun _ hr => XS.goto X63.here hx rfl (pc0 := 129) (pc' := 146) rfl (hb hby at_129) (by decide) (by decide) hr) ?_
    show W p e below _ (T63.setTop (mkF m 146 #[.val (.int p0), .val (.int p1), .val (.int p2), .val (.int p3), .val (.int p4), .val (.int (1 : Int32)), .val (.ref b32), .val (.ref b36), .val (.ref b40), .val (.ref b44), .val (.ref b48), .val (.ref b52), .val (.ref t56), .val (.ref b61), .val (.ref b57)] []))
    refine W.go (fun _ hr => XS.aload X63.here hx rfl (hb hby at_146) rfl rfl hr) ?_
    show W p e below _ (T63.setTop (mkF m 148 #[.val (.int p0), .val (.int p1), .val (.int p2), .val (.int p3), .val (.int p4), .val (.int (1 : Int32)), .val (.ref b32), .val (.ref b36), .val (.ref b40), .val (.ref b44), .val (.ref b48), .val (.ref b52), .val (.ref t56), .val (.ref b61), .val (.ref b57)] [(.ref b61)]))
    refine W.callV X63 hx hZ hown (g := (mkF m 148 #[.val (.int p0), .val (.int p1), .val (.int p2), .val (.int p3), .val (.int p4), .val (.int (1 : Int32)), .val (.ref b32), .val (.ref b36), .val (.ref b40), .val (.ref b44), .val (.ref b48), .val (.ref b52), .val (.ref t56), .val (.ref b61), .val (.ref b57)] [(.ref b61)])) (by rw [hml]; rfl) (hw _ (List.mem_of_getElem? (i := 61) rfl)) (hw _ (List.mem_of_getElem? (i := 62) rfl)) (hw _ (List.mem_of_getElem? (i := 64) rfl)) (hw _ (List.mem_of_getElem? (i := 63) rfl)) (hw _ (List.mem_of_getElem? (i := 40) rfl)) (hw _ (List.mem_of_getElem? (i := 65) rfl)) e63 (rmR1 l Z a0 hw b61 b57 h63 n0 Z64 Ft63) (notFace_of_selects (args := #[]) (mvT hZ (hw _ (List.mem_of_getElem? (i := 64) rfl)))) (by decide) pd_77 rfl E_b61 (argsL := []) (rest := []) rfl rfl rfl (hb hby at_148) (W0 := 0) rfl (by decide) (by decide) (by decide) (by decide) (fun v65 T65 h65 L65 X65 e65 hQ65 => ?_)
    obtain ⟨rfl, N65q, hh65⟩ := hQ65
    obtain rfl := hh65.symm
    have N65 := Fr.app N63 N65q
    show W p e below _ (T65.setTop (mkF m 151 #[.val (.int p0), .val (.int p1), .val (.int p2), .val (.int p3), .val (.int p4), .val (.int (1 : Int32)), .val (.ref b32), .val (.ref b36), .val (.ref b40), .val (.ref b44), .val (.ref b48), .val (.ref b52), .val (.ref t56), .val (.ref b61), .val (.ref b57)] [(.int (1 : Int32))]))
    refine W.go (fun _ hr => XS.iload X65.here hx rfl (hb hby at_151) rfl hr) ?_
    show W p e below _ (T65.setTop (mkF m 153 #[.val (.int p0), .val (.int p1), .val (.int p2), .val (.int p3), .val (.int p4), .val (.int (1 : Int32)), .val (.ref b32), .val (.ref b36), .val (.ref b40), .val (.ref b44), .val (.ref b48), .val (.ref b52), .val (.ref t56), .val (.ref b61), .val (.ref b57)] [(.int (1 : Int32)), (.int (1 : Int32))]))
    refine W.go (fun _ hr => XS.icmpNo X65.here hx rfl (hb hby at_153) rfl (teq (by decide : ((1 : Int32) = (1 : Int32)))).2 hr) ?_
    show W p e below _ (T65.setTop (mkF m 156 #[.val (.int p0), .val (.int p1), .val (.int p2), .val (.int p3), .val (.int p4), .val (.int (1 : Int32)), .val (.ref b32), .val (.ref b36), .val (.ref b40), .val (.ref b44), .val (.ref b48), .val (.ref b52), .val (.ref t56), .val (.ref b61), .val (.ref b57)] []))
    refine W.go (fun _ hr => XS.iconst X65.here hx rfl (hb hby at_156) hr) ?_
    show W p e below _ (T65.setTop (mkF m 157 #[.val (.int p0), .val (.int p1), .val (.int p2), .val (.int p3), .val (.int p4), .val (.int (1 : Int32)), .val (.ref b32), .val (.ref b36), .val (.ref b40), .val (.ref b44), .val (.ref b48), .val (.ref b52), .val (.ref t56), .val (.ref b61), .val (.ref b57)] [(.int (1 : Int32))]))
    refine W.go (fun _ hr => XS.goto X65.here hx rfl (pc0 := 157) (pc' := 161) rfl (hb hby at_157) (by decide) (by decide) hr) ?_
    show W p e below _ (T65.setTop (mkF m 161 #[.val (.int p0), .val (.int p1), .val (.int p2), .val (.int p3), .val (.int p4), .val (.int (1 : Int32)), .val (.ref b32), .val (.ref b36), .val (.ref b40), .val (.ref b44), .val (.ref b48), .val (.ref b52), .val (.ref t56), .val (.ref b61), .val (.ref b57)] [(.int (1 : Int32))]))
    exact W.retB X65 hx hlk (t := .boolean) hret (by simp) (hb hby at_161) (by decide) (by decide) e65 ⟨rfl, N65⟩
set_option maxRecDepth 65536 in
set_option maxHeartbeats 40000000 in
theorem comes_1 {Post : Tables → Env → Array Value → State → Outcome → State → Prop} (hpost : ∀ tb e args s v u, (limb_1_1.after args s (.returned v) u = true ∧ limb_1_2.after args s (.returned v) u = true ∧ True) → FrameEnd s (.returned v) u (Jvm.fieldLocs frame_1_writes args s ++ Jvm.arrayLocs frame_1_arrays args s ++ Jvm.staticLocs frame_1_statics s) 32 128 → Post tb e args s (.returned v) u) :
    ArmFor flags0 classFile x code maxLocals ret World_1 tables_1 room_1 Calls_1 rest_1 Pre_1 Post := by
  intro l hfl _ _ p e ha hc hk s m args below hf hA hF happ hP
  obtain ⟨hcalls, hrest, hpre⟩ := hP
  obtain ⟨-, -, -, hnamed, -, -, -, hat⟩ := (Spec.applies_iff hf).mp happ
  obtain ⟨hg, hn⟩ := and_e (Cond.before_iff.mp (show (Jvm.Cond.and given_1 narrow_1).before args s = true from hpre))
  obtain ⟨c1, c2⟩ := and_e hg
  obtain ⟨c3, c4⟩ := and_e c2
  obtain ⟨c5, c6⟩ := and_e c4
  obtain ⟨c7, c8⟩ := and_e c6
  obtain ⟨c9, c10⟩ := and_e c8
  obtain ⟨c11, c12⟩ := and_e hn
  obtain ⟨c13, c14⟩ := and_e c12
  obtain ⟨c15, c16⟩ := and_e c14
  obtain ⟨c17, c18⟩ := and_e c16
  obtain ⟨w0, w1, w2, w3, w4, rfl⟩ : ∃ w0 w1 w2 w3 w4 : Value, args = #[w0, w1, w2, w3, w4] := by
    have hs : args.size = 5 := by simpa [Cond.value, given_1] using c1
    obtain ⟨L⟩ := args
    match L, hs with
    | [w0, w1, w2, w3, w4], _ => exact ⟨w0, w1, w2, w3, w4, rfl⟩
  have hw := fun d (hd : d ∈ tables_1) => atoms_spec (ws := Jvm.Cond.code x code maxLocals ret :: tables_1) hat d (List.mem_cons_of_mem _ hd)
  have hfit : Fit s := fun {y c} hc i hi => by
    obtain ⟨ha, rfl⟩ := Array.getElem?_eq_some_iff.mp hc
    have q := List.all_eq_true.mp ((Array.all_eq_true_iff_forall_mem.mp hF) _ (Array.getElem_mem ha)) i (List.mem_range.mpr hi)
    simpa [Array.getElem?_eq_getElem hi] using q
  obtain ⟨hsets, hown0⟩ := atoms_of _ (rest_1_c_eq ▸ (show rest_1_c.before _ s = true from hrest))
  have hr0 := Cond.before_iff.mp hown0
  obtain ⟨i0, ei0⟩ := is_v c3
  obtain rfl : w0 = (.int i0) := Option.some.inj ei0
  obtain ⟨i1, ei1⟩ := is_v c5
  obtain rfl : w1 = (.int i1) := Option.some.inj ei1
  obtain ⟨i2, ei2⟩ := is_v c7
  obtain rfl : w2 = (.int i2) := Option.some.inj ei2
  obtain ⟨i3, ei3⟩ := is_v c9
  obtain rfl : w3 = (.int i3) := Option.some.inj ei3
  obtain ⟨i4, ei4⟩ := is_v c10
  obtain rfl : w4 = (.int i4) := Option.some.inj ei4
  obtain ⟨w_NUMBER, ev_NUMBER⟩ := exa_v c11
  have E_NUMBER := Exa.start ev_NUMBER c11
  have S_NUMBER := Sta.start ev_NUMBER (Or.inr ⟨(hw _ (List.mem_of_getElem? (i := 36) rfl)), (hw _ (List.mem_of_getElem? (i := 37) rfl))⟩)
  obtain ⟨w_STRING, ev_STRING⟩ := exa_v c13
  have E_STRING := Exa.start ev_STRING c13
  have S_STRING := Sta.start ev_STRING (Or.inr ⟨(hw _ (List.mem_of_getElem? (i := 36) rfl)), (hw _ (List.mem_of_getElem? (i := 67) rfl))⟩)
  obtain ⟨w_BINARY, ev_BINARY⟩ := exa_v c15
  have E_BINARY := Exa.start ev_BINARY c15
  have S_BINARY := Sta.start ev_BINARY (Or.inr ⟨(hw _ (List.mem_of_getElem? (i := 36) rfl)), (hw _ (List.mem_of_getElem? (i := 81) rfl))⟩)
  obtain ⟨w_DATETIME, ev_DATETIME⟩ := exa_v c17
  have E_DATETIME := Exa.start ev_DATETIME c17
  have S_DATETIME := Sta.start ev_DATETIME (Or.inr ⟨(hw _ (List.mem_of_getElem? (i := 36) rfl)), (hw _ (List.mem_of_getElem? (i := 83) rfl))⟩)
  obtain ⟨w_BOOLEAN, ev_BOOLEAN⟩ := exa_v c18
  have E_BOOLEAN := Exa.start ev_BOOLEAN c18
  have S_BOOLEAN := Sta.start ev_BOOLEAN (Or.inr ⟨(hw _ (List.mem_of_getElem? (i := 36) rfl)), (hw _ (List.mem_of_getElem? (i := 85) rfl))⟩)
  obtain ⟨zCS, ez⟩ := is_v (Cond.before_iff.mp (hsets _ (List.mem_of_getElem? (i := 1) rfl)))
  have S_COMPACT_STRINGS : Sta s s.heap "java/lang/String" "COMPACT_STRINGS" "Z" (.int zCS) := Sta.start ez (Or.inl (hsets _ (List.mem_of_getElem? (i := 0) rfl)))
  have hCS : ¬ zCS = 0 := by
    have n3 := not_v (Cond.before_iff.mp (hsets _ (List.mem_of_getElem? (i := 2) rfl)))
    intro q
    subst q
    have r := eq_i ez (Term.int_eval (0 : Int32)) rfl
    rw [r] at n3
    cases n3
  obtain ⟨n, o, h1, h2, h3, _, L, rfl, ⟨rfl, N⟩, hq⟩ := rm0 l s _ hw i0 i1 i2 i3 i4 w_STRING w_NUMBER w_BOOLEAN w_DATETIME w_BINARY zCS s.heap s.heap.size (Nat.le_refl _) S_STRING S_NUMBER S_BOOLEAN S_DATETIME S_BINARY S_COMPACT_STRINGS hCS tables_1 p e ha hc hk s m _ below hf ((Spec.applies_iff_loose hf).mp happ).1 ⟨rfl, State.Warmed39.refl s, rfl⟩ trivial
  refine ⟨n, _, h1, h2, h3, hpost _ _ _ _ _ _ ⟨Cond.after_iff.mpr rfl, Cond.after_iff.mpr (eq_i res_at (Term.int_eval (1)) rfl), trivial⟩ ⟨hq.1, hq.2.1, (hq.2.2.sift fun y hy => Or.inr (N y hy)).mono (by decide) (by decide)⟩⟩
theorem main_1_1 : Claimed_1_1 := comes_1 fun _ _ _ _ _ _ h hF => ⟨h.1, hF⟩
theorem main_1_2 : Claimed_1_2 := comes_1 fun _ _ _ _ _ _ h hF => ⟨h.2.1, hF⟩
end Jvm.Pilot.@@N@@
namespace Jvm.Pilot.@@N@@
open Jvm Jvm.ClassFile Sem Op Lib Jvm.Free Jvm.Stand Jvm.Pilot.@@N@@.Jvm.D
/-! MADE BY PROGRAM (witnessworld.py) out of the Statement's table words and the real class files: 24 classes; the members and pool entries that the words name. The judged class is class 1, her method 2. -/
namespace start1
open Jvm.ClassFile
def u (s : String) : CpInfo := .utf8 (stringToUtf16 s)
/-- a pool by its gaps: so many unusable entries, then the entry; so many at the end -/
def gap : Nat → List CpInfo → List CpInfo
  | 0, r => r
  | n + 1, r => .unusable :: gap n r
def poolList (es : List (Nat × CpInfo)) (last : Nat) : List CpInfo := es.foldr (fun e r => gap e.1 (e.2 :: r)) (gap last [])
def pool (es : List (Nat × CpInfo)) (last : Nat) : Array CpInfo := ⟨poolList es last⟩
def fileOf (pool : Array CpInfo) (this : Nat) (attrs : Array Attribute := #[]) (ms : Array MethodInfo := #[]) (fl : Nat := 33) (sup : Nat := 0) (ifs : Array Nat := #[]) (fds : Array FieldInfo := #[]) : ClassFile where
  minorVersion := 0
  majorVersion := 65
  constantPool := pool
  accessFlags := fl
  thisClass := this
  superClass := sup
  interfaces := ifs
  fields := fds
  methods := ms
  attributes := attrs
def plain (name : String) (sup : Option ClassId) : Class where
  name := name
  kind := .ordinary
  loader := none
  accessFlags := 33
  super := sup
  interfaces := #[]
  cf := none
  fields := #[]
  methods := #[]
  instanceTypes := #[]
  staticTypes := #[]
  resolved := #[]
  callSites := []
  init := .initialized
  statics := none
  mirror := none

def pool0 : Array CpInfo := pool [(5, u "<init>"), (0, u "()V"), (1, .class_ 10), (1, u "java/lang/Object")] 113

def k0c0 : Code := { maxStack := 0, maxLocals := 1, code := object_method_1_code, exceptionTable := #[], attributes := #[] }
def k0m0 : Method := { name := "<init>", desc := "()V", sig := { parameters := [], returnType := none }, accessFlags := 1, code := some k0c0 }
/-- java/lang/Object -/
def k0 : Class := { plain "java/lang/Object" none with
  accessFlags := 33
  interfaces := #[]
  cf := some (fileOf pool0 8 #[] #[{ accessFlags := 1, nameIndex := 5, descriptorIndex := 6, attributes := #[] }] 33 0 #[] #[])
  fields := #[]
  methods := #[k0m0]
  instanceTypes := #[]
  staticTypes := #[]
  resolved := Array.replicate 124 none
  statics := none }

def pool1 : Array CpInfo := pool [(2, .class_ 4), (1, u "java/lang/Object"), (0, u "<init>"), (0, u "()V"), (0, .integer 2147483647), (0, .fieldref 9 10), (0, .class_ 11), (0, .nameAndType 12 13), (0, u "com/example/facetree/facetree/model/AttributeType"), (0, u "STRING"), (0, u "Lcom/example/facetree/facetree/model/AttributeType;"), (0, .fieldref 9 15), (0, .nameAndType 16 13), (0, u "NUMBER"), (0, .fieldref 9 18), (0, .nameAndType 19 13), (0, u "BOOLEAN"), (0, .fieldref 9 21), (0, .nameAndType 22 13), (0, u "DATETIME"), (0, .fieldref 9 24), (0, .nameAndType 25 13), (0, u "BINARY"), (0, .class_ 27), (0, u "java/lang/String"), (0, .methodref 26 29), (0, .nameAndType 5 30), (0, u "([C)V"), (0, .methodref 32 33), (0, .class_ 34), (0, .nameAndType 35 36), (0, u "com/example/facetree/facetree/model/AttributeDefinitionIsReferencePinLaw"), (0, u "pickType"), (0, u "(I)Lcom/example/facetree/facetree/model/AttributeType;"), (0, .class_ 38), (0, u "com/example/facetree/facetree/model/AttributeKey"), (0, .methodref 37 40), (0, .nameAndType 5 41), (0, u "(Ljava/lang/String;Ljava/lang/String;)V"), (0, .class_ 43), (0, u "com/example/facetree/facetree/model/AttributeDefinition"), (0, .methodref 42 45), (0, .nameAndType 5 46), (0, u "(Ljava/lang/String;Lcom/example/facetree/facetree/model/AttributeType;Lcom/example/facetree/facetree/model/RequiredBehavior;Lcom/example/facetree/facetree/model/AttributeKey;)V"), (0, .methodref 42 48), (0, .nameAndType 5 49), (0, u "(Ljava/lang/String;Lcom/example/facetree/facetree/model/AttributeType;Lcom/example/facetree/facetree/model/RequiredBehavior;)V"), (0, .methodref 42 51), (0, .nameAndType 52 53), (0, u "isReference"), (0, u "()Z"), (3, u "law"), (0, u "(IIIII)Z")] 4

def k1m0 : Method := { name := "<init>", desc := "()V", sig := { parameters := [], returnType := none }, accessFlags := 1, code := none }
def k1c1 : Code := { maxStack := 2, maxLocals := 2, code := method_2_code, exceptionTable := #[], attributes := #[] }
def k1m1 : Method := { name := "pickType", desc := "(I)Lcom/example/facetree/facetree/model/AttributeType;", sig := { parameters := [.int], returnType := some (.object "com/example/facetree/facetree/model/AttributeType") }, accessFlags := 10, code := some k1c1 }
def k1c2 : Code := { maxStack := 6, maxLocals := 15, code := code, exceptionTable := #[], attributes := #[] }
def k1m2 : Method := { name := "law", desc := "(IIIII)Z", sig := { parameters := [.int, .int, .int, .int, .int], returnType := some .boolean }, accessFlags := 9, code := some k1c2 }
/-- com/example/facetree/facetree/model/AttributeDefinitionIsReferencePinLaw -/
def k1 : Class := { plain "com/example/facetree/facetree/model/AttributeDefinitionIsReferencePinLaw" (some 0) with
  accessFlags := 49
  interfaces := #[]
  cf := some (fileOf pool1 32 #[] #[{ accessFlags := 1, nameIndex := 5, descriptorIndex := 6, attributes := #[] }, { accessFlags := 10, nameIndex := 35, descriptorIndex := 36, attributes := #[] }, { accessFlags := 9, nameIndex := 57, descriptorIndex := 58, attributes := #[] }] 49 2 #[] #[])
  fields := #[]
  methods := #[k1m0, k1m1, k1m2]
  instanceTypes := #[]
  staticTypes := #[]
  resolved := Array.replicate 63 none
  statics := none }

def pool2 : Array CpInfo := pool [(1, .class_ 2), (0, u "java/io/Serializable"), (0, .class_ 4), (0, u "java/lang/Object")] 2

/-- java/io/Serializable -/
def k2 : Class := { plain "java/io/Serializable" (some 0) with
  accessFlags := 1537
  interfaces := #[]
  cf := some (fileOf pool2 1 #[] #[] 1537 3 #[] #[])
  fields := #[]
  methods := #[]
  instanceTypes := #[]
  staticTypes := #[]
  resolved := Array.replicate 7 none
  statics := none }

def pool3 : Array CpInfo := pool [(1, .class_ 2), (0, u "java/lang/Comparable"), (0, .class_ 4), (0, u "java/lang/Object")] 7

/-- java/lang/Comparable -/
def k3 : Class := { plain "java/lang/Comparable" (some 0) with
  accessFlags := 1537
  interfaces := #[]
  cf := some (fileOf pool3 1 #[] #[] 1537 3 #[] #[])
  fields := #[]
  methods := #[]
  instanceTypes := #[]
  staticTypes := #[]
  resolved := Array.replicate 12 none
  statics := none }

def pool4 : Array CpInfo := pool [(2, .class_ 4), (1, u "java/lang/CharSequence"), (42, .class_ 48), (0, u "java/lang/CharSequence$1CodePointIterator"), (10, .class_ 60), (0, u "java/lang/CharSequence$1CharIterator"), (5, .class_ 67), (0, u "java/lang/Object")] 63

/-- java/lang/CharSequence -/
def k4 : Class := { plain "java/lang/CharSequence" (some 0) with
  accessFlags := 1537
  interfaces := #[]
  cf := some (fileOf pool4 2 #[.nestMembers #[47, 59]] #[] 1537 66 #[] #[])
  fields := #[]
  methods := #[]
  instanceTypes := #[]
  staticTypes := #[]
  resolved := Array.replicate 131 none
  statics := none }

def pool5 : Array CpInfo := pool [(1, .class_ 2), (0, u "java/lang/constant/Constable"), (0, .class_ 4), (0, u "java/lang/Object")] 6

/-- java/lang/constant/Constable -/
def k5 : Class := { plain "java/lang/constant/Constable" (some 0) with
  accessFlags := 1537
  interfaces := #[]
  cf := some (fileOf pool5 1 #[] #[] 1537 3 #[] #[])
  fields := #[]
  methods := #[]
  instanceTypes := #[]
  staticTypes := #[]
  resolved := Array.replicate 11 none
  statics := none }

def pool6 : Array CpInfo := pool [(1, .class_ 2), (0, u "java/lang/constant/ConstantDesc"), (0, .class_ 4), (0, u "java/lang/Object")] 32

/-- java/lang/constant/ConstantDesc -/
def k6 : Class := { plain "java/lang/constant/ConstantDesc" (some 0) with
  accessFlags := 1537
  interfaces := #[]
  cf := some (fileOf pool6 1 #[] #[] 1537 3 #[] #[])
  fields := #[]
  methods := #[]
  instanceTypes := #[]
  staticTypes := #[]
  resolved := Array.replicate 37 none
  statics := none }

def pool7 : Array CpInfo := pool [(1, .methodref 2 3), (0, .class_ 4), (0, .nameAndType 5 6), (0, u "java/lang/Object"), (0, u "<init>"), (0, u "()V"), (2, .fieldref 10 11), (0, .class_ 12), (0, .nameAndType 13 14), (0, u "java/lang/String"), (0, u "value"), (0, u "[B"), (0, .fieldref 10 16), (0, .nameAndType 17 18), (0, u "coder"), (0, u "B"), (2, u "hash"), (0, u "I"), (2, u "hashIsZero"), (0, u "Z"), (0, .methodref 10 28), (0, .nameAndType 5 29), (0, u "([CIILjava/lang/Void;)V"), (8, .fieldref 10 39), (0, .nameAndType 40 26), (0, u "COMPACT_STRINGS"), (1, .class_ 44), (1, u "java/lang/StringUTF16"), (0, u "compress"), (1, .methodref 42 48), (0, .nameAndType 49 50), (0, u "coderFromArrayLen"), (0, u "([BI)B"), (126, .methodref 42 178), (0, .nameAndType 45 179), (0, u "([CII)[B"), (395, .class_ 576), (0, u "java/lang/CharSequence"), (22, u "CASE_INSENSITIVE_ORDER"), (0, u "Ljava/util/Comparator;"), (409, u "([C)V"), (90, u "serialPersistentFields"), (0, u "[Ljava/io/ObjectStreamField;"), (0, .class_ 1104), (0, u "java/lang/String$CaseInsensitiveComparator"), (1, .class_ 1107), (0, u "java/io/Serializable"), (0, .class_ 1109), (0, u "java/lang/Comparable"), (0, .class_ 1111), (0, u "java/lang/constant/Constable"), (0, .class_ 1113), (0, u "java/lang/constant/ConstantDesc"), (2, u "serialVersionUID"), (0, u "J"), (3, u "REPL"), (0, u "C"), (2, u "LATIN1"), (1, u "UTF16")] 323

def k7m0 : Method := { name := "<init>", desc := "()V", sig := { parameters := [], returnType := none }, accessFlags := 1, code := none }
def k7c1 : Code := { maxStack := 5, maxLocals := 2, code := jdk_42_method_3_code, exceptionTable := #[], attributes := #[] }
def k7m1 : Method := { name := "<init>", desc := "([C)V", sig := { parameters := [(.array .char)], returnType := none }, accessFlags := 1, code := some k7c1 }
def k7c2 : Code := { maxStack := 4, maxLocals := 6, code := jdk_42_method_149_code, exceptionTable := #[], attributes := #[] }
def k7m2 : Method := { name := "<init>", desc := "([CIILjava/lang/Void;)V", sig := { parameters := [(.array .char), .int, .int, (.object "java/lang/Void")], returnType := none }, accessFlags := 2, code := some k7c2 }
/-- java/lang/String -/
def k7 : Class := { plain "java/lang/String" (some 0) with
  accessFlags := 49
  interfaces := #[2, 3, 4, 5, 6]
  cf := some (fileOf pool7 10 #[.nestMembers #[1103]] #[{ accessFlags := 1, nameIndex := 5, descriptorIndex := 6, attributes := #[] }, { accessFlags := 1, nameIndex := 5, descriptorIndex := 1010, attributes := #[] }, { accessFlags := 2, nameIndex := 5, descriptorIndex := 29, attributes := #[] }] 49 2 #[1106, 1108, 575, 1110, 1112] #[{ accessFlags := 18, nameIndex := 13, descriptorIndex := 14, attributes := #[] }, { accessFlags := 18, nameIndex := 17, descriptorIndex := 18, attributes := #[] }, { accessFlags := 2, nameIndex := 21, descriptorIndex := 22, attributes := #[] }, { accessFlags := 2, nameIndex := 25, descriptorIndex := 26, attributes := #[] }, { accessFlags := 26, nameIndex := 1116, descriptorIndex := 1117, attributes := #[] }, { accessFlags := 24, nameIndex := 40, descriptorIndex := 26, attributes := #[] }, { accessFlags := 26, nameIndex := 1101, descriptorIndex := 1102, attributes := #[] }, { accessFlags := 26, nameIndex := 1121, descriptorIndex := 1122, attributes := #[] }, { accessFlags := 25, nameIndex := 599, descriptorIndex := 600, attributes := #[] }, { accessFlags := 24, nameIndex := 1125, descriptorIndex := 18, attributes := #[] }, { accessFlags := 24, nameIndex := 1127, descriptorIndex := 18, attributes := #[] }])
  fields := #[{ name := "value", type := (.array .byte), accessFlags := 18, slot := 0, constantValue := 0 }, { name := "coder", type := .byte, accessFlags := 18, slot := 1, constantValue := 0 }, { name := "hash", type := .int, accessFlags := 2, slot := 2, constantValue := 0 }, { name := "hashIsZero", type := .boolean, accessFlags := 2, slot := 3, constantValue := 0 }, { name := "serialVersionUID", type := .long, accessFlags := 26, slot := 0, constantValue := 0 }, { name := "COMPACT_STRINGS", type := .boolean, accessFlags := 24, slot := 1, constantValue := 0 }, { name := "serialPersistentFields", type := (.array (.object "java/io/ObjectStreamField")), accessFlags := 26, slot := 2, constantValue := 0 }, { name := "REPL", type := .char, accessFlags := 26, slot := 3, constantValue := 0 }, { name := "CASE_INSENSITIVE_ORDER", type := (.object "java/util/Comparator"), accessFlags := 25, slot := 4, constantValue := 0 }, { name := "LATIN1", type := .byte, accessFlags := 24, slot := 5, constantValue := 0 }, { name := "UTF16", type := .byte, accessFlags := 24, slot := 6, constantValue := 0 }]
  methods := #[k7m0, k7m1, k7m2]
  instanceTypes := #[(.array .byte), .byte, .int, .boolean]
  staticTypes := #[.long, .boolean, (.array (.object "java/io/ObjectStreamField")), .char, (.object "java/util/Comparator"), .byte, .byte]
  resolved := Array.replicate 1451 none
  statics := some 0 }

def pool8 : Array CpInfo := pool [(6, .class_ 8), (1, u "java/lang/Object"), (0, u "<init>"), (0, u "()V"), (1, .class_ 14), (1, u "java/lang/StringUTF16"), (31, u "$assertionsDisabled"), (0, u "Z"), (13, u "HI_BYTE_SHIFT"), (0, u "I"), (2, u "LO_BYTE_SHIFT"), (49, .methodref 12 116), (0, .nameAndType 117 118), (0, u "compress"), (0, u "([CI[BII)I"), (3, u "([CII)[B"), (138, u "coderFromArrayLen"), (0, u "([BI)B"), (106, .class_ 371), (1, u "java/lang/StringUTF16$LinesSpliterator"), (58, u "MAX_LENGTH"), (196, .class_ 628), (0, u "java/lang/StringUTF16$CodePointsSpliterator"), (0, .class_ 630), (0, u "java/lang/StringUTF16$CharsSpliterator")] 4

def k8m0 : Method := { name := "<init>", desc := "()V", sig := { parameters := [], returnType := none }, accessFlags := 0, code := none }
def k8c1 : Code := { maxStack := 2, maxLocals := 2, code := jdk_52_method_15_code, exceptionTable := #[], attributes := #[] }
def k8m1 : Method := { name := "coderFromArrayLen", desc := "([BI)B", sig := { parameters := [(.array .byte), .int], returnType := some .byte }, accessFlags := 8, code := some k8c1 }
def k8c2 : Code := { maxStack := 5, maxLocals := 6, code := jdk_52_method_16_code, exceptionTable := #[], attributes := #[] }
def k8m2 : Method := { name := "compress", desc := "([CII)[B", sig := { parameters := [(.array .char), .int, .int], returnType := some (.array .byte) }, accessFlags := 9, code := some k8c2 }
def k8c3 : Code := { maxStack := 3, maxLocals := 7, code := jdk_52_method_21_code, exceptionTable := #[], attributes := #[] }
def k8m3 : Method := { name := "compress", desc := "([CI[BII)I", sig := { parameters := [(.array .char), .int, (.array .byte), .int, .int], returnType := some .int }, accessFlags := 9, code := some k8c3 }
/-- java/lang/StringUTF16 -/
def k8 : Class := { plain "java/lang/StringUTF16" (some 0) with
  accessFlags := 48
  interfaces := #[]
  cf := some (fileOf pool8 12 #[.nestMembers #[627, 629, 369]] #[{ accessFlags := 0, nameIndex := 9, descriptorIndex := 10, attributes := #[] }, { accessFlags := 8, nameIndex := 261, descriptorIndex := 262, attributes := #[] }, { accessFlags := 9, nameIndex := 117, descriptorIndex := 122, attributes := #[] }, { accessFlags := 9, nameIndex := 117, descriptorIndex := 118, attributes := #[] }] 48 6 #[] #[{ accessFlags := 26, nameIndex := 61, descriptorIndex := 62, attributes := #[] }, { accessFlags := 26, nameIndex := 65, descriptorIndex := 62, attributes := #[] }, { accessFlags := 24, nameIndex := 430, descriptorIndex := 62, attributes := #[] }, { accessFlags := 4120, nameIndex := 46, descriptorIndex := 47, attributes := #[] }])
  fields := #[{ name := "HI_BYTE_SHIFT", type := .int, accessFlags := 26, slot := 0, constantValue := 0 }, { name := "LO_BYTE_SHIFT", type := .int, accessFlags := 26, slot := 1, constantValue := 0 }, { name := "MAX_LENGTH", type := .int, accessFlags := 24, slot := 2, constantValue := 0 }, { name := "$assertionsDisabled", type := .boolean, accessFlags := 4120, slot := 3, constantValue := 0 }]
  methods := #[k8m0, k8m1, k8m2, k8m3]
  instanceTypes := #[]
  staticTypes := #[.int, .int, .int, .boolean]
  resolved := Array.replicate 635 none
  statics := none }

def pool9 : Array CpInfo := pool [(2, .class_ 4), (1, u "java/lang/Enum"), (0, u "name"), (0, u "Ljava/lang/String;"), (2, u "ordinal"), (0, u "I"), (1, .class_ 14), (1, u "java/lang/Object"), (4, u "hash"), (86, .class_ 108), (1, u "java/lang/Enum$EnumDesc"), (2, .class_ 112), (0, u "java/lang/constant/Constable"), (0, .class_ 114), (0, u "java/lang/Comparable"), (0, .class_ 116), (0, u "java/io/Serializable")] 87

/-- java/lang/Enum -/
def k9 : Class := { plain "java/lang/Enum" (some 0) with
  accessFlags := 1057
  interfaces := #[5, 3, 2]
  cf := some (fileOf pool9 2 #[.nestMembers #[106]] #[] 1057 12 #[111, 113, 115] #[{ accessFlags := 18, nameIndex := 5, descriptorIndex := 6, attributes := #[] }, { accessFlags := 18, nameIndex := 9, descriptorIndex := 10, attributes := #[] }, { accessFlags := 2, nameIndex := 19, descriptorIndex := 10, attributes := #[] }])
  fields := #[{ name := "name", type := (.object "java/lang/String"), accessFlags := 18, slot := 0, constantValue := 0 }, { name := "ordinal", type := .int, accessFlags := 18, slot := 1, constantValue := 0 }, { name := "hash", type := .int, accessFlags := 2, slot := 2, constantValue := 0 }]
  methods := #[]
  instanceTypes := #[(.object "java/lang/String"), .int, .int]
  staticTypes := #[]
  resolved := Array.replicate 204 none
  statics := none }

def pool10 : Array CpInfo := pool [(1, .class_ 2), (0, u "com/example/facetree/facetree/model/AttributeType"), (2, u "STRING"), (0, u "Lcom/example/facetree/facetree/model/AttributeType;"), (2, u "NUMBER"), (2, u "BOOLEAN"), (2, u "DATETIME"), (2, u "BINARY"), (2, u "$VALUES"), (0, u "[Lcom/example/facetree/facetree/model/AttributeType;"), (6, .class_ 31), (1, u "java/lang/Enum"), (8, u "valueMember"), (0, u "Ljava/lang/String;")] 35

/-- com/example/facetree/facetree/model/AttributeType -/
def k10 : Class := { plain "com/example/facetree/facetree/model/AttributeType" (some 9) with
  accessFlags := 16433
  interfaces := #[]
  cf := some (fileOf pool10 1 #[] #[] 16433 29 #[] #[{ accessFlags := 16409, nameIndex := 5, descriptorIndex := 6, attributes := #[] }, { accessFlags := 16409, nameIndex := 9, descriptorIndex := 6, attributes := #[] }, { accessFlags := 16409, nameIndex := 12, descriptorIndex := 6, attributes := #[] }, { accessFlags := 16409, nameIndex := 15, descriptorIndex := 6, attributes := #[] }, { accessFlags := 16409, nameIndex := 18, descriptorIndex := 6, attributes := #[] }, { accessFlags := 18, nameIndex := 40, descriptorIndex := 41, attributes := #[] }, { accessFlags := 4122, nameIndex := 21, descriptorIndex := 22, attributes := #[] }])
  fields := #[{ name := "STRING", type := (.object "com/example/facetree/facetree/model/AttributeType"), accessFlags := 16409, slot := 0, constantValue := 0 }, { name := "NUMBER", type := (.object "com/example/facetree/facetree/model/AttributeType"), accessFlags := 16409, slot := 1, constantValue := 0 }, { name := "BOOLEAN", type := (.object "com/example/facetree/facetree/model/AttributeType"), accessFlags := 16409, slot := 2, constantValue := 0 }, { name := "DATETIME", type := (.object "com/example/facetree/facetree/model/AttributeType"), accessFlags := 16409, slot := 3, constantValue := 0 }, { name := "BINARY", type := (.object "com/example/facetree/facetree/model/AttributeType"), accessFlags := 16409, slot := 4, constantValue := 0 }, { name := "valueMember", type := (.object "java/lang/String"), accessFlags := 18, slot := 3, constantValue := 0 }, { name := "$VALUES", type := (.array (.object "com/example/facetree/facetree/model/AttributeType")), accessFlags := 4122, slot := 5, constantValue := 0 }]
  methods := #[]
  instanceTypes := #[(.object "java/lang/String"), .int, .int, (.object "java/lang/String")]
  staticTypes := #[(.object "com/example/facetree/facetree/model/AttributeType"), (.object "com/example/facetree/facetree/model/AttributeType"), (.object "com/example/facetree/facetree/model/AttributeType"), (.object "com/example/facetree/facetree/model/AttributeType"), (.object "com/example/facetree/facetree/model/AttributeType"), (.array (.object "com/example/facetree/facetree/model/AttributeType"))]
  resolved := Array.replicate 77 none
  statics := some 1 }

def pool11 : Array CpInfo := pool [(1, .methodref 2 3), (0, .class_ 4), (0, .nameAndType 5 6), (0, u "java/lang/Object"), (0, u "<init>"), (0, u "()V"), (0, .class_ 8), (0, u "java/lang/Record")] 13

def k11c0 : Code := { maxStack := 1, maxLocals := 1, code := jdk_30_method_1_code, exceptionTable := #[], attributes := #[] }
def k11m0 : Method := { name := "<init>", desc := "()V", sig := { parameters := [], returnType := none }, accessFlags := 4, code := some k11c0 }
/-- java/lang/Record -/
def k11 : Class := { plain "java/lang/Record" (some 0) with
  accessFlags := 1057
  interfaces := #[]
  cf := some (fileOf pool11 7 #[] #[{ accessFlags := 4, nameIndex := 5, descriptorIndex := 6, attributes := #[] }] 1057 2 #[] #[])
  fields := #[]
  methods := #[k11m0]
  instanceTypes := #[]
  staticTypes := #[]
  resolved := Array.replicate 22 none
  statics := none }

def pool12 : Array CpInfo := pool [(1, .methodref 2 3), (0, .class_ 4), (0, .nameAndType 5 6), (0, u "java/lang/Record"), (0, u "<init>"), (0, u "()V"), (0, .fieldref 8 9), (0, .class_ 10), (0, .nameAndType 11 12), (0, u "com/example/facetree/facetree/model/AttributeDefinition"), (0, u "name"), (0, u "Ljava/lang/String;"), (0, .fieldref 8 14), (0, .nameAndType 15 16), (0, u "type"), (0, u "Lcom/example/facetree/facetree/model/AttributeType;"), (0, .fieldref 8 18), (0, .nameAndType 19 20), (0, u "requiredBehavior"), (0, u "Lcom/example/facetree/facetree/model/RequiredBehavior;"), (0, .fieldref 8 22), (0, .nameAndType 23 24), (0, u "target"), (0, u "Lcom/example/facetree/facetree/model/AttributeKey;"), (0, .methodref 8 26), (0, .nameAndType 5 27), (0, u "(Ljava/lang/String;Lcom/example/facetree/facetree/model/AttributeType;Lcom/example/facetree/facetree/model/RequiredBehavior;Lcom/example/facetree/facetree/model/AttributeKey;)V"), (44, u "(Ljava/lang/String;Lcom/example/facetree/facetree/model/AttributeType;Lcom/example/facetree/facetree/model/RequiredBehavior;)V"), (3, u "isReference"), (0, u "()Z")] 38

def k12c0 : Code := { maxStack := 5, maxLocals := 4, code := prog_2_method_1_code, exceptionTable := #[], attributes := #[] }
def k12m0 : Method := { name := "<init>", desc := "(Ljava/lang/String;Lcom/example/facetree/facetree/model/AttributeType;Lcom/example/facetree/facetree/model/RequiredBehavior;)V", sig := { parameters := [(.object "java/lang/String"), (.object "com/example/facetree/facetree/model/AttributeType"), (.object "com/example/facetree/facetree/model/RequiredBehavior")], returnType := none }, accessFlags := 1, code := some k12c0 }
def k12c1 : Code := { maxStack := 2, maxLocals := 5, code := prog_2_method_2_code, exceptionTable := #[], attributes := #[] }
def k12m1 : Method := { name := "<init>", desc := "(Ljava/lang/String;Lcom/example/facetree/facetree/model/AttributeType;Lcom/example/facetree/facetree/model/RequiredBehavior;Lcom/example/facetree/facetree/model/AttributeKey;)V", sig := { parameters := [(.object "java/lang/String"), (.object "com/example/facetree/facetree/model/AttributeType"), (.object "com/example/facetree/facetree/model/RequiredBehavior"), (.object "com/example/facetree/facetree/model/AttributeKey")], returnType := none }, accessFlags := 1, code := some k12c1 }
def k12c2 : Code := { maxStack := 1, maxLocals := 1, code := prog_2_method_3_code, exceptionTable := #[], attributes := #[] }
def k12m2 : Method := { name := "isReference", desc := "()Z", sig := { parameters := [], returnType := some .boolean }, accessFlags := 1, code := some k12c2 }
/-- com/example/facetree/facetree/model/AttributeDefinition -/
def k12 : Class := { plain "com/example/facetree/facetree/model/AttributeDefinition" (some 11) with
  accessFlags := 49
  interfaces := #[]
  cf := some (fileOf pool12 8 #[] #[{ accessFlags := 1, nameIndex := 5, descriptorIndex := 72, attributes := #[] }, { accessFlags := 1, nameIndex := 5, descriptorIndex := 27, attributes := #[] }, { accessFlags := 1, nameIndex := 76, descriptorIndex := 77, attributes := #[] }] 49 2 #[] #[{ accessFlags := 18, nameIndex := 11, descriptorIndex := 12, attributes := #[] }, { accessFlags := 18, nameIndex := 15, descriptorIndex := 16, attributes := #[] }, { accessFlags := 18, nameIndex := 19, descriptorIndex := 20, attributes := #[] }, { accessFlags := 18, nameIndex := 23, descriptorIndex := 24, attributes := #[] }])
  fields := #[{ name := "name", type := (.object "java/lang/String"), accessFlags := 18, slot := 0, constantValue := 0 }, { name := "type", type := (.object "com/example/facetree/facetree/model/AttributeType"), accessFlags := 18, slot := 1, constantValue := 0 }, { name := "requiredBehavior", type := (.object "com/example/facetree/facetree/model/RequiredBehavior"), accessFlags := 18, slot := 2, constantValue := 0 }, { name := "target", type := (.object "com/example/facetree/facetree/model/AttributeKey"), accessFlags := 18, slot := 3, constantValue := 0 }]
  methods := #[k12m0, k12m1, k12m2]
  instanceTypes := #[(.object "java/lang/String"), (.object "com/example/facetree/facetree/model/AttributeType"), (.object "com/example/facetree/facetree/model/RequiredBehavior"), (.object "com/example/facetree/facetree/model/AttributeKey")]
  staticTypes := #[]
  resolved := Array.replicate 116 none
  statics := none }

def pool13 : Array CpInfo := pool [(1, .methodref 2 3), (0, .class_ 4), (0, .nameAndType 5 6), (0, u "java/lang/Record"), (0, u "<init>"), (0, u "()V"), (0, .fieldref 8 9), (0, .class_ 10), (0, .nameAndType 11 12), (0, u "com/example/facetree/facetree/model/AttributeKey"), (0, u "facet"), (0, u "Ljava/lang/String;"), (0, .fieldref 8 14), (0, .nameAndType 15 12), (0, u "name"), (23, u "Ljava/util/Comparator;"), (12, u "ORDER"), (2, u "(Ljava/lang/String;Ljava/lang/String;)V")] 42

def k13c0 : Code := { maxStack := 2, maxLocals := 3, code := prog_4_method_1_code, exceptionTable := #[], attributes := #[] }
def k13m0 : Method := { name := "<init>", desc := "(Ljava/lang/String;Ljava/lang/String;)V", sig := { parameters := [(.object "java/lang/String"), (.object "java/lang/String")], returnType := none }, accessFlags := 1, code := some k13c0 }
/-- com/example/facetree/facetree/model/AttributeKey -/
def k13 : Class := { plain "com/example/facetree/facetree/model/AttributeKey" (some 11) with
  accessFlags := 49
  interfaces := #[]
  cf := some (fileOf pool13 8 #[] #[{ accessFlags := 1, nameIndex := 5, descriptorIndex := 55, attributes := #[] }] 49 2 #[] #[{ accessFlags := 18, nameIndex := 11, descriptorIndex := 12, attributes := #[] }, { accessFlags := 18, nameIndex := 15, descriptorIndex := 12, attributes := #[] }, { accessFlags := 25, nameIndex := 52, descriptorIndex := 39, attributes := #[] }])
  fields := #[{ name := "facet", type := (.object "java/lang/String"), accessFlags := 18, slot := 0, constantValue := 0 }, { name := "name", type := (.object "java/lang/String"), accessFlags := 18, slot := 1, constantValue := 0 }, { name := "ORDER", type := (.object "java/util/Comparator"), accessFlags := 25, slot := 0, constantValue := 0 }]
  methods := #[k13m0]
  instanceTypes := #[(.object "java/lang/String"), (.object "java/lang/String")]
  staticTypes := #[(.object "java/util/Comparator")]
  resolved := Array.replicate 98 none
  statics := none }

def pool14 : Array CpInfo := pool [(4, .class_ 6), (1, u "java/lang/Object"), (0, u "<init>"), (0, u "()V"), (5, .class_ 16), (1, u "java/lang/StringLatin1"), (104, u "$assertionsDisabled"), (0, u "Z"), (98, .class_ 223), (1, u "java/lang/StringLatin1$LinesSpliterator"), (166, .class_ 391), (0, u "java/lang/StringLatin1$CharsSpliterator")] 3

def k14m0 : Method := { name := "<init>", desc := "()V", sig := { parameters := [], returnType := none }, accessFlags := 0, code := none }
/-- java/lang/StringLatin1 -/
def k14 : Class := { plain "java/lang/StringLatin1" (some 0) with
  accessFlags := 48
  interfaces := #[]
  cf := some (fileOf pool14 14 #[.nestMembers #[390, 221]] #[{ accessFlags := 0, nameIndex := 7, descriptorIndex := 8, attributes := #[] }] 48 4 #[] #[{ accessFlags := 4120, nameIndex := 121, descriptorIndex := 122, attributes := #[] }])
  fields := #[{ name := "$assertionsDisabled", type := .boolean, accessFlags := 4120, slot := 0, constantValue := 0 }]
  methods := #[k14m0]
  instanceTypes := #[]
  staticTypes := #[.boolean]
  resolved := Array.replicate 395 none
  statics := none }

def pool15 : Array CpInfo := pool [(2, .class_ 4), (1, u "java/lang/Object"), (0, u "<init>"), (0, u "()V"), (17, .class_ 26), (1, u "jdk/internal/util/Preconditions"), (28, .class_ 56), (0, u "jdk/internal/util/Preconditions$4"), (57, .class_ 115), (0, u "jdk/internal/util/Preconditions$1"), (7, u "SIOOBE_FORMATTER"), (0, u "Ljava/util/function/BiFunction;"), (0, .class_ 126), (0, u "jdk/internal/util/Preconditions$2"), (3, u "AIOOBE_FORMATTER"), (0, .class_ 132), (0, u "jdk/internal/util/Preconditions$3"), (3, u "IOOBE_FORMATTER")] 57

def k15m0 : Method := { name := "<init>", desc := "()V", sig := { parameters := [], returnType := none }, accessFlags := 1, code := none }
/-- jdk/internal/util/Preconditions -/
def k15 : Class := { plain "jdk/internal/util/Preconditions" (some 0) with
  accessFlags := 33
  interfaces := #[]
  cf := some (fileOf pool15 24 #[.nestMembers #[55, 131, 125, 114]] #[{ accessFlags := 1, nameIndex := 5, descriptorIndex := 6, attributes := #[] }] 33 2 #[] #[{ accessFlags := 25, nameIndex := 123, descriptorIndex := 124, attributes := #[] }, { accessFlags := 25, nameIndex := 130, descriptorIndex := 124, attributes := #[] }, { accessFlags := 25, nameIndex := 136, descriptorIndex := 124, attributes := #[] }])
  fields := #[{ name := "SIOOBE_FORMATTER", type := (.object "java/util/function/BiFunction"), accessFlags := 25, slot := 0, constantValue := 0 }, { name := "AIOOBE_FORMATTER", type := (.object "java/util/function/BiFunction"), accessFlags := 25, slot := 1, constantValue := 0 }, { name := "IOOBE_FORMATTER", type := (.object "java/util/function/BiFunction"), accessFlags := 25, slot := 2, constantValue := 0 }]
  methods := #[k15m0]
  instanceTypes := #[]
  staticTypes := #[(.object "java/util/function/BiFunction"), (.object "java/util/function/BiFunction"), (.object "java/util/function/BiFunction")]
  resolved := Array.replicate 194 none
  statics := some 2 }

def pool16 : Array CpInfo := pool [(9, u "<init>"), (6, .class_ 18), (1, u "java/lang/Object"), (0, u "()V"), (1, .class_ 23), (1, u "jdk/internal/util/ArraysSupport"), (0, u "LOG2_ARRAY_LONG_INDEX_SCALE"), (0, u "I"), (2, u "U"), (0, u "Ljdk/internal/misc/Unsafe;"), (8, u "BIG_ENDIAN"), (0, u "Z"), (8, u "LOG2_BYTE_BIT_SIZE"), (4, u "LOG2_ARRAY_INT_INDEX_SCALE"), (54, u "JLA"), (0, u "Ljdk/internal/access/JavaLangAccess;"), (11, u "LOG2_ARRAY_BOOLEAN_INDEX_SCALE"), (9, u "LOG2_ARRAY_BYTE_INDEX_SCALE"), (5, u "LOG2_ARRAY_CHAR_INDEX_SCALE"), (5, u "LOG2_ARRAY_SHORT_INDEX_SCALE"), (18, u "LOG2_ARRAY_FLOAT_INDEX_SCALE"), (24, u "LOG2_ARRAY_DOUBLE_INDEX_SCALE"), (89, u "T_BOOLEAN"), (2, u "T_CHAR"), (1, u "T_FLOAT"), (1, u "T_DOUBLE"), (1, u "T_BYTE"), (1, u "T_SHORT"), (1, u "T_INT"), (1, u "T_LONG"), (1, u "SOFT_MAX_ARRAY_LENGTH")] 83

def k16m0 : Method := { name := "<init>", desc := "()V", sig := { parameters := [], returnType := none }, accessFlags := 2, code := none }
/-- jdk/internal/util/ArraysSupport -/
def k16 : Class := { plain "jdk/internal/util/ArraysSupport" (some 0) with
  accessFlags := 33
  interfaces := #[]
  cf := some (fileOf pool16 21 #[] #[{ accessFlags := 2, nameIndex := 9, descriptorIndex := 19, attributes := #[] }] 33 16 #[] #[{ accessFlags := 24, nameIndex := 28, descriptorIndex := 29, attributes := #[] }, { accessFlags := 26, nameIndex := 38, descriptorIndex := 39, attributes := #[] }, { accessFlags := 25, nameIndex := 121, descriptorIndex := 25, attributes := #[] }, { accessFlags := 25, nameIndex := 131, descriptorIndex := 25, attributes := #[] }, { accessFlags := 25, nameIndex := 137, descriptorIndex := 25, attributes := #[] }, { accessFlags := 25, nameIndex := 143, descriptorIndex := 25, attributes := #[] }, { accessFlags := 25, nameIndex := 53, descriptorIndex := 25, attributes := #[] }, { accessFlags := 25, nameIndex := 24, descriptorIndex := 25, attributes := #[] }, { accessFlags := 25, nameIndex := 162, descriptorIndex := 25, attributes := #[] }, { accessFlags := 25, nameIndex := 187, descriptorIndex := 25, attributes := #[] }, { accessFlags := 26, nameIndex := 48, descriptorIndex := 25, attributes := #[] }, { accessFlags := 25, nameIndex := 277, descriptorIndex := 25, attributes := #[] }, { accessFlags := 25, nameIndex := 280, descriptorIndex := 25, attributes := #[] }, { accessFlags := 25, nameIndex := 282, descriptorIndex := 25, attributes := #[] }, { accessFlags := 25, nameIndex := 284, descriptorIndex := 25, attributes := #[] }, { accessFlags := 25, nameIndex := 286, descriptorIndex := 25, attributes := #[] }, { accessFlags := 25, nameIndex := 288, descriptorIndex := 25, attributes := #[] }, { accessFlags := 25, nameIndex := 290, descriptorIndex := 25, attributes := #[] }, { accessFlags := 25, nameIndex := 292, descriptorIndex := 25, attributes := #[] }, { accessFlags := 26, nameIndex := 108, descriptorIndex := 109, attributes := #[] }, { accessFlags := 25, nameIndex := 294, descriptorIndex := 25, attributes := #[] }])
  fields := #[{ name := "U", type := (.object "jdk/internal/misc/Unsafe"), accessFlags := 24, slot := 0, constantValue := 0 }, { name := "BIG_ENDIAN", type := .boolean, accessFlags := 26, slot := 1, constantValue := 0 }, { name := "LOG2_ARRAY_BOOLEAN_INDEX_SCALE", type := .int, accessFlags := 25, slot := 2, constantValue := 0 }, { name := "LOG2_ARRAY_BYTE_INDEX_SCALE", type := .int, accessFlags := 25, slot := 3, constantValue := 0 }, { name := "LOG2_ARRAY_CHAR_INDEX_SCALE", type := .int, accessFlags := 25, slot := 4, constantValue := 0 }, { name := "LOG2_ARRAY_SHORT_INDEX_SCALE", type := .int, accessFlags := 25, slot := 5, constantValue := 0 }, { name := "LOG2_ARRAY_INT_INDEX_SCALE", type := .int, accessFlags := 25, slot := 6, constantValue := 0 }, { name := "LOG2_ARRAY_LONG_INDEX_SCALE", type := .int, accessFlags := 25, slot := 7, constantValue := 0 }, { name := "LOG2_ARRAY_FLOAT_INDEX_SCALE", type := .int, accessFlags := 25, slot := 8, constantValue := 0 }, { name := "LOG2_ARRAY_DOUBLE_INDEX_SCALE", type := .int, accessFlags := 25, slot := 9, constantValue := 0 }, { name := "LOG2_BYTE_BIT_SIZE", type := .int, accessFlags := 26, slot := 10, constantValue := 0 }, { name := "T_BOOLEAN", type := .int, accessFlags := 25, slot := 11, constantValue := 0 }, { name := "T_CHAR", type := .int, accessFlags := 25, slot := 12, constantValue := 0 }, { name := "T_FLOAT", type := .int, accessFlags := 25, slot := 13, constantValue := 0 }, { name := "T_DOUBLE", type := .int, accessFlags := 25, slot := 14, constantValue := 0 }, { name := "T_BYTE", type := .int, accessFlags := 25, slot := 15, constantValue := 0 }, { name := "T_SHORT", type := .int, accessFlags := 25, slot := 16, constantValue := 0 }, { name := "T_INT", type := .int, accessFlags := 25, slot := 17, constantValue := 0 }, { name := "T_LONG", type := .int, accessFlags := 25, slot := 18, constantValue := 0 }, { name := "JLA", type := (.object "jdk/internal/access/JavaLangAccess"), accessFlags := 26, slot := 19, constantValue := 0 }, { name := "SOFT_MAX_ARRAY_LENGTH", type := .int, accessFlags := 25, slot := 20, constantValue := 0 }]
  methods := #[k16m0]
  instanceTypes := #[]
  staticTypes := #[(.object "jdk/internal/misc/Unsafe"), .boolean, .int, .int, .int, .int, .int, .int, .int, .int, .int, .int, .int, .int, .int, .int, .int, .int, .int, (.object "jdk/internal/access/JavaLangAccess"), .int]
  resolved := Array.replicate 378 none
  statics := none }

def pool17 : Array CpInfo := pool [(1, u "java/lang/Cloneable"), (0, .class_ 1), (0, u "java/lang/Object"), (0, .class_ 3)] 3

/-- java/lang/Cloneable -/
def k17 : Class := { plain "java/lang/Cloneable" (some 0) with
  accessFlags := 1537
  interfaces := #[]
  cf := some (fileOf pool17 2 #[] #[] 1537 4 #[] #[])
  fields := #[]
  methods := #[]
  instanceTypes := #[]
  staticTypes := #[]
  resolved := Array.replicate 8 none
  statics := none }

/-- the primitive byte -/
def k18 : Class := { plain "byte" none with kind := .primitive 'B', accessFlags := 0x411 }
/-- [B -/
def k19 : Class := { plain "[B" (some 0) with kind := .array 18 .byte, interfaces := #[17, 2], accessFlags := 1041 }

/-- the primitive char -/
def k20 : Class := { plain "char" none with kind := .primitive 'C', accessFlags := 0x411 }
/-- [C -/
def k21 : Class := { plain "[C" (some 0) with kind := .array 20 .char, interfaces := #[17, 2], accessFlags := 1041 }

/-- the primitive int -/
def k22 : Class := { plain "int" none with kind := .primitive 'I', accessFlags := 0x411 }
/-- [I -/
def k23 : Class := { plain "[I" (some 0) with kind := .array 22 .int, interfaces := #[17, 2], accessFlags := 1041 }

def heap : Heap := #[{ cls := 7, slots := #[.long 0, .int 1, .null, .int 0, .null, .int 0, .int 0], vm := .statics 7 },
  { cls := 10, slots := #[.ref 3, .ref 4, .ref 5, .ref 6, .ref 7, .null], vm := .statics 10 },
  { cls := 15, slots := #[.null, .null, .null], vm := .statics 15 },
  { cls := 10, slots := #[.null, .int 0, .int 0, .null], vm := .none },
  { cls := 10, slots := #[.null, .int 1, .int 0, .null], vm := .none },
  { cls := 10, slots := #[.null, .int 2, .int 0, .null], vm := .none },
  { cls := 10, slots := #[.null, .int 3, .int 0, .null], vm := .none },
  { cls := 10, slots := #[.null, .int 4, .int 0, .null], vm := .none }]
def classes : Array Class := #[k0, k1, k2, k3, k4, k5, k6, k7, k8, k9, k10, k11, k12, k13, k14, k15, k16, k17, k18, k19, k20, k21, k22, k23]
def interned : List (Array UInt16 × Addr) := []
def slotsUsed : Nat := 36
def theMethod : MethodId := ⟨1, 2⟩
def args0 : Array Value := #[.int 7, .int 5, .int 3, .int 2, .int 1]
def aboutOver (below : List Frame) : State where
  vm := { classes := classes, interned := interned.toArray }
  heap := heap
  slotsUsed := slotsUsed
  threads := #[{ frames := .invoking theMethod args0 :: below }]
def below0 : List Frame := [.native { method := ⟨0, 0⟩, args := #[] }]
def about1 : State := aboutOver below0
def p0 : Program := .bare "" "" ""
def e0 : Env := launch0.env 0 0 0
theorem w_frames : about1.frames = Frame.invoking theMethod args0 :: below0 := rfl
set_option maxRecDepth 65536 in
theorem w_args : argsFit about1.vm theMethod args0 = true := by decide +kernel
set_option maxRecDepth 65536 in
theorem w_heap : heapFits about1 = true := by decide +kernel
set_option maxRecDepth 65536 in
theorem w_runnable : about1.curStatus? = some .runnable := by decide +kernel
set_option maxRecDepth 65536 in
theorem w_alone : about1.alone = true := by decide +kernel
set_option maxRecDepth 65536 in
theorem w_named : about1.methodNamed? x = some theMethod := by decide +kernel
set_option maxRecDepth 65536 in
theorem w_hears : about1.hears theMethod below0 = true := by decide +kernel
set_option maxRecDepth 65536 in
theorem w_ripe : about1.ripe theMethod args0 below0 = true := by decide +kernel
theorem w_running : about1.status = .running := rfl
set_option maxRecDepth 65536 in
theorem w_room : about1.hasRoom e0.platform room_1 = true :=
  launch0.hasRoom_least _ room_1 (by decide +kernel) (by decide +kernel) (by decide +kernel) (by decide +kernel) (by decide +kernel) (by decide +kernel)
theorem allAtoms_all (ts : List Jvm.Cond) (a : Array Jvm.Value) (st : Jvm.State) : (allAtoms ts).before a st = ts.all (fun c => c.before a st) := by
  induction ts with
  | nil => rfl
  | cons c t ih =>
    show (Jvm.Cond.and c (allAtoms t)).before a st = _
    rw [Jvm.Cond.before_and, ih, List.all_cons]
def words1 : List Jvm.Cond := Jvm.Cond.code x code maxLocals ret :: tables_1
/-- a 'code' word, met by the world's own term for the bytes: nothing is compared byte by byte -/
theorem code_word {y : MethodName} {bytes : ByteArray} {mx : Nat} {rt : Option FieldType} {a : Array Value} {s : State} {m : MethodId} {meth : Method} {c : Code} (h1 : s.methodNamed? y = some m) (h2 : s.vm.method? m = some meth) (h3 : meth.code = some c) (h4 : c.code = bytes)
    (h5 : (c.maxLocals == mx && c.exceptionTable.isEmpty && decide (c.maxStack ≤ mostOperands) && decide (meth.sig.returnType = rt) && !meth.locks && decide (parseMethodDescriptor y.desc = some meth.sig)) = true) : (Jvm.Cond.code y bytes mx rt).before a s = true := by
  simp only [Bool.and_eq_true, beq_iff_eq, Bool.not_eq_true', decide_eq_true_eq] at h5
  obtain ⟨⟨⟨⟨⟨g1, g2⟩, g3⟩, g4⟩, g5⟩, g6⟩ := h5
  simp [Cond.before, Cond.holds, Cond.value, h1, h2, h3, h4, g1, g2, g3, g4, g5, g6]
def isCode : Jvm.Cond → Bool
  | .code _ _ _ _ => true
  | _ => false
theorem all_split {L : List Jvm.Cond} {P : Jvm.Cond → Bool} (h1 : L.all (fun c => isCode c || P c) = true) (h2 : ∀ c ∈ L.filter isCode, P c = true) : L.all P = true := by
  refine List.all_eq_true.mpr fun c hc => ?_
  have h := List.all_eq_true.mp h1 c hc
  rcases Bool.eq_false_or_eq_true (isCode c) with hi | hi
  · exact h2 c (List.mem_filter.mpr ⟨hc, hi⟩)
  · simpa [hi] using h
set_option maxRecDepth 65536 in
theorem w_c0 : (Jvm.Cond.code x code maxLocals ret).before args0 about1 = true := code_word (m := ⟨1, 2⟩) (meth := k1m2) (c := k1c2) (by decide +kernel) rfl rfl rfl (by decide +kernel)
set_option maxRecDepth 65536 in
theorem w_c1 : (Jvm.Cond.code ({ cls := "java/lang/String", name := "<init>", desc := "([C)V" } : Jvm.MethodName) jdk_42_method_3_code (2 : Nat) (Option.none : Option Jvm.ClassFile.FieldType)).before args0 about1 = true := code_word (m := ⟨7, 1⟩) (meth := k7m1) (c := k7c1) (by decide +kernel) rfl rfl rfl (by decide +kernel)
set_option maxRecDepth 65536 in
theorem w_c2 : (Jvm.Cond.code ({ cls := "java/lang/String", name := "<init>", desc := "([CIILjava/lang/Void;)V" } : Jvm.MethodName) jdk_42_method_149_code (6 : Nat) (Option.none : Option Jvm.ClassFile.FieldType)).before args0 about1 = true := code_word (m := ⟨7, 2⟩) (meth := k7m2) (c := k7c2) (by decide +kernel) rfl rfl rfl (by decide +kernel)
set_option maxRecDepth 65536 in
theorem w_c3 : (Jvm.Cond.code ({ cls := "java/lang/Object", name := "<init>", desc := "()V" } : Jvm.MethodName) object_method_1_code (1 : Nat) (Option.none : Option Jvm.ClassFile.FieldType)).before args0 about1 = true := code_word (m := ⟨0, 0⟩) (meth := k0m0) (c := k0c0) (by decide +kernel) rfl rfl rfl (by decide +kernel)
set_option maxRecDepth 65536 in
theorem w_c4 : (Jvm.Cond.code ({ cls := "java/lang/StringUTF16", name := "compress", desc := "([CII)[B" } : Jvm.MethodName) jdk_52_method_16_code (6 : Nat) (Option.some (Jvm.ClassFile.FieldType.array Jvm.ClassFile.FieldType.byte))).before args0 about1 = true := code_word (m := ⟨8, 2⟩) (meth := k8m2) (c := k8c2) (by decide +kernel) rfl rfl rfl (by decide +kernel)
set_option maxRecDepth 65536 in
theorem w_c5 : (Jvm.Cond.code ({ cls := "java/lang/StringUTF16", name := "compress", desc := "([CI[BII)I" } : Jvm.MethodName) jdk_52_method_21_code (7 : Nat) (Option.some Jvm.ClassFile.FieldType.int)).before args0 about1 = true := code_word (m := ⟨8, 3⟩) (meth := k8m3) (c := k8c3) (by decide +kernel) rfl rfl rfl (by decide +kernel)
set_option maxRecDepth 65536 in
theorem w_c6 : (Jvm.Cond.code ({ cls := "java/lang/StringUTF16", name := "coderFromArrayLen", desc := "([BI)B" } : Jvm.MethodName) jdk_52_method_15_code (2 : Nat) (Option.some Jvm.ClassFile.FieldType.byte)).before args0 about1 = true := code_word (m := ⟨8, 1⟩) (meth := k8m1) (c := k8c1) (by decide +kernel) rfl rfl rfl (by decide +kernel)
set_option maxRecDepth 65536 in
theorem w_c7 : (Jvm.Cond.code ({ cls := "com/example/facetree/facetree/model/AttributeDefinitionIsReferencePinLaw", name := "pickType", desc := "(I)Lcom/example/facetree/facetree/model/AttributeType;" } : Jvm.MethodName) method_2_code (2 : Nat) (Option.some (Jvm.ClassFile.FieldType.object "com/example/facetree/facetree/model/AttributeType"))).before args0 about1 = true := code_word (m := ⟨1, 1⟩) (meth := k1m1) (c := k1c1) (by decide +kernel) rfl rfl rfl (by decide +kernel)
set_option maxRecDepth 65536 in
theorem w_c8 : (Jvm.Cond.code ({ cls := "com/example/facetree/facetree/model/AttributeDefinition", name := "<init>", desc := "(Ljava/lang/String;Lcom/example/facetree/facetree/model/AttributeType;Lcom/example/facetree/facetree/model/RequiredBehavior;)V" } : Jvm.MethodName) prog_2_method_1_code (4 : Nat) (Option.none : Option Jvm.ClassFile.FieldType)).before args0 about1 = true := code_word (m := ⟨12, 0⟩) (meth := k12m0) (c := k12c0) (by decide +kernel) rfl rfl rfl (by decide +kernel)
set_option maxRecDepth 65536 in
theorem w_c9 : (Jvm.Cond.code ({ cls := "com/example/facetree/facetree/model/AttributeDefinition", name := "<init>", desc := "(Ljava/lang/String;Lcom/example/facetree/facetree/model/AttributeType;Lcom/example/facetree/facetree/model/RequiredBehavior;Lcom/example/facetree/facetree/model/AttributeKey;)V" } : Jvm.MethodName) prog_2_method_2_code (5 : Nat) (Option.none : Option Jvm.ClassFile.FieldType)).before args0 about1 = true := code_word (m := ⟨12, 1⟩) (meth := k12m1) (c := k12c1) (by decide +kernel) rfl rfl rfl (by decide +kernel)
set_option maxRecDepth 65536 in
theorem w_c10 : (Jvm.Cond.code ({ cls := "java/lang/Record", name := "<init>", desc := "()V" } : Jvm.MethodName) jdk_30_method_1_code (1 : Nat) (Option.none : Option Jvm.ClassFile.FieldType)).before args0 about1 = true := code_word (m := ⟨11, 0⟩) (meth := k11m0) (c := k11c0) (by decide +kernel) rfl rfl rfl (by decide +kernel)
set_option maxRecDepth 65536 in
theorem w_c11 : (Jvm.Cond.code ({ cls := "com/example/facetree/facetree/model/AttributeDefinition", name := "isReference", desc := "()Z" } : Jvm.MethodName) prog_2_method_3_code (1 : Nat) (Option.some Jvm.ClassFile.FieldType.boolean)).before args0 about1 = true := code_word (m := ⟨12, 2⟩) (meth := k12m2) (c := k12c2) (by decide +kernel) rfl rfl rfl (by decide +kernel)
set_option maxRecDepth 65536 in
theorem w_c12 : (Jvm.Cond.code ({ cls := "com/example/facetree/facetree/model/AttributeKey", name := "<init>", desc := "(Ljava/lang/String;Ljava/lang/String;)V" } : Jvm.MethodName) prog_4_method_1_code (3 : Nat) (Option.none : Option Jvm.ClassFile.FieldType)).before args0 about1 = true := code_word (m := ⟨13, 0⟩) (meth := k13m0) (c := k13c0) (by decide +kernel) rfl rfl rfl (by decide +kernel)
def codes1 : List Jvm.Cond := [Jvm.Cond.code x code maxLocals ret, Jvm.Cond.code ({ cls := "java/lang/String", name := "<init>", desc := "([C)V" } : Jvm.MethodName) jdk_42_method_3_code (2 : Nat) (Option.none : Option Jvm.ClassFile.FieldType), Jvm.Cond.code ({ cls := "java/lang/String", name := "<init>", desc := "([CIILjava/lang/Void;)V" } : Jvm.MethodName) jdk_42_method_149_code (6 : Nat) (Option.none : Option Jvm.ClassFile.FieldType), Jvm.Cond.code ({ cls := "java/lang/Object", name := "<init>", desc := "()V" } : Jvm.MethodName) object_method_1_code (1 : Nat) (Option.none : Option Jvm.ClassFile.FieldType), Jvm.Cond.code ({ cls := "java/lang/StringUTF16", name := "compress", desc := "([CII)[B" } : Jvm.MethodName) jdk_52_method_16_code (6 : Nat) (Option.some (Jvm.ClassFile.FieldType.array Jvm.ClassFile.FieldType.byte)), Jvm.Cond.code ({ cls := "java/lang/StringUTF16", name := "compress", desc := "([CI[BII)I" } : Jvm.MethodName) jdk_52_method_21_code (7 : Nat) (Option.some Jvm.ClassFile.FieldType.int), Jvm.Cond.code ({ cls := "java/lang/StringUTF16", name := "coderFromArrayLen", desc := "([BI)B" } : Jvm.MethodName) jdk_52_method_15_code (2 : Nat) (Option.some Jvm.ClassFile.FieldType.byte), Jvm.Cond.code ({ cls := "com/example/facetree/facetree/model/AttributeDefinitionIsReferencePinLaw", name := "pickType", desc := "(I)Lcom/example/facetree/facetree/model/AttributeType;" } : Jvm.MethodName) method_2_code (2 : Nat) (Option.some (Jvm.ClassFile.FieldType.object "com/example/facetree/facetree/model/AttributeType")), Jvm.Cond.code ({ cls := "com/example/facetree/facetree/model/AttributeDefinition", name := "<init>", desc := "(Ljava/lang/String;Lcom/example/facetree/facetree/model/AttributeType;Lcom/example/facetree/facetree/model/RequiredBehavior;)V" } : Jvm.MethodName) prog_2_method_1_code (4 : Nat) (Option.none : Option Jvm.ClassFile.FieldType), Jvm.Cond.code ({ cls := "com/example/facetree/facetree/model/AttributeDefinition", name := "<init>", desc := "(Ljava/lang/String;Lcom/example/facetree/facetree/model/AttributeType;Lcom/example/facetree/facetree/model/RequiredBehavior;Lcom/example/facetree/facetree/model/AttributeKey;)V" } : Jvm.MethodName) prog_2_method_2_code (5 : Nat) (Option.none : Option Jvm.ClassFile.FieldType), Jvm.Cond.code ({ cls := "java/lang/Record", name := "<init>", desc := "()V" } : Jvm.MethodName) jdk_30_method_1_code (1 : Nat) (Option.none : Option Jvm.ClassFile.FieldType), Jvm.Cond.code ({ cls := "com/example/facetree/facetree/model/AttributeDefinition", name := "isReference", desc := "()Z" } : Jvm.MethodName) prog_2_method_3_code (1 : Nat) (Option.some Jvm.ClassFile.FieldType.boolean), Jvm.Cond.code ({ cls := "com/example/facetree/facetree/model/AttributeKey", name := "<init>", desc := "(Ljava/lang/String;Ljava/lang/String;)V" } : Jvm.MethodName) prog_4_method_1_code (3 : Nat) (Option.none : Option Jvm.ClassFile.FieldType)]
set_option maxRecDepth 65536 in
theorem codes_eq : words1.filter isCode = codes1 := rfl
theorem w_codes : ∀ c ∈ words1.filter isCode, c.before args0 about1 = true := by
  rw [codes_eq]
  intro c hc
  simp only [codes1, List.mem_cons, List.not_mem_nil, or_false] at hc
  rcases hc with rfl | rfl | rfl | rfl | rfl | rfl | rfl | rfl | rfl | rfl | rfl | rfl | rfl
  · exact w_c0
  · exact w_c1
  · exact w_c2
  · exact w_c3
  · exact w_c4
  · exact w_c5
  · exact w_c6
  · exact w_c7
  · exact w_c8
  · exact w_c9
  · exact w_c10
  · exact w_c11
  · exact w_c12
set_option maxRecDepth 65536 in
theorem w_t1 : (words1.take 24).all (fun c => isCode c || c.before args0 about1) = true := by decide +kernel
set_option maxRecDepth 65536 in
theorem w_t2 : ((words1.drop 24).take 24).all (fun c => isCode c || c.before args0 about1) = true := by decide +kernel
set_option maxRecDepth 65536 in
theorem w_t3 : (((words1.drop 24).drop 24).take 24).all (fun c => isCode c || c.before args0 about1) = true := by decide +kernel
set_option maxRecDepth 65536 in
theorem w_t4 : (((words1.drop 24).drop 24).drop 24).all (fun c => isCode c || c.before args0 about1) = true := by decide +kernel
theorem w_tables : (allAtoms (Jvm.Cond.code x code maxLocals ret :: tables_1)).before args0 about1 = true := by
  rw [allAtoms_all]
  show words1.all (fun c => c.before args0 about1) = true
  refine all_split ?_ w_codes
  rw [← List.take_append_drop 24 words1, List.all_append, w_t1, ← List.take_append_drop 24 (words1.drop 24), List.all_append, w_t2, ← List.take_append_drop 24 ((words1.drop 24).drop 24), List.all_append, w_t3, w_t4]
  rfl
set_option maxRecDepth 65536 in
theorem w_rest : rest_1_c.before args0 about1 = true := by decide +kernel
set_option maxRecDepth 65536 in
theorem w_case : (Jvm.Cond.and given_1 narrow_1).before args0 about1 = true := by decide +kernel
theorem w_applies : (headSpec (Jvm.Cond.code x code maxLocals ret :: tables_1) room_1).applies x e0.platform about1 = true :=
  (Spec.applies_iff w_frames).mpr ⟨w_running, w_runnable, w_alone, w_named, w_hears, w_ripe, w_room, w_tables⟩
theorem atStart : AtStart classFile x code maxLocals ret World_1 tables_1 room_1 Calls_1 rest_1 Pre_1 launch0 p0 e0 about1 theMethod args0 below0 :=
  ⟨lists_1, trivial, launch0.admits_env _ _ _, launch0.least_env, fairChoices_fair.cas, fairChoices_fair.clock, w_frames, w_args, w_heap, w_applies, trivial, w_rest, w_case⟩
end start1
theorem witness_1 : WitnessClaimed_1 := ⟨start1.p0, start1.e0, start1.about1, start1.theMethod, start1.args0, start1.below0, start1.atStart⟩
end Jvm.Pilot.@@N@@
