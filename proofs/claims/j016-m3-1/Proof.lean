import JvmDerived
import JvmDerived.Pilot.@@N@@Statement
import JvmDerived.Pilot.@@N@@Code
set_option linter.unusedVariables false
set_option linter.unusedSimpArgs false
/- laws to paste: Road.backV (cut by pick.py; bodies as the Statement names them) -/
namespace Jvm.Pilot.@@N@@
namespace StrChars
open Jvm Sem ClassFile Op Lib Jvm.Stand Jvm.Free.XT Jvm.Free.ALB Jvm.Free.JM Jvm.Free
open Jvm.Lib.Cold (StaticIs)
/-- a char array whose places are chars -/
def Ch (a : Addr) (A : Cell) (U : State) : Prop := Arr .char a A U ∧ Typed .char A
theorem Ch.mv {a : Addr} {A : Cell} {U U' : State} (h : Ch a A U) (hal : U.vm.Alike U'.vm) (hh : U'.heap = U.heap) : Ch a A U' := ⟨h.1.mv hal hh, h.2⟩
theorem Ch.keep {a : Addr} {A : Cell} {U U' : State} (h : Ch a A U) (hal : U.vm.Alike U'.vm) (hk : U'.heap[a]? = some A) : Ch a A U' := ⟨h.1.keep hal hk, h.2⟩
/-- what place i of a char[]'s cell holds -/
def cv (A : Cell) (i : Nat) : Int32 := match A.slots[i]? with | some (.int x) => x | _ => 0
theorem Ch.get {a : Addr} {A : Cell} {U : State} (h : Ch a A U) {i : Nat} (hi : i < A.slots.size) : A.slots[i]? = some (.int (cv A i)) := by
  have e := Array.getElem?_eq_getElem hi
  have f := h.2 i _ e
  unfold cv; rw [e]
  generalize A.slots[i] = v at f
  cases v <;> simp [fits] at f ⊢
/-- the byte that i2b leaves of a char -/
def lo8 (x : Int32) : Int32 := x.toInt8.toInt32
theorem fits_lo8 (y : Int32) : fits .byte (.int (lo8 y)) = true := by
  have h1 := y.toInt8.le_toInt
  have h2 := y.toInt8.toInt_lt
  simp only [lo8, fits, Bool.and_eq_true, decide_eq_true_eq, Int32.le_iff_toInt_le, Int8.toInt_toInt32, show (-128 : Int32).toInt = -128 from by decide, show (127 : Int32).toInt = 127 from by decide]
  omega
/-- A' is A but that each place j of lo .. hi - 1 holds f j -/
def Laid (A A' : Cell) (lo hi : Nat) (f : Nat → Value) : Prop := A'.cls = A.cls ∧ A'.vm = A.vm ∧ A'.slots.size = A.slots.size ∧ ∀ i, A'.slots[i]? = if lo ≤ i ∧ i < hi then some (f i) else A.slots[i]?
theorem Laid.zero (A : Cell) (lo : Nat) (f : Nat → Value) : Laid A A lo (lo + 0) f := ⟨rfl, rfl, rfl, fun i => by rw [if_neg (by omega)]⟩
theorem Laid.step {A Ak : Cell} {lo k : Nat} {f : Nat → Value} {v : Value} (h : Laid A Ak lo k f) (hlo : lo ≤ k) (hk : k < Ak.slots.size) (hv : v = f k) : Laid A (Ak.setSlot k v) lo (k + 1) f := by
  refine ⟨h.1, h.2.1, by simpa [Cell.setSlot] using h.2.2.1, fun i => ?_⟩
  by_cases e : k = i
  · subst e; rw [Cell.slots_setSlot_self v hk, if_pos (by omega), hv]
  · rw [Cell.slots_setSlot_ne v e, h.2.2.2 i]
    by_cases q : lo ≤ i ∧ i < k
    · rw [if_pos q, if_pos (by omega)]
    · rw [if_neg q, if_neg (by omega)]
def U16 : String := "java/lang/StringUTF16"
namespace Cmp5
def yN : MethodName := ⟨"java/lang/StringUTF16", "compress", "([CI[BII)I"⟩
abbrev yB : ByteArray := jdk_52_method_21_code
theorem d0 : decode yB 0 = .ok (.iconst 0, 1) := by decide +kernel
theorem d1 : decode yB 1 = .ok (.istore 5, 2) := by decide +kernel
theorem d3 : decode yB 3 = .ok (.iload 5, 2) := by decide +kernel
theorem d5 : decode yB 5 = .ok (.iload 4, 2) := by decide +kernel
theorem d7 : decode yB 7 = .ok (.if_icmp (.ge) 37, 3) := by decide +kernel
theorem d10 : decode yB 10 = .ok (.aload_n 0, 1) := by decide +kernel
theorem d11 : decode yB 11 = .ok (.iload_n 1, 1) := by decide +kernel
theorem d12 : decode yB 12 = .ok (.caload, 1) := by decide +kernel
theorem d13 : decode yB 13 = .ok (.istore 6, 2) := by decide +kernel
theorem d15 : decode yB 15 = .ok (.iload 6, 2) := by decide +kernel
theorem d17 : decode yB 17 = .ok (.sipush 255, 3) := by decide +kernel
theorem d20 : decode yB 20 = .ok (.if_icmp (.le) 6, 3) := by decide +kernel
theorem d26 : decode yB 26 = .ok (.aload_n 2, 1) := by decide +kernel
theorem d27 : decode yB 27 = .ok (.iload_n 3, 1) := by decide +kernel
theorem d28 : decode yB 28 = .ok (.iload 6, 2) := by decide +kernel
theorem d30 : decode yB 30 = .ok (.i2b, 1) := by decide +kernel
theorem d31 : decode yB 31 = .ok (.bastore, 1) := by decide +kernel
theorem d32 : decode yB 32 = .ok (.iinc 1 1, 3) := by decide +kernel
theorem d35 : decode yB 35 = .ok (.iinc 3 1, 3) := by decide +kernel
theorem d38 : decode yB 38 = .ok (.iinc 5 1, 3) := by decide +kernel
theorem d41 : decode yB 41 = .ok (.goto (-38), 3) := by decide +kernel
theorem d44 : decode yB 44 = .ok (.iload 4, 2) := by decide +kernel
theorem d46 : decode yB 46 = .ok (.ireturn, 1) := by decide +kernel
def site : List Cond := []
def tab : Cond := tabOf yN yB 7 (some .int) site
def P (b : Addr) (A : Cell) (d : Addr) (B : Cell) (o q len : Nat) (args : Array Value) (s : State) : Prop := args = #[.ref b, .int (Int32.ofNat o), .ref d, .int (Int32.ofNat q), .int (Int32.ofNat len)] ∧ Ch b A s ∧ Arr .byte d B s ∧ b ≠ d ∧ o + len ≤ A.slots.size ∧ q + len ≤ B.slots.size ∧ ∀ i, i < len → ¬ 255 < cv A (o + i)
def E (b : Addr) (A : Cell) (d : Addr) (B : Cell) (o q len : Nat) (r : Option Value) (s u : State) : Prop := r = some (.int (Int32.ofNat len)) ∧ ∃ B', Put d B' s u ∧ Laid B B' q (q + len) (fun j => Value.int (lo8 (cv A (o + (j - q)))))
/-- no char of the range above 255: len; the places written hold each char's low byte -/
theorem law (l : Launch) (b : Addr) (A : Cell) (d : Addr) (B : Cell) (o q len : Nat) : Law l yN 5 5 0 0 yB 7 (some .int) site (P b A d B o q len) (E b A d B o q len) (copyLocs d q len) 0 0 := by
  refine Law.of_walk (plainFor_of_name (by decide +kernel)) (by decide +kernel) (by decide +kernel) (by decide) (fun _ _ h => by rw [h.1]; rfl) (fun _ U U' hal hh h => ⟨h.1, h.2.1.mv hal hh, h.2.2.1.mv hal hh, h.2.2.2⟩) (fun r U U' V V' h1 hal h2 h => ⟨h.1, h.2.elim fun B' q => ⟨B', q.1.mv h1 h2, q.2⟩⟩) ?_
  intro p e s m args below meth c s₁ X0 hexec hbytes hml hret hlk hnm hown hh0 W hP
  obtain ⟨rfl, hA, hB, hne, l1, l2, hp⟩ := hP
  have c1 : Steps p.tables e below (s₁.setTop (entryFrame m #[.ref b, .int (Int32.ofNat o), .ref d, .int (Int32.ofNat q), .int (Int32.ofNat len)] 7)) (s₁.setTop (mkF m 0 #[.val (.ref b), .val (.int (Int32.ofNat o)), .val (.ref d), .val (.int (Int32.ofNat q)), .val (.int (Int32.ofNat len)), .unset, .unset] [])) := entry rfl
  have hA0 := hA.1.mv X0.warmed.alike hh0
  have hB0 := hB.mv X0.warmed.alike hh0
  have a31 := hA.1.2.2.2
  have c2 : Steps p.tables e below (s₁.setTop (entryFrame m #[.ref b, .int (Int32.ofNat o), .ref d, .int (Int32.ofNat q), .int (Int32.ofNat len)] 7)) (s₁.setTop (mkF m 3 #[.val (.ref b), .val (.int (Int32.ofNat o)), .val (.ref d), .val (.int (Int32.ofNat q)), .val (.int (Int32.ofNat len)), .val (.int 0), .unset] [])) := c1.trans (by
    refine iconstV X0.here hexec rfl 0 (hb hbytes d0) (by decide) ?_
    refine XS.istore X0.here hexec rfl (hb hbytes d1) rfl rfl ?_
    exact Steps.refl _)
  have loop : ∀ (r i : Nat), i + r = len → ∀ (z : Slot), (z = .unset ∨ ∃ w, z = .val w ∧ w.category = 1) → ∀ (Tl : State) (Bk : Cell), Stand p l e { frames := 0, locals := 0, cells := 0, slots := 0 } s m #[.ref b, .int (Int32.ofNat o), .ref d, .int (Int32.ofNat q), .int (Int32.ofNat len)] below meth c Tl ([] ++ copyLocs d q i) 0 0 → Put d Bk s₁ Tl → Laid B Bk q (q + i) (fun j => Value.int (lo8 (cv A (o + (j - q))))) →
      Steps p.tables e below (s₁.setTop (entryFrame m #[.ref b, .int (Int32.ofNat o), .ref d, .int (Int32.ofNat q), .int (Int32.ofNat len)] 7)) (Tl.setTop (mkF m 3 #[.val (.ref b), .val (.int (Int32.ofNat (o + i))), .val (.ref d), .val (.int (Int32.ofNat (q + i))), .val (.int (Int32.ofNat len)), .val (.int (Int32.ofNat i)), z] [])) → ∃ (T' : State) (B' : Cell) (z' : Slot), Stand p l e { frames := 0, locals := 0, cells := 0, slots := 0 } s m #[.ref b, .int (Int32.ofNat o), .ref d, .int (Int32.ofNat q), .int (Int32.ofNat len)] below meth c T' ([] ++ copyLocs d q len) 0 0 ∧ Put d B' s₁ T' ∧ Laid B B' q (q + len) (fun j => Value.int (lo8 (cv A (o + (j - q))))) ∧
      Steps p.tables e below (s₁.setTop (entryFrame m #[.ref b, .int (Int32.ofNat o), .ref d, .int (Int32.ofNat q), .int (Int32.ofNat len)] 7)) (T'.setTop (mkF m 3 #[.val (.ref b), .val (.int (Int32.ofNat (o + len))), .val (.ref d), .val (.int (Int32.ofNat (q + len))), .val (.int (Int32.ofNat len)), .val (.int (Int32.ofNat len)), z'] [])) := by
    intro r
    induction r with
    | zero =>
      intro i hi z hz Tl Bk Xl pl fl cl
      have hil : i = len := by omega
      rw [hil] at Xl fl cl
      exact ⟨Tl, Bk, z, Xl, pl, fl, cl⟩
    | succ r ih =>
      intro i hi z hz Tl Bk Xl pl fl cl
      have all := X0.warmed.alike.symm.trans Xl.warmed.alike
      have hAl := hA0.keep all (pl.other hne hA0.1)
      have hBk := hB0.like all pl.1 fl.1 fl.2.1 fl.2.2.1
      have hlt : q + i < Bk.slots.size := by rw [fl.2.2.1]; omega
      have c3 : Steps p.tables e below (s₁.setTop (entryFrame m #[.ref b, .int (Int32.ofNat o), .ref d, .int (Int32.ofNat q), .int (Int32.ofNat len)] 7)) (Tl.setTop (mkF m 12 #[.val (.ref b), .val (.int (Int32.ofNat (o + i))), .val (.ref d), .val (.int (Int32.ofNat (q + i))), .val (.int (Int32.ofNat len)), .val (.int (Int32.ofNat i)), z] [.int (Int32.ofNat (o + i)), .ref b])) := cl.trans (by
        refine XS.iload Xl.here hexec rfl (hb hbytes d3) rfl ?_
        refine XS.iload Xl.here hexec rfl (hb hbytes d5) rfl ?_
        refine XS.icmpNo Xl.here hexec rfl (hb hbytes d7) rfl (ii_ge_f (lt32 (by omega) (by omega))) ?_
        refine XS.aloadN Xl.here hexec rfl (hb hbytes d10) rfl rfl ?_
        refine XS.iloadN Xl.here hexec rfl (hb hbytes d11) rfl ?_
        exact Steps.refl _)
      have c4 : Steps p.tables e below (s₁.setTop (entryFrame m #[.ref b, .int (Int32.ofNat o), .ref d, .int (Int32.ofNat q), .int (Int32.ofNat len)] 7)) (Tl.setTop (mkF m 13 #[.val (.ref b), .val (.int (Int32.ofNat (o + i))), .val (.ref d), .val (.int (Int32.ofNat (q + i))), .val (.int (Int32.ofNat len)), .val (.int (Int32.ofNat i)), z] [.int (cv A (o + i))])) := c3.trans (by
        refine Xl.aget hexec hAl rfl (hA.get (i := o + i) (by omega)) rfl rfl (hb hbytes d12) ?_
        exact Steps.refl _)
      have c5 : Steps p.tables e below (s₁.setTop (entryFrame m #[.ref b, .int (Int32.ofNat o), .ref d, .int (Int32.ofNat q), .int (Int32.ofNat len)] 7)) (Tl.setTop (mkF m 15 #[.val (.ref b), .val (.int (Int32.ofNat (o + i))), .val (.ref d), .val (.int (Int32.ofNat (q + i))), .val (.int (Int32.ofNat len)), .val (.int (Int32.ofNat i)), .val (.int (cv A (o + i)))] [])) := c4.trans (by
        refine XS.istoreS Xl.here hexec rfl (hb hbytes d13) rfl rfl hz ?_
        exact Steps.refl _)
      have c6 : Steps p.tables e below (s₁.setTop (entryFrame m #[.ref b, .int (Int32.ofNat o), .ref d, .int (Int32.ofNat q), .int (Int32.ofNat len)] 7)) (Tl.setTop (mkF m 31 #[.val (.ref b), .val (.int (Int32.ofNat (o + i))), .val (.ref d), .val (.int (Int32.ofNat (q + i))), .val (.int (Int32.ofNat len)), .val (.int (Int32.ofNat i)), .val (.int (cv A (o + i)))] [.int (lo8 (cv A (o + i))), .int (Int32.ofNat (q + i)), .ref d])) := c5.trans (by
        refine XS.iload Xl.here hexec rfl (hb hbytes d15) rfl ?_
        refine sipushV Xl.here hexec rfl 255 (hb hbytes d17) (by decide) ?_
        refine XS.icmpYes Xl.here hexec rfl (pc0 := 20) rfl (hb hbytes d20) rfl (ii_le_t (hp i (by omega))) (by decide) rfl ?_
        refine XS.aloadN Xl.here hexec rfl (hb hbytes d26) rfl rfl ?_
        refine XS.iloadN Xl.here hexec rfl (hb hbytes d27) rfl ?_
        refine XS.iload Xl.here hexec rfl (hb hbytes d28) rfl ?_
        refine i2b Xl.here hexec rfl (hb hbytes d30) rfl ?_
        exact Steps.refl _)
      obtain ⟨T7, X7, p7, st7⟩ := Xl.aput hexec hBk rfl hlt rfl (fits_lo8 (cv A (o + i))) (g := (mkF m 31 #[.val (.ref b), .val (.int (Int32.ofNat (o + i))), .val (.ref d), .val (.int (Int32.ofNat (q + i))), .val (.int (Int32.ofNat len)), .val (.int (Int32.ofNat i)), .val (.int (cv A (o + i)))] [.int (lo8 (cv A (o + i))), .int (Int32.ofNat (q + i)), .ref d])) rfl (rest := []) rfl (hb hbytes d31)
      have c8 : Steps p.tables e below (s₁.setTop (entryFrame m #[.ref b, .int (Int32.ofNat o), .ref d, .int (Int32.ofNat q), .int (Int32.ofNat len)] 7)) (T7.setTop (mkF m 32 #[.val (.ref b), .val (.int (Int32.ofNat (o + i))), .val (.ref d), .val (.int (Int32.ofNat (q + i))), .val (.int (Int32.ofNat len)), .val (.int (Int32.ofNat i)), .val (.int (cv A (o + i)))] [])) := c6.trans (st7 _ (Steps.refl _))
      have c9 : Steps p.tables e below (s₁.setTop (entryFrame m #[.ref b, .int (Int32.ofNat o), .ref d, .int (Int32.ofNat q), .int (Int32.ofNat len)] 7)) (T7.setTop (mkF m 3 #[.val (.ref b), .val (.int (Int32.ofNat (o + i) + 1)), .val (.ref d), .val (.int (Int32.ofNat (q + i) + 1)), .val (.int (Int32.ofNat len)), .val (.int (Int32.ofNat i + 1)), .val (.int (cv A (o + i)))] [])) := c8.trans (by
        refine iincV X7.here hexec rfl 1 (hb hbytes d32) (by decide) rfl rfl ?_
        refine iincV X7.here hexec rfl 1 (hb hbytes d35) (by decide) rfl rfl ?_
        refine iincV X7.here hexec rfl 1 (hb hbytes d38) (by decide) rfl rfl ?_
        refine XS.goto X7.here hexec rfl (pc0 := 41) rfl (hb hbytes d41) (by decide) rfl ?_
        exact Steps.refl _)
      have c10 : Steps p.tables e below (s₁.setTop (entryFrame m #[.ref b, .int (Int32.ofNat o), .ref d, .int (Int32.ofNat q), .int (Int32.ofNat len)] 7)) (T7.setTop (mkF m 3 #[.val (.ref b), .val (.int (Int32.ofNat (o + (i + 1)))), .val (.ref d), .val (.int (Int32.ofNat (q + (i + 1)))), .val (.int (Int32.ofNat len)), .val (.int (Int32.ofNat (i + 1))), .val (.int (cv A (o + i)))] [])) := by
        have := c9
        rw [succ32, succ32, succ32] at this
        exact this
      exact ih (i + 1) (by omega) _ (Or.inr ⟨_, rfl, rfl⟩) T7 _ (by rw [copyLocs_step, ← List.append_assoc]; exact X7) (pl.trans p7) (fl.step (by omega) hlt (by simp)) c10
  obtain ⟨T9, B9, z9, X9, p9, f9, g9⟩ := loop len 0 (by omega) .unset (Or.inl rfl) s₁ B (by simpa [copyLocs] using X0) ⟨hB0.1, fun _ _ => rfl, rfl⟩ (Laid.zero _ _ _) c2
  have c11 : Steps p.tables e below (s₁.setTop (entryFrame m #[.ref b, .int (Int32.ofNat o), .ref d, .int (Int32.ofNat q), .int (Int32.ofNat len)] 7)) (T9.setTop (mkF m 46 #[.val (.ref b), .val (.int (Int32.ofNat (o + len))), .val (.ref d), .val (.int (Int32.ofNat (q + len))), .val (.int (Int32.ofNat len)), .val (.int (Int32.ofNat len)), z9] [.int (Int32.ofNat len)])) := g9.trans (by
    refine XS.iload X9.here hexec rfl (hb hbytes d3) rfl ?_
    refine XS.iload X9.here hexec rfl (hb hbytes d5) rfl ?_
    refine XS.icmpYes X9.here hexec rfl (pc0 := 7) rfl (hb hbytes d7) rfl (ii_ge_t (nlt32 (by omega) (Nat.le_refl _))) (by decide) rfl ?_
    refine XS.iload X9.here hexec rfl (hb hbytes d44) rfl ?_
    exact Steps.refl _)
  exact ⟨T9, some (.int (Int32.ofNat len)), _, _, _, X9, by simp, rfl, rfl, (fun h => by cases h), ⟨rfl, B9, p9.from hh0, f9⟩, fun fs hl => c11.trans (X9.ireturnOut hexec hret rfl (Or.inl rfl) (hb hbytes d46) hl)⟩
end Cmp5
namespace Cmp3
def yN : MethodName := ⟨"java/lang/StringUTF16", "compress", "([CII)[B"⟩
abbrev yB : ByteArray := jdk_52_method_16_code
theorem d0 : decode yB 0 = .ok (.iload_n 2, 1) := by decide +kernel
theorem d1 : decode yB 1 = .ok (.newarray .byte, 2) := by decide +kernel
theorem d3 : decode yB 3 = .ok (.astore_n 3, 1) := by decide +kernel
theorem d4 : decode yB 4 = .ok (.aload_n 0, 1) := by decide +kernel
theorem d5 : decode yB 5 = .ok (.iload_n 1, 1) := by decide +kernel
theorem d6 : decode yB 6 = .ok (.aload_n 3, 1) := by decide +kernel
theorem d7 : decode yB 7 = .ok (.iconst 0, 1) := by decide +kernel
theorem d8 : decode yB 8 = .ok (.iload_n 2, 1) := by decide +kernel
theorem d9 : decode yB 9 = .ok (.invokestatic 115, 3) := by decide +kernel
theorem d12 : decode yB 12 = .ok (.istore 4, 2) := by decide +kernel
theorem d14 : decode yB 14 = .ok (.iload 4, 2) := by decide +kernel
theorem d16 : decode yB 16 = .ok (.iload_n 2, 1) := by decide +kernel
theorem d17 : decode yB 17 = .ok (.if_icmp (.eq) 40, 3) := by decide +kernel
theorem d57 : decode yB 57 = .ok (.aload_n 3, 1) := by decide +kernel
theorem d58 : decode yB 58 = .ok (.areturn, 1) := by decide +kernel
def site : List Cond := [.arrayClass .byte, Cmp5.tab] ++ staticW U16 115 Cmp5.yN
def tab : Cond := tabOf yN yB 6 (some (.array .byte)) site
def P (b : Addr) (A : Cell) (o len : Nat) (args : Array Value) (s : State) : Prop := args = #[.ref b, .int (Int32.ofNat o), .int (Int32.ofNat len)] ∧ Ch b A s ∧ o + len ≤ A.slots.size ∧ len ≤ 536870912 ∧ ∀ i, i < len → ¬ 255 < cv A (o + i)
def E (b : Addr) (A : Cell) (o len : Nat) (r : Option Value) (s u : State) : Prop := NewArr .byte "[B" len (fun j => .int (lo8 (cv A (o + j)))) r s u ∧ u.heap.size = s.heap.size + 1
/-- no char of the range above 255: a new byte[] of their low bytes -/
theorem law (l : Launch) (b : Addr) (A : Cell) (o len : Nat) : Law l yN 3 3 1 18 yB 6 (some (.array .byte)) site (P b A o len) (E b A o len) [] 1 len := by
  refine Law.of_walk (plainFor_of_name (by decide +kernel)) (by decide +kernel) (by decide +kernel) (by decide) (fun _ _ h => by rw [h.1]; rfl) (fun _ U U' hal hh h => ⟨h.1, h.2.1.mv hal hh, h.2.2⟩) (fun r U U' V V' h1 hal h2 h => ⟨NewArr.mv r U U' V V' h1 hal h2 h.1, by rw [h1, h2]; exact h.2⟩) ?_
  intro p e s m args below meth c s₁ X0 hexec hbytes hml hret hlk hnm hown hh0 W hP
  obtain ⟨rfl, hA, l1, l2, hp⟩ := hP
  have a31 := hA.1.2.2.2
  have c1 : Steps p.tables e below (s₁.setTop (entryFrame m #[.ref b, .int (Int32.ofNat o), .int (Int32.ofNat len)] 6)) (s₁.setTop (mkF m 0 #[.val (.ref b), .val (.int (Int32.ofNat o)), .val (.int (Int32.ofNat len)), .unset, .unset, .unset] [])) := entry rfl
  have c2 : Steps p.tables e below (s₁.setTop (entryFrame m #[.ref b, .int (Int32.ofNat o), .int (Int32.ofNat len)] 6)) (s₁.setTop (mkF m 1 #[.val (.ref b), .val (.int (Int32.ofNat o)), .val (.int (Int32.ofNat len)), .unset, .unset, .unset] [.int (Int32.ofNat len)])) := c1.trans (by
    refine XS.iloadN X0.here hexec rfl (hb hbytes d0) rfl ?_
    exact Steps.refl _)
  obtain ⟨T3, B3, X3, ba3, bs3, bv3, bh3, bf3, st3⟩ := X0.anew hexec (atype := .byte) (wk W (.arrayClass .byte)) rfl (by show len * 1 ≤ _; omega) (by omega) (g := (mkF m 1 #[.val (.ref b), .val (.int (Int32.ofNat o)), .val (.int (Int32.ofNat len)), .unset, .unset, .unset] [.int (Int32.ofNat len)])) rfl (hb hbytes d1) (rest := []) rfl (Nat.le_refl _) (by show 0 + len ≤ len; omega)
  rw [hh0] at ba3 st3
  have kp3 : XT.Kept s T3 := (XT.Kept.of_eq hh0).push bh3
  have hA3 := hA.keep X3.warmed.alike (kp3 _ _ hA.1.1)
  have hne : b ≠ s.heap.size := hA.1.ne
  have c4 : Steps p.tables e below (s₁.setTop (entryFrame m #[.ref b, .int (Int32.ofNat o), .int (Int32.ofNat len)] 6)) (T3.setTop (mkF m 3 #[.val (.ref b), .val (.int (Int32.ofNat o)), .val (.int (Int32.ofNat len)), .unset, .unset, .unset] [.ref s.heap.size])) := c2.trans (st3 _ (Steps.refl _))
  have c5 : Steps p.tables e below (s₁.setTop (entryFrame m #[.ref b, .int (Int32.ofNat o), .int (Int32.ofNat len)] 6)) (T3.setTop (mkF m 9 #[.val (.ref b), .val (.int (Int32.ofNat o)), .val (.int (Int32.ofNat len)), .val (.ref s.heap.size), .unset, .unset] [.int (Int32.ofNat len), .int 0, .ref s.heap.size, .int (Int32.ofNat o), .ref b])) := c4.trans (by
    refine XS.astoreN X3.here hexec rfl (hb hbytes d3) rfl rfl rfl ?_
    refine XS.aloadN X3.here hexec rfl (hb hbytes d4) rfl rfl ?_
    refine XS.iloadN X3.here hexec rfl (hb hbytes d5) rfl ?_
    refine XS.aloadN X3.here hexec rfl (hb hbytes d6) rfl rfl ?_
    refine iconstV X3.here hexec rfl 0 (hb hbytes d7) (by decide) ?_
    refine XS.iloadN X3.here hexec rfl (hb hbytes d8) rfl ?_
    exact Steps.refl _)
  obtain ⟨v6, T6, X6, E6, g6⟩ := X3.callS hexec (Cmp5.law l b A s.heap.size B3 o 0 len) hown (wks W (staticW U16 115 Cmp5.yN)) (wk W Cmp5.tab) (W := 0) (Nat.le_of_ble_eq_true rfl) (Nat.le_of_ble_eq_true rfl) (Nat.le_refl _) (by show 0 + len + 0 ≤ len; omega) (g := (mkF m 9 #[.val (.ref b), .val (.int (Int32.ofNat o)), .val (.int (Int32.ofNat len)), .val (.ref s.heap.size), .unset, .unset] [.int (Int32.ofNat len), .int (Int32.ofNat 0), .ref s.heap.size, .int (Int32.ofNat o), .ref b])) rfl (by rw [hml]; rfl) c5 (argsL := [.ref b, .int (Int32.ofNat o), .ref s.heap.size, .int (Int32.ofNat 0), .int (Int32.ofNat len)]) (rest := []) rfl rfl (by show 2 * 0 + 0 ≤ _; decide) (hb hbytes d9) (⟨rfl, hA3, ba3, hne, l1, by rw [bs3]; simp, hp⟩)
  obtain ⟨rfl, B6, p6, f6⟩ := E6
  have c7 : Steps p.tables e below (s₁.setTop (entryFrame m #[.ref b, .int (Int32.ofNat o), .int (Int32.ofNat len)] 6)) (T6.setTop (mkF m 12 #[.val (.ref b), .val (.int (Int32.ofNat o)), .val (.int (Int32.ofNat len)), .val (.ref s.heap.size), .unset, .unset] [.int (Int32.ofNat len)])) := g6
  have c8 : Steps p.tables e below (s₁.setTop (entryFrame m #[.ref b, .int (Int32.ofNat o), .int (Int32.ofNat len)] 6)) (T6.setTop (mkF m 58 #[.val (.ref b), .val (.int (Int32.ofNat o)), .val (.int (Int32.ofNat len)), .val (.ref s.heap.size), .val (.int (Int32.ofNat len)), .unset] [.ref s.heap.size])) := c7.trans (by
    refine XS.istore X6.here hexec rfl (hb hbytes d12) rfl rfl ?_
    refine XS.iload X6.here hexec rfl (hb hbytes d14) rfl ?_
    refine XS.iloadN X6.here hexec rfl (hb hbytes d16) rfl ?_
    refine XS.icmpYes X6.here hexec rfl (pc0 := 17) rfl (hb hbytes d17) rfl (ii_eq_t rfl) (by decide) rfl ?_
    refine XS.aloadN X6.here hexec rfl (hb hbytes d57) rfl rfl ?_
    exact Steps.refl _)
  have X8 := X6.wide (L' := []) (cells' := 1) (slots' := len) (fun x hx hlt => by
    simp only [List.nil_append, copyLocs, List.mem_map, List.mem_range] at hx
    obtain ⟨i, -, rfl⟩ := hx
    exact absurd hlt (Nat.lt_irrefl _)) (Nat.le_refl _) (by omega)
  exact ⟨T6, some (.ref s.heap.size), _, _, _, X8, rfl, rfl, rfl, (fun h => by cases h), ⟨⟨rfl, B6, ba3.like (X3.warmed.alike.symm.trans X6.warmed.alike) p6.1 f6.1 f6.2.1 f6.2.2.1, f6.2.1.trans bv3, by rw [X6.warmed.alike.findClass, f6.1]; exact bf3, by rw [f6.2.2.1, bs3]; simp, fun j hj => by rw [f6.2.2.2 j, if_pos (by omega)]; rfl, kp3.put p6 (Nat.le_refl _)⟩, by rw [p6.2.2, bh3, hh0]; simp⟩, fun fs hl => c8.trans (X8.areturnOut hexec rfl hret rfl (hb hbytes d58) hl)⟩
end Cmp3
namespace CodL
def yN : MethodName := ⟨"java/lang/StringUTF16", "coderFromArrayLen", "([BI)B"⟩
abbrev yB : ByteArray := jdk_52_method_15_code
theorem d0 : decode yB 0 = .ok (.iload_n 1, 1) := by decide +kernel
theorem d1 : decode yB 1 = .ok (.aload_n 0, 1) := by decide +kernel
theorem d2 : decode yB 2 = .ok (.arraylength, 1) := by decide +kernel
theorem d3 : decode yB 3 = .ok (.isub, 1) := by decide +kernel
theorem d4 : decode yB 4 = .ok (.bipush 31, 2) := by decide +kernel
theorem d6 : decode yB 6 = .ok (.iushr, 1) := by decide +kernel
theorem d7 : decode yB 7 = .ok (.i2b, 1) := by decide +kernel
theorem d8 : decode yB 8 = .ok (.ireturn, 1) := by decide +kernel
def site : List Cond := []
def tab : Cond := tabOf yN yB 2 (some .byte) site
def P (d : Addr) (B : Cell) (args : Array Value) (s : State) : Prop := args = #[.ref d, .int (Int32.ofNat B.slots.size)] ∧ Arr .byte d B s
def E (r : Option Value) (s u : State) : Prop := XT.PureE (some (.int 0)) r s u
/-- an array as long as the number of chars: LATIN1 -/
theorem law (l : Launch) (d : Addr) (B : Cell) : Law l yN 2 2 0 0 yB 2 (some .byte) site (P d B) E [] 0 0 := by
  refine Law.of_walk (plainFor_of_name (by decide +kernel)) (by decide +kernel) (by decide +kernel) (by decide) (fun _ _ h => by rw [h.1]; rfl) (fun _ U U' hal hh h => ⟨h.1, h.2.mv hal hh⟩) (fun r U U' V V' h1 hal h2 h => XT.PureE.mv r U U' V V' h1 hal h2 h) ?_
  intro p e s m args below meth c s₁ X0 hexec hbytes hml hret hlk hnm hown hh0 W hP
  obtain ⟨rfl, hB⟩ := hP
  have hB0 := hB.mv X0.warmed.alike hh0
  have c1 : Steps p.tables e below (s₁.setTop (entryFrame m #[.ref d, .int (Int32.ofNat B.slots.size)] 2)) (s₁.setTop (mkF m 0 #[.val (.ref d), .val (.int (Int32.ofNat B.slots.size))] [])) := entry rfl
  have c2 : Steps p.tables e below (s₁.setTop (entryFrame m #[.ref d, .int (Int32.ofNat B.slots.size)] 2)) (s₁.setTop (mkF m 2 #[.val (.ref d), .val (.int (Int32.ofNat B.slots.size))] [.ref d, .int (Int32.ofNat B.slots.size)])) := c1.trans (by
    refine XS.iloadN X0.here hexec rfl (hb hbytes d0) rfl ?_
    refine XS.aloadN X0.here hexec rfl (hb hbytes d1) rfl rfl ?_
    exact Steps.refl _)
  have c3 : Steps p.tables e below (s₁.setTop (entryFrame m #[.ref d, .int (Int32.ofNat B.slots.size)] 2)) (s₁.setTop (mkF m 8 #[.val (.ref d), .val (.int (Int32.ofNat B.slots.size))] [.int (lo8 (ushr (Int32.ofNat B.slots.size - Int32.ofNat B.slots.size) 31))])) := c2.trans (by
    refine X0.alen hexec hB0 rfl rfl (hb hbytes d2) ?_
    refine XS.isub X0.here hexec rfl (hb hbytes d3) rfl ?_
    refine bipushV X0.here hexec rfl 31 (hb hbytes d4) (by decide) ?_
    refine iushr X0.here hexec rfl (hb hbytes d6) rfl ?_
    refine i2b X0.here hexec rfl (hb hbytes d7) rfl ?_
    exact Steps.refl _)
  have e0 : lo8 (ushr (Int32.ofNat B.slots.size - Int32.ofNat B.slots.size) 31) = 0 := by rw [Int32.sub_self]; decide
  rw [e0] at c3
  exact ⟨s₁, some (.int 0), _, _, _, X0, rfl, rfl, rfl, (fun h => by cases h), ⟨rfl, hh0⟩, fun fs hl => c3.trans (X0.ireturnOut hexec hret rfl (Or.inr (Or.inr (Or.inl rfl))) (hb hbytes d8) hl)⟩
end CodL
/-- the String at a is Latin-1 over a new byte[] (the heap's one new cell): the low bytes of the len chars of A from o on; every cell but a is kept -/
def Got (a : Addr) (D : Cell) (fV fC : Field) (A : Cell) (o len : Nat) (r : Option Value) (s u : State) : Prop := r = none ∧ ∃ D' V : Cell, Blank "java/lang/String" a D' u ∧ Same D D' [fV.slot, fC.slot] ∧ D'.slots[fV.slot]? = some (.ref s.heap.size) ∧ D'.slots[fC.slot]? = some (.int 0) ∧ Arr .byte s.heap.size V u ∧ V.vm = .none ∧ u.vm.findClass "[B" = some V.cls ∧ V.slots.size = len ∧ (∀ j, j < len → V.slots[j]? = some (.int (lo8 (cv A (o + j))))) ∧ (∀ (y : Addr) (c : Cell), y ≠ a → s.heap[y]? = some c → u.heap[y]? = some c) ∧ u.heap.size = s.heap.size + 1
theorem Got.mv {a : Addr} {D A : Cell} {fV fC : Field} {o len : Nat} : ∀ r (U U' V V' : State), U'.heap = U.heap → V.vm.Alike V'.vm → V'.heap = V.heap → Got a D fV fC A o len r U V → Got a D fV fC A o len r U' V' :=
  fun r U U' V V' h1 hal h2 ⟨e0, D', X, a1, a2, a3, a4, a5, a6, a7, a8, a9, a10, a11⟩ => ⟨e0, D', X, a1.mv hal h2, a2, by rw [h1]; exact a3, a4, by rw [h1]; exact a5.mv hal h2, a6, by rw [hal.findClass]; exact a7, a8, a9, by rw [h1, h2]; exact a10, by rw [h1, h2]; exact a11⟩
namespace New4
def yN : MethodName := ⟨"java/lang/String", "<init>", "([CIILjava/lang/Void;)V"⟩
abbrev yB : ByteArray := jdk_42_method_149_code
theorem d0 : decode yB 0 = .ok (.aload_n 0, 1) := by decide +kernel
theorem d1 : decode yB 1 = .ok (.invokespecial 1, 3) := by decide +kernel
theorem d4 : decode yB 4 = .ok (.iload_n 3, 1) := by decide +kernel
theorem d5 : decode yB 5 = .ok (.ifCond (.ne) 22, 3) := by decide +kernel
theorem d27 : decode yB 27 = .ok (.getstatic 38, 3) := by decide +kernel
theorem d30 : decode yB 30 = .ok (.ifCond (.eq) 28, 3) := by decide +kernel
theorem d33 : decode yB 33 = .ok (.aload_n 1, 1) := by decide +kernel
theorem d34 : decode yB 34 = .ok (.iload_n 2, 1) := by decide +kernel
theorem d35 : decode yB 35 = .ok (.iload_n 3, 1) := by decide +kernel
theorem d36 : decode yB 36 = .ok (.invokestatic 177, 3) := by decide +kernel
theorem d39 : decode yB 39 = .ok (.astore 5, 2) := by decide +kernel
theorem d41 : decode yB 41 = .ok (.aload_n 0, 1) := by decide +kernel
theorem d42 : decode yB 42 = .ok (.aload 5, 2) := by decide +kernel
theorem d44 : decode yB 44 = .ok (.iload_n 3, 1) := by decide +kernel
theorem d45 : decode yB 45 = .ok (.invokestatic 47, 3) := by decide +kernel
theorem d48 : decode yB 48 = .ok (.putfield 15, 3) := by decide +kernel
theorem d51 : decode yB 51 = .ok (.aload_n 0, 1) := by decide +kernel
theorem d52 : decode yB 52 = .ok (.aload 5, 2) := by decide +kernel
theorem d54 : decode yB 54 = .ok (.putfield 9, 3) := by decide +kernel
theorem d57 : decode yB 57 = .ok (.return_, 1) := by decide +kernel
def site : List Cond := [.fieldLink "java/lang/String" 38 "java/lang/String" "COMPACT_STRINGS" "Z", Cmp3.tab, CodL.tab, .laysFinal "java/lang/String" "java/lang/String" "value" "[B", .fieldLink "java/lang/String" 9 "java/lang/String" "value" "[B", .laysFinal "java/lang/String" "java/lang/String" "coder" "B", .fieldLink "java/lang/String" 15 "java/lang/String" "coder" "B"] ++ objW "java/lang/String" 1 ++ staticW "java/lang/String" 177 Cmp3.yN ++ staticW "java/lang/String" 47 CodL.yN
def tab : Cond := tabOf yN yB 6 none site
def P (a : Addr) (D : Cell) (fV fC : Field) (b : Addr) (A : Cell) (z : Int32) (o len : Nat) (args : Array Value) (s : State) : Prop := args = #[.ref a, .ref b, .int (Int32.ofNat o), .int (Int32.ofNat len), .null] ∧ Blank "java/lang/String" a D s ∧ Found "java/lang/String" "value" "[B" fV s ∧ Found "java/lang/String" "coder" "B" fC s ∧ Ch b A s ∧ StaticIs s "java/lang/String" "COMPACT_STRINGS" "Z" (.int z) ∧ ¬ z = 0 ∧ 0 < len ∧ o + len ≤ A.slots.size ∧ len ≤ 536870912 ∧ ∀ i, i < len → ¬ 255 < cv A (o + i)
def E (a : Addr) (D : Cell) (fV fC : Field) (A : Cell) (o len : Nat) (r : Option Value) (s u : State) : Prop := Got a D fV fC A o len r s u
/-- len > 0, no char of the range above 255: a Latin-1 String of their low bytes -/
theorem law (l : Launch) (a : Addr) (D : Cell) (fV fC : Field) (b : Addr) (A : Cell) (z : Int32) (o len : Nat) : Law l yN 5 4 2 35 yB 6 none site (P a D fV fC b A z o len) (E a D fV fC A o len) [⟨a, fC.slot⟩, ⟨a, fV.slot⟩] 1 len := by
  refine Law.of_walk (plainFor_of_name (by decide +kernel)) (by decide +kernel) (by decide +kernel) (by decide) (fun _ _ h => by rw [h.1]; rfl) (fun _ U U' hal hh h => ⟨h.1, h.2.1.mv hal hh, h.2.2.1.al hal, h.2.2.2.1.al hal, h.2.2.2.2.1.mv hal hh, h.2.2.2.2.2.1.there hal hh, h.2.2.2.2.2.2⟩) (fun r U U' V V' h1 hal h2 h => Got.mv r U U' V V' h1 hal h2 h) ?_
  intro p e s m args below meth c s₁ X0 hexec hbytes hml hret hlk hnm hown hh0 W hP
  obtain ⟨rfl, hB, f1, f2, hA, s1, hz, l0, l1, l2, hp⟩ := hP
  have a31 := hA.1.2.2.2
  have c1 : Steps p.tables e below (s₁.setTop (entryFrame m #[.ref a, .ref b, .int (Int32.ofNat o), .int (Int32.ofNat len), .null] 6)) (s₁.setTop (mkF m 0 #[.val (.ref a), .val (.ref b), .val (.int (Int32.ofNat o)), .val (.int (Int32.ofNat len)), .val .null, .unset] [])) := entry rfl
  have c2 : Steps p.tables e below (s₁.setTop (entryFrame m #[.ref a, .ref b, .int (Int32.ofNat o), .int (Int32.ofNat len), .null] 6)) (s₁.setTop (mkF m 1 #[.val (.ref a), .val (.ref b), .val (.int (Int32.ofNat o)), .val (.int (Int32.ofNat len)), .val .null, .unset] [.ref a])) := c1.trans (by
    refine XS.aloadN X0.here hexec rfl (hb hbytes d0) rfl rfl ?_
    exact Steps.refl _)
  obtain ⟨T3, X3, q3, st3⟩ := X0.oinit hexec hown (wks W (objW "java/lang/String" 1)) (g := (mkF m 1 #[.val (.ref a), .val (.ref b), .val (.int (Int32.ofNat o)), .val (.int (Int32.ofNat len)), .val .null, .unset] [.ref a])) rfl (by rw [hml]; rfl) (rest := []) rfl (hb hbytes d1) (W := 0) (by show 2 * 0 + 0 ≤ _; decide) (Nat.le_of_ble_eq_true rfl) (Nat.le_of_ble_eq_true rfl)
  have hh3 := q3.trans hh0
  have c4 : Steps p.tables e below (s₁.setTop (entryFrame m #[.ref a, .ref b, .int (Int32.ofNat o), .int (Int32.ofNat len), .null] 6)) (T3.setTop (mkF m 27 #[.val (.ref a), .val (.ref b), .val (.int (Int32.ofNat o)), .val (.int (Int32.ofNat len)), .val .null, .unset] [])) := (c2.trans (st3 _ (Steps.refl _))).trans (by
    refine XS.iloadN X3.here hexec rfl (hb hbytes d4) rfl ?_
    refine XS.ifYes X3.here hexec rfl (pc0 := 5) rfl (hb hbytes d5) rfl (i0_ne_t (nz32 (by omega) l0)) (by decide) rfl ?_
    exact Steps.refl _)
  obtain ⟨T5, X5, q5, st5⟩ := X3.sget hexec hown (wk W (.fieldLink "java/lang/String" 38 "java/lang/String" "COMPACT_STRINGS" "Z")) s1 (fun _ _ h => by rw [hh3]; exact h) (g := (mkF m 27 #[.val (.ref a), .val (.ref b), .val (.int (Int32.ofNat o)), .val (.int (Int32.ofNat len)), .val .null, .unset] [])) rfl (hb hbytes d27)
  have hh5 := q5.trans hh3
  have c6 : Steps p.tables e below (s₁.setTop (entryFrame m #[.ref a, .ref b, .int (Int32.ofNat o), .int (Int32.ofNat len), .null] 6)) (T5.setTop (mkF m 30 #[.val (.ref a), .val (.ref b), .val (.int (Int32.ofNat o)), .val (.int (Int32.ofNat len)), .val .null, .unset] [.int z])) := c4.trans (st5 _ (Steps.refl _))
  have c7 : Steps p.tables e below (s₁.setTop (entryFrame m #[.ref a, .ref b, .int (Int32.ofNat o), .int (Int32.ofNat len), .null] 6)) (T5.setTop (mkF m 36 #[.val (.ref a), .val (.ref b), .val (.int (Int32.ofNat o)), .val (.int (Int32.ofNat len)), .val .null, .unset] [.int (Int32.ofNat len), .int (Int32.ofNat o), .ref b])) := c6.trans (by
    refine XS.ifNo X5.here hexec rfl (hb hbytes d30) rfl (i0_eq_f hz) ?_
    refine XS.aloadN X5.here hexec rfl (hb hbytes d33) rfl rfl ?_
    refine XS.iloadN X5.here hexec rfl (hb hbytes d34) rfl ?_
    refine XS.iloadN X5.here hexec rfl (hb hbytes d35) rfl ?_
    exact Steps.refl _)
  obtain ⟨v8, T8, X8, E8, g8⟩ := X5.callS hexec (Cmp3.law l b A o len) hown (wks W (staticW "java/lang/String" 177 Cmp3.yN)) (wk W Cmp3.tab) (W := 0) (Nat.le_of_ble_eq_true rfl) (Nat.le_of_ble_eq_true rfl) (Nat.le_refl _) (by show 0 + len ≤ len; omega) (g := (mkF m 36 #[.val (.ref a), .val (.ref b), .val (.int (Int32.ofNat o)), .val (.int (Int32.ofNat len)), .val .null, .unset] [.int (Int32.ofNat len), .int (Int32.ofNat o), .ref b])) rfl (by rw [hml]; rfl) c7 (argsL := [.ref b, .int (Int32.ofNat o), .int (Int32.ofNat len)]) (rest := []) rfl rfl (by show 2 * 0 + 0 ≤ _; decide) (hb hbytes d36) (⟨rfl, hA.mv X5.warmed.alike hh5, l1, l2, hp⟩)
  obtain ⟨e8, z8⟩ := E8
  obtain ⟨rfl, N, n1, n2, n3, n4, n5, n6⟩ := NewArr.mv _ T5 s _ _ hh5.symm (Vm.Alike.refl _) rfl e8
  rw [hh5] at z8
  have hB1 := hB.keep X8.warmed.alike (n6 _ _ hB.1)
  have hne : s.heap.size ≠ a := (Nat.ne_of_lt (Array.getElem?_eq_some_iff.mp hB.1).1).symm
  have c9 : Steps p.tables e below (s₁.setTop (entryFrame m #[.ref a, .ref b, .int (Int32.ofNat o), .int (Int32.ofNat len), .null] 6)) (T8.setTop (mkF m 39 #[.val (.ref a), .val (.ref b), .val (.int (Int32.ofNat o)), .val (.int (Int32.ofNat len)), .val .null, .unset] [.ref s.heap.size])) := g8
  have c10 : Steps p.tables e below (s₁.setTop (entryFrame m #[.ref a, .ref b, .int (Int32.ofNat o), .int (Int32.ofNat len), .null] 6)) (T8.setTop (mkF m 45 #[.val (.ref a), .val (.ref b), .val (.int (Int32.ofNat o)), .val (.int (Int32.ofNat len)), .val .null, .val (.ref s.heap.size)] [.int (Int32.ofNat N.slots.size), .ref s.heap.size, .ref a])) := by
    have hc : Steps p.tables e below (s₁.setTop (entryFrame m #[.ref a, .ref b, .int (Int32.ofNat o), .int (Int32.ofNat len), .null] 6)) (T8.setTop (mkF m 45 #[.val (.ref a), .val (.ref b), .val (.int (Int32.ofNat o)), .val (.int (Int32.ofNat len)), .val .null, .val (.ref s.heap.size)] [.int (Int32.ofNat len), .ref s.heap.size, .ref a])) := c9.trans (by
      refine XS.astore X8.here hexec rfl (hb hbytes d39) rfl rfl rfl ?_
      refine XS.aloadN X8.here hexec rfl (hb hbytes d41) rfl rfl ?_
      refine XS.aload X8.here hexec rfl (hb hbytes d42) rfl rfl ?_
      refine XS.iloadN X8.here hexec rfl (hb hbytes d44) rfl ?_
      exact Steps.refl _)
    rw [n4]; exact hc
  obtain ⟨v11, T11, X11, E11, g11⟩ := X8.callS hexec (CodL.law l s.heap.size N) hown (wks W (staticW "java/lang/String" 47 CodL.yN)) (wk W CodL.tab) (W := 1) (Nat.le_of_ble_eq_true rfl) (Nat.le_of_ble_eq_true rfl) (Nat.le_refl _) (by show 0 + len + 0 ≤ len; omega) (g := (mkF m 45 #[.val (.ref a), .val (.ref b), .val (.int (Int32.ofNat o)), .val (.int (Int32.ofNat len)), .val .null, .val (.ref s.heap.size)] [.int (Int32.ofNat N.slots.size), .ref s.heap.size, .ref a])) rfl (by rw [hml]; rfl) c10 (argsL := [.ref s.heap.size, .int (Int32.ofNat N.slots.size)]) (rest := [.ref a]) rfl rfl (by show 2 * 0 + (1 + 0) ≤ _; decide) (hb hbytes d45) (⟨rfl, n1⟩)
  obtain ⟨rfl, q11⟩ := E11
  have hB11 := hB1.mv (X8.warmed.alike.symm.trans X11.warmed.alike) q11
  have c12 : Steps p.tables e below (s₁.setTop (entryFrame m #[.ref a, .ref b, .int (Int32.ofNat o), .int (Int32.ofNat len), .null] 6)) (T11.setTop (mkF m 48 #[.val (.ref a), .val (.ref b), .val (.int (Int32.ofNat o)), .val (.int (Int32.ofNat len)), .val .null, .val (.ref s.heap.size)] [.int 0, .ref a])) := g11
  obtain ⟨T13, X13, p13, bl13, sl13, st13⟩ := X11.finit hexec hown (wk W (.fieldLink "java/lang/String" 15 "java/lang/String" "coder" "B")) (Or.inr ⟨_, (wk W (.laysFinal "java/lang/String" "java/lang/String" "coder" "B"))⟩) (Or.inl ⟨rfl, hnm⟩) f2 (Or.inl rfl) hB11 (t := .byte) (by decide +kernel) rfl (g := (mkF m 48 #[.val (.ref a), .val (.ref b), .val (.int (Int32.ofNat o)), .val (.int (Int32.ofNat len)), .val .null, .val (.ref s.heap.size)] [.int 0, .ref a])) rfl (rest := []) rfl (hb hbytes d48)
  have c14 : Steps p.tables e below (s₁.setTop (entryFrame m #[.ref a, .ref b, .int (Int32.ofNat o), .int (Int32.ofNat len), .null] 6)) (T13.setTop (mkF m 54 #[.val (.ref a), .val (.ref b), .val (.int (Int32.ofNat o)), .val (.int (Int32.ofNat len)), .val .null, .val (.ref s.heap.size)] [.ref s.heap.size, .ref a])) := (c12.trans (st13 _ (Steps.refl _))).trans (by
    refine XS.aloadN X13.here hexec rfl (hb hbytes d51) rfl rfl ?_
    refine XS.aload X13.here hexec rfl (hb hbytes d52) rfl rfl ?_
    exact Steps.refl _)
  obtain ⟨T15, X15, p15, bl15, sl15, st15⟩ := X13.finit hexec hown (wk W (.fieldLink "java/lang/String" 9 "java/lang/String" "value" "[B")) (Or.inr ⟨_, (wk W (.laysFinal "java/lang/String" "java/lang/String" "value" "[B"))⟩) (Or.inl ⟨rfl, hnm⟩) f1 (Or.inl rfl) bl13 (t := (.array .byte)) (by decide +kernel) rfl (g := (mkF m 54 #[.val (.ref a), .val (.ref b), .val (.int (Int32.ofNat o)), .val (.int (Int32.ofNat len)), .val .null, .val (.ref s.heap.size)] [.ref s.heap.size, .ref a])) rfl (rest := []) rfl (hb hbytes d54)
  have c16 : Steps p.tables e below (s₁.setTop (entryFrame m #[.ref a, .ref b, .int (Int32.ofNat o), .int (Int32.ofNat len), .null] 6)) (T15.setTop (mkF m 57 #[.val (.ref a), .val (.ref b), .val (.int (Int32.ofNat o)), .val (.int (Int32.ofNat len)), .val .null, .val (.ref s.heap.size)] [])) := c14.trans (st15 _ (Steps.refl _))
  have ap := apart (Or.inr ⟨_, (wk W (.laysFinal "java/lang/String" "java/lang/String" "value" "[B"))⟩) (Or.inr ⟨_, (wk W (.laysFinal "java/lang/String" "java/lang/String" "coder" "B"))⟩) f1 f2 (t₁ := .array .byte) (t₂ := .byte) (by decide +kernel) (by decide +kernel) (by decide)
  have al := X8.warmed.alike.symm.trans X15.warmed.alike
  have n7 : T11.heap[s.heap.size]? = some N := by rw [q11]; exact n1.1
  exact ⟨T15, none, _, _, _, X15, by simp, rfl, by omega, (fun _ => rfl), ⟨rfl, _, N, bl15, ((Same.refl D _).set _ (by simp)).set _ (by simp), sl15, (Cell.slots_setSlot_ne _ ap).trans sl13, n1.keep al (p15.other hne (p13.other hne n7)), n2, by rw [al.findClass]; exact n3, n4, n5, fun y c h1 h2 => p15.other h1 (p13.other h1 (by rw [q11]; exact n6 y c h2)), by rw [p15.2.2, p13.2.2, q11]; exact z8⟩, fun fs hl => c16.trans (X15.returnOut hexec hret (hb hbytes d57) hl)⟩
end New4
namespace New1
def yN : MethodName := ⟨"java/lang/String", "<init>", "([C)V"⟩
abbrev yB : ByteArray := jdk_42_method_3_code
theorem d0 : decode yB 0 = .ok (.aload_n 0, 1) := by decide +kernel
theorem d1 : decode yB 1 = .ok (.aload_n 1, 1) := by decide +kernel
theorem d2 : decode yB 2 = .ok (.iconst 0, 1) := by decide +kernel
theorem d3 : decode yB 3 = .ok (.aload_n 1, 1) := by decide +kernel
theorem d4 : decode yB 4 = .ok (.arraylength, 1) := by decide +kernel
theorem d5 : decode yB 5 = .ok (.aconst_null, 1) := by decide +kernel
theorem d6 : decode yB 6 = .ok (.invokespecial 27, 3) := by decide +kernel
theorem d9 : decode yB 9 = .ok (.return_, 1) := by decide +kernel
def site : List Cond := [New4.tab] ++ initW "java/lang/String" 27 New4.yN
def tab : Cond := tabOf yN yB 2 none site
def P (a : Addr) (D : Cell) (fV fC : Field) (b : Addr) (A : Cell) (z : Int32) (args : Array Value) (s : State) : Prop := args = #[.ref a, .ref b] ∧ Blank "java/lang/String" a D s ∧ Found "java/lang/String" "value" "[B" fV s ∧ Found "java/lang/String" "coder" "B" fC s ∧ Ch b A s ∧ StaticIs s "java/lang/String" "COMPACT_STRINGS" "Z" (.int z) ∧ ¬ z = 0 ∧ 0 < A.slots.size ∧ A.slots.size ≤ 536870912 ∧ ∀ i, i < A.slots.size → ¬ 255 < cv A i
def E (a : Addr) (D : Cell) (fV fC : Field) (A : Cell) (r : Option Value) (s u : State) : Prop := Got a D fV fC A 0 A.slots.size r s u
/-- new String(chars), not empty, no char above 255: a Latin-1 String of their low bytes -/
theorem law (l : Launch) (a : Addr) (D : Cell) (fV fC : Field) (b : Addr) (A : Cell) (z : Int32) : Law l yN 2 1 3 52 yB 2 none site (P a D fV fC b A z) (E a D fV fC A) [⟨a, fC.slot⟩, ⟨a, fV.slot⟩] 1 A.slots.size := by
  refine Law.of_walk (plainFor_of_name (by decide +kernel)) (by decide +kernel) (by decide +kernel) (by decide) (fun _ _ h => by rw [h.1]; rfl) (fun _ U U' hal hh h => ⟨h.1, h.2.1.mv hal hh, h.2.2.1.al hal, h.2.2.2.1.al hal, h.2.2.2.2.1.mv hal hh, h.2.2.2.2.2.1.there hal hh, h.2.2.2.2.2.2⟩) (fun r U U' V V' h1 hal h2 h => Got.mv r U U' V V' h1 hal h2 h) ?_
  intro p e s m args below meth c s₁ X0 hexec hbytes hml hret hlk hnm hown hh0 W hP
  obtain ⟨rfl, hB, f1, f2, hA, s1, hz, l0, l2, hp⟩ := hP
  have c1 : Steps p.tables e below (s₁.setTop (entryFrame m #[.ref a, .ref b] 2)) (s₁.setTop (mkF m 0 #[.val (.ref a), .val (.ref b)] [])) := entry rfl
  have c2 : Steps p.tables e below (s₁.setTop (entryFrame m #[.ref a, .ref b] 2)) (s₁.setTop (mkF m 6 #[.val (.ref a), .val (.ref b)] [.null, .int (Int32.ofNat A.slots.size), .int 0, .ref b, .ref a])) := c1.trans (by
    refine XS.aloadN X0.here hexec rfl (hb hbytes d0) rfl rfl ?_
    refine XS.aloadN X0.here hexec rfl (hb hbytes d1) rfl rfl ?_
    refine iconstV X0.here hexec rfl 0 (hb hbytes d2) (by decide) ?_
    refine XS.aloadN X0.here hexec rfl (hb hbytes d3) rfl rfl ?_
    refine X0.alen hexec (hA.1.mv X0.warmed.alike hh0) rfl rfl (hb hbytes d4) ?_
    refine XS.aconstNull X0.here hexec rfl (hb hbytes d5) ?_
    exact Steps.refl _)
  obtain ⟨v3, T3, X3, E3, g3⟩ := X0.callN hexec (New4.law l a D fV fC b A z 0 A.slots.size) rfl hown (wks W (initW "java/lang/String" 27 New4.yN)) (W New4.tab (by simp only [site, List.mem_cons, List.mem_append, true_or, or_true])) (W := 0) (Nat.le_of_ble_eq_true rfl) (Nat.le_of_ble_eq_true rfl) (Nat.le_refl _) (by show 0 + A.slots.size ≤ A.slots.size; omega) (g := (mkF m 6 #[.val (.ref a), .val (.ref b)] [.null, .int (Int32.ofNat A.slots.size), .int (Int32.ofNat 0), .ref b, .ref a])) rfl (by rw [hml]; rfl) c2 (argsL := [.ref b, .int (Int32.ofNat 0), .int (Int32.ofNat A.slots.size), .null]) (rest := []) rfl rfl (by show 2 * 0 + 0 ≤ _; decide) (hb hbytes d6) (⟨rfl, hB.mv X0.warmed.alike hh0, f1.al X0.warmed.alike, f2.al X0.warmed.alike, hA.mv X0.warmed.alike hh0, s1.there X0.warmed.alike hh0, hz, l0, by omega, l2, fun i hi => by rw [Nat.zero_add]; exact hp i hi⟩)
  have e0 := Got.mv _ s₁ s _ _ hh0.symm (Vm.Alike.refl _) rfl E3
  obtain rfl := e0.1
  have c4 : Steps p.tables e below (s₁.setTop (entryFrame m #[.ref a, .ref b] 2)) (T3.setTop (mkF m 9 #[.val (.ref a), .val (.ref b)] [])) := g3
  exact ⟨T3, none, _, _, _, X3, by simp, rfl, by omega, (fun _ => rfl), e0, fun fs hl => c4.trans (X3.returnOut hexec hret (hb hbytes d9) hl)⟩
theorem pays {l : Launch} {R : Room} {p : Program} {e : Env} {below : List Frame} {s : State} {sargs : Array Value} {len W : Nat} (a : Addr) (D : Cell) (fV fC : Field) (b : Addr) (A : Cell) (z : Int32) (htab : tab.before sargs s = true) (hfr : 4 ≤ R.frames) (hlo : W + 65 ≤ R.locals) :
    Back l R p e below s sargs yN len W (fun A₁ a₁ => A₁.cells + 1 ≤ R.cells ∧ A₁.slots + A.slots.size ≤ R.slots ∧ P a D fV fC b A z a₁ A₁.U) (fun A₁ _ v₁ B₁ => E a D fV fC A v₁ A₁.U B₁.U ∧ B₁.locs = A₁.locs ++ [⟨a, fC.slot⟩, ⟨a, fV.slot⟩] ∧ B₁.cells = A₁.cells + 1 ∧ B₁.slots = A₁.slots + A.slots.size) :=
  (law l a D fV fC b A z).pays htab hfr (by omega)
end New1
end StrChars
namespace StrChars.Road
open Jvm Sem ClassFile Op Lib Jvm.Stand Jvm.Free Jvm.Free.XT
open Jvm.Lib.Cold (StaticIs)
abbrev ST : String := "java/lang/String"
/-- every table word that New1's law asks, flat -/
abbrev words : List Jvm.Cond := [.code New1.yN New1.yB 2 none, .initialized ST, .methodLink ST 27 New4.yN, .instanceMethod New4.yN,
  .code New4.yN New4.yB 6 none, .fieldLink ST 38 ST "COMPACT_STRINGS" "Z", .laysFinal ST ST "value" "[B", .fieldLink ST 9 ST "value" "[B", .laysFinal ST ST "coder" "B", .fieldLink ST 15 ST "coder" "B",
  .methodLink ST 1 Lib.objectInit, .instanceMethod Lib.objectInit, .code Lib.objectInit ⟨#[0xb1]⟩ 1 none, .methodLink ST 177 Cmp3.yN, .static Cmp3.yN, .methodLink ST 47 CodL.yN, .static CodL.yN,
  .code Cmp3.yN Cmp3.yB 6 (some (.array .byte)), .initialized U16, .arrayClass .byte, .methodLink U16 115 Cmp5.yN, .static Cmp5.yN, .code Cmp5.yN Cmp5.yB 7 (some .int), .code CodL.yN CodL.yB 2 (some .byte)]
theorem tab_of {a : Array Value} {s : State} (h : ∀ w ∈ words, w.before a s = true) : New1.tab.before a s = true := by
  have h5 : Cmp5.tab.before a s = true := unparts (wk h (.code Cmp5.yN Cmp5.yB 7 (some .int))) (wks h (.initialized Cmp5.yN.cls :: Cmp5.site))
  have hc : CodL.tab.before a s = true := unparts (wk h (.code CodL.yN CodL.yB 2 (some .byte))) (wks h (.initialized CodL.yN.cls :: CodL.site))
  have q5 : ∀ w ∈ Cmp5.tab :: words, w.before a s = true := fun w hw => (List.mem_cons.mp hw).elim (fun e => e ▸ h5) (h w)
  have h3 : Cmp3.tab.before a s = true := unparts (wk q5 (.code Cmp3.yN Cmp3.yB 6 (some (.array .byte)))) (wks q5 (.initialized Cmp3.yN.cls :: Cmp3.site))
  have q3 : ∀ w ∈ Cmp3.tab :: CodL.tab :: words, w.before a s = true := fun w hw => (List.mem_cons.mp hw).elim (fun e => e ▸ h3) fun hw => (List.mem_cons.mp hw).elim (fun e => e ▸ hc) (h w)
  have h4 : New4.tab.before a s = true := unparts (wk q3 (.code New4.yN New4.yB 6 none)) (wks q3 (.initialized New4.yN.cls :: New4.site))
  have q4 : ∀ w ∈ New4.tab :: words, w.before a s = true := fun w hw => (List.mem_cons.mp hw).elim (fun e => e ▸ h4) (h w)
  exact unparts (wk q4 (.code New1.yN New1.yB 2 none)) (wks q4 (.initialized New1.yN.cls :: New1.site))
/-- the words ride from the start Z to the walk's own state -/
theorem moved {Z s : State} {a0 args : Array Value} (hZ : Z.Warmed39 s.vm) (hw : ∀ d ∈ words, d.before a0 Z = true) : ∀ d ∈ words, d.before args s = true := fun d hd => by
  have q := hw d hd
  have t : ∀ d ∈ words, d = .arrayClass .byte ∨ (d.onTables && d.keepsFace) = true := by decide +kernel
  rcases t d hd with rfl | t
  · exact RoadKit.mvA hZ q
  · exact RoadKit.mv hZ q t
/-- WHAT COMES BACK, over the tables of the start Z: h the heap at the call, h' behind it -/
def Q (Z : State) (x : Addr) (A : Cell) (h : Heap) (v : Option Value) (h' : Heap) (L : List Loc) : Prop := v = none ∧ (∀ y ∈ L, y.base = x) ∧ RoadKit.Keep h h' [x] ∧ h'.size = h.size + 1 ∧ RoadKit.Exa Z h' x ST ∧ RoadKit.Fld Z h' x ST "value" "[B" (.ref h.size) ∧ RoadKit.Fld Z h' x ST "coder" "B" (.int 0) ∧
  (∃ V : Cell, RoadKit.Arr Z h' h.size V .byte ∧ V.vm = .none ∧ Z.vm.findClass "[B" = some V.cls ∧ V.slots.size = A.slots.size ∧ ∀ j, j < A.slots.size → V.slots[j]? = some (.int (lo8 (cv A j)))) ∧
  ∀ (O n d : String) (w : Value), RoadKit.Fld Z h x O n d w → RoadKit.slotOf Z O n d ≠ RoadKit.slotOf Z ST "value" "[B" → RoadKit.slotOf Z O n d ≠ RoadKit.slotOf Z ST "coder" "B" → RoadKit.Fld Z h' x O n d w
/-- **new String(chars) AT A CALL, IN THE ROAD'S FORM**: for specialBack behind newO: x the fresh String, b the char[] with the cell A -/
theorem back {p : Program} {l : Launch} {e : Env} {R : Room} {s : State} {args : Array Value} {below : List Frame} {len W : Nat} {Z : State} {a0 : Array Value} {h : Heap} (hZ : Z.Warmed39 s.vm) (hw : ∀ d ∈ words, d.before a0 Z = true) {kI : Nat} (wi : (Jvm.Cond.instantiable ST kI).before a0 Z = true)
    {x b : Addr} {A : Cell} {z : Int32} {v0 c0 : Value} (E : RoadKit.Exa Z h x ST) (V : RoadKit.Fld Z h x ST "value" "[B" v0) (C : RoadKit.Fld Z h x ST "coder" "B" c0) (K : RoadKit.Arr Z h b A .char) (hty : Typed .char A) (S : RoadKit.Sta Z h ST "COMPACT_STRINGS" "Z" (.int z)) (hz : ¬ z = 0)
    (l0 : 0 < A.slots.size) (l2 : A.slots.size ≤ 536870912) (hp : ∀ i, i < A.slots.size → ¬ 255 < cv A i) (hfr : 4 ≤ R.frames) (hlo : W + 65 ≤ R.locals) :
    Back l R p e below s args New1.yN len W (fun P a => a = #[.ref x, .ref b] ∧ P.U.heap = h ∧ P.cells + 1 ≤ R.cells ∧ P.slots + A.slots.size ≤ R.slots)
      (fun P _ v B => ∃ L, Q Z x A h v B.U.heap L ∧ B.locs = P.locs ++ L ∧ B.cells = P.cells + 1 ∧ B.slots = P.slots + A.slots.size) := by
  intro m meth c P g ig mk a X hg hsize hdg hW hn hp'
  obtain ⟨rfl, rfl, r1, r2⟩ := hp'
  have al : Z.vm.Alike P.U.vm := hZ.alike.trans X.warmed.alike
  obtain ⟨D, cfV, kV, iV, fV, hD, gV, stV, knV, obV, asV, slV⟩ := id V
  obtain ⟨D', cfC, kC, iC, fC, hD', gC, stC, -, -, asC, slC⟩ := id C
  cases hD.symm.trans hD'
  obtain ⟨D2, kD, e1, e2, e3, e4, e5⟩ := id E
  cases hD.symm.trans e1
  obtain ⟨c2, k2, i1, i2, i3, -⟩ := Cond.instantiable_spec wi
  cases e2.symm.trans i1
  cases e3.symm.trans i2
  obtain ⟨kU, u1, u2⟩ := al.2.2 _ _ e3
  have hB : Blank ST x D P.U := ⟨hD, ⟨knV, fun q hq => by rw [hq] at obV; cases obV⟩, by rw [al.findClass]; exact e2, kU, u1, by rw [u2]; exact i3, by rw [u2]; exact e5 i3⟩
  have F1 : Found ST "value" "[B" fV P.U := ⟨SBG.found_only al ⟨cfV, kV, iV, gV⟩, stV⟩
  have F2 : Found ST "coder" "B" fC P.U := ⟨SBG.found_only al ⟨cfC, kC, iC, gC⟩, stC⟩
  have hA : Ch b A P.U := ⟨⟨K.1, State.isArrayOf_alike al K.2.1, K.2.2, by omega⟩, hty⟩
  have hS : StaticIs P.U ST "COMPACT_STRINGS" "Z" (.int z) := by
    obtain ⟨cfS, iS, kS, fS, st, cS, t1, t2, t3, t4, t5, t6, t7⟩ := S
    exact StaticIs.there (s := { Z with heap := P.U.heap }) ⟨cfS, iS, kS, fS, st, cS, t1, t2, t3, t4, t5, (fun q => by rw [q] at t6; cases t6), t7⟩ al rfl
  obtain ⟨v, B, X', ⟨⟨hv, E', V', q1, q2, q3, q4, q5, q6, q7, q8, q9, q10, q11⟩, hl, hc, hs⟩, st⟩ := New1.pays x D fV fC b A z (tab_of (moved hZ hw)) hfr hlo m meth c P g ig mk _ X hg hsize hdg hW hn ⟨r1, r2, rfl, hB, F1, F2, hA, hS, hz, l0, l2, hp⟩
  have al' : Z.vm.Alike B.U.vm := hZ.alike.trans X'.warmed.alike
  have hsz : E'.slots.size = D.slots.size := by
    obtain ⟨-, -, -, kB, w1, w2, w3⟩ := q1
    obtain ⟨kB', y1, y2⟩ := al'.2.2 _ _ e3
    rw [q2.2.1] at w1
    cases w1.symm.trans y1
    rw [w3, e5 i3, y2]
  refine ⟨v, B, X', ⟨_, ⟨hv, ?_, ⟨by omega, fun y cy hy hn' => q10 y cy (by simpa using hn') hy, fun y cy hy => ?_⟩, q11, ⟨E', _, q1.1, by rw [q2.2.1]; exact e2, by rw [q2.2.1]; exact e3, by rw [q2.1]; exact obV, fun _ => by rw [hsz]; exact e5 i3⟩,
    ⟨E', cfV, kV, iV, fV, q1.1, gV, stV, by rw [q2.1]; exact knV, by rw [q2.1]; exact obV, by rw [q2.2.1]; exact asV, q3⟩, ⟨E', cfC, kC, iC, fC, q1.1, gC, stC, by rw [q2.1]; exact knV, by rw [q2.1]; exact obV, by rw [q2.2.1]; exact asC, q4⟩,
    ⟨V', ⟨q5.1, State.isArrayOf_alike al'.symm q5.2.1, q5.2.2.1⟩, q6, by rw [← al'.findClass]; exact q7, q8, fun j hj => by have := q9 j hj; rwa [Nat.zero_add] at this⟩, fun O n d w F n1 n2 => ?_⟩, hl, hc, hs⟩, st⟩
  · intro y hy
    simp only [List.mem_cons, List.not_mem_nil, or_false] at hy
    rcases hy with rfl | rfl <;> rfl
  · by_cases q : y = x
    · subst q
      cases hD.symm.trans hy
      exact ⟨E', q1.1, q2.2.1, q2.1, hsz⟩
    · exact ⟨cy, q10 y cy q hy, rfl, rfl, rfl⟩
  · obtain ⟨D3, cf, k, i, f, g1, g2, g3, g4, g5, g6, g7⟩ := F
    cases hD.symm.trans g1
    simp only [RoadKit.slotOf, g2, gV, gC, Option.map_some, Option.getD_some] at n1 n2
    exact ⟨E', cf, k, i, f, q1.1, g2, g3, by rw [q2.1]; exact g4, by rw [q2.1]; exact g5, by rw [q2.2.1]; exact g6, by rw [q2.2.2 f.slot (by simp [n1, n2])]; exact g7⟩
end StrChars.Road
namespace StrChars.Road
open Jvm Sem ClassFile Op Lib Jvm.Stand Jvm.Free Jvm.Free.XT
/-- WHAT COMES BACK, the byte[] as a list of values -/
def QA (Z : State) (x : Addr) (zn : Int32) (cs : List Int32) (h : Heap) (v : Option Value) (h' : Heap) (L : List Loc) : Prop := v = none ∧ (∀ y ∈ L, y.base = x) ∧ RoadKit.Keep h h' [x] ∧ h'.size = h.size + 1 ∧ RoadKit.Exa Z h' x ST ∧ RoadKit.Fld Z h' x ST "value" "[B" (.ref h.size) ∧ RoadKit.Fld Z h' x ST "coder" "B" (.int 0) ∧
  (∃ kb, Z.vm.findClass "[B" = some kb ∧ RoadKit.Arv Z h' h.size kb .byte zn (cs.map fun c => .int (lo8 c)) (.int 0)) ∧
  ∀ (O n d : String) (w : Value), RoadKit.Fld Z h x O n d w → RoadKit.slotOf Z O n d ≠ RoadKit.slotOf Z ST "value" "[B" → RoadKit.slotOf Z O n d ≠ RoadKit.slotOf Z ST "coder" "B" → RoadKit.Fld Z h' x O n d w
/-- **new String(chars) AT A CALL, THE ARRAYS AS LISTS**: the char[] at b holds cs, not empty, no char above 255 -/
theorem backArv {p : Program} {l : Launch} {e : Env} {R : Room} {s : State} {args : Array Value} {below : List Frame} {len W : Nat} {Z : State} {a0 : Array Value} {h : Heap} (hZ : Z.Warmed39 s.vm) (hw : ∀ d ∈ words, d.before a0 Z = true) {kI : Nat} (wi : (Jvm.Cond.instantiable ST kI).before a0 Z = true)
    {x b : Addr} {k : ClassId} {zn z : Int32} {cs : List Int32} {dv v0 c0 : Value} (E : RoadKit.Exa Z h x ST) (V : RoadKit.Fld Z h x ST "value" "[B" v0) (C : RoadKit.Fld Z h x ST "coder" "B" c0) (K : RoadKit.Arv Z h b k .char zn (cs.map Value.int) dv) (S : RoadKit.Sta Z h ST "COMPACT_STRINGS" "Z" (.int z)) (hz : ¬ z = 0)
    (hlen : zn.toNatClampNeg = cs.length) (h0 : 0 < cs.length) (hbig : cs.length ≤ 536870912) (hall : ∀ c ∈ cs, ¬ 255 < c) (hfr : 4 ≤ R.frames) (hlo : W + 65 ≤ R.locals) :
    Back l R p e below s args New1.yN len W (fun P a => a = #[.ref x, .ref b] ∧ P.U.heap = h ∧ P.cells + 1 ≤ R.cells ∧ P.slots + cs.length ≤ R.slots)
      (fun P _ v B => ∃ L, QA Z x zn cs h v B.U.heap L ∧ B.locs = P.locs ++ L ∧ B.cells = P.cells + 1 ∧ B.slots = P.slots + cs.length) := by
  obtain ⟨A, K1, K2, K3, K4, K5, K6⟩ := K
  have e : A.slots.size = cs.length := K3.trans hlen
  have hat : ∀ (i : Nat) (hi : i < cs.length), A.slots[i]? = some (.int cs[i]) := fun i hi => by rw [K5 i (by omega)]; simp [List.getD_eq_getElem?_getD, hi]
  have hcv : ∀ (i : Nat) (hi : i < cs.length), cv A i = cs[i] := fun i hi => by unfold cv; rw [hat i hi]
  have hty : Typed .char A := fun i v hv => by
    have hi : i < A.slots.size := (Array.getElem?_eq_some_iff.mp hv).1
    have q := K5 i hi
    rw [hv] at q
    rw [Option.some.inj q]
    exact K6 i hi
  refine Back.mono (back hZ hw wi E V C K1 hty S hz (by omega) (by omega) (fun i hi => by rw [hcv i (by omega)]; exact hall _ (List.getElem_mem _)) hfr hlo) (fun P a hp => ⟨hp.1, hp.2.1, hp.2.2.1, by rw [e]; exact hp.2.2.2⟩) (fun P a v B hp hq => ?_)
  obtain ⟨L, ⟨q1, q2, q3, q4, q5, q6, q7, ⟨V', v1, v2, v3, v4, v5⟩, q9⟩, hl, hc, hs⟩ := hq
  refine ⟨L, ⟨q1, q2, q3, q4, q5, q6, q7, ⟨V'.cls, v3, V', v1, rfl, by rw [v4, e, hlen], K4, fun i hi => ?_, fun i hi => ?_⟩, q9⟩, hl, hc, by rw [hs, e]⟩
  · have hi' : i < cs.length := by omega
    rw [v5 i (by omega), hcv i hi']; simp [List.getD_eq_getElem?_getD, hi']
  · have hi' : i < cs.length := by omega
    simp only [List.getD_eq_getElem?_getD, List.getElem?_map, List.getElem?_eq_getElem hi', Option.map_some, Option.getD_some]
    exact fits_lo8 _
end StrChars.Road
namespace StrChars.Road
open Jvm Sem ClassFile Op Lib Jvm.Stand Jvm.Free Jvm.Free.XT
/-- WHAT COMES BACK, in the writer's own shape -/
def QV (Z : State) (x : Addr) (N : Int32) (bs : List Int32) (h : Heap) (n0 : Nat) (v : Option Value) (h' : Heap) (L : List Loc) : Prop := v = none ∧ RoadKit.Fr n0 L ∧ RoadKit.Keep h h' [x] ∧ RoadKit.Exa Z h' x ST ∧ RoadKit.Fld Z h' x ST "coder" "B" (.int 0) ∧
  ∃ (t : Addr) (kb : ClassId), n0 ≤ t ∧ h.size ≤ t ∧ ¬ t = x ∧ RoadKit.Fld Z h' x ST "value" "[B" (.ref t) ∧ RoadKit.Arv Z h' t kb .byte N (bs.map Value.int) (.int 0)
/-- **new String(chars) AT A CALL, FOR THE WRITER**: a char[] of n known ints, each 0 to 255 -/
theorem backV {p : Program} {l : Launch} {e : Env} {R : Room} {s : State} {args : Array Value} {below : List Frame} {len W : Nat} {Z : State} {a0 : Array Value} {h : Heap} (hZ : Z.Warmed39 s.vm) (hw : ∀ d ∈ words, d.before a0 Z = true) {kI : Nat} (wi : (Jvm.Cond.instantiable ST kI).before a0 Z = true)
    {x b : Addr} {kC : ClassId} {cs bs : List Int32} {d v0 c0 : Value} {z N : Int32} {n n0 : Nat} (hx0 : n0 ≤ x) (hh0 : n0 ≤ h.size) (E : RoadKit.Exa Z h x ST) (V : RoadKit.Fld Z h x ST "value" "[B" v0) (C : RoadKit.Fld Z h x ST "coder" "B" c0) (K : RoadKit.Arv Z h b kC .char N (cs.map Value.int) d) (S : RoadKit.Sta Z h ST "COMPACT_STRINGS" "Z" (.int z)) (hz : ¬ z = 0)
    (hn : cs.length = n) (hN : N = Int32.ofNat n) (l0 : 0 < n) (l2 : n ≤ 4000) (hp : ∀ c ∈ cs, ¬ c < 0 ∧ ¬ (255 : Int32) < c) (hb : bs = cs.map (fun c => c.toInt8.toInt32)) (hfr : 4 ≤ R.frames) (hlo : W + 65 ≤ R.locals) :
    Back l R p e below s args (⟨"java/lang/String", "<init>", "([C)V"⟩ : MethodName) len W (fun P a => a = #[.ref x, .ref b] ∧ P.U.heap = h ∧ P.cells + 1 ≤ R.cells ∧ P.slots + n ≤ R.slots)
      (fun P _ v B => ∃ L, QV Z x N bs h n0 v B.U.heap L ∧ B.locs = P.locs ++ L ∧ B.cells = P.cells + 1 ∧ B.slots = P.slots + n) := by
  subst hn hN hb
  refine Back.mono (backArv hZ hw wi E V C K S hz (n32 (by omega)) l0 (by omega) (fun c hc => (hp c hc).2) hfr hlo) (fun P a hp => hp) (fun P a v B hp hq => ?_)
  obtain ⟨L, ⟨q1, q2, q3, q4, q5, q6, q7, ⟨kb, v1, v2⟩, q9⟩, hl, hc, hs⟩ := hq
  exact ⟨L, ⟨q1, fun y hy => by rw [q2 y hy]; exact hx0, q3, q5, q7, h.size, kb, hh0, Nat.le_refl _, Nat.ne_of_gt E.lt, q6, by rw [List.map_map]; exact v2⟩, hl, hc, hs⟩
end StrChars.Road
end Jvm.Pilot.@@N@@
namespace Jvm.Pilot.@@N@@
open Jvm Jvm.ClassFile Sem Op Lib Jvm.Free Jvm.Stand Jvm.LawKit Jvm.RoadKit Bundle Jvm.Pilot.@@N@@.Jvm.D
/-- from T the run goes on to an end of which Qf says what it is -/
def Goes (tb : Tables) (e : Env) (below : List Frame) (Qf : Outcome → State → Prop) (T : State) : Prop := ∃ s₂ o, Steps tb e below T s₂ ∧ s₂.status = .running ∧ Ended s₂ below o ∧ Qf o s₂
theorem Goes.to {tb : Tables} {e : Env} {below : List Frame} {Qf : Outcome → State → Prop} {T T' : State} (k : ∀ t, Steps tb e below T' t → Steps tb e below T t) (h : Goes tb e below Qf T') : Goes tb e below Qf T := by
  obtain ⟨s, o, h1, h2⟩ := h; exact ⟨s, o, k s h1, h2⟩
theorem Goes.thru {tb : Tables} {e : Env} {below : List Frame} {Qf : Outcome → State → Prop} {T T' : State} (k : Steps tb e below T T') (h : Goes tb e below Qf T') : Goes tb e below Qf T := by
  obtain ⟨s, o, h1, h2⟩ := h; exact ⟨s, o, k.trans h1, h2⟩
theorem own_old {Z : State} {n0 : Nat} {h : Heap} (O : Old Z n0 h) : n0 ≤ h.size := O.1 ▸ O.2.1
theorem own_ext_keep {h h' : Heap} (K : Keep h h' []) : Ext h h' := ⟨K.1, fun a c q => K.2.1 a c q nin0⟩
theorem own_nsroot {Z : State} {a0 : Array Value} {O K : String} {n : Nat} (w : (Jvm.Cond.noSuperclass O).before a0 Z = true) (wk : (Jvm.Cond.instantiable K n).before a0 Z = true) (hn : O ≠ K) : NS Z O K := by
  obtain ⟨c, k, h1, h2, h3, -, -⟩ := Cond.noSuperclass_spec w
  obtain ⟨t, k2, g1, -⟩ := Cond.instantiable_spec wk
  have ne := ids_ne h1 g1 hn
  refine ⟨c, t, h1, g1, fun fuel => ?_⟩
  cases fuel with
  | zero => rfl
  | succ f => simp [Vm.isSubclassAux, ne, h2, h3]
theorem own_nsno {Z : State} {a0 : Array Value} {C S K : String} {n : Nat} (w : (Jvm.Cond.superclass C S).before a0 Z = true) (wk : (Jvm.Cond.instantiable K n).before a0 Z = true) (ns : NS Z C K) (hn : C ≠ K) : ∃ c t, Z.vm.findClass C = some c ∧ Z.vm.findClass K = some t ∧ Z.vm.assignable c t = false := by
  obtain ⟨c, t, h0, g0, n3⟩ := ns
  obtain ⟨p, k, kp, h1, h2, h3, h4, h5, -, h7⟩ := Cond.superclass_spec h0 w
  obtain ⟨t', k', g1, g2, g5, g7, -⟩ := Cond.instantiable_spec wk
  cases g0.symm.trans g1
  have ne := ids_ne h0 g0 hn
  refine ⟨c, t, h0, g0, ?_⟩
  show Z.vm.assignableAux (255 + 1) c t = false
  simp [Vm.assignableAux, ne, h2, g2, h5, g5, (Bool.or_eq_false_iff.mp g7).1, Vm.isSubclass, n3]
theorem own_selp {s : State} {args : Array Value} {y : MethodName} {n : Nat} (wi : (Jvm.Cond.instantiable y.cls n).before args s = true) (hp : (Jvm.Cond.privateMethod y).before args s = true) (hinst : (Jvm.Cond.instanceMethod y).before args s = true) (hy : y.cls ≠ "java/lang/invoke/MethodHandle" ∧ y.cls ≠ "java/lang/invoke/VarHandle") : (Jvm.Cond.selects y.cls y y).before args s = true := by
  obtain ⟨c, k, h1, h2, -, h4, -⟩ := Cond.instantiable_spec wi
  exact selects_self_of_private h1 h2 (Bool.or_eq_false_iff.mp h4).1 (Cond.privateMethod_at hp) hinst hy
theorem own_keep_ext {h h' : Heap} (E : Ext h h') : Keep h h' [] := (Keep.refl h []).ext E
theorem mi {d : Jvm.Cond} (i : Nat) (h : tables_1[i]? = some d) : d ∈ tables_1 := List.mem_of_getElem? h
theorem wi {a0 : Array Value} {Z : State} (hw : ∀ d ∈ tables_1, d.before a0 Z = true) {d : Jvm.Cond} (i : Nat) (h : tables_1[i]? = some d) : d.before a0 Z = true := hw d (List.mem_of_getElem? h)
set_option maxRecDepth 65536
set_option maxHeartbeats 40000000
abbrev HW (a0 : Array Value) (Z : State) : Prop := ∀ d ∈ tables_1, d.before a0 Z = true
def Con (l : Launch) (Z : State) (y : MethodName) (bytes : ByteArray) (ml : Nat) (rt : Option FieldType) (ws : List Jvm.Cond) (R : Room) (A : Array Value) (h0 : Heap) (Q : Option Value → Heap → List Loc → Prop) : Prop :=
  MetFree l y (head1 (Jvm.Cond.code y bytes ml rt :: ws) R) (fun a U => a = A ∧ Z.Warmed39 U.vm ∧ U.heap = h0) (fun _ _ _ _ _ => True) (fun _ U o U' => ∃ v L, o = .returned v ∧ Q v U'.heap L ∧ FrameEnd U o U' L R.cells R.slots)
def QQ (U : State) (R : Room) (Q : Option Value → Heap → List Loc → Prop) : Outcome → State → Prop := fun o U' => ∃ v L, o = .returned v ∧ Q v U'.heap L ∧ FrameEnd U o U' L R.cells R.slots
theorem Con.body {l : Launch} {Z : State} {y : MethodName} {bytes : ByteArray} {ml : Nat} {rt : Option FieldType} {ws : List Jvm.Cond} {R : Room} {A : Array Value} {h0 : Heap} {Q : Option Value → Heap → List Loc → Prop} {L0 : Array Slot} {own : String} (ho : y.cls = own) (hp : plainFor y = true) (hef : ∀ m : MethodId, entryFrame m A ml = mkF m 0 L0 [])
    (H : ∀ p e s m below meth c s₁, (BodyLoose p l y (head1 (Jvm.Cond.code y bytes ml rt :: ws) R) bytes ml rt e s m A below meth c s₁) → p.tables.exec = Jvm.exec → c.code = bytes → c.maxLocals = ml → Z.Warmed39 s.vm → s.vm.findClass own = some m.cls → Stand p l e R s m A below meth c s₁ [] 0 0 → s₁.heap = h0 → ∀ Qf, Qf = QQ s R Q → Goes p.tables e below Qf (s₁.setTop (mkF m 0 L0 []))) : Con l Z y bytes ml rt ws R A h0 Q := by
  refine MetFree.of_bodySF hp hisR ?_
  intro p e s m args below meth c s₁ Bd hml0 hP hK
  obtain ⟨rfl, hZ, hh⟩ := hP
  obtain ⟨s₂, o, g1, g2, g3, g4⟩ := H p e s m below meth c s₁ Bd Bd.exec Bd.bytes hml0 hZ (ho ▸ findClass_of_methodNamed Bd.named) (Stand.of_body Bd) (by rw [← hh, Bd.state]; rfl) _ rfl
  exact ⟨s₂, o, castTop (hef m) g1, g2, g3, g4⟩
theorem own_len {s : State} {args : Array Value} {t : Term} {a : Addr} {cl : Cell} {ty : FieldType} {k : Int32} (ht : t.eval args s none [] s = some (.ref a)) (A : Arr s s.heap a cl ty) (h : (Cond.eq (.length t) (.int k)).value args s none s [] = some true) : cl.slots.size < 2 ^ 31 ∧ cl.slots.size.toInt32 = k := by
  obtain ⟨x, y, e1, e2, -, k2⟩ := cmp_v (Or.inl h)
  obtain rfl : Value.int k = y := Option.some.inj e2
  obtain ⟨z, rfl⟩ := k2
  have q : (z = k) := gotT (P := z = k) (by simp [Cond.value, e1, e2]) h
  subst q
  have hA := A.fin (Vm.Alike.refl _)
  by_cases hl : cl.slots.size < 2 ^ 31
  · rw [len_f ht hA hl] at e1
    exact ⟨hl, by simpa using e1⟩
  · simp [Term.eval, ht, hA, hl] at e1
theorem own_stR {s : State} {args : Array Value} {t u : Term} {b : Addr} (h : (Cond.eq t u).value args s none s [] = some true) (hu : u.eval args s none [] s = some (.ref b)) : t.eval args s none [] s = some (.ref b) := by
  obtain ⟨x, y, e1, e2, k1, k2⟩ := cmp_v (Or.inl h)
  obtain rfl : y = Value.ref b := Option.some.inj (e2.symm.trans hu)
  have hx : x.isRef = true := by cases x <;> simp [Kin, Value.isRef] at k1 k2 ⊢
  have q : x = Value.ref b := gotT (eq_R e1 e2 hx rfl) h
  subst q; exact e1
theorem own_fldI {s : State} {args : Array Value} {t : Term} {a : Addr} {C n d : String} {k : Int32} (ht : t.eval args s none [] s = some (.ref a)) (h : (Cond.eq (.field t C n d) (.int k)).value args s none s [] = some true) : Fld s s.heap a C n d (.int k) := by
  obtain ⟨x, y, e1, e2, -, k2⟩ := cmp_v (Or.inl h)
  obtain rfl : Value.int k = y := Option.some.inj e2
  obtain ⟨z, rfl⟩ := k2
  have q : (z = k) := gotT (P := z = k) (by simp [Cond.value, e1, e2]) h
  subst q
  exact Fld.start (by rw [← fld_at ht]; exact e1)
theorem own_fldL {s : State} {args : Array Value} {t : Term} {a : Addr} {C n d : String} {k : Int64} (ht : t.eval args s none [] s = some (.ref a)) (h : (Cond.eq (.field t C n d) (.long k)).value args s none s [] = some true) : Fld s s.heap a C n d (.long k) := by
  obtain ⟨x, y, e1, e2, -, k2⟩ := cmp_v (Or.inl h)
  obtain rfl : Value.long k = y := Option.some.inj e2
  obtain ⟨z, rfl⟩ := k2
  have q : (z = k) := gotT (P := z = k) (by simp [Cond.value, e1, e2]) h
  subst q
  exact Fld.start (by rw [← fld_at ht]; exact e1)
theorem own_fldN {s : State} {args : Array Value} {t : Term} {a : Addr} {C n d : String} (ht : t.eval args s none [] s = some (.ref a)) (h : (Cond.eq (.field t C n d) .null).value args s none s [] = some true) : Fld s s.heap a C n d .null :=
  Fld.start (by rw [← fld_at ht]; exact null_v h)
theorem own_fldR {s : State} {args : Array Value} {t : Term} {a b : Addr} {C n d : String} (ht : t.eval args s none [] s = some (.ref a)) (h : (Term.field t C n d).eval args s none [] s = some (.ref b)) : Fld s s.heap a C n d (.ref b) :=
  Fld.start (by rw [← fld_at ht]; exact h)
theorem own_stI {s : State} {args : Array Value} {t : Term} {k : Int32} (h : (Cond.eq t (.int k)).value args s none s [] = some true) : t.eval args s none [] s = some (.int k) := by
  obtain ⟨x, y, e1, e2, -, k2⟩ := cmp_v (Or.inl h)
  obtain rfl : Value.int k = y := Option.some.inj e2
  obtain ⟨z, rfl⟩ := k2
  have q : (z = k) := gotT (P := z = k) (by simp [Cond.value, e1, e2]) h
  subst q; exact e1
theorem own_narc {f : Int32} (h : ¬ f < 0 ∧ ¬ (255 : Int32) < f) : nar .char f = f := by
  obtain ⟨h1, h2⟩ := h
  have e0 : (0 : Int32).toInt = 0 := rfl
  have e1 : (255 : Int32).toInt = 255 := rfl
  rw [Int32.lt_iff_toInt_lt] at h1 h2
  have q := c_i2c f
  apply Int32.toInt_inj.mp
  show f.toUInt32.toUInt16.toUInt32.toInt32.toInt = f.toInt
  omega
theorem own_i2c (x : Int32) : ¬ ((x &&& (255 : Int32)).toUInt32.toUInt16.toUInt32.toInt32) < 0 ∧ ¬ (255 : Int32) < ((x &&& (255 : Int32)).toUInt32.toUInt16.toUInt32.toInt32) := by
  have q := c_i2c (x &&& 255)
  have h := c_mask x 255 8 (by decide) (by decide)
  have e0 : (0 : Int32).toInt = 0 := rfl
  have e1 : (255 : Int32).toInt = 255 := rfl
  rw [Int32.lt_iff_toInt_lt, Int32.lt_iff_toInt_lt]
  omega
theorem own_b8 {f g : Int32} (hf : ¬ f < 0 ∧ ¬ (255 : Int32) < f) (hg : ¬ g < 0 ∧ ¬ (255 : Int32) < g) : f.toInt8.toInt32 = g.toInt8.toInt32 ↔ f = g := by
  obtain ⟨h1, h2⟩ := hf
  obtain ⟨h3, h4⟩ := hg
  have e0 : (0 : Int32).toInt = 0 := rfl
  have e1 : (255 : Int32).toInt = 255 := rfl
  rw [Int32.lt_iff_toInt_lt] at h1 h2 h3 h4
  have q := c_i2b f
  have q' := c_i2b g
  rw [← Int32.toInt_inj, ← Int32.toInt_inj]
  omega
theorem own_nz {s : State} {args : Array Value} {t : Term} {z : Int32} (ht : t.eval args s none [] s = some (.int z)) (h : (Jvm.Cond.not (.eq t (.int (0 : Int32)))).value args s none s [] = some true) : ¬ z = 0 := by
  have q := not_v h
  exact gotF (P := z = 0) (by simp [Cond.value, ht, Term.eval]) q
theorem own_nsrootF {Z : State} {a0 : Array Value} {O K : String} {t : ClassId} (w : (Jvm.Cond.noSuperclass O).before a0 Z = true) (g1 : Z.vm.findClass K = some t) (hn : O ≠ K) : NS Z O K := by
  obtain ⟨c, k, h1, h2, h3, -, -⟩ := Cond.noSuperclass_spec w
  have ne := ids_ne h1 g1 hn
  refine ⟨c, t, h1, g1, fun fuel => ?_⟩
  cases fuel with
  | zero => rfl
  | succ f => simp [Vm.isSubclassAux, ne, h2, h3]
theorem own_selK {Z : State} {a0 : Array Value} {K : String} {x y : MethodName} (w : (Jvm.Cond.selects K x y).before a0 Z = true) (hy : y.cls = K) : ∃ t kt, Z.vm.findClass K = some t ∧ Z.vm.classes[t]? = some kt ∧ kt.isInterface = false := by
  obtain ⟨c, r, m, h1, h2, h3, h4, mk, h5, h6⟩ := Cond.selects_spec w
  exact ⟨m.cls, mk, hy ▸ findClass_of_methodNamed h3, h5, h6⟩
theorem own_nsnoF {Z : State} {a0 : Array Value} {C S K : String} {t : ClassId} {kt : Class} (w : (Jvm.Cond.superclass C S).before a0 Z = true) (g1 : Z.vm.findClass K = some t) (g2 : Z.vm.classes[t]? = some kt) (g3 : kt.isInterface = false) (ns : NS Z C K) (hn : C ≠ K) : ∃ c t, Z.vm.findClass C = some c ∧ Z.vm.findClass K = some t ∧ Z.vm.assignable c t = false := by
  obtain ⟨c, t', h0, g0, n3⟩ := ns
  obtain ⟨p, k, kp, h1, h2, h3, h4, h5, -, h7⟩ := Cond.superclass_spec h0 w
  cases g0.symm.trans g1
  have ne := ids_ne h0 g0 hn
  refine ⟨c, _, h0, g0, ?_⟩
  show Z.vm.assignableAux (255 + 1) c _ = false
  cases hk : kt.kind <;> simp [Vm.assignableAux, ne, h2, g2, h5, hk, g3, Vm.isSubclass, n3]
/-- the mirror of a class has been made -/
def Mr (Z : State) (C : String) (a : Addr) : Prop := ∃ (c : ClassId) (k : Class), Z.vm.findClass C = some c ∧ Z.vm.classes[c]? = some k ∧ k.mirror = some a
section OwnM
variable {p : Program} {l : Launch} {e : Env} {R : Room} {s Z : State} {m : MethodId} {args a0 : Array Value} {below : List Frame} {meth : Method} {c : Code} {T : State} {locs : List Loc} {cells slots : Nat} {h : Heap}
theorem own_ldcM (X : Stand p l e R s m args below meth c T locs cells slots) (hx : p.tables.exec = Jvm.exec) (hZ : Z.Warmed39 s.vm) {own C : String} {index : Nat} (hown : s.vm.findClass own = some m.cls) (w : (Jvm.Cond.classLink own index C).before a0 Z = true) (eT : T.heap = h) {a : Addr} (M : Mr Z C a)
    {g : JFrame} (hg : g.method = m) (hd : decode c.code g.pc = .ok (.ldc index, 2)) : ∃ T', Stand p l e R s m args below meth c T' locs cells slots ∧ T'.heap = h ∧ ∀ target, Steps p.tables e below (T'.setTop { g with pc := g.pc + 2, stack := .ref a :: g.stack }) target → Steps p.tables e below (T.setTop g) target := by
  obtain ⟨cc, kc, m1, m2, m3⟩ := M
  obtain ⟨k', q, ek⟩ := hZ.alike.2.2 _ _ m2
  have hev : (Term.mirror C).eval args s none [] s = some (.ref a) := by
    have f1 : s.vm.findClass C = some cc := by rw [hZ.alike.findClass]; exact m1
    have f2 : k'.mirror = some a := by rw [ek]; exact m3
    simp [Term.eval, f1, q, f2]
  obtain ⟨vm', X', st⟩ := X.ldcMirror hx hown (mv hZ w) hev hg hd
  exact ⟨_, X', eT, st⟩
theorem own_gcls (X : Stand p l e R s m args below meth c T locs cells slots) (hx : p.tables.exec = Jvm.exec) (hZ : Z.Warmed39 s.vm) {own C : String} {index : Nat} (hown : s.vm.findClass own = some m.cls)
    (w1 : (Jvm.Cond.methodLink own index ⟨"java/lang/Object", "getClass", "()Ljava/lang/Class;"⟩).before a0 Z = true) (w2 : (Jvm.Cond.declares ⟨"java/lang/Object", "getClass", "()Ljava/lang/Class;"⟩).before a0 Z = true) (w3 : (Jvm.Cond.noSuperclass "java/lang/Object").before a0 Z = true) (w4 : (Jvm.Cond.selects C ⟨"java/lang/Object", "getClass", "()Ljava/lang/Class;"⟩ ⟨"java/lang/Object", "getClass", "()Ljava/lang/Class;"⟩).before a0 Z = true)
    (w5 : (Jvm.Cond.instanceMethod ⟨"java/lang/Object", "getClass", "()Ljava/lang/Class;"⟩).before a0 Z = true) (w6 : (Jvm.Cond.native ⟨"java/lang/Object", "getClass", "()Ljava/lang/Class;"⟩).before a0 Z = true) (eT : T.heap = h) {a : Addr} (E : Exa Z h a C) {mr : Addr} (M : Mr Z C mr)
    {g : JFrame} (hg : g.method = m) (hsize : g.locals.size = c.maxLocals) {rest : List Value} (hs : g.stack = .ref a :: rest) (hd : decode c.code g.pc = .ok (.invokevirtual index, 3)) (hf : 1 ≤ R.frames) {W : Nat} (hW : 2 * g.monitorRoom + (rest.map fun v => v.category).sum ≤ W) (hl : W + (nativeFrameWords "java/lang/Object" "getClass" 1 + 11) ≤ R.locals) :
    ∃ T', Stand p l e R s m args below meth c T' locs cells slots ∧ T'.heap = h ∧ ∀ target, Steps p.tables e below (T'.setTop { g with pc := g.pc + 3, stack := .ref mr :: rest }) target → Steps p.tables e below (T.setTop g) target := by
  obtain ⟨cB, kB, i1, i2, i3⟩ := isOf hZ eT E
  obtain ⟨cc, kc, m1, m2, m3⟩ := M
  rw [hZ.alike.findClass] at i1
  cases i1.symm.trans m1
  obtain ⟨k', q, ek⟩ := hZ.alike.2.2 _ _ m2
  obtain ⟨vm', X', st⟩ := X.getClassOf hx hown (mvT hZ w1) (mvT hZ w2) (nf_top (args := #[]) (mvT hZ w3)) (mvT hZ w4) (mvT hZ w5) (mvT hZ w6) (by rw [hZ.alike.findClass]; exact m1) i3 q (by rw [ek]; exact m3) hg hsize hs hd hf (by omega)
  exact ⟨_, X', eT, st⟩
end OwnM
section OwnH
variable {p : Program} {l : Launch} {e : Env} {R : Room} {s : State} {args : Array Value} {below : List Frame} {Z : State} {a0 : Array Value} {EL : List (String × Nat)} {h : Heap} {vm0 : Vm}
/-- a callee that is told of the caller's tables vm0: what was no held constant's cell there isn't one now -/
theorem own_backSH {y : MethodName} {bytes : ByteArray} {maxL : Nat} {ret : Option FieldType} {rm : Room} {len W : Nat} {as' : Array Value} {Q : Option Value → Heap → List Loc → Prop}
    (hM : MetFree l y (head1 [Jvm.Cond.code y bytes maxL ret] rm) (fun a U => a = as' ∧ Z.Warmed39 U.vm ∧ U.heap = h ∧ CHr Z EL vm0 h U.vm h) (fun _ _ _ _ _ => True) (fun _ U o U' => ∃ v L, o = .returned v ∧ Q v U'.heap L ∧ CHr Z EL U.vm U.heap U'.vm U'.heap ∧ ReturnedEndW U o U' L rm.cells rm.slots))
    (hZ : Z.Warmed39 vm0) (wc : (Jvm.Cond.code y bytes maxL ret).before a0 Z = true) (wz : (Jvm.Cond.initialized y.cls).before a0 Z = true) (hf : rm.frames + 1 ≤ R.frames) (hl : W + (maxL + 11) + rm.locals ≤ R.locals) (hEL : EW Z a0 EL) (H : CHv Z EL vm0 h) :
    BackS l R p e below (s.setVm vm0) args y len W (fun A a => a = as' ∧ A.U.heap = h ∧ A.cells + rm.cells ≤ R.cells ∧ A.slots + rm.slots ≤ R.slots)
      (fun A _ v B => ∃ L, Q v B.U.heap L ∧ B.locs = A.locs ++ L ∧ B.cells = A.cells + rm.cells ∧ B.slots = A.slots + rm.slots ∧ CHr Z EL vm0 h B.U.vm B.U.heap) := by
  refine BackS.of_freeW (bytes := bytes) (maxL := maxL) (ret := ret) (E := fun _ first o t L k n => k = rm.cells ∧ n = rm.slots ∧ (∃ v, o = .returned v ∧ Q v t.heap L) ∧ CHr Z EL first.vm first.heap t.vm t.heap) hM hf hl ?_ ?_ (fun _ _ _ _ _ _ _ _ _ => trivial) ?_ ?_
  · intro m meth c A a Y hp
    have hU : Z.Warmed39 A.U.vm := wtrans (s := s.setVm vm0) hZ Y.warmed
    exact ⟨by show (Jvm.Cond.and _ .tt).before a A.U = true; rw [Cond.before_and, mv hU wc]; rfl, mv hU wc, mv hU wz, hp.2.2.1, hp.2.2.2⟩
  · intro m meth c A a g mk Y hp
    exact ⟨hp.1, wtrans (s := s.setVm vm0) hZ Y.warmed, hp.2.1, (show CHr Z EL vm0 h A.U.vm h from CHv.at Y hZ hEL H)⟩
  · rintro _ _ _ _ ⟨v, L, h1, h2, h3, h4⟩
    exact ⟨L, _, _, h4, rfl, rfl, ⟨v, h1, h2⟩, h3⟩
  · rintro m meth c A a g mk v t L k n Y hp _ _ ⟨e1, e2, ⟨v', e3, e4⟩, e5⟩
    cases e3; subst e1 e2
    refine ⟨L, e4, rfl, rfl, rfl, (CHv.at Y hZ hEL H).trans ?_⟩
    rw [← hp.2.1]; exact e5
theorem own_mvM {own host : String} {y : MethodName} {index : Nat} (hZ : Z.Warmed39 s.vm) (w : (Jvm.Cond.methodLinkNest own index y host).before a0 Z = true) : (Jvm.Cond.methodLinkNest own index y host).before args s = true := (Cond.methodLinkNest_wide hZ w :)
end OwnH
theorem own_and3 (x : Int32) : (x &&& (3 : Int32)) = (0 : Int32) ∨ (x &&& (3 : Int32)) = (1 : Int32) ∨ (x &&& (3 : Int32)) = (2 : Int32) ∨ (x &&& (3 : Int32)) = (3 : Int32) := by
  have h := c_mask x 3 2 (by decide) (by decide)
  have e0 : (0 : Int32).toInt = 0 := rfl
  have e1 : (1 : Int32).toInt = 1 := rfl
  have e2 : (2 : Int32).toInt = 2 := rfl
  have e3 : (3 : Int32).toInt = 3 := rfl
  simp only [← Int32.toInt_inj, h, e0, e1, e2, e3]
  omega
def Nar (Z : State) (w3 : Addr) (w0 : Addr) (w2 : Addr) (w1 : Addr) (w4 : Addr) (k_w3 : ClassId) (k_w0 : ClassId) (k_w1 : ClassId) (z_cs : Int32) (w5 : Addr) : Prop := (Sta Z Z.heap "java/util/ArrayList" "EMPTY_ELEMENTDATA" "[Ljava/lang/Object;" (.ref w3)) ∧ (Exa Z Z.heap w3 "[Ljava/lang/Object;") ∧ (Sta Z Z.heap "java/util/ArrayList" "DEFAULTCAPACITY_EMPTY_ELEMENTDATA" "[Ljava/lang/Object;" (.ref w0)) ∧ (Exa Z Z.heap w0 "[Ljava/lang/Object;") ∧ (Sta Z Z.heap "java/util/ImmutableCollections" "EMPTY_LIST" "Ljava/util/ImmutableCollections$ListN;" (.ref w2)) ∧ (Exa Z Z.heap w2 "java/util/ImmutableCollections$ListN") ∧ (Fld Z Z.heap w2 "java/util/ImmutableCollections$ListN" "elements" "[Ljava/lang/Object;" (.ref w1)) ∧ (Exa Z Z.heap w1 "[Ljava/lang/Object;") ∧ (Sta Z Z.heap "java/util/ImmutableCollections" "EMPTY" "Ljava/lang/Object;" (.ref w4)) ∧ (Exa Z Z.heap w4 "java/lang/Object") ∧ (Fld Z Z.heap w2 "java/util/ImmutableCollections$ListN" "allowNulls" "Z" (.int (0 : Int32))) ∧ (Sta Z Z.heap "java/util/ImmutableCollections" "$assertionsDisabled" "Z" (.int (1 : Int32))) ∧ (Arv Z Z.heap w3 k_w3 (.object "java/lang/Object") (0 : Int32) [] .null) ∧ (Arv Z Z.heap w0 k_w0 (.object "java/lang/Object") (0 : Int32) [] .null) ∧ (Arv Z Z.heap w1 k_w1 (.object "java/lang/Object") (0 : Int32) [] .null) ∧ (Sta Z Z.heap "java/lang/String" "COMPACT_STRINGS" "Z" (.int z_cs)) ∧ (¬ z_cs = 0) ∧ (Mr Z "[Ljava/lang/Object;" w5)
variable {l : Launch} {Z : State} {a0 : Array Value} {ws : List Jvm.Cond} {w3 : Addr} {w0 : Addr} {w2 : Addr} {w1 : Addr} {w4 : Addr} {k_w3 : ClassId} {k_w0 : ClassId} {k_w1 : ClassId} {z_cs : Int32} {w5 : Addr}
theorem d7_0 : decode jdk_22_method_1_code 0 = .ok (.aload_n 0, 1) := by decide +kernel
theorem d7_1 : decode jdk_22_method_1_code 1 = .ok (.invokespecial 1, 3) := by decide +kernel
theorem d7_4 : decode jdk_22_method_1_code 4 = .ok (.return_, 1) := by decide +kernel
theorem pn_7 : plainName "java/util/AbstractCollection" = true := by first | (simp [plainName, overriddenIn]; done) | decide +kernel
theorem ef_rmAC (m : MethodId) (x0 : Addr) : entryFrame m #[(.ref x0)] 1 = mkF m 0 #[.val (.ref x0)] [] := by first | (simp [entryFrame, mkF, argsToLocals, Value.category]; done) | rfl
def Q_rmAC  (h0 : Heap) (n0 : Nat) (v : Option Value) (h : Heap) (L : List Loc) : Prop := v = none ∧ Fr n0 L ∧ h = h0
theorem rmAC (hw : HW a0 Z) (xa : Addr) (h0 : Heap) (n0 : Nat) (O0 : Old Z n0 h0) (NF : Nar Z w3 w0 w2 w1 w4 k_w3 k_w0 k_w1 z_cs w5) :
    Con l Z (⟨"java/util/AbstractCollection", "<init>", "()V"⟩ : MethodName) jdk_22_method_1_code 1 none ws ({ frames := 1, cells := 0, slots := 0, locals := 12 } : Room) #[(.ref xa)] h0 (Q_rmAC  h0 n0) := by
  refine Con.body (own := "java/util/AbstractCollection") rfl (plainFor_of_name pn_7) (fun m => ef_rmAC m _) ?_
  intro p e s m below meth c s₁ Bd hx hby hml hZ hown X0 e0 Qf hQf
  have N0 := Fr.nil n0
  obtain ⟨S_w3, E_w3, S_w0, E_w0, S_w2, E_w2, F_elements_w2, E_w1, S_w4, E_w4, F_allowNulls_w2, S_w_ImmutableCollections__assertionsDisabled, V_w3, V_w0, V_w1, S_cs, nz_cs, M_OA⟩ := id NF
  refine Goes.to (T' := s₁.setTop (mkF m 1 #[.val (.ref xa)] [(.ref xa)])) (fun t k => XS.aloadN X0.here hx rfl (hb hby d7_0) rfl rfl k) ?_
  obtain ⟨T1, X1, e1, st1⟩ := initO X0 hx hZ hown (wi hw 44 rfl) (wi hw 16 rfl) (wi hw 17 rfl) e0 (g := (mkF m 1 #[.val (.ref xa)] [(.ref xa)])) rfl (by rw [hml]; rfl) rfl (hb hby d7_1) (by decide) (W := 0) (by show 2 * 0 + _ ≤ _; exact Nat.le_of_eq rfl) (by decide)
  refine Goes.to (T' := T1.setTop (mkF m 4 #[.val (.ref xa)] [])) st1 ?_
  obtain ⟨fs, hrL, hrun, hended, hW, hsame⟩ := X1.leave (v := none) (fun _ => rfl)
  subst hQf
  refine ⟨_, _, X1.returnOut hx Bd.returns (hb hby d7_4) hrL, hrun, hended, _, _, rfl, ?_, ⟨_, rfl⟩, hW, hsame.mono (by decide) (by decide)⟩
  show Q_rmAC  h0 n0 (none) T1.heap _
  rw [e1]
  exact ⟨rfl, N0, rfl⟩
theorem pd_5 : parseMethodDescriptor "()V" = some ⟨[], none⟩ := by decide +kernel
theorem d34_0 : decode jdk_47_method_1_code 0 = .ok (.aload_n 0, 1) := by decide +kernel
theorem d34_1 : decode jdk_47_method_1_code 1 = .ok (.invokespecial 1, 3) := by decide +kernel
theorem d34_4 : decode jdk_47_method_1_code 4 = .ok (.return_, 1) := by decide +kernel
theorem pn_34 : plainName "java/util/ImmutableCollections$AbstractImmutableCollection" = true := by first | (simp [plainName, overriddenIn]; done) | decide +kernel
def Q_rmAIC  (h0 : Heap) (n0 : Nat) (v : Option Value) (h : Heap) (L : List Loc) : Prop := v = none ∧ Fr n0 L ∧ h = h0
theorem rmAIC (hw : HW a0 Z) (xa : Addr) (h0 : Heap) (n0 : Nat) (O0 : Old Z n0 h0) (NF : Nar Z w3 w0 w2 w1 w4 k_w3 k_w0 k_w1 z_cs w5) :
    Con l Z (⟨"java/util/ImmutableCollections$AbstractImmutableCollection", "<init>", "()V"⟩ : MethodName) jdk_47_method_1_code 1 none ws ({ frames := 2, cells := 0, slots := 0, locals := 24 } : Room) #[(.ref xa)] h0 (Q_rmAIC  h0 n0) := by
  refine Con.body (own := "java/util/ImmutableCollections$AbstractImmutableCollection") rfl (plainFor_of_name pn_34) (fun m => ef_rmAC m _) ?_
  intro p e s m below meth c s₁ Bd hx hby hml hZ hown X0 e0 Qf hQf
  have N0 := Fr.nil n0
  obtain ⟨S_w3, E_w3, S_w0, E_w0, S_w2, E_w2, F_elements_w2, E_w1, S_w4, E_w4, F_allowNulls_w2, S_w_ImmutableCollections__assertionsDisabled, V_w3, V_w0, V_w1, S_cs, nz_cs, M_OA⟩ := id NF
  refine Goes.to (T' := s₁.setTop (mkF m 1 #[.val (.ref xa)] [(.ref xa)])) (fun t k => XS.aloadN X0.here hx rfl (hb hby d34_0) rfl rfl k) ?_
  obtain ⟨_, _, ⟨T1, L1, k1, n1⟩, -, X1, ⟨Lc1, hQ1, l1, y1, z1⟩, st1⟩ := X0.specialBack hx (y := (⟨"java/util/AbstractCollection", "<init>", "()V"⟩ : MethodName)) rfl hown (mvT hZ (wi hw 223 rfl)) (mvT hZ (wi hw 39 rfl)) (mvT hZ (wi hw 43 rfl)) (by decide) (backOf (W := 0) (rmAC hw xa  h0 n0 O0 NF ) hZ (wi hw 43 rfl) (wi hw 42 rfl) (by decide) (by decide)) (g := (mkF m 1 #[.val (.ref xa)] [(.ref xa)])) rfl (by rw [hml]; rfl) (Steps.refl _) (a := xa) (argsL := []) (rest := []) (lenOf pd_5 rfl) rfl (by show 2 * 0 + _ ≤ _; exact Nat.le_of_eq rfl) (hb hby d34_1) (fun _ _ => ⟨rfl, e0, (by decide : 0 + 0 ≤ _), (by decide : 0 + 0 ≤ _)⟩)
  dsimp only [Pt.U, Pt.locs, Pt.cells, Pt.slots] at X1 l1 y1 z1 st1 hQ1
  subst l1 y1 z1
  obtain ⟨rfl, Nq1, e1⟩ := hQ1
  have N1 := Fr.app N0 Nq1
  refine Goes.thru (T' := T1.setTop (mkF m 4 #[.val (.ref xa)] [])) st1 ?_
  obtain ⟨fs, hrL, hrun, hended, hW, hsame⟩ := X1.leave (v := none) (fun _ => rfl)
  subst hQf
  refine ⟨_, _, X1.returnOut hx Bd.returns (hb hby d34_4) hrL, hrun, hended, _, _, rfl, ?_, ⟨_, rfl⟩, hW, hsame.mono (by decide) (by decide)⟩
  show Q_rmAIC  h0 n0 (none) T1.heap _
  rw [e1]
  exact ⟨rfl, N1, rfl⟩
theorem d33_0 : decode jdk_46_method_1_code 0 = .ok (.aload_n 0, 1) := by decide +kernel
theorem d33_1 : decode jdk_46_method_1_code 1 = .ok (.invokespecial 1, 3) := by decide +kernel
theorem d33_4 : decode jdk_46_method_1_code 4 = .ok (.return_, 1) := by decide +kernel
theorem pn_33 : plainName "java/util/ImmutableCollections$AbstractImmutableList" = true := by first | (simp [plainName, overriddenIn]; done) | decide +kernel
def Q_rmAIL  (h0 : Heap) (n0 : Nat) (v : Option Value) (h : Heap) (L : List Loc) : Prop := v = none ∧ Fr n0 L ∧ h = h0
theorem rmAIL (hw : HW a0 Z) (xa : Addr) (h0 : Heap) (n0 : Nat) (O0 : Old Z n0 h0) (NF : Nar Z w3 w0 w2 w1 w4 k_w3 k_w0 k_w1 z_cs w5) :
    Con l Z (⟨"java/util/ImmutableCollections$AbstractImmutableList", "<init>", "()V"⟩ : MethodName) jdk_46_method_1_code 1 none ws ({ frames := 3, cells := 0, slots := 0, locals := 36 } : Room) #[(.ref xa)] h0 (Q_rmAIL  h0 n0) := by
  refine Con.body (own := "java/util/ImmutableCollections$AbstractImmutableList") rfl (plainFor_of_name pn_33) (fun m => ef_rmAC m _) ?_
  intro p e s m below meth c s₁ Bd hx hby hml hZ hown X0 e0 Qf hQf
  have N0 := Fr.nil n0
  obtain ⟨S_w3, E_w3, S_w0, E_w0, S_w2, E_w2, F_elements_w2, E_w1, S_w4, E_w4, F_allowNulls_w2, S_w_ImmutableCollections__assertionsDisabled, V_w3, V_w0, V_w1, S_cs, nz_cs, M_OA⟩ := id NF
  refine Goes.to (T' := s₁.setTop (mkF m 1 #[.val (.ref xa)] [(.ref xa)])) (fun t k => XS.aloadN X0.here hx rfl (hb hby d33_0) rfl rfl k) ?_
  obtain ⟨_, _, ⟨T1, L1, k1, n1⟩, -, X1, ⟨Lc1, hQ1, l1, y1, z1⟩, st1⟩ := X0.specialBack hx (y := (⟨"java/util/ImmutableCollections$AbstractImmutableCollection", "<init>", "()V"⟩ : MethodName)) rfl hown (mvT hZ (wi hw 217 rfl)) (mvT hZ (wi hw 218 rfl)) (mvT hZ (wi hw 222 rfl)) (by decide) (backOf (W := 0) (rmAIC hw xa  h0 n0 O0 NF ) hZ (wi hw 222 rfl) (wi hw 221 rfl) (by decide) (by decide)) (g := (mkF m 1 #[.val (.ref xa)] [(.ref xa)])) rfl (by rw [hml]; rfl) (Steps.refl _) (a := xa) (argsL := []) (rest := []) (lenOf pd_5 rfl) rfl (by show 2 * 0 + _ ≤ _; exact Nat.le_of_eq rfl) (hb hby d33_1) (fun _ _ => ⟨rfl, e0, (by decide : 0 + 0 ≤ _), (by decide : 0 + 0 ≤ _)⟩)
  dsimp only [Pt.U, Pt.locs, Pt.cells, Pt.slots] at X1 l1 y1 z1 st1 hQ1
  subst l1 y1 z1
  obtain ⟨rfl, Nq1, e1⟩ := hQ1
  have N1 := Fr.app N0 Nq1
  refine Goes.thru (T' := T1.setTop (mkF m 4 #[.val (.ref xa)] [])) st1 ?_
  obtain ⟨fs, hrL, hrun, hended, hW, hsame⟩ := X1.leave (v := none) (fun _ => rfl)
  subst hQf
  refine ⟨_, _, X1.returnOut hx Bd.returns (hb hby d33_4) hrL, hrun, hended, _, _, rfl, ?_, ⟨_, rfl⟩, hW, hsame.mono (by decide) (by decide)⟩
  show Q_rmAIL  h0 n0 (none) T1.heap _
  rw [e1]
  exact ⟨rfl, N1, rfl⟩
theorem d6_0 : decode jdk_39_method_1_code 0 = .ok (.aload_n 0, 1) := by decide +kernel
theorem d6_1 : decode jdk_39_method_1_code 1 = .ok (.invokespecial 1, 3) := by decide +kernel
theorem d6_4 : decode jdk_39_method_1_code 4 = .ok (.aload_n 0, 1) := by decide +kernel
theorem d6_5 : decode jdk_39_method_1_code 5 = .ok (.iconst 0, 1) := by decide +kernel
theorem d6_6 : decode jdk_39_method_1_code 6 = .ok (.putfield 7, 3) := by decide +kernel
theorem d6_9 : decode jdk_39_method_1_code 9 = .ok (.return_, 1) := by decide +kernel
theorem pn_6 : plainName "java/util/AbstractList" = true := by first | (simp [plainName, overriddenIn]; done) | decide +kernel
def Q_rmABL (Z : State) (xa : Addr) (h0 : Heap) (n0 : Nat) (v : Option Value) (h : Heap) (L : List Loc) : Prop := v = none ∧ Fr n0 L ∧ Keep h0 h [xa] ∧ Exa Z h xa "java/util/ArrayList" ∧ Fld Z h xa "java/util/AbstractList" "modCount" "I" (.int (0 : Int32)) ∧ Fld Z h xa "java/util/ArrayList" "elementData" "[Ljava/lang/Object;" .null ∧ Fld Z h xa "java/util/ArrayList" "size" "I" (.int (0 : Int32))
theorem rmABL (hw : HW a0 Z) (xa : Addr) (h0 : Heap) (n0 : Nat) (O0 : Old Z n0 h0) (NF : Nar Z w3 w0 w2 w1 w4 k_w3 k_w0 k_w1 z_cs w5) (E_xa : Exa Z h0 xa "java/util/ArrayList") (F_modCount_xa : Fld Z h0 xa "java/util/AbstractList" "modCount" "I" (.int (0 : Int32))) (F_elementData_xa : Fld Z h0 xa "java/util/ArrayList" "elementData" "[Ljava/lang/Object;" .null) (F_size_xa : Fld Z h0 xa "java/util/ArrayList" "size" "I" (.int (0 : Int32))) (g_xa : n0 ≤ xa) :
    Con l Z (⟨"java/util/AbstractList", "<init>", "()V"⟩ : MethodName) jdk_39_method_1_code 1 none ws ({ frames := 2, cells := 0, slots := 0, locals := 24 } : Room) #[(.ref xa)] h0 (Q_rmABL Z xa h0 n0) := by
  refine Con.body (own := "java/util/AbstractList") rfl (plainFor_of_name pn_6) (fun m => ef_rmAC m _) ?_
  intro p e s m below meth c s₁ Bd hx hby hml hZ hown X0 e0 Qf hQf
  have N0 := Fr.nil n0
  have K0 := Keep.refl h0 [xa]
  obtain ⟨S_w3, E_w3, S_w0, E_w0, S_w2, E_w2, F_elements_w2, E_w1, S_w4, E_w4, F_allowNulls_w2, S_w_ImmutableCollections__assertionsDisabled, V_w3, V_w0, V_w1, S_cs, nz_cs, M_OA⟩ := id NF
  refine Goes.to (T' := s₁.setTop (mkF m 1 #[.val (.ref xa)] [(.ref xa)])) (fun t k => XS.aloadN X0.here hx rfl (hb hby d6_0) rfl rfl k) ?_
  obtain ⟨_, _, ⟨T1, L1, k1, n1⟩, -, X1, ⟨Lc1, hQ1, l1, y1, z1⟩, st1⟩ := X0.specialBack hx (y := (⟨"java/util/AbstractCollection", "<init>", "()V"⟩ : MethodName)) rfl hown (mvT hZ (wi hw 38 rfl)) (mvT hZ (wi hw 39 rfl)) (mvT hZ (wi hw 43 rfl)) (by decide) (backOf (W := 0) (rmAC hw xa  h0 n0 O0 NF ) hZ (wi hw 43 rfl) (wi hw 42 rfl) (by decide) (by decide)) (g := (mkF m 1 #[.val (.ref xa)] [(.ref xa)])) rfl (by rw [hml]; rfl) (Steps.refl _) (a := xa) (argsL := []) (rest := []) (lenOf pd_5 rfl) rfl (by show 2 * 0 + _ ≤ _; exact Nat.le_of_eq rfl) (hb hby d6_1) (fun _ _ => ⟨rfl, e0, (by decide : 0 + 0 ≤ _), (by decide : 0 + 0 ≤ _)⟩)
  dsimp only [Pt.U, Pt.locs, Pt.cells, Pt.slots] at X1 l1 y1 z1 st1 hQ1
  subst l1 y1 z1
  obtain ⟨rfl, Nq1, e1⟩ := hQ1
  have N1 := Fr.app N0 Nq1
  refine Goes.thru (T' := T1.setTop (mkF m 4 #[.val (.ref xa)] [])) st1 ?_
  refine Goes.to (T' := T1.setTop (mkF m 5 #[.val (.ref xa)] [(.ref xa)])) (fun t k => XS.aloadN X1.here hx rfl (hb hby d6_4) rfl rfl k) ?_
  refine Goes.to (T' := T1.setTop (mkF m 6 #[.val (.ref xa)] [(.int (0 : Int32)), (.ref xa)])) (fun t k => XS.iconst X1.here hx rfl (hb hby d6_5) k) ?_
  obtain ⟨T2, h2, X2, e2, W2, st2⟩ := putF X1 hx hZ hown (host := "") (Or.inl (wi hw 45 rfl)) Via.refl e1 F_modCount_xa E_xa (Or.inl (wi hw 46 rfl)) (wi hw 27 rfl) (ty := .int) (by decide) rfl rfl (g := (mkF m 6 #[.val (.ref xa)] [(.int (0 : Int32)), (.ref xa)])) rfl rfl (hb hby d6_6)
  have F_modCount_xa := F_modCount_xa.same W2
  have E_xa := E_xa.wr W2
  have F_elementData_xa := F_elementData_xa.other W2 (Or.inr (slot_ne (Or.inl (wi hw 49 rfl)) (Or.inl (wi hw 46 rfl)) (by decide) (t := (.array (.object "java/lang/Object"))) (t' := .int) (by decide) (by decide)))
  have F_size_xa := F_size_xa.other W2 (Or.inr (slot_ne (Or.inl (wi hw 92 rfl)) (Or.inl (wi hw 46 rfl)) (by decide) (t := .int) (t' := .int) (by decide) (by decide)))
  have O0 := O0.wr W2 g_xa
  have K0 := K0.wr W2 (Or.inl (List.mem_of_getElem? (i := 0) rfl))
  have N2 := Fr.snoc X2 N1 g_xa
  refine Goes.to (T' := T2.setTop (mkF m 9 #[.val (.ref xa)] [])) st2 ?_
  obtain ⟨fs, hrL, hrun, hended, hW, hsame⟩ := X2.leave (v := none) (fun _ => rfl)
  subst hQf
  refine ⟨_, _, X2.returnOut hx Bd.returns (hb hby d6_9) hrL, hrun, hended, _, _, rfl, ?_, ⟨_, rfl⟩, hW, hsame.mono (by decide) (by decide)⟩
  show Q_rmABL Z xa h0 n0 (none) T2.heap _
  rw [e2]
  exact ⟨rfl, N2, K0, E_xa, F_modCount_xa, F_elementData_xa, F_size_xa⟩
theorem d5_0 : decode jdk_38_method_2_code 0 = .ok (.aload_n 0, 1) := by decide +kernel
theorem d5_1 : decode jdk_38_method_2_code 1 = .ok (.invokespecial 1, 3) := by decide +kernel
theorem d5_4 : decode jdk_38_method_2_code 4 = .ok (.aload_n 0, 1) := by decide +kernel
theorem d5_5 : decode jdk_38_method_2_code 5 = .ok (.getstatic 39, 3) := by decide +kernel
theorem d5_8 : decode jdk_38_method_2_code 8 = .ok (.putfield 9, 3) := by decide +kernel
theorem d5_11 : decode jdk_38_method_2_code 11 = .ok (.return_, 1) := by decide +kernel
theorem pn_5 : plainName "java/util/ArrayList" = true := by first | (simp [plainName, overriddenIn]; done) | decide +kernel
def Q_rmALI (Z : State) (xa : Addr) (w0 : Addr) (h0 : Heap) (n0 : Nat) (v : Option Value) (h : Heap) (L : List Loc) : Prop := v = none ∧ Fr n0 L ∧ Keep h0 h [xa] ∧ Exa Z h xa "java/util/ArrayList" ∧ Fld Z h xa "java/util/AbstractList" "modCount" "I" (.int (0 : Int32)) ∧ Fld Z h xa "java/util/ArrayList" "elementData" "[Ljava/lang/Object;" (.ref w0) ∧ Fld Z h xa "java/util/ArrayList" "size" "I" (.int (0 : Int32))
theorem rmALI (hw : HW a0 Z) (xa : Addr) (h0 : Heap) (n0 : Nat) (O0 : Old Z n0 h0) (NF : Nar Z w3 w0 w2 w1 w4 k_w3 k_w0 k_w1 z_cs w5) (E_xa : Exa Z h0 xa "java/util/ArrayList") (F_modCount_xa : Fld Z h0 xa "java/util/AbstractList" "modCount" "I" (.int (0 : Int32))) (F_elementData_xa : Fld Z h0 xa "java/util/ArrayList" "elementData" "[Ljava/lang/Object;" .null) (F_size_xa : Fld Z h0 xa "java/util/ArrayList" "size" "I" (.int (0 : Int32))) (g_xa : n0 ≤ xa) :
    Con l Z (⟨"java/util/ArrayList", "<init>", "()V"⟩ : MethodName) jdk_38_method_2_code 1 none ws ({ frames := 3, cells := 0, slots := 0, locals := 36 } : Room) #[(.ref xa)] h0 (Q_rmALI Z xa w0 h0 n0) := by
  refine Con.body (own := "java/util/ArrayList") rfl (plainFor_of_name pn_5) (fun m => ef_rmAC m _) ?_
  intro p e s m below meth c s₁ Bd hx hby hml hZ hown X0 e0 Qf hQf
  have N0 := Fr.nil n0
  have K0 := Keep.refl h0 [xa]
  obtain ⟨S_w3, E_w3, S_w0, E_w0, S_w2, E_w2, F_elements_w2, E_w1, S_w4, E_w4, F_allowNulls_w2, S_w_ImmutableCollections__assertionsDisabled, V_w3, V_w0, V_w1, S_cs, nz_cs, M_OA⟩ := id NF
  refine Goes.to (T' := s₁.setTop (mkF m 1 #[.val (.ref xa)] [(.ref xa)])) (fun t k => XS.aloadN X0.here hx rfl (hb hby d5_0) rfl rfl k) ?_
  obtain ⟨_, _, ⟨T1, L1, k1, n1⟩, -, X1, ⟨Lc1, hQ1, l1, y1, z1⟩, st1⟩ := X0.specialBack hx (y := (⟨"java/util/AbstractList", "<init>", "()V"⟩ : MethodName)) rfl hown (mvT hZ (wi hw 32 rfl)) (mvT hZ (wi hw 33 rfl)) (mvT hZ (wi hw 37 rfl)) (by decide) (backOf (W := 0) (rmABL hw xa  h0 n0 O0 NF E_xa F_modCount_xa F_elementData_xa F_size_xa g_xa) hZ (wi hw 37 rfl) (wi hw 36 rfl) (by decide) (by decide)) (g := (mkF m 1 #[.val (.ref xa)] [(.ref xa)])) rfl (by rw [hml]; rfl) (Steps.refl _) (a := xa) (argsL := []) (rest := []) (lenOf pd_5 rfl) rfl (by show 2 * 0 + _ ≤ _; exact Nat.le_of_eq rfl) (hb hby d5_1) (fun _ _ => ⟨rfl, e0, (by decide : 0 + 0 ≤ _), (by decide : 0 + 0 ≤ _)⟩)
  dsimp only [Pt.U, Pt.locs, Pt.cells, Pt.slots] at X1 l1 y1 z1 st1 hQ1
  subst l1 y1 z1
  obtain ⟨rfl, Nq1, K1, r0_1, r1_1, r2_1, r3_1⟩ := hQ1
  have N1 := Fr.app N0 Nq1
  have E_xa := E_xa.keep K1
  have O0 := O0.keep K1 (allS g_xa all0)
  have K0 := K0.trans K1 (allS (Or.inl (List.mem_of_getElem? (i := 0) rfl)) all0)
  have E_xa := r0_1
  have F_modCount_xa := r1_1
  have F_elementData_xa := r2_1
  have F_size_xa := r3_1
  refine Goes.thru (T' := T1.setTop (mkF m 4 #[.val (.ref xa)] [])) st1 ?_
  refine Goes.to (T' := T1.setTop (mkF m 5 #[.val (.ref xa)] [(.ref xa)])) (fun t k => XS.aloadN X1.here hx rfl (hb hby d5_4) rfl rfl k) ?_
  obtain ⟨T2, X2, e2, st2⟩ := getS2 X1 hx hZ hown (host := "") (Or.inl (wi hw 47 rfl)) Via.refl rfl (S_w0.ext O0.2) (g := (mkF m 5 #[.val (.ref xa)] [(.ref xa)])) rfl (hb hby d5_5)
  refine Goes.to (T' := T2.setTop (mkF m 8 #[.val (.ref xa)] [(.ref w0), (.ref xa)])) st2 ?_
  obtain ⟨T3, h3, X3, e3, W3, st3⟩ := putF X2 hx hZ hown (host := "") (Or.inl (wi hw 48 rfl)) Via.refl e2 F_elementData_xa E_xa (Or.inl (wi hw 49 rfl)) (wi hw 27 rfl) (ty := (.array (.object "java/lang/Object"))) (by decide) rfl rfl (g := (mkF m 8 #[.val (.ref xa)] [(.ref w0), (.ref xa)])) rfl rfl (hb hby d5_8)
  have F_elementData_xa := F_elementData_xa.same W3
  have E_xa := E_xa.wr W3
  have F_modCount_xa := F_modCount_xa.other W3 (Or.inr (slot_ne (Or.inl (wi hw 46 rfl)) (Or.inl (wi hw 49 rfl)) (by decide) (t := .int) (t' := (.array (.object "java/lang/Object"))) (by decide) (by decide)))
  have F_size_xa := F_size_xa.other W3 (Or.inr (slot_ne (Or.inl (wi hw 92 rfl)) (Or.inl (wi hw 49 rfl)) (by decide) (t := .int) (t' := (.array (.object "java/lang/Object"))) (by decide) (by decide)))
  have O0 := O0.wr W3 g_xa
  have K0 := K0.wr W3 (Or.inl (List.mem_of_getElem? (i := 0) rfl))
  have N3 := Fr.snoc X3 N1 g_xa
  refine Goes.to (T' := T3.setTop (mkF m 11 #[.val (.ref xa)] [])) st3 ?_
  obtain ⟨fs, hrL, hrun, hended, hW, hsame⟩ := X3.leave (v := none) (fun _ => rfl)
  subst hQf
  refine ⟨_, _, X3.returnOut hx Bd.returns (hb hby d5_11) hrL, hrun, hended, _, _, rfl, ?_, ⟨_, rfl⟩, hW, hsame.mono (by decide) (by decide)⟩
  show Q_rmALI Z xa w0 h0 n0 (none) T3.heap _
  rw [e3]
  exact ⟨rfl, N3, K0, E_xa, F_modCount_xa, F_elementData_xa, F_size_xa⟩
theorem d18_0 : decode jdk_29_method_65_code 0 = .ok (.iload_n 0, 1) := by decide +kernel
theorem d18_1 : decode jdk_29_method_65_code 1 = .ok (.iload_n 1, 1) := by decide +kernel
theorem d18_2 : decode jdk_29_method_65_code 2 = .ok (.if_icmp .lt 7, 3) := by decide +kernel
theorem d18_5 : decode jdk_29_method_65_code 5 = .ok (.iload_n 0, 1) := by decide +kernel
theorem d18_6 : decode jdk_29_method_65_code 6 = .ok (.goto 4, 3) := by decide +kernel
theorem d18_10 : decode jdk_29_method_65_code 10 = .ok (.ireturn, 1) := by decide +kernel
theorem ef_rmMx (m : MethodId) (x0 : Int32) (x1 : Int32) : entryFrame m #[(.int x0), (.int x1)] 2 = mkF m 0 #[.val (.int x0), .val (.int x1)] [] := by first | (simp [entryFrame, mkF, argsToLocals, Value.category]; done) | rfl
def Q_rmMx  (h0 : Heap) (n0 : Nat) (v : Option Value) (h : Heap) (L : List Loc) : Prop := v = some (.int 10) ∧ Fr n0 L ∧ h = h0
theorem rmMx (hw : HW a0 Z)  (h0 : Heap) (n0 : Nat) (O0 : Old Z n0 h0) (NF : Nar Z w3 w0 w2 w1 w4 k_w3 k_w0 k_w1 z_cs w5) :
    Con l Z (⟨"java/lang/Math", "max", "(II)I"⟩ : MethodName) jdk_29_method_65_code 2 (some .int) ws ({ frames := 0, cells := 0, slots := 0, locals := 0 } : Room) #[(.int (10 : Int32)), (.int (1 : Int32))] h0 (Q_rmMx  h0 n0) := by
  refine Con.body (own := "java/lang/Math") rfl (Jvm.Free.JP.mathPlain rfl (by decide +kernel)) (fun m => ef_rmMx m _ _) ?_
  intro p e s m below meth c s₁ Bd hx hby hml hZ hown X0 e0 Qf hQf
  have N0 := Fr.nil n0
  obtain ⟨S_w3, E_w3, S_w0, E_w0, S_w2, E_w2, F_elements_w2, E_w1, S_w4, E_w4, F_allowNulls_w2, S_w_ImmutableCollections__assertionsDisabled, V_w3, V_w0, V_w1, S_cs, nz_cs, M_OA⟩ := id NF
  refine Goes.to (T' := s₁.setTop (mkF m 1 #[.val (.int (10 : Int32)), .val (.int (1 : Int32))] [(.int (10 : Int32))])) (fun t k => XS.iloadN X0.here hx rfl (hb hby d18_0) rfl k) ?_
  refine Goes.to (T' := s₁.setTop (mkF m 2 #[.val (.int (10 : Int32)), .val (.int (1 : Int32))] [(.int (1 : Int32)), (.int (10 : Int32))])) (fun t k => XS.iloadN X0.here hx rfl (hb hby d18_1) rfl k) ?_
  refine Goes.to (T' := s₁.setTop (mkF m 5 #[.val (.int (10 : Int32)), .val (.int (1 : Int32))] [])) (fun t k => XS.icmpNo X0.here hx rfl (hb hby d18_2) rfl (flt (by decide)).1 k) ?_
  refine Goes.to (T' := s₁.setTop (mkF m 6 #[.val (.int (10 : Int32)), .val (.int (1 : Int32))] [(.int (10 : Int32))])) (fun t k => XS.iloadN X0.here hx rfl (hb hby d18_5) rfl k) ?_
  refine Goes.to (T' := s₁.setTop (mkF m 10 #[.val (.int (10 : Int32)), .val (.int (1 : Int32))] [(.int (10 : Int32))])) (fun t k => XS.goto X0.here hx rfl (pc0 := 6) (pc' := 10) rfl (hb hby d18_6) (by decide) (by decide) k) ?_
  obtain ⟨fs, hrL, hrun, hended, hW, hsame⟩ := X0.leave (v := some (.int (10 : Int32))) (fun h => by rw [Bd.returns] at h; cases h)
  subst hQf
  refine ⟨_, _, retOut X0 hx Bd.returns rfl (Or.inl ⟨rfl, Or.inl rfl, _, rfl⟩) (hb hby d18_10) hrL, hrun, hended, _, _, rfl, ?_, ⟨_, rfl⟩, hW, hsame.mono (by decide) (by decide)⟩
  show Q_rmMx  h0 n0 (some (.int (10 : Int32))) s₁.heap _
  rw [e0]
  exact ⟨rfl, N0, rfl⟩
theorem d28_0 : decode jdk_29_method_69_code 0 = .ok (.iload_n 0, 1) := by decide +kernel
theorem d28_1 : decode jdk_29_method_69_code 1 = .ok (.iload_n 1, 1) := by decide +kernel
theorem d28_2 : decode jdk_29_method_69_code 2 = .ok (.if_icmp .gt 7, 3) := by decide +kernel
theorem d28_9 : decode jdk_29_method_69_code 9 = .ok (.iload_n 1, 1) := by decide +kernel
theorem d28_10 : decode jdk_29_method_69_code 10 = .ok (.ireturn, 1) := by decide +kernel
def Q_rmMn1  (h0 : Heap) (n0 : Nat) (v : Option Value) (h : Heap) (L : List Loc) : Prop := v = some (.int 1) ∧ Fr n0 L ∧ h = h0
theorem rmMn1 (hw : HW a0 Z)  (h0 : Heap) (n0 : Nat) (O0 : Old Z n0 h0) (NF : Nar Z w3 w0 w2 w1 w4 k_w3 k_w0 k_w1 z_cs w5) :
    Con l Z (⟨"java/lang/Math", "min", "(II)I"⟩ : MethodName) jdk_29_method_69_code 2 (some .int) ws ({ frames := 0, cells := 0, slots := 0, locals := 0 } : Room) #[(.int (10 : Int32)), (.int (1 : Int32))] h0 (Q_rmMn1  h0 n0) := by
  refine Con.body (own := "java/lang/Math") rfl (Jvm.Free.JP.mathPlain rfl (by decide +kernel)) (fun m => ef_rmMx m _ _) ?_
  intro p e s m below meth c s₁ Bd hx hby hml hZ hown X0 e0 Qf hQf
  have N0 := Fr.nil n0
  obtain ⟨S_w3, E_w3, S_w0, E_w0, S_w2, E_w2, F_elements_w2, E_w1, S_w4, E_w4, F_allowNulls_w2, S_w_ImmutableCollections__assertionsDisabled, V_w3, V_w0, V_w1, S_cs, nz_cs, M_OA⟩ := id NF
  refine Goes.to (T' := s₁.setTop (mkF m 1 #[.val (.int (10 : Int32)), .val (.int (1 : Int32))] [(.int (10 : Int32))])) (fun t k => XS.iloadN X0.here hx rfl (hb hby d28_0) rfl k) ?_
  refine Goes.to (T' := s₁.setTop (mkF m 2 #[.val (.int (10 : Int32)), .val (.int (1 : Int32))] [(.int (1 : Int32)), (.int (10 : Int32))])) (fun t k => XS.iloadN X0.here hx rfl (hb hby d28_1) rfl k) ?_
  refine Goes.to (T' := s₁.setTop (mkF m 9 #[.val (.int (10 : Int32)), .val (.int (1 : Int32))] [])) (fun t k => XS.icmpYes X0.here hx rfl (pc0 := 2) (pc' := 9) rfl (hb hby d28_2) rfl (tlt (by decide)).2.2.1 (by decide) (by decide) k) ?_
  refine Goes.to (T' := s₁.setTop (mkF m 10 #[.val (.int (10 : Int32)), .val (.int (1 : Int32))] [(.int (1 : Int32))])) (fun t k => XS.iloadN X0.here hx rfl (hb hby d28_9) rfl k) ?_
  obtain ⟨fs, hrL, hrun, hended, hW, hsame⟩ := X0.leave (v := some (.int (1 : Int32))) (fun h => by rw [Bd.returns] at h; cases h)
  subst hQf
  refine ⟨_, _, retOut X0 hx Bd.returns rfl (Or.inl ⟨rfl, Or.inl rfl, _, rfl⟩) (hb hby d28_10) hrL, hrun, hended, _, _, rfl, ?_, ⟨_, rfl⟩, hW, hsame.mono (by decide) (by decide)⟩
  show Q_rmMn1  h0 n0 (some (.int (1 : Int32))) s₁.heap _
  rw [e0]
  exact ⟨rfl, N0, rfl⟩
def Q_rmMn2  (h0 : Heap) (n0 : Nat) (v : Option Value) (h : Heap) (L : List Loc) : Prop := v = some (.int 2) ∧ Fr n0 L ∧ h = h0
theorem rmMn2 (hw : HW a0 Z)  (h0 : Heap) (n0 : Nat) (O0 : Old Z n0 h0) (NF : Nar Z w3 w0 w2 w1 w4 k_w3 k_w0 k_w1 z_cs w5) :
    Con l Z (⟨"java/lang/Math", "min", "(II)I"⟩ : MethodName) jdk_29_method_69_code 2 (some .int) ws ({ frames := 0, cells := 0, slots := 0, locals := 0 } : Room) #[(.int (10 : Int32)), (.int (2 : Int32))] h0 (Q_rmMn2  h0 n0) := by
  refine Con.body (own := "java/lang/Math") rfl (Jvm.Free.JP.mathPlain rfl (by decide +kernel)) (fun m => ef_rmMx m _ _) ?_
  intro p e s m below meth c s₁ Bd hx hby hml hZ hown X0 e0 Qf hQf
  have N0 := Fr.nil n0
  obtain ⟨S_w3, E_w3, S_w0, E_w0, S_w2, E_w2, F_elements_w2, E_w1, S_w4, E_w4, F_allowNulls_w2, S_w_ImmutableCollections__assertionsDisabled, V_w3, V_w0, V_w1, S_cs, nz_cs, M_OA⟩ := id NF
  refine Goes.to (T' := s₁.setTop (mkF m 1 #[.val (.int (10 : Int32)), .val (.int (2 : Int32))] [(.int (10 : Int32))])) (fun t k => XS.iloadN X0.here hx rfl (hb hby d28_0) rfl k) ?_
  refine Goes.to (T' := s₁.setTop (mkF m 2 #[.val (.int (10 : Int32)), .val (.int (2 : Int32))] [(.int (2 : Int32)), (.int (10 : Int32))])) (fun t k => XS.iloadN X0.here hx rfl (hb hby d28_1) rfl k) ?_
  refine Goes.to (T' := s₁.setTop (mkF m 9 #[.val (.int (10 : Int32)), .val (.int (2 : Int32))] [])) (fun t k => XS.icmpYes X0.here hx rfl (pc0 := 2) (pc' := 9) rfl (hb hby d28_2) rfl (tlt (by decide)).2.2.1 (by decide) (by decide) k) ?_
  refine Goes.to (T' := s₁.setTop (mkF m 10 #[.val (.int (10 : Int32)), .val (.int (2 : Int32))] [(.int (2 : Int32))])) (fun t k => XS.iloadN X0.here hx rfl (hb hby d28_9) rfl k) ?_
  obtain ⟨fs, hrL, hrun, hended, hW, hsame⟩ := X0.leave (v := some (.int (2 : Int32))) (fun h => by rw [Bd.returns] at h; cases h)
  subst hQf
  refine ⟨_, _, retOut X0 hx Bd.returns rfl (Or.inl ⟨rfl, Or.inl rfl, _, rfl⟩) (hb hby d28_10) hrL, hrun, hended, _, _, rfl, ?_, ⟨_, rfl⟩, hW, hsame.mono (by decide) (by decide)⟩
  show Q_rmMn2  h0 n0 (some (.int (2 : Int32))) s₁.heap _
  rw [e0]
  exact ⟨rfl, N0, rfl⟩
def Q_rmMn3  (h0 : Heap) (n0 : Nat) (v : Option Value) (h : Heap) (L : List Loc) : Prop := v = some (.int 3) ∧ Fr n0 L ∧ h = h0
theorem rmMn3 (hw : HW a0 Z)  (h0 : Heap) (n0 : Nat) (O0 : Old Z n0 h0) (NF : Nar Z w3 w0 w2 w1 w4 k_w3 k_w0 k_w1 z_cs w5) :
    Con l Z (⟨"java/lang/Math", "min", "(II)I"⟩ : MethodName) jdk_29_method_69_code 2 (some .int) ws ({ frames := 0, cells := 0, slots := 0, locals := 0 } : Room) #[(.int (10 : Int32)), (.int (3 : Int32))] h0 (Q_rmMn3  h0 n0) := by
  refine Con.body (own := "java/lang/Math") rfl (Jvm.Free.JP.mathPlain rfl (by decide +kernel)) (fun m => ef_rmMx m _ _) ?_
  intro p e s m below meth c s₁ Bd hx hby hml hZ hown X0 e0 Qf hQf
  have N0 := Fr.nil n0
  obtain ⟨S_w3, E_w3, S_w0, E_w0, S_w2, E_w2, F_elements_w2, E_w1, S_w4, E_w4, F_allowNulls_w2, S_w_ImmutableCollections__assertionsDisabled, V_w3, V_w0, V_w1, S_cs, nz_cs, M_OA⟩ := id NF
  refine Goes.to (T' := s₁.setTop (mkF m 1 #[.val (.int (10 : Int32)), .val (.int (3 : Int32))] [(.int (10 : Int32))])) (fun t k => XS.iloadN X0.here hx rfl (hb hby d28_0) rfl k) ?_
  refine Goes.to (T' := s₁.setTop (mkF m 2 #[.val (.int (10 : Int32)), .val (.int (3 : Int32))] [(.int (3 : Int32)), (.int (10 : Int32))])) (fun t k => XS.iloadN X0.here hx rfl (hb hby d28_1) rfl k) ?_
  refine Goes.to (T' := s₁.setTop (mkF m 9 #[.val (.int (10 : Int32)), .val (.int (3 : Int32))] [])) (fun t k => XS.icmpYes X0.here hx rfl (pc0 := 2) (pc' := 9) rfl (hb hby d28_2) rfl (tlt (by decide)).2.2.1 (by decide) (by decide) k) ?_
  refine Goes.to (T' := s₁.setTop (mkF m 10 #[.val (.int (10 : Int32)), .val (.int (3 : Int32))] [(.int (3 : Int32))])) (fun t k => XS.iloadN X0.here hx rfl (hb hby d28_9) rfl k) ?_
  obtain ⟨fs, hrL, hrun, hended, hW, hsame⟩ := X0.leave (v := some (.int (3 : Int32))) (fun h => by rw [Bd.returns] at h; cases h)
  subst hQf
  refine ⟨_, _, retOut X0 hx Bd.returns rfl (Or.inl ⟨rfl, Or.inl rfl, _, rfl⟩) (hb hby d28_10) hrL, hrun, hended, _, _, rfl, ?_, ⟨_, rfl⟩, hW, hsame.mono (by decide) (by decide)⟩
  show Q_rmMn3  h0 n0 (some (.int (3 : Int32))) s₁.heap _
  rw [e0]
  exact ⟨rfl, N0, rfl⟩
theorem pd_42 : parseMethodDescriptor "(II)I" = some ⟨[.int, .int], some .int⟩ := by decide +kernel
theorem d17_0 : decode jdk_38_method_6_code 0 = .ok (.aload_n 0, 1) := by decide +kernel
theorem d17_1 : decode jdk_38_method_6_code 1 = .ok (.getfield 9, 3) := by decide +kernel
theorem d17_4 : decode jdk_38_method_6_code 4 = .ok (.arraylength, 1) := by decide +kernel
theorem d17_5 : decode jdk_38_method_6_code 5 = .ok (.istore_n 2, 1) := by decide +kernel
theorem d17_6 : decode jdk_38_method_6_code 6 = .ok (.iload_n 2, 1) := by decide +kernel
theorem d17_7 : decode jdk_38_method_6_code 7 = .ok (.ifCond .gt 13, 3) := by decide +kernel
theorem d17_10 : decode jdk_38_method_6_code 10 = .ok (.aload_n 0, 1) := by decide +kernel
theorem d17_11 : decode jdk_38_method_6_code 11 = .ok (.getfield 9, 3) := by decide +kernel
theorem d17_14 : decode jdk_38_method_6_code 14 = .ok (.getstatic 39, 3) := by decide +kernel
theorem d17_17 : decode jdk_38_method_6_code 17 = .ok (.if_acmp .eq 28, 3) := by decide +kernel
theorem d17_45 : decode jdk_38_method_6_code 45 = .ok (.aload_n 0, 1) := by decide +kernel
theorem d17_46 : decode jdk_38_method_6_code 46 = .ok (.bipush 10, 2) := by decide +kernel
theorem d17_48 : decode jdk_38_method_6_code 48 = .ok (.iload_n 1, 1) := by decide +kernel
theorem d17_49 : decode jdk_38_method_6_code 49 = .ok (.invokestatic 79, 3) := by decide +kernel
theorem d17_52 : decode jdk_38_method_6_code 52 = .ok (.anewarray 7, 3) := by decide +kernel
theorem d17_55 : decode jdk_38_method_6_code 55 = .ok (.dup_x1, 1) := by decide +kernel
theorem d17_56 : decode jdk_38_method_6_code 56 = .ok (.putfield 9, 3) := by decide +kernel
theorem d17_59 : decode jdk_38_method_6_code 59 = .ok (.areturn, 1) := by decide +kernel
theorem pn_17 : plainName "java/util/ArrayList" = true := by first | (simp [plainName, overriddenIn]; done) | decide +kernel
theorem ef_rmGI (m : MethodId) (x0 : Addr) (x1 : Int32) : entryFrame m #[(.ref x0), (.int x1)] 4 = mkF m 0 #[.val (.ref x0), .val (.int x1), .unset, .unset] [] := by first | (simp [entryFrame, mkF, argsToLocals, Value.category]; done) | rfl
def Q_rmGI (Z : State) (xa : Addr) (mc : Int32) (h0 : Heap) (n0 : Nat) (v : Option Value) (h : Heap) (L : List Loc) : Prop := (∃ (ed : Addr) (kd : ClassId), v = some (.ref ed) ∧ n0 ≤ ed ∧ h0.size ≤ ed ∧ Ovr Z kd "java/lang/Object" ∧ Exa Z h xa "java/util/ArrayList" ∧ Fld Z h xa "java/util/AbstractList" "modCount" "I" (.int mc) ∧ Fld Z h xa "java/util/ArrayList" "elementData" "[Ljava/lang/Object;" (.ref ed) ∧ Fld Z h xa "java/util/ArrayList" "size" "I" (.int (0 : Int32)) ∧ Arv Z h ed kd (.object "java/lang/Object") (10 : Int32) [.null, .null, .null, .null, .null, .null, .null, .null, .null, .null] .null ∧ Exa Z h ed "[Ljava/lang/Object;") ∧ Fr n0 L ∧ Keep h0 h [xa]
theorem rmGI (hw : HW a0 Z) (xa : Addr) (mc : Int32) (h0 : Heap) (n0 : Nat) (O0 : Old Z n0 h0) (NF : Nar Z w3 w0 w2 w1 w4 k_w3 k_w0 k_w1 z_cs w5) (E_xa : Exa Z h0 xa "java/util/ArrayList") (F_modCount_xa : Fld Z h0 xa "java/util/AbstractList" "modCount" "I" (.int mc)) (F_elementData_xa : Fld Z h0 xa "java/util/ArrayList" "elementData" "[Ljava/lang/Object;" (.ref w0)) (F_size_xa : Fld Z h0 xa "java/util/ArrayList" "size" "I" (.int (0 : Int32))) (g_xa : n0 ≤ xa) :
    Con l Z (⟨"java/util/ArrayList", "grow", "(I)[Ljava/lang/Object;"⟩ : MethodName) jdk_38_method_6_code 4 (some (.array (.object "java/lang/Object"))) ws ({ frames := 1, cells := 1, slots := 10, locals := 24 } : Room) #[(.ref xa), (.int (1 : Int32))] h0 (Q_rmGI Z xa mc h0 n0) := by
  refine Con.body (own := "java/util/ArrayList") rfl (plainFor_of_name pn_17) (fun m => ef_rmGI m _ _) ?_
  intro p e s m below meth c s₁ Bd hx hby hml hZ hown X0 e0 Qf hQf
  have N0 := Fr.nil n0
  have K0 := Keep.refl h0 [xa]
  obtain ⟨S_w3, E_w3, S_w0, E_w0, S_w2, E_w2, F_elements_w2, E_w1, S_w4, E_w4, F_allowNulls_w2, S_w_ImmutableCollections__assertionsDisabled, V_w3, V_w0, V_w1, S_cs, nz_cs, M_OA⟩ := id NF
  refine Goes.to (T' := s₁.setTop (mkF m 1 #[.val (.ref xa), .val (.int (1 : Int32)), .unset, .unset] [(.ref xa)])) (fun t k => XS.aloadN X0.here hx rfl (hb hby d17_0) rfl rfl k) ?_
  obtain ⟨T1, X1, e1, st1⟩ := getF X0 hx hZ hown (host := "") (Or.inl (wi hw 48 rfl)) Via.refl e0 F_elementData_xa (g := (mkF m 1 #[.val (.ref xa), .val (.int (1 : Int32)), .unset, .unset] [(.ref xa)])) rfl rfl (hb hby d17_1)
  refine Goes.to (T' := T1.setTop (mkF m 4 #[.val (.ref xa), .val (.int (1 : Int32)), .unset, .unset] [(.ref w0)])) st1 ?_
  obtain ⟨cl2, Ar2, q2, S2, Ng2, H2, G2⟩ := id (V_w0.ext O0.2)
  refine Goes.to (T' := T1.setTop (mkF m 5 #[.val (.ref xa), .val (.int (1 : Int32)), .unset, .unset] [(.int (0 : Int32))])) (fun t k => X1.arraylength hx (by rw [e1]; exact Ar2.1) (State.isArrayOf_alike hZ.alike Ar2.2.1) (g := (mkF m 4 #[.val (.ref xa), .val (.int (1 : Int32)), .unset, .unset] [(.ref w0)])) rfl rfl (hb hby d17_4) _ (by rw [len_of S2 Ng2]; exact k)) ?_
  refine Goes.to (T' := T1.setTop (mkF m 6 #[.val (.ref xa), .val (.int (1 : Int32)), .val (.int (0 : Int32)), .unset] [])) (fun t k => XS.istoreN X1.here hx rfl (hb hby d17_5) rfl (l' := #[.val (.ref xa), .val (.int (1 : Int32)), .val (.int (0 : Int32)), .unset]) rfl k) ?_
  refine Goes.to (T' := T1.setTop (mkF m 7 #[.val (.ref xa), .val (.int (1 : Int32)), .val (.int (0 : Int32)), .unset] [(.int (0 : Int32))])) (fun t k => XS.iloadN X1.here hx rfl (hb hby d17_6) rfl k) ?_
  refine Goes.to (T' := T1.setTop (mkF m 10 #[.val (.ref xa), .val (.int (1 : Int32)), .val (.int (0 : Int32)), .unset] [])) (fun t k => XS.ifNo X1.here hx rfl (hb hby d17_7) rfl ((if0 _ _).trans (flt (by decide)).2.2.1) k) ?_
  refine Goes.to (T' := T1.setTop (mkF m 11 #[.val (.ref xa), .val (.int (1 : Int32)), .val (.int (0 : Int32)), .unset] [(.ref xa)])) (fun t k => XS.aloadN X1.here hx rfl (hb hby d17_10) rfl rfl k) ?_
  obtain ⟨T3, X3, e3, st3⟩ := getF X1 hx hZ hown (host := "") (Or.inl (wi hw 48 rfl)) Via.refl e1 F_elementData_xa (g := (mkF m 11 #[.val (.ref xa), .val (.int (1 : Int32)), .val (.int (0 : Int32)), .unset] [(.ref xa)])) rfl rfl (hb hby d17_11)
  refine Goes.to (T' := T3.setTop (mkF m 14 #[.val (.ref xa), .val (.int (1 : Int32)), .val (.int (0 : Int32)), .unset] [(.ref w0)])) st3 ?_
  obtain ⟨T4, X4, e4, st4⟩ := getS2 X3 hx hZ hown (host := "") (Or.inl (wi hw 47 rfl)) Via.refl e3 (S_w0.ext O0.2) (g := (mkF m 14 #[.val (.ref xa), .val (.int (1 : Int32)), .val (.int (0 : Int32)), .unset] [(.ref w0)])) rfl (hb hby d17_14)
  refine Goes.to (T' := T4.setTop (mkF m 17 #[.val (.ref xa), .val (.int (1 : Int32)), .val (.int (0 : Int32)), .unset] [(.ref w0), (.ref w0)])) st4 ?_
  refine Goes.to (T' := T4.setTop (mkF m 45 #[.val (.ref xa), .val (.int (1 : Int32)), .val (.int (0 : Int32)), .unset] [])) (fun t k => Jvm.RoadKit.acmp (g := (mkF m 17 #[.val (.ref xa), .val (.int (1 : Int32)), .val (.int (0 : Int32)), .unset] [(.ref w0), (.ref w0)])) X4 hx rfl rfl rfl (pc0 := 17) (pc' := 45) (same := true) rfl (hb hby d17_17) rfl (decide_eq_true rfl) (by decide) (by decide) k) ?_
  refine Goes.to (T' := T4.setTop (mkF m 46 #[.val (.ref xa), .val (.int (1 : Int32)), .val (.int (0 : Int32)), .unset] [(.ref xa)])) (fun t k => XS.aloadN X4.here hx rfl (hb hby d17_45) rfl rfl k) ?_
  refine Goes.to (T' := T4.setTop (mkF m 48 #[.val (.ref xa), .val (.int (1 : Int32)), .val (.int (0 : Int32)), .unset] [(.int (10 : Int32)), (.ref xa)])) (fun t k => XS.bipush X4.here hx rfl (hb hby d17_46) k) ?_
  refine Goes.to (T' := T4.setTop (mkF m 49 #[.val (.ref xa), .val (.int (1 : Int32)), .val (.int (0 : Int32)), .unset] [(.int (1 : Int32)), (.int (10 : Int32)), (.ref xa)])) (fun t k => XS.iloadN X4.here hx rfl (hb hby d17_48) rfl k) ?_
  obtain ⟨_, _, ⟨T5, L5, k5, n5⟩, -, X5, ⟨Lc5, hQ5, l5, y5, z5⟩, st5⟩ := Jvm.LawKit.callS X4 hx (y := (⟨"java/lang/Math", "max", "(II)I"⟩ : MethodName)) hown (mvT hZ (wi hw 121 rfl)) (mvT hZ (wi hw 122 rfl)) (mvT hZ (wi hw 123 rfl)) (mvT hZ (wi hw 124 rfl)) (by decide) (backOf (W := 1) (rmMx hw   h0 n0 O0 NF ) hZ (wi hw 124 rfl) (wi hw 123 rfl) (by decide) (by decide)) (g := (mkF m 49 #[.val (.ref xa), .val (.int (1 : Int32)), .val (.int (0 : Int32)), .unset] [(.int (1 : Int32)), (.int (10 : Int32)), (.ref xa)])) rfl (by rw [hml]; rfl) (argsL := [(.int (10 : Int32)), (.int (1 : Int32))]) (rest := [(.ref xa)]) (lenOf pd_42 rfl) rfl (by show 2 * 0 + _ ≤ _; exact Nat.le_of_eq rfl) (hb hby d17_49) (fun _ _ => ⟨rfl, e4, (by decide : 0 + 0 ≤ _), (by decide : 0 + 0 ≤ _)⟩)
  dsimp only [Pt.U, Pt.locs, Pt.cells, Pt.slots] at X5 l5 y5 z5 st5 hQ5
  subst l5 y5 z5
  obtain ⟨rfl, Nq5, e5⟩ := hQ5
  have N5 := Fr.app N0 Nq5
  refine Goes.to (T' := T5.setTop (mkF m 52 #[.val (.ref xa), .val (.int (1 : Int32)), .val (.int (0 : Int32)), .unset] [(.int (10 : Int32)), (.ref xa)])) st5 ?_
  obtain ⟨T6, h6, k6, X6, e6, E6, A6, Ea6, O6, st6⟩ := newRE X5 hx hZ hown (wi hw 125 rfl) (wi hw 126 rfl) e5 (g := (mkF m 52 #[.val (.ref xa), .val (.int (1 : Int32)), .val (.int (0 : Int32)), .unset] [(.int (10 : Int32)), (.ref xa)])) rfl (hb hby d17_52) rfl (by decide) (cap := 10) (by decide) (by decide) (by decide) (by decide) (ad := "[Ljava/lang/Object;") (by decide +kernel)
  obtain ⟨b6, g6⟩ : ∃ z, z = h0.size := ⟨_, rfl⟩
  rw [← g6] at A6 Ea6 st6
  have g_b6 : n0 ≤ b6 := Nat.le_trans (own_old O0) (Nat.le_of_eq g6.symm)
  have sz_b6 : h0.size ≤ b6 := Nat.le_trans K0.1 (Nat.le_of_eq g6.symm)
  have ne_xa_b6 : xa ≠ b6 := Nat.ne_of_lt (Nat.lt_of_lt_of_le E_xa.lt (Nat.le_of_eq g6.symm))
  have ne_b6_xa := Ne.symm ne_xa_b6
  have E_xa := E_xa.ext E6
  have F_modCount_xa := F_modCount_xa.ext E6
  have F_elementData_xa := F_elementData_xa.ext E6
  have F_size_xa := F_size_xa.ext E6
  have O0 := O0.ext E6
  have K0 := K0.ext E6
  have V_b6 : Arv Z h6 b6 k6 (.object "java/lang/Object") (10 : Int32) [.null, .null, .null, .null, .null, .null, .null, .null, .null, .null] .null := (Arv.new A6 (by decide)).pad (pad_rep [] .null 10)
  have E_b6 := Ea6
  have Ov_b6 := O6
  refine Goes.to (T' := T6.setTop (mkF m 55 #[.val (.ref xa), .val (.int (1 : Int32)), .val (.int (0 : Int32)), .unset] [(.ref b6), (.ref xa)])) st6 ?_
  refine Goes.to (T' := T6.setTop (mkF m 56 #[.val (.ref xa), .val (.int (1 : Int32)), .val (.int (0 : Int32)), .unset] [(.ref b6), (.ref xa), (.ref b6)])) (fun t k => XS.dupX1 X6.here hx rfl (hb hby d17_55) rfl rfl rfl k) ?_
  obtain ⟨T7, h7, X7, e7, W7, st7⟩ := putF X6 hx hZ hown (host := "") (Or.inl (wi hw 48 rfl)) Via.refl e6 F_elementData_xa E_xa (Or.inl (wi hw 49 rfl)) (wi hw 27 rfl) (ty := (.array (.object "java/lang/Object"))) (by decide) rfl rfl (g := (mkF m 56 #[.val (.ref xa), .val (.int (1 : Int32)), .val (.int (0 : Int32)), .unset] [(.ref b6), (.ref xa), (.ref b6)])) rfl rfl (hb hby d17_56)
  have F_elementData_xa := F_elementData_xa.same W7
  have E_xa := E_xa.wr W7
  have F_modCount_xa := F_modCount_xa.other W7 (Or.inr (slot_ne (Or.inl (wi hw 46 rfl)) (Or.inl (wi hw 49 rfl)) (by decide) (t := .int) (t' := (.array (.object "java/lang/Object"))) (by decide) (by decide)))
  have F_size_xa := F_size_xa.other W7 (Or.inr (slot_ne (Or.inl (wi hw 92 rfl)) (Or.inl (wi hw 49 rfl)) (by decide) (t := .int) (t' := (.array (.object "java/lang/Object"))) (by decide) (by decide)))
  have V_b6 := V_b6.other W7 (ne_b6_xa)
  have E_b6 := E_b6.wr W7
  have O0 := O0.wr W7 g_xa
  have K0 := K0.wr W7 (Or.inl (List.mem_of_getElem? (i := 0) rfl))
  have N7 := Fr.snoc X7 N5 g_xa
  refine Goes.to (T' := T7.setTop (mkF m 59 #[.val (.ref xa), .val (.int (1 : Int32)), .val (.int (0 : Int32)), .unset] [(.ref b6)])) st7 ?_
  obtain ⟨fs, hrL, hrun, hended, hW, hsame⟩ := X7.leave (v := some (.ref b6)) (fun h => by rw [Bd.returns] at h; cases h)
  subst hQf
  refine ⟨_, _, retOut X7 hx Bd.returns rfl (Or.inr (Or.inr (Or.inr (Or.inr ⟨rfl, rfl, rfl⟩)))) (hb hby d17_59) hrL, hrun, hended, _, _, rfl, ?_, ⟨_, rfl⟩, hW, hsame.mono (by decide) (by decide)⟩
  show Q_rmGI Z xa mc h0 n0 (some (.ref b6)) T7.heap _
  rw [e7]
  exact ⟨⟨b6, _, rfl, g_b6, sz_b6, Ov_b6, E_xa, F_modCount_xa, F_elementData_xa, F_size_xa, V_b6, E_b6⟩, N7, K0⟩
theorem pd_63 : parseMethodDescriptor "(I)[Ljava/lang/Object;" = some ⟨[.int], some (.array (.object "java/lang/Object"))⟩ := by decide +kernel
theorem d16_0 : decode jdk_38_method_7_code 0 = .ok (.aload_n 0, 1) := by decide +kernel
theorem d16_1 : decode jdk_38_method_7_code 1 = .ok (.aload_n 0, 1) := by decide +kernel
theorem d16_2 : decode jdk_38_method_7_code 2 = .ok (.getfield 48, 3) := by decide +kernel
theorem d16_5 : decode jdk_38_method_7_code 5 = .ok (.iconst 1, 1) := by decide +kernel
theorem d16_6 : decode jdk_38_method_7_code 6 = .ok (.iadd, 1) := by decide +kernel
theorem d16_7 : decode jdk_38_method_7_code 7 = .ok (.invokevirtual 69, 3) := by decide +kernel
theorem d16_10 : decode jdk_38_method_7_code 10 = .ok (.areturn, 1) := by decide +kernel
theorem pn_16 : plainName "java/util/ArrayList" = true := by first | (simp [plainName, overriddenIn]; done) | decide +kernel
def Q_rmG (Z : State) (xa : Addr) (mc : Int32) (h0 : Heap) (n0 : Nat) (v : Option Value) (h : Heap) (L : List Loc) : Prop := (∃ (ed : Addr) (kd : ClassId), v = some (.ref ed) ∧ n0 ≤ ed ∧ h0.size ≤ ed ∧ Ovr Z kd "java/lang/Object" ∧ Exa Z h xa "java/util/ArrayList" ∧ Fld Z h xa "java/util/AbstractList" "modCount" "I" (.int mc) ∧ Fld Z h xa "java/util/ArrayList" "elementData" "[Ljava/lang/Object;" (.ref ed) ∧ Fld Z h xa "java/util/ArrayList" "size" "I" (.int (0 : Int32)) ∧ Arv Z h ed kd (.object "java/lang/Object") (10 : Int32) [.null, .null, .null, .null, .null, .null, .null, .null, .null, .null] .null ∧ Exa Z h ed "[Ljava/lang/Object;") ∧ Fr n0 L ∧ Keep h0 h [xa]
theorem rmG (hw : HW a0 Z) (xa : Addr) (mc : Int32) (h0 : Heap) (n0 : Nat) (O0 : Old Z n0 h0) (NF : Nar Z w3 w0 w2 w1 w4 k_w3 k_w0 k_w1 z_cs w5) (E_xa : Exa Z h0 xa "java/util/ArrayList") (F_modCount_xa : Fld Z h0 xa "java/util/AbstractList" "modCount" "I" (.int mc)) (F_elementData_xa : Fld Z h0 xa "java/util/ArrayList" "elementData" "[Ljava/lang/Object;" (.ref w0)) (F_size_xa : Fld Z h0 xa "java/util/ArrayList" "size" "I" (.int (0 : Int32))) (g_xa : n0 ≤ xa) :
    Con l Z (⟨"java/util/ArrayList", "grow", "()[Ljava/lang/Object;"⟩ : MethodName) jdk_38_method_7_code 1 (some (.array (.object "java/lang/Object"))) ws ({ frames := 2, cells := 1, slots := 10, locals := 48 } : Room) #[(.ref xa)] h0 (Q_rmG Z xa mc h0 n0) := by
  refine Con.body (own := "java/util/ArrayList") rfl (plainFor_of_name pn_16) (fun m => ef_rmAC m _) ?_
  intro p e s m below meth c s₁ Bd hx hby hml hZ hown X0 e0 Qf hQf
  have N0 := Fr.nil n0
  have K0 := Keep.refl h0 [xa]
  obtain ⟨S_w3, E_w3, S_w0, E_w0, S_w2, E_w2, F_elements_w2, E_w1, S_w4, E_w4, F_allowNulls_w2, S_w_ImmutableCollections__assertionsDisabled, V_w3, V_w0, V_w1, S_cs, nz_cs, M_OA⟩ := id NF
  refine Goes.to (T' := s₁.setTop (mkF m 1 #[.val (.ref xa)] [(.ref xa)])) (fun t k => XS.aloadN X0.here hx rfl (hb hby d16_0) rfl rfl k) ?_
  refine Goes.to (T' := s₁.setTop (mkF m 2 #[.val (.ref xa)] [(.ref xa), (.ref xa)])) (fun t k => XS.aloadN X0.here hx rfl (hb hby d16_1) rfl rfl k) ?_
  obtain ⟨T1, X1, e1, st1⟩ := getF X0 hx hZ hown (host := "") (Or.inl (wi hw 91 rfl)) Via.refl e0 F_size_xa (g := (mkF m 2 #[.val (.ref xa)] [(.ref xa), (.ref xa)])) rfl rfl (hb hby d16_2)
  refine Goes.to (T' := T1.setTop (mkF m 5 #[.val (.ref xa)] [(.int (0 : Int32)), (.ref xa)])) st1 ?_
  refine Goes.to (T' := T1.setTop (mkF m 6 #[.val (.ref xa)] [(.int (1 : Int32)), (.int (0 : Int32)), (.ref xa)])) (fun t k => XS.iconst X1.here hx rfl (hb hby d16_5) k) ?_
  refine Goes.to (T' := T1.setTop (mkF m 7 #[.val (.ref xa)] [(.int ((0 : Int32) + (1 : Int32))), (.ref xa)])) (fun t k => XS.iadd X1.here hx rfl (hb hby d16_6) rfl k) ?_
  rw [show ((0 : Int32) + (1 : Int32)) = (1 : Int32) from by decide +kernel]
  obtain ⟨cq2, q2, q2'⟩ := E_xa.cell
  obtain ⟨_, _, ⟨T2, L2, k2, n2⟩, -, X2, ⟨Lc2, hQ2, l2, y2, z2⟩, st2⟩ := X1.privateBack hx (y := (⟨"java/util/ArrayList", "grow", "(I)[Ljava/lang/Object;"⟩ : MethodName)) hown (mvT hZ (wi hw 116 rfl)) (mvT hZ (wi hw 117 rfl)) (mvT hZ (wi hw 119 rfl)) (Cond.privateMethod_at (mvP hZ (wi hw 118 rfl) (args := #[]))) (mvT hZ (wi hw 120 rfl)) (by decide) (backOf (W := 0) (rmGI hw xa mc h0 n0 O0 NF E_xa F_modCount_xa F_elementData_xa F_size_xa g_xa) hZ (wi hw 120 rfl) (wi hw 28 rfl) (by decide) (by decide)) (g := (mkF m 7 #[.val (.ref xa)] [(.int (1 : Int32)), (.ref xa)])) rfl (by rw [hml]; rfl) (Steps.refl _) (a := xa) (by rw [e1]; exact q2) q2' (argsL := [(.int (1 : Int32))]) (rest := []) (lenOf pd_63 rfl) rfl (by show 2 * 0 + _ ≤ _; exact Nat.le_of_eq rfl) (hb hby d16_7) (fun _ _ => ⟨rfl, e1, (by decide : 0 + 1 ≤ _), (by decide : 0 + 10 ≤ _)⟩)
  dsimp only [Pt.U, Pt.locs, Pt.cells, Pt.slots] at X2 l2 y2 z2 st2 hQ2
  subst l2 y2 z2
  obtain ⟨⟨ed, kd, rfl, ge2, se2, Ov2, r0_2, r1_2, r2_2, r3_2, r4_2, r5_2⟩, Nq2, K2⟩ := hQ2
  have N2 := Fr.app N0 Nq2
  have g_ed : n0 ≤ ed := ge2
  have sz_ed : h0.size ≤ ed := Nat.le_trans K0.1 se2
  have ne_xa_ed : xa ≠ ed := Nat.ne_of_lt (Nat.lt_of_lt_of_le E_xa.lt se2)
  have ne_ed_xa := Ne.symm ne_xa_ed
  have E_xa := E_xa.keep K2
  have O0 := O0.keep K2 (allS g_xa all0)
  have K0 := K0.trans K2 (allS (Or.inl (List.mem_of_getElem? (i := 0) rfl)) all0)
  have E_xa := r0_2
  have F_modCount_xa := r1_2
  have F_elementData_xa := r2_2
  have F_size_xa := r3_2
  have V_ed := r4_2
  have E_ed := r5_2
  have Ov_ed := Ov2
  refine Goes.thru (T' := T2.setTop (mkF m 10 #[.val (.ref xa)] [(.ref ed)])) st2 ?_
  obtain ⟨fs, hrL, hrun, hended, hW, hsame⟩ := X2.leave (v := some (.ref ed)) (fun h => by rw [Bd.returns] at h; cases h)
  subst hQf
  refine ⟨_, _, retOut X2 hx Bd.returns rfl (Or.inr (Or.inr (Or.inr (Or.inr ⟨rfl, rfl, rfl⟩)))) (hb hby d16_10) hrL, hrun, hended, _, _, rfl, ?_, ⟨_, rfl⟩, hW, hsame.mono (by decide) (by decide)⟩
  show Q_rmG Z xa mc h0 n0 (some (.ref ed)) T2.heap _
  exact ⟨⟨ed, _, rfl, g_ed, sz_ed, Ov_ed, E_xa, F_modCount_xa, F_elementData_xa, F_size_xa, V_ed, E_ed⟩, N2, K0⟩
def LA0 (v0 : Addr) (v1 : Addr) (v2 : Addr) : Array Slot := #[.val (.ref v0), .val (.ref v1), .val (.ref v2), .val (.int (0 : Int32))]
theorem pd_73 : parseMethodDescriptor "()[Ljava/lang/Object;" = some ⟨[], some (.array (.object "java/lang/Object"))⟩ := by decide +kernel
theorem d15_0 : decode jdk_38_method_24_code 0 = .ok (.iload_n 3, 1) := by decide +kernel
theorem d15_1 : decode jdk_38_method_24_code 1 = .ok (.aload_n 2, 1) := by decide +kernel
theorem d15_2 : decode jdk_38_method_24_code 2 = .ok (.arraylength, 1) := by decide +kernel
theorem d15_3 : decode jdk_38_method_24_code 3 = .ok (.if_icmp .ne 8, 3) := by decide +kernel
theorem d15_6 : decode jdk_38_method_24_code 6 = .ok (.aload_n 0, 1) := by decide +kernel
theorem d15_7 : decode jdk_38_method_24_code 7 = .ok (.invokevirtual 129, 3) := by decide +kernel
theorem d15_10 : decode jdk_38_method_24_code 10 = .ok (.astore_n 2, 1) := by decide +kernel
theorem d15_11 : decode jdk_38_method_24_code 11 = .ok (.aload_n 2, 1) := by decide +kernel
theorem d15_12 : decode jdk_38_method_24_code 12 = .ok (.iload_n 3, 1) := by decide +kernel
theorem d15_13 : decode jdk_38_method_24_code 13 = .ok (.aload_n 1, 1) := by decide +kernel
theorem d15_14 : decode jdk_38_method_24_code 14 = .ok (.aastore, 1) := by decide +kernel
theorem d15_15 : decode jdk_38_method_24_code 15 = .ok (.aload_n 0, 1) := by decide +kernel
theorem d15_16 : decode jdk_38_method_24_code 16 = .ok (.iload_n 3, 1) := by decide +kernel
theorem d15_17 : decode jdk_38_method_24_code 17 = .ok (.iconst 1, 1) := by decide +kernel
theorem d15_18 : decode jdk_38_method_24_code 18 = .ok (.iadd, 1) := by decide +kernel
theorem d15_19 : decode jdk_38_method_24_code 19 = .ok (.putfield 48, 3) := by decide +kernel
theorem d15_22 : decode jdk_38_method_24_code 22 = .ok (.return_, 1) := by decide +kernel
theorem pn_15 : plainName "java/util/ArrayList" = true := by first | (simp [plainName, overriddenIn]; done) | decide +kernel
theorem ef_rmB0 (m : MethodId) (x0 : Addr) (x1 : Addr) (x2 : Addr) (x3 : Int32) : entryFrame m #[(.ref x0), (.ref x1), (.ref x2), (.int x3)] 4 = mkF m 0 #[.val (.ref x0), .val (.ref x1), .val (.ref x2), .val (.int x3)] [] := by first | (simp [entryFrame, mkF, argsToLocals, Value.category]; done) | rfl
def Q_rmB0 (Z : State) (xa : Addr) (xv : Addr) (mc : Int32) (h0 : Heap) (n0 : Nat) (v : Option Value) (h : Heap) (L : List Loc) : Prop := (v = none ∧ ∃ (ed : Addr) (kd : ClassId), n0 ≤ ed ∧ h0.size ≤ ed ∧ Ovr Z kd "java/lang/Object" ∧ Exa Z h xa "java/util/ArrayList" ∧ Fld Z h xa "java/util/AbstractList" "modCount" "I" (.int mc) ∧ Fld Z h xa "java/util/ArrayList" "elementData" "[Ljava/lang/Object;" (.ref ed) ∧ Fld Z h xa "java/util/ArrayList" "size" "I" (.int (1 : Int32)) ∧ Arv Z h ed kd (.object "java/lang/Object") (10 : Int32) [(.ref xv), .null, .null, .null, .null, .null, .null, .null, .null, .null] .null ∧ Exa Z h ed "[Ljava/lang/Object;") ∧ Fr n0 L ∧ Keep h0 h [xa]
theorem rmB0 (hw : HW a0 Z) (xa : Addr) (xv : Addr) (mc : Int32) (h0 : Heap) (n0 : Nat) (O0 : Old Z n0 h0) (NF : Nar Z w3 w0 w2 w1 w4 k_w3 k_w0 k_w1 z_cs w5) (E_xa : Exa Z h0 xa "java/util/ArrayList") (F_modCount_xa : Fld Z h0 xa "java/util/AbstractList" "modCount" "I" (.int mc)) (F_elementData_xa : Fld Z h0 xa "java/util/ArrayList" "elementData" "[Ljava/lang/Object;" (.ref w0)) (F_size_xa : Fld Z h0 xa "java/util/ArrayList" "size" "I" (.int (0 : Int32))) (E_xv : Exa Z h0 xv "java/lang/String") (g_xa : n0 ≤ xa) :
    Con l Z (⟨"java/util/ArrayList", "add", "(Ljava/lang/Object;[Ljava/lang/Object;I)V"⟩ : MethodName) jdk_38_method_24_code 4 none ws ({ frames := 3, cells := 1, slots := 10, locals := 84 } : Room) #[(.ref xa), (.ref xv), (.ref w0), (.int (0 : Int32))] h0 (Q_rmB0 Z xa xv mc h0 n0) := by
  refine Con.body (own := "java/util/ArrayList") rfl (plainFor_of_name pn_15) (fun m => ef_rmB0 m _ _ _ _) ?_
  intro p e s m below meth c s₁ Bd hx hby hml hZ hown X0 e0 Qf hQf
  have N0 := Fr.nil n0
  have K0 := Keep.refl h0 [xa]
  obtain ⟨S_w3, E_w3, S_w0, E_w0, S_w2, E_w2, F_elements_w2, E_w1, S_w4, E_w4, F_allowNulls_w2, S_w_ImmutableCollections__assertionsDisabled, V_w3, V_w0, V_w1, S_cs, nz_cs, M_OA⟩ := id NF
  refine Goes.to (T' := s₁.setTop (mkF m 1 (LA0 xa xv w0) [(.int (0 : Int32))])) (fun t k => XS.iloadN X0.here hx rfl (hb hby d15_0) rfl k) ?_
  refine Goes.to (T' := s₁.setTop (mkF m 2 (LA0 xa xv w0) [(.ref w0), (.int (0 : Int32))])) (fun t k => XS.aloadN X0.here hx rfl (hb hby d15_1) rfl rfl k) ?_
  obtain ⟨cl1, Ar1, q1, S1, Ng1, H1, G1⟩ := id (V_w0.ext O0.2)
  refine Goes.to (T' := s₁.setTop (mkF m 3 (LA0 xa xv w0) [(.int (0 : Int32)), (.int (0 : Int32))])) (fun t k => X0.arraylength hx (by rw [e0]; exact Ar1.1) (State.isArrayOf_alike hZ.alike Ar1.2.1) (g := (mkF m 2 (LA0 xa xv w0) [(.ref w0), (.int (0 : Int32))])) rfl rfl (hb hby d15_2) _ (by rw [len_of S1 Ng1]; exact k)) ?_
  refine Goes.to (T' := s₁.setTop (mkF m 6 (LA0 xa xv w0) [])) (fun t k => XS.icmpNo X0.here hx rfl (hb hby d15_3) rfl (teq (by decide)).2 k) ?_
  refine Goes.to (T' := s₁.setTop (mkF m 7 (LA0 xa xv w0) [(.ref xa)])) (fun t k => XS.aloadN X0.here hx rfl (hb hby d15_6) rfl rfl k) ?_
  obtain ⟨cq2, q2, q2'⟩ := E_xa.cell
  obtain ⟨_, _, ⟨T2, L2, k2, n2⟩, -, X2, ⟨Lc2, hQ2, l2, y2, z2⟩, st2⟩ := X0.privateBack hx (y := (⟨"java/util/ArrayList", "grow", "()[Ljava/lang/Object;"⟩ : MethodName)) hown (mvT hZ (wi hw 111 rfl)) (mvT hZ (wi hw 112 rfl)) (mvT hZ (wi hw 114 rfl)) (Cond.privateMethod_at (mvP hZ (wi hw 113 rfl) (args := #[]))) (mvT hZ (wi hw 115 rfl)) (by decide) (backOf (W := 0) (rmG hw xa mc h0 n0 O0 NF E_xa F_modCount_xa F_elementData_xa F_size_xa g_xa) hZ (wi hw 115 rfl) (wi hw 28 rfl) (by decide) (by decide)) (g := (mkF m 7 (LA0 xa xv w0) [(.ref xa)])) rfl (by rw [hml]; rfl) (Steps.refl _) (a := xa) (by rw [e0]; exact q2) q2' (argsL := []) (rest := []) (lenOf pd_73 rfl) rfl (by show 2 * 0 + _ ≤ _; exact Nat.le_of_eq rfl) (hb hby d15_7) (fun _ _ => ⟨rfl, e0, (by decide : 0 + 1 ≤ _), (by decide : 0 + 10 ≤ _)⟩)
  dsimp only [Pt.U, Pt.locs, Pt.cells, Pt.slots] at X2 l2 y2 z2 st2 hQ2
  subst l2 y2 z2
  obtain ⟨⟨ed, kd, rfl, ge2, se2, Ov2, r0_2, r1_2, r2_2, r3_2, r4_2, r5_2⟩, Nq2, K2⟩ := hQ2
  have N2 := Fr.app N0 Nq2
  have g_ed : n0 ≤ ed := ge2
  have sz_ed : h0.size ≤ ed := Nat.le_trans K0.1 se2
  have ne_xa_ed : xa ≠ ed := Nat.ne_of_lt (Nat.lt_of_lt_of_le E_xa.lt se2)
  have ne_ed_xa := Ne.symm ne_xa_ed
  have ne_xv_ed : xv ≠ ed := Nat.ne_of_lt (Nat.lt_of_lt_of_le E_xv.lt se2)
  have ne_ed_xv := Ne.symm ne_xv_ed
  have E_xa := E_xa.keep K2
  have E_xv := E_xv.keep K2
  have O0 := O0.keep K2 (allS g_xa all0)
  have K0 := K0.trans K2 (allS (Or.inl (List.mem_of_getElem? (i := 0) rfl)) all0)
  have E_xa := r0_2
  have F_modCount_xa := r1_2
  have F_elementData_xa := r2_2
  have F_size_xa := r3_2
  have V_ed := r4_2
  have E_ed := r5_2
  have Ov_ed := Ov2
  refine Goes.thru (T' := T2.setTop (mkF m 10 (LA0 xa xv w0) [(.ref ed)])) st2 ?_
  refine Goes.to (T' := T2.setTop (mkF m 11 #[.val (.ref xa), .val (.ref xv), .val (.ref ed), .val (.int (0 : Int32))] [])) (fun t k => XS.astoreN X2.here hx rfl (hb hby d15_10) rfl rfl (l' := #[.val (.ref xa), .val (.ref xv), .val (.ref ed), .val (.int (0 : Int32))]) rfl k) ?_
  refine Goes.to (T' := T2.setTop (mkF m 12 #[.val (.ref xa), .val (.ref xv), .val (.ref ed), .val (.int (0 : Int32))] [(.ref ed)])) (fun t k => XS.aloadN X2.here hx rfl (hb hby d15_11) rfl rfl k) ?_
  refine Goes.to (T' := T2.setTop (mkF m 13 #[.val (.ref xa), .val (.ref xv), .val (.ref ed), .val (.int (0 : Int32))] [(.int (0 : Int32)), (.ref ed)])) (fun t k => XS.iloadN X2.here hx rfl (hb hby d15_12) rfl k) ?_
  refine Goes.to (T' := T2.setTop (mkF m 14 #[.val (.ref xa), .val (.ref xv), .val (.ref ed), .val (.int (0 : Int32))] [(.ref xv), (.int (0 : Int32)), (.ref ed)])) (fun t k => XS.aloadN X2.here hx rfl (hb hby d15_13) rfl rfl k) ?_
  obtain ⟨cl3, Ar3, q3, S3, Ng3, H3, G3⟩ := V_ed
  have hin3 : ¬ ((0 : Int32) < 0 ∨ cl3.slots.size ≤ ((0 : Int32)).toNatClampNeg) := inb_of S3 ⟨by decide, by decide⟩
  obtain ⟨T4, h4, X4, e4, W4, st4⟩ := stR X2 hx hZ rfl Ar3 (j := (0 : Int32)) hin3 rfl (Sto.ofV Ar3 q3 Ov_ed (Ins.of_exa E_xv (wi hw 127 rfl))) (g := (mkF m 14 #[.val (.ref xa), .val (.ref xv), .val (.ref ed), .val (.int (0 : Int32))] [(.ref xv), (.int (0 : Int32)), (.ref ed)])) rfl rfl (hb hby d15_14)
  have V_ed : Arv Z h4 ed kd (.object "java/lang/Object") (10 : Int32) [(.ref xv), .null, .null, .null, .null, .null, .null, .null, .null, .null] .null := Arv.set Ar3 q3 S3 Ng3 H3 G3 rfl W4 0 rfl (Nat.le_of_ble_eq_true rfl)
  have E_xa := E_xa.wr W4
  have E_xv := E_xv.wr W4
  have F_modCount_xa := F_modCount_xa.other W4 (Or.inl (ne_xa_ed))
  have F_elementData_xa := F_elementData_xa.other W4 (Or.inl (ne_xa_ed))
  have F_size_xa := F_size_xa.other W4 (Or.inl (ne_xa_ed))
  have E_ed := E_ed.wr W4
  have O0 := O0.wr W4 g_ed
  have K0 := K0.wr W4 (Or.inr sz_ed)
  have N4 := Fr.snoc X4 N2 g_ed
  refine Goes.to (T' := T4.setTop (mkF m 15 #[.val (.ref xa), .val (.ref xv), .val (.ref ed), .val (.int (0 : Int32))] [])) st4 ?_
  refine Goes.to (T' := T4.setTop (mkF m 16 #[.val (.ref xa), .val (.ref xv), .val (.ref ed), .val (.int (0 : Int32))] [(.ref xa)])) (fun t k => XS.aloadN X4.here hx rfl (hb hby d15_15) rfl rfl k) ?_
  refine Goes.to (T' := T4.setTop (mkF m 17 #[.val (.ref xa), .val (.ref xv), .val (.ref ed), .val (.int (0 : Int32))] [(.int (0 : Int32)), (.ref xa)])) (fun t k => XS.iloadN X4.here hx rfl (hb hby d15_16) rfl k) ?_
  refine Goes.to (T' := T4.setTop (mkF m 18 #[.val (.ref xa), .val (.ref xv), .val (.ref ed), .val (.int (0 : Int32))] [(.int (1 : Int32)), (.int (0 : Int32)), (.ref xa)])) (fun t k => XS.iconst X4.here hx rfl (hb hby d15_17) k) ?_
  refine Goes.to (T' := T4.setTop (mkF m 19 #[.val (.ref xa), .val (.ref xv), .val (.ref ed), .val (.int (0 : Int32))] [(.int ((0 : Int32) + (1 : Int32))), (.ref xa)])) (fun t k => XS.iadd X4.here hx rfl (hb hby d15_18) rfl k) ?_
  rw [show ((0 : Int32) + (1 : Int32)) = (1 : Int32) from by decide +kernel]
  obtain ⟨T5, h5, X5, e5, W5, st5⟩ := putF X4 hx hZ hown (host := "") (Or.inl (wi hw 91 rfl)) Via.refl e4 F_size_xa E_xa (Or.inl (wi hw 92 rfl)) (wi hw 27 rfl) (ty := .int) (by decide) rfl rfl (g := (mkF m 19 #[.val (.ref xa), .val (.ref xv), .val (.ref ed), .val (.int (0 : Int32))] [(.int (1 : Int32)), (.ref xa)])) rfl rfl (hb hby d15_19)
  have F_size_xa := F_size_xa.same W5
  have E_xa := E_xa.wr W5
  have E_xv := E_xv.wr W5
  have F_modCount_xa := F_modCount_xa.other W5 (Or.inr (slot_ne (Or.inl (wi hw 46 rfl)) (Or.inl (wi hw 92 rfl)) (by decide) (t := .int) (t' := .int) (by decide) (by decide)))
  have F_elementData_xa := F_elementData_xa.other W5 (Or.inr (slot_ne (Or.inl (wi hw 49 rfl)) (Or.inl (wi hw 92 rfl)) (by decide) (t := (.array (.object "java/lang/Object"))) (t' := .int) (by decide) (by decide)))
  have V_ed := V_ed.other W5 (ne_ed_xa)
  have E_ed := E_ed.wr W5
  have O0 := O0.wr W5 g_xa
  have K0 := K0.wr W5 (Or.inl (List.mem_of_getElem? (i := 0) rfl))
  have N5 := Fr.snoc X5 N4 g_xa
  refine Goes.to (T' := T5.setTop (mkF m 22 #[.val (.ref xa), .val (.ref xv), .val (.ref ed), .val (.int (0 : Int32))] [])) st5 ?_
  obtain ⟨fs, hrL, hrun, hended, hW, hsame⟩ := X5.leave (v := none) (fun _ => rfl)
  subst hQf
  refine ⟨_, _, X5.returnOut hx Bd.returns (hb hby d15_22) hrL, hrun, hended, _, _, rfl, ?_, ⟨_, rfl⟩, hW, hsame.mono (by decide) (by decide)⟩
  show Q_rmB0 Z xa xv mc h0 n0 (none) T5.heap _
  rw [e5]
  exact ⟨⟨rfl, ed, kd, g_ed, sz_ed, Ov_ed, E_xa, F_modCount_xa, F_elementData_xa, F_size_xa, V_ed, E_ed⟩, N5, K0⟩
theorem pd_93 : parseMethodDescriptor "(Ljava/lang/Object;[Ljava/lang/Object;I)V" = some ⟨[(.object "java/lang/Object"), (.array (.object "java/lang/Object")), .int], none⟩ := by decide +kernel
theorem d14_0 : decode jdk_38_method_25_code 0 = .ok (.aload_n 0, 1) := by decide +kernel
theorem d14_1 : decode jdk_38_method_25_code 1 = .ok (.dup, 1) := by decide +kernel
theorem d14_2 : decode jdk_38_method_25_code 2 = .ok (.getfield 63, 3) := by decide +kernel
theorem d14_5 : decode jdk_38_method_25_code 5 = .ok (.iconst 1, 1) := by decide +kernel
theorem d14_6 : decode jdk_38_method_25_code 6 = .ok (.iadd, 1) := by decide +kernel
theorem d14_7 : decode jdk_38_method_25_code 7 = .ok (.putfield 63, 3) := by decide +kernel
theorem d14_10 : decode jdk_38_method_25_code 10 = .ok (.aload_n 0, 1) := by decide +kernel
theorem d14_11 : decode jdk_38_method_25_code 11 = .ok (.aload_n 1, 1) := by decide +kernel
theorem d14_12 : decode jdk_38_method_25_code 12 = .ok (.aload_n 0, 1) := by decide +kernel
theorem d14_13 : decode jdk_38_method_25_code 13 = .ok (.getfield 9, 3) := by decide +kernel
theorem d14_16 : decode jdk_38_method_25_code 16 = .ok (.aload_n 0, 1) := by decide +kernel
theorem d14_17 : decode jdk_38_method_25_code 17 = .ok (.getfield 48, 3) := by decide +kernel
theorem d14_20 : decode jdk_38_method_25_code 20 = .ok (.invokevirtual 131, 3) := by decide +kernel
theorem d14_23 : decode jdk_38_method_25_code 23 = .ok (.iconst 1, 1) := by decide +kernel
theorem d14_24 : decode jdk_38_method_25_code 24 = .ok (.ireturn, 1) := by decide +kernel
theorem pn_14 : plainName "java/util/ArrayList" = true := by first | (simp [plainName, overriddenIn]; done) | decide +kernel
theorem ef_rmA0 (m : MethodId) (x0 : Addr) (x1 : Addr) : entryFrame m #[(.ref x0), (.ref x1)] 2 = mkF m 0 #[.val (.ref x0), .val (.ref x1)] [] := by first | (simp [entryFrame, mkF, argsToLocals, Value.category]; done) | rfl
def Q_rmA0 (Z : State) (xa : Addr) (xv : Addr) (mc : Int32) (h0 : Heap) (n0 : Nat) (v : Option Value) (h : Heap) (L : List Loc) : Prop := (v = some (.int 1) ∧ ∃ (ed : Addr) (kd : ClassId), n0 ≤ ed ∧ h0.size ≤ ed ∧ Ovr Z kd "java/lang/Object" ∧ Exa Z h xa "java/util/ArrayList" ∧ Fld Z h xa "java/util/AbstractList" "modCount" "I" (.int (mc + (1 : Int32))) ∧ Fld Z h xa "java/util/ArrayList" "elementData" "[Ljava/lang/Object;" (.ref ed) ∧ Fld Z h xa "java/util/ArrayList" "size" "I" (.int (1 : Int32)) ∧ Arv Z h ed kd (.object "java/lang/Object") (10 : Int32) [(.ref xv), .null, .null, .null, .null, .null, .null, .null, .null, .null] .null ∧ Exa Z h ed "[Ljava/lang/Object;") ∧ Fr n0 L ∧ Keep h0 h [xa]
theorem rmA0 (hw : HW a0 Z) (xa : Addr) (xv : Addr) (mc : Int32) (h0 : Heap) (n0 : Nat) (O0 : Old Z n0 h0) (NF : Nar Z w3 w0 w2 w1 w4 k_w3 k_w0 k_w1 z_cs w5) (E_xa : Exa Z h0 xa "java/util/ArrayList") (F_modCount_xa : Fld Z h0 xa "java/util/AbstractList" "modCount" "I" (.int mc)) (F_elementData_xa : Fld Z h0 xa "java/util/ArrayList" "elementData" "[Ljava/lang/Object;" (.ref w0)) (F_size_xa : Fld Z h0 xa "java/util/ArrayList" "size" "I" (.int (0 : Int32))) (E_xv : Exa Z h0 xv "java/lang/String") (g_xa : n0 ≤ xa) :
    Con l Z (⟨"java/util/ArrayList", "add", "(Ljava/lang/Object;)Z"⟩ : MethodName) jdk_38_method_25_code 2 (some .boolean) ws ({ frames := 4, cells := 1, slots := 10, locals := 112 } : Room) #[(.ref xa), (.ref xv)] h0 (Q_rmA0 Z xa xv mc h0 n0) := by
  refine Con.body (own := "java/util/ArrayList") rfl (plainFor_of_name pn_14) (fun m => ef_rmA0 m _ _) ?_
  intro p e s m below meth c s₁ Bd hx hby hml hZ hown X0 e0 Qf hQf
  have N0 := Fr.nil n0
  have K0 := Keep.refl h0 [xa]
  obtain ⟨S_w3, E_w3, S_w0, E_w0, S_w2, E_w2, F_elements_w2, E_w1, S_w4, E_w4, F_allowNulls_w2, S_w_ImmutableCollections__assertionsDisabled, V_w3, V_w0, V_w1, S_cs, nz_cs, M_OA⟩ := id NF
  refine Goes.to (T' := s₁.setTop (mkF m 1 #[.val (.ref xa), .val (.ref xv)] [(.ref xa)])) (fun t k => XS.aloadN X0.here hx rfl (hb hby d14_0) rfl rfl k) ?_
  refine Goes.to (T' := s₁.setTop (mkF m 2 #[.val (.ref xa), .val (.ref xv)] [(.ref xa), (.ref xa)])) (fun t k => XS.dup X0.here hx rfl (hb hby d14_1) rfl rfl k) ?_
  obtain ⟨T1, X1, e1, st1⟩ := getF X0 hx hZ hown (host := "") (Or.inl (wi hw 104 rfl)) (Via.of (wi hw 105 rfl)) e0 F_modCount_xa (g := (mkF m 2 #[.val (.ref xa), .val (.ref xv)] [(.ref xa), (.ref xa)])) rfl rfl (hb hby d14_2)
  refine Goes.to (T' := T1.setTop (mkF m 5 #[.val (.ref xa), .val (.ref xv)] [(.int mc), (.ref xa)])) st1 ?_
  refine Goes.to (T' := T1.setTop (mkF m 6 #[.val (.ref xa), .val (.ref xv)] [(.int (1 : Int32)), (.int mc), (.ref xa)])) (fun t k => XS.iconst X1.here hx rfl (hb hby d14_5) k) ?_
  refine Goes.to (T' := T1.setTop (mkF m 7 #[.val (.ref xa), .val (.ref xv)] [(.int (mc + (1 : Int32))), (.ref xa)])) (fun t k => XS.iadd X1.here hx rfl (hb hby d14_6) rfl k) ?_
  obtain ⟨T2, h2, X2, e2, W2, st2⟩ := putF X1 hx hZ hown (host := "") (Or.inl (wi hw 104 rfl)) (Via.of (wi hw 105 rfl)) e1 F_modCount_xa E_xa (Or.inl (wi hw 46 rfl)) (wi hw 27 rfl) (ty := .int) (by decide) rfl rfl (g := (mkF m 7 #[.val (.ref xa), .val (.ref xv)] [(.int (mc + (1 : Int32))), (.ref xa)])) rfl rfl (hb hby d14_7)
  have F_modCount_xa := F_modCount_xa.same W2
  have E_xa := E_xa.wr W2
  have F_elementData_xa := F_elementData_xa.other W2 (Or.inr (slot_ne (Or.inl (wi hw 49 rfl)) (Or.inl (wi hw 46 rfl)) (by decide) (t := (.array (.object "java/lang/Object"))) (t' := .int) (by decide) (by decide)))
  have F_size_xa := F_size_xa.other W2 (Or.inr (slot_ne (Or.inl (wi hw 92 rfl)) (Or.inl (wi hw 46 rfl)) (by decide) (t := .int) (t' := .int) (by decide) (by decide)))
  have E_xv := E_xv.wr W2
  have O0 := O0.wr W2 g_xa
  have K0 := K0.wr W2 (Or.inl (List.mem_of_getElem? (i := 0) rfl))
  have N2 := Fr.snoc X2 N0 g_xa
  refine Goes.to (T' := T2.setTop (mkF m 10 #[.val (.ref xa), .val (.ref xv)] [])) st2 ?_
  refine Goes.to (T' := T2.setTop (mkF m 11 #[.val (.ref xa), .val (.ref xv)] [(.ref xa)])) (fun t k => XS.aloadN X2.here hx rfl (hb hby d14_10) rfl rfl k) ?_
  refine Goes.to (T' := T2.setTop (mkF m 12 #[.val (.ref xa), .val (.ref xv)] [(.ref xv), (.ref xa)])) (fun t k => XS.aloadN X2.here hx rfl (hb hby d14_11) rfl rfl k) ?_
  refine Goes.to (T' := T2.setTop (mkF m 13 #[.val (.ref xa), .val (.ref xv)] [(.ref xa), (.ref xv), (.ref xa)])) (fun t k => XS.aloadN X2.here hx rfl (hb hby d14_12) rfl rfl k) ?_
  obtain ⟨T3, X3, e3, st3⟩ := getF X2 hx hZ hown (host := "") (Or.inl (wi hw 48 rfl)) Via.refl e2 F_elementData_xa (g := (mkF m 13 #[.val (.ref xa), .val (.ref xv)] [(.ref xa), (.ref xv), (.ref xa)])) rfl rfl (hb hby d14_13)
  refine Goes.to (T' := T3.setTop (mkF m 16 #[.val (.ref xa), .val (.ref xv)] [(.ref w0), (.ref xv), (.ref xa)])) st3 ?_
  refine Goes.to (T' := T3.setTop (mkF m 17 #[.val (.ref xa), .val (.ref xv)] [(.ref xa), (.ref w0), (.ref xv), (.ref xa)])) (fun t k => XS.aloadN X3.here hx rfl (hb hby d14_16) rfl rfl k) ?_
  obtain ⟨T4, X4, e4, st4⟩ := getF X3 hx hZ hown (host := "") (Or.inl (wi hw 91 rfl)) Via.refl e3 F_size_xa (g := (mkF m 17 #[.val (.ref xa), .val (.ref xv)] [(.ref xa), (.ref w0), (.ref xv), (.ref xa)])) rfl rfl (hb hby d14_17)
  refine Goes.to (T' := T4.setTop (mkF m 20 #[.val (.ref xa), .val (.ref xv)] [(.int (0 : Int32)), (.ref w0), (.ref xv), (.ref xa)])) st4 ?_
  obtain ⟨cq5, q5, q5'⟩ := E_xa.cell
  obtain ⟨_, _, ⟨T5, L5, k5, n5⟩, -, X5, ⟨Lc5, hQ5, l5, y5, z5⟩, st5⟩ := X4.privateBack hx (y := (⟨"java/util/ArrayList", "add", "(Ljava/lang/Object;[Ljava/lang/Object;I)V"⟩ : MethodName)) hown (mvT hZ (wi hw 106 rfl)) (mvT hZ (wi hw 107 rfl)) (mvT hZ (wi hw 109 rfl)) (Cond.privateMethod_at (mvP hZ (wi hw 108 rfl) (args := #[]))) (mvT hZ (wi hw 110 rfl)) (by decide) (backOf (W := 0) (rmB0 hw xa xv (mc + (1 : Int32)) h2 n0 O0 NF E_xa F_modCount_xa F_elementData_xa F_size_xa E_xv g_xa) hZ (wi hw 110 rfl) (wi hw 28 rfl) (by decide) (by decide)) (g := (mkF m 20 #[.val (.ref xa), .val (.ref xv)] [(.int (0 : Int32)), (.ref w0), (.ref xv), (.ref xa)])) rfl (by rw [hml]; rfl) (Steps.refl _) (a := xa) (by rw [e4]; exact q5) q5' (argsL := [(.ref xv), (.ref w0), (.int (0 : Int32))]) (rest := []) (lenOf pd_93 rfl) rfl (by show 2 * 0 + _ ≤ _; exact Nat.le_of_eq rfl) (hb hby d14_20) (fun _ _ => ⟨rfl, e4, (by decide : 0 + 1 ≤ _), (by decide : 0 + 10 ≤ _)⟩)
  dsimp only [Pt.U, Pt.locs, Pt.cells, Pt.slots] at X5 l5 y5 z5 st5 hQ5
  subst l5 y5 z5
  obtain ⟨⟨rfl, ed, kd, ge5, se5, Ov5, r0_5, r1_5, r2_5, r3_5, r4_5, r5_5⟩, Nq5, K5⟩ := hQ5
  have N5 := Fr.app N2 Nq5
  have g_ed : n0 ≤ ed := ge5
  have sz_ed : h0.size ≤ ed := Nat.le_trans K0.1 se5
  have ne_xa_ed : xa ≠ ed := Nat.ne_of_lt (Nat.lt_of_lt_of_le E_xa.lt se5)
  have ne_ed_xa := Ne.symm ne_xa_ed
  have ne_xv_ed : xv ≠ ed := Nat.ne_of_lt (Nat.lt_of_lt_of_le E_xv.lt se5)
  have ne_ed_xv := Ne.symm ne_xv_ed
  have E_xa := E_xa.keep K5
  have E_xv := E_xv.keep K5
  have O0 := O0.keep K5 (allS g_xa all0)
  have K0 := K0.trans K5 (allS (Or.inl (List.mem_of_getElem? (i := 0) rfl)) all0)
  have E_xa := r0_5
  have F_modCount_xa := r1_5
  have F_elementData_xa := r2_5
  have F_size_xa := r3_5
  have V_ed := r4_5
  have E_ed := r5_5
  have Ov_ed := Ov5
  refine Goes.thru (T' := T5.setTop (mkF m 23 #[.val (.ref xa), .val (.ref xv)] [])) st5 ?_
  refine Goes.to (T' := T5.setTop (mkF m 24 #[.val (.ref xa), .val (.ref xv)] [(.int (1 : Int32))])) (fun t k => XS.iconst X5.here hx rfl (hb hby d14_23) k) ?_
  obtain ⟨fs, hrL, hrun, hended, hW, hsame⟩ := X5.leave (v := some (.int (1 : Int32))) (fun h => by rw [Bd.returns] at h; cases h)
  subst hQf
  refine ⟨_, _, retN X5 hx (t := .boolean) Bd.returns (by simp) (hb hby d14_24) hrL, hrun, hended, _, _, rfl, ?_, ⟨_, rfl⟩, hW, hsame.mono (by decide) (by decide)⟩
  show Q_rmA0 Z xa xv mc h0 n0 (some (.int (1 : Int32))) T5.heap _
  exact ⟨⟨rfl, ed, kd, g_ed, sz_ed, Ov_ed, E_xa, F_modCount_xa, F_elementData_xa, F_size_xa, V_ed, E_ed⟩, N5, K0⟩
def Q_rmB1 (Z : State) (xa : Addr) (xv : Addr) (mc : Int32) (ed : Addr) (kd : ClassId) (x0_ : Addr) (h0 : Heap) (n0 : Nat) (v : Option Value) (h : Heap) (L : List Loc) : Prop := v = none ∧ Fr n0 L ∧ Keep h0 h [xa, ed] ∧ Exa Z h xa "java/util/ArrayList" ∧ Fld Z h xa "java/util/AbstractList" "modCount" "I" (.int mc) ∧ Fld Z h xa "java/util/ArrayList" "elementData" "[Ljava/lang/Object;" (.ref ed) ∧ Fld Z h xa "java/util/ArrayList" "size" "I" (.int (2 : Int32)) ∧ Arv Z h ed kd (.object "java/lang/Object") (10 : Int32) [(.ref x0_), (.ref xv), .null, .null, .null, .null, .null, .null, .null, .null] .null ∧ Exa Z h ed "[Ljava/lang/Object;"
theorem rmB1 (hw : HW a0 Z) (xa : Addr) (xv : Addr) (mc : Int32) (ed : Addr) (kd : ClassId) (x0_ : Addr) (h0 : Heap) (n0 : Nat) (O0 : Old Z n0 h0) (NF : Nar Z w3 w0 w2 w1 w4 k_w3 k_w0 k_w1 z_cs w5) (E_xa : Exa Z h0 xa "java/util/ArrayList") (F_modCount_xa : Fld Z h0 xa "java/util/AbstractList" "modCount" "I" (.int mc)) (F_elementData_xa : Fld Z h0 xa "java/util/ArrayList" "elementData" "[Ljava/lang/Object;" (.ref ed)) (F_size_xa : Fld Z h0 xa "java/util/ArrayList" "size" "I" (.int (1 : Int32))) (V_ed : Arv Z h0 ed kd (.object "java/lang/Object") (10 : Int32) [(.ref x0_), .null, .null, .null, .null, .null, .null, .null, .null, .null] .null) (E_ed : Exa Z h0 ed "[Ljava/lang/Object;") (E_xv : Exa Z h0 xv "java/lang/String") (g_xa : n0 ≤ xa) (g_ed : n0 ≤ ed) (ne_ed_xa : ed ≠ xa) (Ov_ed : Ovr Z kd "java/lang/Object") :
    Con l Z (⟨"java/util/ArrayList", "add", "(Ljava/lang/Object;[Ljava/lang/Object;I)V"⟩ : MethodName) jdk_38_method_24_code 4 none ws ({ frames := 3, cells := 0, slots := 0, locals := 84 } : Room) #[(.ref xa), (.ref xv), (.ref ed), (.int (1 : Int32))] h0 (Q_rmB1 Z xa xv mc ed kd x0_ h0 n0) := by
  refine Con.body (own := "java/util/ArrayList") rfl (plainFor_of_name pn_15) (fun m => ef_rmB0 m _ _ _ _) ?_
  intro p e s m below meth c s₁ Bd hx hby hml hZ hown X0 e0 Qf hQf
  have N0 := Fr.nil n0
  have K0 := Keep.refl h0 [xa, ed]
  obtain ⟨S_w3, E_w3, S_w0, E_w0, S_w2, E_w2, F_elements_w2, E_w1, S_w4, E_w4, F_allowNulls_w2, S_w_ImmutableCollections__assertionsDisabled, V_w3, V_w0, V_w1, S_cs, nz_cs, M_OA⟩ := id NF
  have ne_xa_ed := Ne.symm ne_ed_xa
  refine Goes.to (T' := s₁.setTop (mkF m 1 #[.val (.ref xa), .val (.ref xv), .val (.ref ed), .val (.int (1 : Int32))] [(.int (1 : Int32))])) (fun t k => XS.iloadN X0.here hx rfl (hb hby d15_0) rfl k) ?_
  refine Goes.to (T' := s₁.setTop (mkF m 2 #[.val (.ref xa), .val (.ref xv), .val (.ref ed), .val (.int (1 : Int32))] [(.ref ed), (.int (1 : Int32))])) (fun t k => XS.aloadN X0.here hx rfl (hb hby d15_1) rfl rfl k) ?_
  obtain ⟨cl1, Ar1, q1, S1, Ng1, H1, G1⟩ := id V_ed
  refine Goes.to (T' := s₁.setTop (mkF m 3 #[.val (.ref xa), .val (.ref xv), .val (.ref ed), .val (.int (1 : Int32))] [(.int (10 : Int32)), (.int (1 : Int32))])) (fun t k => X0.arraylength hx (by rw [e0]; exact Ar1.1) (State.isArrayOf_alike hZ.alike Ar1.2.1) (g := (mkF m 2 #[.val (.ref xa), .val (.ref xv), .val (.ref ed), .val (.int (1 : Int32))] [(.ref ed), (.int (1 : Int32))])) rfl rfl (hb hby d15_2) _ (by rw [len_of S1 Ng1]; exact k)) ?_
  refine Goes.to (T' := s₁.setTop (mkF m 11 #[.val (.ref xa), .val (.ref xv), .val (.ref ed), .val (.int (1 : Int32))] [])) (fun t k => XS.icmpYes X0.here hx rfl (pc0 := 3) (pc' := 11) rfl (hb hby d15_3) rfl (feq (by decide)).2 (by decide) (by decide) k) ?_
  refine Goes.to (T' := s₁.setTop (mkF m 12 #[.val (.ref xa), .val (.ref xv), .val (.ref ed), .val (.int (1 : Int32))] [(.ref ed)])) (fun t k => XS.aloadN X0.here hx rfl (hb hby d15_11) rfl rfl k) ?_
  refine Goes.to (T' := s₁.setTop (mkF m 13 #[.val (.ref xa), .val (.ref xv), .val (.ref ed), .val (.int (1 : Int32))] [(.int (1 : Int32)), (.ref ed)])) (fun t k => XS.iloadN X0.here hx rfl (hb hby d15_12) rfl k) ?_
  refine Goes.to (T' := s₁.setTop (mkF m 14 #[.val (.ref xa), .val (.ref xv), .val (.ref ed), .val (.int (1 : Int32))] [(.ref xv), (.int (1 : Int32)), (.ref ed)])) (fun t k => XS.aloadN X0.here hx rfl (hb hby d15_13) rfl rfl k) ?_
  obtain ⟨cl2, Ar2, q2, S2, Ng2, H2, G2⟩ := V_ed
  have hin2 : ¬ ((1 : Int32) < 0 ∨ cl2.slots.size ≤ ((1 : Int32)).toNatClampNeg) := inb_of S2 ⟨by decide, by decide⟩
  obtain ⟨T3, h3, X3, e3, W3, st3⟩ := stR X0 hx hZ e0 Ar2 (j := (1 : Int32)) hin2 rfl (Sto.ofV Ar2 q2 Ov_ed (Ins.of_exa E_xv (wi hw 127 rfl))) (g := (mkF m 14 #[.val (.ref xa), .val (.ref xv), .val (.ref ed), .val (.int (1 : Int32))] [(.ref xv), (.int (1 : Int32)), (.ref ed)])) rfl rfl (hb hby d15_14)
  have V_ed : Arv Z h3 ed kd (.object "java/lang/Object") (10 : Int32) [(.ref x0_), (.ref xv), .null, .null, .null, .null, .null, .null, .null, .null] .null := Arv.set Ar2 q2 S2 Ng2 H2 G2 rfl W3 1 rfl (Nat.le_of_ble_eq_true rfl)
  have E_xa := E_xa.wr W3
  have F_modCount_xa := F_modCount_xa.other W3 (Or.inl (ne_xa_ed))
  have F_elementData_xa := F_elementData_xa.other W3 (Or.inl (ne_xa_ed))
  have F_size_xa := F_size_xa.other W3 (Or.inl (ne_xa_ed))
  have E_ed := E_ed.wr W3
  have E_xv := E_xv.wr W3
  have O0 := O0.wr W3 g_ed
  have K0 := K0.wr W3 (Or.inl (List.mem_of_getElem? (i := 1) rfl))
  have N3 := Fr.snoc X3 N0 g_ed
  refine Goes.to (T' := T3.setTop (mkF m 15 #[.val (.ref xa), .val (.ref xv), .val (.ref ed), .val (.int (1 : Int32))] [])) st3 ?_
  refine Goes.to (T' := T3.setTop (mkF m 16 #[.val (.ref xa), .val (.ref xv), .val (.ref ed), .val (.int (1 : Int32))] [(.ref xa)])) (fun t k => XS.aloadN X3.here hx rfl (hb hby d15_15) rfl rfl k) ?_
  refine Goes.to (T' := T3.setTop (mkF m 17 #[.val (.ref xa), .val (.ref xv), .val (.ref ed), .val (.int (1 : Int32))] [(.int (1 : Int32)), (.ref xa)])) (fun t k => XS.iloadN X3.here hx rfl (hb hby d15_16) rfl k) ?_
  refine Goes.to (T' := T3.setTop (mkF m 18 #[.val (.ref xa), .val (.ref xv), .val (.ref ed), .val (.int (1 : Int32))] [(.int (1 : Int32)), (.int (1 : Int32)), (.ref xa)])) (fun t k => XS.iconst X3.here hx rfl (hb hby d15_17) k) ?_
  refine Goes.to (T' := T3.setTop (mkF m 19 #[.val (.ref xa), .val (.ref xv), .val (.ref ed), .val (.int (1 : Int32))] [(.int ((1 : Int32) + (1 : Int32))), (.ref xa)])) (fun t k => XS.iadd X3.here hx rfl (hb hby d15_18) rfl k) ?_
  rw [show ((1 : Int32) + (1 : Int32)) = (2 : Int32) from by decide +kernel]
  obtain ⟨T4, h4, X4, e4, W4, st4⟩ := putF X3 hx hZ hown (host := "") (Or.inl (wi hw 91 rfl)) Via.refl e3 F_size_xa E_xa (Or.inl (wi hw 92 rfl)) (wi hw 27 rfl) (ty := .int) (by decide) rfl rfl (g := (mkF m 19 #[.val (.ref xa), .val (.ref xv), .val (.ref ed), .val (.int (1 : Int32))] [(.int (2 : Int32)), (.ref xa)])) rfl rfl (hb hby d15_19)
  have F_size_xa := F_size_xa.same W4
  have E_xa := E_xa.wr W4
  have F_modCount_xa := F_modCount_xa.other W4 (Or.inr (slot_ne (Or.inl (wi hw 46 rfl)) (Or.inl (wi hw 92 rfl)) (by decide) (t := .int) (t' := .int) (by decide) (by decide)))
  have F_elementData_xa := F_elementData_xa.other W4 (Or.inr (slot_ne (Or.inl (wi hw 49 rfl)) (Or.inl (wi hw 92 rfl)) (by decide) (t := (.array (.object "java/lang/Object"))) (t' := .int) (by decide) (by decide)))
  have V_ed := V_ed.other W4 (ne_ed_xa)
  have E_ed := E_ed.wr W4
  have E_xv := E_xv.wr W4
  have O0 := O0.wr W4 g_xa
  have K0 := K0.wr W4 (Or.inl (List.mem_of_getElem? (i := 0) rfl))
  have N4 := Fr.snoc X4 N3 g_xa
  refine Goes.to (T' := T4.setTop (mkF m 22 #[.val (.ref xa), .val (.ref xv), .val (.ref ed), .val (.int (1 : Int32))] [])) st4 ?_
  obtain ⟨fs, hrL, hrun, hended, hW, hsame⟩ := X4.leave (v := none) (fun _ => rfl)
  subst hQf
  refine ⟨_, _, X4.returnOut hx Bd.returns (hb hby d15_22) hrL, hrun, hended, _, _, rfl, ?_, ⟨_, rfl⟩, hW, hsame.mono (by decide) (by decide)⟩
  show Q_rmB1 Z xa xv mc ed kd x0_ h0 n0 (none) T4.heap _
  rw [e4]
  exact ⟨rfl, N4, K0, E_xa, F_modCount_xa, F_elementData_xa, F_size_xa, V_ed, E_ed⟩
def Q_rmA1 (Z : State) (xa : Addr) (xv : Addr) (mc : Int32) (ed : Addr) (kd : ClassId) (x0_ : Addr) (h0 : Heap) (n0 : Nat) (v : Option Value) (h : Heap) (L : List Loc) : Prop := v = some (.int 1) ∧ Fr n0 L ∧ Keep h0 h [xa, ed] ∧ Exa Z h xa "java/util/ArrayList" ∧ Fld Z h xa "java/util/AbstractList" "modCount" "I" (.int (mc + (1 : Int32))) ∧ Fld Z h xa "java/util/ArrayList" "elementData" "[Ljava/lang/Object;" (.ref ed) ∧ Fld Z h xa "java/util/ArrayList" "size" "I" (.int (2 : Int32)) ∧ Arv Z h ed kd (.object "java/lang/Object") (10 : Int32) [(.ref x0_), (.ref xv), .null, .null, .null, .null, .null, .null, .null, .null] .null ∧ Exa Z h ed "[Ljava/lang/Object;"
theorem rmA1 (hw : HW a0 Z) (xa : Addr) (xv : Addr) (mc : Int32) (ed : Addr) (kd : ClassId) (x0_ : Addr) (h0 : Heap) (n0 : Nat) (O0 : Old Z n0 h0) (NF : Nar Z w3 w0 w2 w1 w4 k_w3 k_w0 k_w1 z_cs w5) (E_xa : Exa Z h0 xa "java/util/ArrayList") (F_modCount_xa : Fld Z h0 xa "java/util/AbstractList" "modCount" "I" (.int mc)) (F_elementData_xa : Fld Z h0 xa "java/util/ArrayList" "elementData" "[Ljava/lang/Object;" (.ref ed)) (F_size_xa : Fld Z h0 xa "java/util/ArrayList" "size" "I" (.int (1 : Int32))) (V_ed : Arv Z h0 ed kd (.object "java/lang/Object") (10 : Int32) [(.ref x0_), .null, .null, .null, .null, .null, .null, .null, .null, .null] .null) (E_ed : Exa Z h0 ed "[Ljava/lang/Object;") (E_xv : Exa Z h0 xv "java/lang/String") (g_xa : n0 ≤ xa) (g_ed : n0 ≤ ed) (ne_ed_xa : ed ≠ xa) (Ov_ed : Ovr Z kd "java/lang/Object") :
    Con l Z (⟨"java/util/ArrayList", "add", "(Ljava/lang/Object;)Z"⟩ : MethodName) jdk_38_method_25_code 2 (some .boolean) ws ({ frames := 4, cells := 0, slots := 0, locals := 112 } : Room) #[(.ref xa), (.ref xv)] h0 (Q_rmA1 Z xa xv mc ed kd x0_ h0 n0) := by
  refine Con.body (own := "java/util/ArrayList") rfl (plainFor_of_name pn_14) (fun m => ef_rmA0 m _ _) ?_
  intro p e s m below meth c s₁ Bd hx hby hml hZ hown X0 e0 Qf hQf
  have N0 := Fr.nil n0
  have K0 := Keep.refl h0 [xa, ed]
  obtain ⟨S_w3, E_w3, S_w0, E_w0, S_w2, E_w2, F_elements_w2, E_w1, S_w4, E_w4, F_allowNulls_w2, S_w_ImmutableCollections__assertionsDisabled, V_w3, V_w0, V_w1, S_cs, nz_cs, M_OA⟩ := id NF
  have ne_xa_ed := Ne.symm ne_ed_xa
  refine Goes.to (T' := s₁.setTop (mkF m 1 #[.val (.ref xa), .val (.ref xv)] [(.ref xa)])) (fun t k => XS.aloadN X0.here hx rfl (hb hby d14_0) rfl rfl k) ?_
  refine Goes.to (T' := s₁.setTop (mkF m 2 #[.val (.ref xa), .val (.ref xv)] [(.ref xa), (.ref xa)])) (fun t k => XS.dup X0.here hx rfl (hb hby d14_1) rfl rfl k) ?_
  obtain ⟨T1, X1, e1, st1⟩ := getF X0 hx hZ hown (host := "") (Or.inl (wi hw 104 rfl)) (Via.of (wi hw 105 rfl)) e0 F_modCount_xa (g := (mkF m 2 #[.val (.ref xa), .val (.ref xv)] [(.ref xa), (.ref xa)])) rfl rfl (hb hby d14_2)
  refine Goes.to (T' := T1.setTop (mkF m 5 #[.val (.ref xa), .val (.ref xv)] [(.int mc), (.ref xa)])) st1 ?_
  refine Goes.to (T' := T1.setTop (mkF m 6 #[.val (.ref xa), .val (.ref xv)] [(.int (1 : Int32)), (.int mc), (.ref xa)])) (fun t k => XS.iconst X1.here hx rfl (hb hby d14_5) k) ?_
  refine Goes.to (T' := T1.setTop (mkF m 7 #[.val (.ref xa), .val (.ref xv)] [(.int (mc + (1 : Int32))), (.ref xa)])) (fun t k => XS.iadd X1.here hx rfl (hb hby d14_6) rfl k) ?_
  obtain ⟨T2, h2, X2, e2, W2, st2⟩ := putF X1 hx hZ hown (host := "") (Or.inl (wi hw 104 rfl)) (Via.of (wi hw 105 rfl)) e1 F_modCount_xa E_xa (Or.inl (wi hw 46 rfl)) (wi hw 27 rfl) (ty := .int) (by decide) rfl rfl (g := (mkF m 7 #[.val (.ref xa), .val (.ref xv)] [(.int (mc + (1 : Int32))), (.ref xa)])) rfl rfl (hb hby d14_7)
  have F_modCount_xa := F_modCount_xa.same W2
  have E_xa := E_xa.wr W2
  have F_elementData_xa := F_elementData_xa.other W2 (Or.inr (slot_ne (Or.inl (wi hw 49 rfl)) (Or.inl (wi hw 46 rfl)) (by decide) (t := (.array (.object "java/lang/Object"))) (t' := .int) (by decide) (by decide)))
  have F_size_xa := F_size_xa.other W2 (Or.inr (slot_ne (Or.inl (wi hw 92 rfl)) (Or.inl (wi hw 46 rfl)) (by decide) (t := .int) (t' := .int) (by decide) (by decide)))
  have V_ed := V_ed.other W2 (ne_ed_xa)
  have E_ed := E_ed.wr W2
  have E_xv := E_xv.wr W2
  have O0 := O0.wr W2 g_xa
  have K0 := K0.wr W2 (Or.inl (List.mem_of_getElem? (i := 0) rfl))
  have N2 := Fr.snoc X2 N0 g_xa
  refine Goes.to (T' := T2.setTop (mkF m 10 #[.val (.ref xa), .val (.ref xv)] [])) st2 ?_
  refine Goes.to (T' := T2.setTop (mkF m 11 #[.val (.ref xa), .val (.ref xv)] [(.ref xa)])) (fun t k => XS.aloadN X2.here hx rfl (hb hby d14_10) rfl rfl k) ?_
  refine Goes.to (T' := T2.setTop (mkF m 12 #[.val (.ref xa), .val (.ref xv)] [(.ref xv), (.ref xa)])) (fun t k => XS.aloadN X2.here hx rfl (hb hby d14_11) rfl rfl k) ?_
  refine Goes.to (T' := T2.setTop (mkF m 13 #[.val (.ref xa), .val (.ref xv)] [(.ref xa), (.ref xv), (.ref xa)])) (fun t k => XS.aloadN X2.here hx rfl (hb hby d14_12) rfl rfl k) ?_
  obtain ⟨T3, X3, e3, st3⟩ := getF X2 hx hZ hown (host := "") (Or.inl (wi hw 48 rfl)) Via.refl e2 F_elementData_xa (g := (mkF m 13 #[.val (.ref xa), .val (.ref xv)] [(.ref xa), (.ref xv), (.ref xa)])) rfl rfl (hb hby d14_13)
  refine Goes.to (T' := T3.setTop (mkF m 16 #[.val (.ref xa), .val (.ref xv)] [(.ref ed), (.ref xv), (.ref xa)])) st3 ?_
  refine Goes.to (T' := T3.setTop (mkF m 17 #[.val (.ref xa), .val (.ref xv)] [(.ref xa), (.ref ed), (.ref xv), (.ref xa)])) (fun t k => XS.aloadN X3.here hx rfl (hb hby d14_16) rfl rfl k) ?_
  obtain ⟨T4, X4, e4, st4⟩ := getF X3 hx hZ hown (host := "") (Or.inl (wi hw 91 rfl)) Via.refl e3 F_size_xa (g := (mkF m 17 #[.val (.ref xa), .val (.ref xv)] [(.ref xa), (.ref ed), (.ref xv), (.ref xa)])) rfl rfl (hb hby d14_17)
  refine Goes.to (T' := T4.setTop (mkF m 20 #[.val (.ref xa), .val (.ref xv)] [(.int (1 : Int32)), (.ref ed), (.ref xv), (.ref xa)])) st4 ?_
  obtain ⟨cq5, q5, q5'⟩ := E_xa.cell
  obtain ⟨_, _, ⟨T5, L5, k5, n5⟩, -, X5, ⟨Lc5, hQ5, l5, y5, z5⟩, st5⟩ := X4.privateBack hx (y := (⟨"java/util/ArrayList", "add", "(Ljava/lang/Object;[Ljava/lang/Object;I)V"⟩ : MethodName)) hown (mvT hZ (wi hw 106 rfl)) (mvT hZ (wi hw 107 rfl)) (mvT hZ (wi hw 109 rfl)) (Cond.privateMethod_at (mvP hZ (wi hw 108 rfl) (args := #[]))) (mvT hZ (wi hw 110 rfl)) (by decide) (backOf (W := 0) (rmB1 hw xa xv (mc + (1 : Int32)) ed kd x0_ h2 n0 O0 NF E_xa F_modCount_xa F_elementData_xa F_size_xa V_ed E_ed E_xv g_xa g_ed ne_ed_xa Ov_ed) hZ (wi hw 110 rfl) (wi hw 28 rfl) (by decide) (by decide)) (g := (mkF m 20 #[.val (.ref xa), .val (.ref xv)] [(.int (1 : Int32)), (.ref ed), (.ref xv), (.ref xa)])) rfl (by rw [hml]; rfl) (Steps.refl _) (a := xa) (by rw [e4]; exact q5) q5' (argsL := [(.ref xv), (.ref ed), (.int (1 : Int32))]) (rest := []) (lenOf pd_93 rfl) rfl (by show 2 * 0 + _ ≤ _; exact Nat.le_of_eq rfl) (hb hby d14_20) (fun _ _ => ⟨rfl, e4, (by decide : 0 + 0 ≤ _), (by decide : 0 + 0 ≤ _)⟩)
  dsimp only [Pt.U, Pt.locs, Pt.cells, Pt.slots] at X5 l5 y5 z5 st5 hQ5
  subst l5 y5 z5
  obtain ⟨rfl, Nq5, K5, r0_5, r1_5, r2_5, r3_5, r4_5, r5_5⟩ := hQ5
  have N5 := Fr.app N2 Nq5
  have E_xa := E_xa.keep K5
  have E_ed := E_ed.keep K5
  have E_xv := E_xv.keep K5
  have O0 := O0.keep K5 (allS g_xa (allS g_ed all0))
  have K0 := K0.trans K5 (allS (Or.inl (List.mem_of_getElem? (i := 0) rfl)) (allS (Or.inl (List.mem_of_getElem? (i := 1) rfl)) all0))
  have E_xa := r0_5
  have F_modCount_xa := r1_5
  have F_elementData_xa := r2_5
  have F_size_xa := r3_5
  have V_ed := r4_5
  have E_ed := r5_5
  refine Goes.thru (T' := T5.setTop (mkF m 23 #[.val (.ref xa), .val (.ref xv)] [])) st5 ?_
  refine Goes.to (T' := T5.setTop (mkF m 24 #[.val (.ref xa), .val (.ref xv)] [(.int (1 : Int32))])) (fun t k => XS.iconst X5.here hx rfl (hb hby d14_23) k) ?_
  obtain ⟨fs, hrL, hrun, hended, hW, hsame⟩ := X5.leave (v := some (.int (1 : Int32))) (fun h => by rw [Bd.returns] at h; cases h)
  subst hQf
  refine ⟨_, _, retN X5 hx (t := .boolean) Bd.returns (by simp) (hb hby d14_24) hrL, hrun, hended, _, _, rfl, ?_, ⟨_, rfl⟩, hW, hsame.mono (by decide) (by decide)⟩
  show Q_rmA1 Z xa xv mc ed kd x0_ h0 n0 (some (.int (1 : Int32))) T5.heap _
  exact ⟨rfl, N5, K0, E_xa, F_modCount_xa, F_elementData_xa, F_size_xa, V_ed, E_ed⟩
def Q_rmB2 (Z : State) (xa : Addr) (xv : Addr) (mc : Int32) (ed : Addr) (kd : ClassId) (x0_ : Addr) (x1_ : Addr) (h0 : Heap) (n0 : Nat) (v : Option Value) (h : Heap) (L : List Loc) : Prop := v = none ∧ Fr n0 L ∧ Keep h0 h [xa, ed] ∧ Exa Z h xa "java/util/ArrayList" ∧ Fld Z h xa "java/util/AbstractList" "modCount" "I" (.int mc) ∧ Fld Z h xa "java/util/ArrayList" "elementData" "[Ljava/lang/Object;" (.ref ed) ∧ Fld Z h xa "java/util/ArrayList" "size" "I" (.int (3 : Int32)) ∧ Arv Z h ed kd (.object "java/lang/Object") (10 : Int32) [(.ref x0_), (.ref x1_), (.ref xv), .null, .null, .null, .null, .null, .null, .null] .null ∧ Exa Z h ed "[Ljava/lang/Object;"
theorem rmB2 (hw : HW a0 Z) (xa : Addr) (xv : Addr) (mc : Int32) (ed : Addr) (kd : ClassId) (x0_ : Addr) (x1_ : Addr) (h0 : Heap) (n0 : Nat) (O0 : Old Z n0 h0) (NF : Nar Z w3 w0 w2 w1 w4 k_w3 k_w0 k_w1 z_cs w5) (E_xa : Exa Z h0 xa "java/util/ArrayList") (F_modCount_xa : Fld Z h0 xa "java/util/AbstractList" "modCount" "I" (.int mc)) (F_elementData_xa : Fld Z h0 xa "java/util/ArrayList" "elementData" "[Ljava/lang/Object;" (.ref ed)) (F_size_xa : Fld Z h0 xa "java/util/ArrayList" "size" "I" (.int (2 : Int32))) (V_ed : Arv Z h0 ed kd (.object "java/lang/Object") (10 : Int32) [(.ref x0_), (.ref x1_), .null, .null, .null, .null, .null, .null, .null, .null] .null) (E_ed : Exa Z h0 ed "[Ljava/lang/Object;") (E_xv : Exa Z h0 xv "java/lang/String") (g_xa : n0 ≤ xa) (g_ed : n0 ≤ ed) (ne_ed_xa : ed ≠ xa) (Ov_ed : Ovr Z kd "java/lang/Object") :
    Con l Z (⟨"java/util/ArrayList", "add", "(Ljava/lang/Object;[Ljava/lang/Object;I)V"⟩ : MethodName) jdk_38_method_24_code 4 none ws ({ frames := 3, cells := 0, slots := 0, locals := 84 } : Room) #[(.ref xa), (.ref xv), (.ref ed), (.int (2 : Int32))] h0 (Q_rmB2 Z xa xv mc ed kd x0_ x1_ h0 n0) := by
  refine Con.body (own := "java/util/ArrayList") rfl (plainFor_of_name pn_15) (fun m => ef_rmB0 m _ _ _ _) ?_
  intro p e s m below meth c s₁ Bd hx hby hml hZ hown X0 e0 Qf hQf
  have N0 := Fr.nil n0
  have K0 := Keep.refl h0 [xa, ed]
  obtain ⟨S_w3, E_w3, S_w0, E_w0, S_w2, E_w2, F_elements_w2, E_w1, S_w4, E_w4, F_allowNulls_w2, S_w_ImmutableCollections__assertionsDisabled, V_w3, V_w0, V_w1, S_cs, nz_cs, M_OA⟩ := id NF
  have ne_xa_ed := Ne.symm ne_ed_xa
  refine Goes.to (T' := s₁.setTop (mkF m 1 #[.val (.ref xa), .val (.ref xv), .val (.ref ed), .val (.int (2 : Int32))] [(.int (2 : Int32))])) (fun t k => XS.iloadN X0.here hx rfl (hb hby d15_0) rfl k) ?_
  refine Goes.to (T' := s₁.setTop (mkF m 2 #[.val (.ref xa), .val (.ref xv), .val (.ref ed), .val (.int (2 : Int32))] [(.ref ed), (.int (2 : Int32))])) (fun t k => XS.aloadN X0.here hx rfl (hb hby d15_1) rfl rfl k) ?_
  obtain ⟨cl1, Ar1, q1, S1, Ng1, H1, G1⟩ := id V_ed
  refine Goes.to (T' := s₁.setTop (mkF m 3 #[.val (.ref xa), .val (.ref xv), .val (.ref ed), .val (.int (2 : Int32))] [(.int (10 : Int32)), (.int (2 : Int32))])) (fun t k => X0.arraylength hx (by rw [e0]; exact Ar1.1) (State.isArrayOf_alike hZ.alike Ar1.2.1) (g := (mkF m 2 #[.val (.ref xa), .val (.ref xv), .val (.ref ed), .val (.int (2 : Int32))] [(.ref ed), (.int (2 : Int32))])) rfl rfl (hb hby d15_2) _ (by rw [len_of S1 Ng1]; exact k)) ?_
  refine Goes.to (T' := s₁.setTop (mkF m 11 #[.val (.ref xa), .val (.ref xv), .val (.ref ed), .val (.int (2 : Int32))] [])) (fun t k => XS.icmpYes X0.here hx rfl (pc0 := 3) (pc' := 11) rfl (hb hby d15_3) rfl (feq (by decide)).2 (by decide) (by decide) k) ?_
  refine Goes.to (T' := s₁.setTop (mkF m 12 #[.val (.ref xa), .val (.ref xv), .val (.ref ed), .val (.int (2 : Int32))] [(.ref ed)])) (fun t k => XS.aloadN X0.here hx rfl (hb hby d15_11) rfl rfl k) ?_
  refine Goes.to (T' := s₁.setTop (mkF m 13 #[.val (.ref xa), .val (.ref xv), .val (.ref ed), .val (.int (2 : Int32))] [(.int (2 : Int32)), (.ref ed)])) (fun t k => XS.iloadN X0.here hx rfl (hb hby d15_12) rfl k) ?_
  refine Goes.to (T' := s₁.setTop (mkF m 14 #[.val (.ref xa), .val (.ref xv), .val (.ref ed), .val (.int (2 : Int32))] [(.ref xv), (.int (2 : Int32)), (.ref ed)])) (fun t k => XS.aloadN X0.here hx rfl (hb hby d15_13) rfl rfl k) ?_
  obtain ⟨cl2, Ar2, q2, S2, Ng2, H2, G2⟩ := V_ed
  have hin2 : ¬ ((2 : Int32) < 0 ∨ cl2.slots.size ≤ ((2 : Int32)).toNatClampNeg) := inb_of S2 ⟨by decide, by decide⟩
  obtain ⟨T3, h3, X3, e3, W3, st3⟩ := stR X0 hx hZ e0 Ar2 (j := (2 : Int32)) hin2 rfl (Sto.ofV Ar2 q2 Ov_ed (Ins.of_exa E_xv (wi hw 127 rfl))) (g := (mkF m 14 #[.val (.ref xa), .val (.ref xv), .val (.ref ed), .val (.int (2 : Int32))] [(.ref xv), (.int (2 : Int32)), (.ref ed)])) rfl rfl (hb hby d15_14)
  have V_ed : Arv Z h3 ed kd (.object "java/lang/Object") (10 : Int32) [(.ref x0_), (.ref x1_), (.ref xv), .null, .null, .null, .null, .null, .null, .null] .null := Arv.set Ar2 q2 S2 Ng2 H2 G2 rfl W3 2 rfl (Nat.le_of_ble_eq_true rfl)
  have E_xa := E_xa.wr W3
  have F_modCount_xa := F_modCount_xa.other W3 (Or.inl (ne_xa_ed))
  have F_elementData_xa := F_elementData_xa.other W3 (Or.inl (ne_xa_ed))
  have F_size_xa := F_size_xa.other W3 (Or.inl (ne_xa_ed))
  have E_ed := E_ed.wr W3
  have E_xv := E_xv.wr W3
  have O0 := O0.wr W3 g_ed
  have K0 := K0.wr W3 (Or.inl (List.mem_of_getElem? (i := 1) rfl))
  have N3 := Fr.snoc X3 N0 g_ed
  refine Goes.to (T' := T3.setTop (mkF m 15 #[.val (.ref xa), .val (.ref xv), .val (.ref ed), .val (.int (2 : Int32))] [])) st3 ?_
  refine Goes.to (T' := T3.setTop (mkF m 16 #[.val (.ref xa), .val (.ref xv), .val (.ref ed), .val (.int (2 : Int32))] [(.ref xa)])) (fun t k => XS.aloadN X3.here hx rfl (hb hby d15_15) rfl rfl k) ?_
  refine Goes.to (T' := T3.setTop (mkF m 17 #[.val (.ref xa), .val (.ref xv), .val (.ref ed), .val (.int (2 : Int32))] [(.int (2 : Int32)), (.ref xa)])) (fun t k => XS.iloadN X3.here hx rfl (hb hby d15_16) rfl k) ?_
  refine Goes.to (T' := T3.setTop (mkF m 18 #[.val (.ref xa), .val (.ref xv), .val (.ref ed), .val (.int (2 : Int32))] [(.int (1 : Int32)), (.int (2 : Int32)), (.ref xa)])) (fun t k => XS.iconst X3.here hx rfl (hb hby d15_17) k) ?_
  refine Goes.to (T' := T3.setTop (mkF m 19 #[.val (.ref xa), .val (.ref xv), .val (.ref ed), .val (.int (2 : Int32))] [(.int ((2 : Int32) + (1 : Int32))), (.ref xa)])) (fun t k => XS.iadd X3.here hx rfl (hb hby d15_18) rfl k) ?_
  rw [show ((2 : Int32) + (1 : Int32)) = (3 : Int32) from by decide +kernel]
  obtain ⟨T4, h4, X4, e4, W4, st4⟩ := putF X3 hx hZ hown (host := "") (Or.inl (wi hw 91 rfl)) Via.refl e3 F_size_xa E_xa (Or.inl (wi hw 92 rfl)) (wi hw 27 rfl) (ty := .int) (by decide) rfl rfl (g := (mkF m 19 #[.val (.ref xa), .val (.ref xv), .val (.ref ed), .val (.int (2 : Int32))] [(.int (3 : Int32)), (.ref xa)])) rfl rfl (hb hby d15_19)
  have F_size_xa := F_size_xa.same W4
  have E_xa := E_xa.wr W4
  have F_modCount_xa := F_modCount_xa.other W4 (Or.inr (slot_ne (Or.inl (wi hw 46 rfl)) (Or.inl (wi hw 92 rfl)) (by decide) (t := .int) (t' := .int) (by decide) (by decide)))
  have F_elementData_xa := F_elementData_xa.other W4 (Or.inr (slot_ne (Or.inl (wi hw 49 rfl)) (Or.inl (wi hw 92 rfl)) (by decide) (t := (.array (.object "java/lang/Object"))) (t' := .int) (by decide) (by decide)))
  have V_ed := V_ed.other W4 (ne_ed_xa)
  have E_ed := E_ed.wr W4
  have E_xv := E_xv.wr W4
  have O0 := O0.wr W4 g_xa
  have K0 := K0.wr W4 (Or.inl (List.mem_of_getElem? (i := 0) rfl))
  have N4 := Fr.snoc X4 N3 g_xa
  refine Goes.to (T' := T4.setTop (mkF m 22 #[.val (.ref xa), .val (.ref xv), .val (.ref ed), .val (.int (2 : Int32))] [])) st4 ?_
  obtain ⟨fs, hrL, hrun, hended, hW, hsame⟩ := X4.leave (v := none) (fun _ => rfl)
  subst hQf
  refine ⟨_, _, X4.returnOut hx Bd.returns (hb hby d15_22) hrL, hrun, hended, _, _, rfl, ?_, ⟨_, rfl⟩, hW, hsame.mono (by decide) (by decide)⟩
  show Q_rmB2 Z xa xv mc ed kd x0_ x1_ h0 n0 (none) T4.heap _
  rw [e4]
  exact ⟨rfl, N4, K0, E_xa, F_modCount_xa, F_elementData_xa, F_size_xa, V_ed, E_ed⟩
def Q_rmA2 (Z : State) (xa : Addr) (xv : Addr) (mc : Int32) (ed : Addr) (kd : ClassId) (x0_ : Addr) (x1_ : Addr) (h0 : Heap) (n0 : Nat) (v : Option Value) (h : Heap) (L : List Loc) : Prop := v = some (.int 1) ∧ Fr n0 L ∧ Keep h0 h [xa, ed] ∧ Exa Z h xa "java/util/ArrayList" ∧ Fld Z h xa "java/util/AbstractList" "modCount" "I" (.int (mc + (1 : Int32))) ∧ Fld Z h xa "java/util/ArrayList" "elementData" "[Ljava/lang/Object;" (.ref ed) ∧ Fld Z h xa "java/util/ArrayList" "size" "I" (.int (3 : Int32)) ∧ Arv Z h ed kd (.object "java/lang/Object") (10 : Int32) [(.ref x0_), (.ref x1_), (.ref xv), .null, .null, .null, .null, .null, .null, .null] .null ∧ Exa Z h ed "[Ljava/lang/Object;"
theorem rmA2 (hw : HW a0 Z) (xa : Addr) (xv : Addr) (mc : Int32) (ed : Addr) (kd : ClassId) (x0_ : Addr) (x1_ : Addr) (h0 : Heap) (n0 : Nat) (O0 : Old Z n0 h0) (NF : Nar Z w3 w0 w2 w1 w4 k_w3 k_w0 k_w1 z_cs w5) (E_xa : Exa Z h0 xa "java/util/ArrayList") (F_modCount_xa : Fld Z h0 xa "java/util/AbstractList" "modCount" "I" (.int mc)) (F_elementData_xa : Fld Z h0 xa "java/util/ArrayList" "elementData" "[Ljava/lang/Object;" (.ref ed)) (F_size_xa : Fld Z h0 xa "java/util/ArrayList" "size" "I" (.int (2 : Int32))) (V_ed : Arv Z h0 ed kd (.object "java/lang/Object") (10 : Int32) [(.ref x0_), (.ref x1_), .null, .null, .null, .null, .null, .null, .null, .null] .null) (E_ed : Exa Z h0 ed "[Ljava/lang/Object;") (E_xv : Exa Z h0 xv "java/lang/String") (g_xa : n0 ≤ xa) (g_ed : n0 ≤ ed) (ne_ed_xa : ed ≠ xa) (Ov_ed : Ovr Z kd "java/lang/Object") :
    Con l Z (⟨"java/util/ArrayList", "add", "(Ljava/lang/Object;)Z"⟩ : MethodName) jdk_38_method_25_code 2 (some .boolean) ws ({ frames := 4, cells := 0, slots := 0, locals := 112 } : Room) #[(.ref xa), (.ref xv)] h0 (Q_rmA2 Z xa xv mc ed kd x0_ x1_ h0 n0) := by
  refine Con.body (own := "java/util/ArrayList") rfl (plainFor_of_name pn_14) (fun m => ef_rmA0 m _ _) ?_
  intro p e s m below meth c s₁ Bd hx hby hml hZ hown X0 e0 Qf hQf
  have N0 := Fr.nil n0
  have K0 := Keep.refl h0 [xa, ed]
  obtain ⟨S_w3, E_w3, S_w0, E_w0, S_w2, E_w2, F_elements_w2, E_w1, S_w4, E_w4, F_allowNulls_w2, S_w_ImmutableCollections__assertionsDisabled, V_w3, V_w0, V_w1, S_cs, nz_cs, M_OA⟩ := id NF
  have ne_xa_ed := Ne.symm ne_ed_xa
  refine Goes.to (T' := s₁.setTop (mkF m 1 #[.val (.ref xa), .val (.ref xv)] [(.ref xa)])) (fun t k => XS.aloadN X0.here hx rfl (hb hby d14_0) rfl rfl k) ?_
  refine Goes.to (T' := s₁.setTop (mkF m 2 #[.val (.ref xa), .val (.ref xv)] [(.ref xa), (.ref xa)])) (fun t k => XS.dup X0.here hx rfl (hb hby d14_1) rfl rfl k) ?_
  obtain ⟨T1, X1, e1, st1⟩ := getF X0 hx hZ hown (host := "") (Or.inl (wi hw 104 rfl)) (Via.of (wi hw 105 rfl)) e0 F_modCount_xa (g := (mkF m 2 #[.val (.ref xa), .val (.ref xv)] [(.ref xa), (.ref xa)])) rfl rfl (hb hby d14_2)
  refine Goes.to (T' := T1.setTop (mkF m 5 #[.val (.ref xa), .val (.ref xv)] [(.int mc), (.ref xa)])) st1 ?_
  refine Goes.to (T' := T1.setTop (mkF m 6 #[.val (.ref xa), .val (.ref xv)] [(.int (1 : Int32)), (.int mc), (.ref xa)])) (fun t k => XS.iconst X1.here hx rfl (hb hby d14_5) k) ?_
  refine Goes.to (T' := T1.setTop (mkF m 7 #[.val (.ref xa), .val (.ref xv)] [(.int (mc + (1 : Int32))), (.ref xa)])) (fun t k => XS.iadd X1.here hx rfl (hb hby d14_6) rfl k) ?_
  obtain ⟨T2, h2, X2, e2, W2, st2⟩ := putF X1 hx hZ hown (host := "") (Or.inl (wi hw 104 rfl)) (Via.of (wi hw 105 rfl)) e1 F_modCount_xa E_xa (Or.inl (wi hw 46 rfl)) (wi hw 27 rfl) (ty := .int) (by decide) rfl rfl (g := (mkF m 7 #[.val (.ref xa), .val (.ref xv)] [(.int (mc + (1 : Int32))), (.ref xa)])) rfl rfl (hb hby d14_7)
  have F_modCount_xa := F_modCount_xa.same W2
  have E_xa := E_xa.wr W2
  have F_elementData_xa := F_elementData_xa.other W2 (Or.inr (slot_ne (Or.inl (wi hw 49 rfl)) (Or.inl (wi hw 46 rfl)) (by decide) (t := (.array (.object "java/lang/Object"))) (t' := .int) (by decide) (by decide)))
  have F_size_xa := F_size_xa.other W2 (Or.inr (slot_ne (Or.inl (wi hw 92 rfl)) (Or.inl (wi hw 46 rfl)) (by decide) (t := .int) (t' := .int) (by decide) (by decide)))
  have V_ed := V_ed.other W2 (ne_ed_xa)
  have E_ed := E_ed.wr W2
  have E_xv := E_xv.wr W2
  have O0 := O0.wr W2 g_xa
  have K0 := K0.wr W2 (Or.inl (List.mem_of_getElem? (i := 0) rfl))
  have N2 := Fr.snoc X2 N0 g_xa
  refine Goes.to (T' := T2.setTop (mkF m 10 #[.val (.ref xa), .val (.ref xv)] [])) st2 ?_
  refine Goes.to (T' := T2.setTop (mkF m 11 #[.val (.ref xa), .val (.ref xv)] [(.ref xa)])) (fun t k => XS.aloadN X2.here hx rfl (hb hby d14_10) rfl rfl k) ?_
  refine Goes.to (T' := T2.setTop (mkF m 12 #[.val (.ref xa), .val (.ref xv)] [(.ref xv), (.ref xa)])) (fun t k => XS.aloadN X2.here hx rfl (hb hby d14_11) rfl rfl k) ?_
  refine Goes.to (T' := T2.setTop (mkF m 13 #[.val (.ref xa), .val (.ref xv)] [(.ref xa), (.ref xv), (.ref xa)])) (fun t k => XS.aloadN X2.here hx rfl (hb hby d14_12) rfl rfl k) ?_
  obtain ⟨T3, X3, e3, st3⟩ := getF X2 hx hZ hown (host := "") (Or.inl (wi hw 48 rfl)) Via.refl e2 F_elementData_xa (g := (mkF m 13 #[.val (.ref xa), .val (.ref xv)] [(.ref xa), (.ref xv), (.ref xa)])) rfl rfl (hb hby d14_13)
  refine Goes.to (T' := T3.setTop (mkF m 16 #[.val (.ref xa), .val (.ref xv)] [(.ref ed), (.ref xv), (.ref xa)])) st3 ?_
  refine Goes.to (T' := T3.setTop (mkF m 17 #[.val (.ref xa), .val (.ref xv)] [(.ref xa), (.ref ed), (.ref xv), (.ref xa)])) (fun t k => XS.aloadN X3.here hx rfl (hb hby d14_16) rfl rfl k) ?_
  obtain ⟨T4, X4, e4, st4⟩ := getF X3 hx hZ hown (host := "") (Or.inl (wi hw 91 rfl)) Via.refl e3 F_size_xa (g := (mkF m 17 #[.val (.ref xa), .val (.ref xv)] [(.ref xa), (.ref ed), (.ref xv), (.ref xa)])) rfl rfl (hb hby d14_17)
  refine Goes.to (T' := T4.setTop (mkF m 20 #[.val (.ref xa), .val (.ref xv)] [(.int (2 : Int32)), (.ref ed), (.ref xv), (.ref xa)])) st4 ?_
  obtain ⟨cq5, q5, q5'⟩ := E_xa.cell
  obtain ⟨_, _, ⟨T5, L5, k5, n5⟩, -, X5, ⟨Lc5, hQ5, l5, y5, z5⟩, st5⟩ := X4.privateBack hx (y := (⟨"java/util/ArrayList", "add", "(Ljava/lang/Object;[Ljava/lang/Object;I)V"⟩ : MethodName)) hown (mvT hZ (wi hw 106 rfl)) (mvT hZ (wi hw 107 rfl)) (mvT hZ (wi hw 109 rfl)) (Cond.privateMethod_at (mvP hZ (wi hw 108 rfl) (args := #[]))) (mvT hZ (wi hw 110 rfl)) (by decide) (backOf (W := 0) (rmB2 hw xa xv (mc + (1 : Int32)) ed kd x0_ x1_ h2 n0 O0 NF E_xa F_modCount_xa F_elementData_xa F_size_xa V_ed E_ed E_xv g_xa g_ed ne_ed_xa Ov_ed) hZ (wi hw 110 rfl) (wi hw 28 rfl) (by decide) (by decide)) (g := (mkF m 20 #[.val (.ref xa), .val (.ref xv)] [(.int (2 : Int32)), (.ref ed), (.ref xv), (.ref xa)])) rfl (by rw [hml]; rfl) (Steps.refl _) (a := xa) (by rw [e4]; exact q5) q5' (argsL := [(.ref xv), (.ref ed), (.int (2 : Int32))]) (rest := []) (lenOf pd_93 rfl) rfl (by show 2 * 0 + _ ≤ _; exact Nat.le_of_eq rfl) (hb hby d14_20) (fun _ _ => ⟨rfl, e4, (by decide : 0 + 0 ≤ _), (by decide : 0 + 0 ≤ _)⟩)
  dsimp only [Pt.U, Pt.locs, Pt.cells, Pt.slots] at X5 l5 y5 z5 st5 hQ5
  subst l5 y5 z5
  obtain ⟨rfl, Nq5, K5, r0_5, r1_5, r2_5, r3_5, r4_5, r5_5⟩ := hQ5
  have N5 := Fr.app N2 Nq5
  have E_xa := E_xa.keep K5
  have E_ed := E_ed.keep K5
  have E_xv := E_xv.keep K5
  have O0 := O0.keep K5 (allS g_xa (allS g_ed all0))
  have K0 := K0.trans K5 (allS (Or.inl (List.mem_of_getElem? (i := 0) rfl)) (allS (Or.inl (List.mem_of_getElem? (i := 1) rfl)) all0))
  have E_xa := r0_5
  have F_modCount_xa := r1_5
  have F_elementData_xa := r2_5
  have F_size_xa := r3_5
  have V_ed := r4_5
  have E_ed := r5_5
  refine Goes.thru (T' := T5.setTop (mkF m 23 #[.val (.ref xa), .val (.ref xv)] [])) st5 ?_
  refine Goes.to (T' := T5.setTop (mkF m 24 #[.val (.ref xa), .val (.ref xv)] [(.int (1 : Int32))])) (fun t k => XS.iconst X5.here hx rfl (hb hby d14_23) k) ?_
  obtain ⟨fs, hrL, hrun, hended, hW, hsame⟩ := X5.leave (v := some (.int (1 : Int32))) (fun h => by rw [Bd.returns] at h; cases h)
  subst hQf
  refine ⟨_, _, retN X5 hx (t := .boolean) Bd.returns (by simp) (hb hby d14_24) hrL, hrun, hended, _, _, rfl, ?_, ⟨_, rfl⟩, hW, hsame.mono (by decide) (by decide)⟩
  show Q_rmA2 Z xa xv mc ed kd x0_ x1_ h0 n0 (some (.int (1 : Int32))) T5.heap _
  exact ⟨rfl, N5, K0, E_xa, F_modCount_xa, F_elementData_xa, F_size_xa, V_ed, E_ed⟩
def Q_rmB3 (Z : State) (xa : Addr) (xv : Addr) (mc : Int32) (ed : Addr) (kd : ClassId) (x0_ : Addr) (x1_ : Addr) (x2_ : Addr) (h0 : Heap) (n0 : Nat) (v : Option Value) (h : Heap) (L : List Loc) : Prop := v = none ∧ Fr n0 L ∧ Keep h0 h [xa, ed] ∧ Exa Z h xa "java/util/ArrayList" ∧ Fld Z h xa "java/util/AbstractList" "modCount" "I" (.int mc) ∧ Fld Z h xa "java/util/ArrayList" "elementData" "[Ljava/lang/Object;" (.ref ed) ∧ Fld Z h xa "java/util/ArrayList" "size" "I" (.int (4 : Int32)) ∧ Arv Z h ed kd (.object "java/lang/Object") (10 : Int32) [(.ref x0_), (.ref x1_), (.ref x2_), (.ref xv), .null, .null, .null, .null, .null, .null] .null ∧ Exa Z h ed "[Ljava/lang/Object;"
theorem rmB3 (hw : HW a0 Z) (xa : Addr) (xv : Addr) (mc : Int32) (ed : Addr) (kd : ClassId) (x0_ : Addr) (x1_ : Addr) (x2_ : Addr) (h0 : Heap) (n0 : Nat) (O0 : Old Z n0 h0) (NF : Nar Z w3 w0 w2 w1 w4 k_w3 k_w0 k_w1 z_cs w5) (E_xa : Exa Z h0 xa "java/util/ArrayList") (F_modCount_xa : Fld Z h0 xa "java/util/AbstractList" "modCount" "I" (.int mc)) (F_elementData_xa : Fld Z h0 xa "java/util/ArrayList" "elementData" "[Ljava/lang/Object;" (.ref ed)) (F_size_xa : Fld Z h0 xa "java/util/ArrayList" "size" "I" (.int (3 : Int32))) (V_ed : Arv Z h0 ed kd (.object "java/lang/Object") (10 : Int32) [(.ref x0_), (.ref x1_), (.ref x2_), .null, .null, .null, .null, .null, .null, .null] .null) (E_ed : Exa Z h0 ed "[Ljava/lang/Object;") (E_xv : Exa Z h0 xv "java/lang/String") (g_xa : n0 ≤ xa) (g_ed : n0 ≤ ed) (ne_ed_xa : ed ≠ xa) (Ov_ed : Ovr Z kd "java/lang/Object") :
    Con l Z (⟨"java/util/ArrayList", "add", "(Ljava/lang/Object;[Ljava/lang/Object;I)V"⟩ : MethodName) jdk_38_method_24_code 4 none ws ({ frames := 3, cells := 0, slots := 0, locals := 84 } : Room) #[(.ref xa), (.ref xv), (.ref ed), (.int (3 : Int32))] h0 (Q_rmB3 Z xa xv mc ed kd x0_ x1_ x2_ h0 n0) := by
  refine Con.body (own := "java/util/ArrayList") rfl (plainFor_of_name pn_15) (fun m => ef_rmB0 m _ _ _ _) ?_
  intro p e s m below meth c s₁ Bd hx hby hml hZ hown X0 e0 Qf hQf
  have N0 := Fr.nil n0
  have K0 := Keep.refl h0 [xa, ed]
  obtain ⟨S_w3, E_w3, S_w0, E_w0, S_w2, E_w2, F_elements_w2, E_w1, S_w4, E_w4, F_allowNulls_w2, S_w_ImmutableCollections__assertionsDisabled, V_w3, V_w0, V_w1, S_cs, nz_cs, M_OA⟩ := id NF
  have ne_xa_ed := Ne.symm ne_ed_xa
  refine Goes.to (T' := s₁.setTop (mkF m 1 #[.val (.ref xa), .val (.ref xv), .val (.ref ed), .val (.int (3 : Int32))] [(.int (3 : Int32))])) (fun t k => XS.iloadN X0.here hx rfl (hb hby d15_0) rfl k) ?_
  refine Goes.to (T' := s₁.setTop (mkF m 2 #[.val (.ref xa), .val (.ref xv), .val (.ref ed), .val (.int (3 : Int32))] [(.ref ed), (.int (3 : Int32))])) (fun t k => XS.aloadN X0.here hx rfl (hb hby d15_1) rfl rfl k) ?_
  obtain ⟨cl1, Ar1, q1, S1, Ng1, H1, G1⟩ := id V_ed
  refine Goes.to (T' := s₁.setTop (mkF m 3 #[.val (.ref xa), .val (.ref xv), .val (.ref ed), .val (.int (3 : Int32))] [(.int (10 : Int32)), (.int (3 : Int32))])) (fun t k => X0.arraylength hx (by rw [e0]; exact Ar1.1) (State.isArrayOf_alike hZ.alike Ar1.2.1) (g := (mkF m 2 #[.val (.ref xa), .val (.ref xv), .val (.ref ed), .val (.int (3 : Int32))] [(.ref ed), (.int (3 : Int32))])) rfl rfl (hb hby d15_2) _ (by rw [len_of S1 Ng1]; exact k)) ?_
  refine Goes.to (T' := s₁.setTop (mkF m 11 #[.val (.ref xa), .val (.ref xv), .val (.ref ed), .val (.int (3 : Int32))] [])) (fun t k => XS.icmpYes X0.here hx rfl (pc0 := 3) (pc' := 11) rfl (hb hby d15_3) rfl (feq (by decide)).2 (by decide) (by decide) k) ?_
  refine Goes.to (T' := s₁.setTop (mkF m 12 #[.val (.ref xa), .val (.ref xv), .val (.ref ed), .val (.int (3 : Int32))] [(.ref ed)])) (fun t k => XS.aloadN X0.here hx rfl (hb hby d15_11) rfl rfl k) ?_
  refine Goes.to (T' := s₁.setTop (mkF m 13 #[.val (.ref xa), .val (.ref xv), .val (.ref ed), .val (.int (3 : Int32))] [(.int (3 : Int32)), (.ref ed)])) (fun t k => XS.iloadN X0.here hx rfl (hb hby d15_12) rfl k) ?_
  refine Goes.to (T' := s₁.setTop (mkF m 14 #[.val (.ref xa), .val (.ref xv), .val (.ref ed), .val (.int (3 : Int32))] [(.ref xv), (.int (3 : Int32)), (.ref ed)])) (fun t k => XS.aloadN X0.here hx rfl (hb hby d15_13) rfl rfl k) ?_
  obtain ⟨cl2, Ar2, q2, S2, Ng2, H2, G2⟩ := V_ed
  have hin2 : ¬ ((3 : Int32) < 0 ∨ cl2.slots.size ≤ ((3 : Int32)).toNatClampNeg) := inb_of S2 ⟨by decide, by decide⟩
  obtain ⟨T3, h3, X3, e3, W3, st3⟩ := stR X0 hx hZ e0 Ar2 (j := (3 : Int32)) hin2 rfl (Sto.ofV Ar2 q2 Ov_ed (Ins.of_exa E_xv (wi hw 127 rfl))) (g := (mkF m 14 #[.val (.ref xa), .val (.ref xv), .val (.ref ed), .val (.int (3 : Int32))] [(.ref xv), (.int (3 : Int32)), (.ref ed)])) rfl rfl (hb hby d15_14)
  have V_ed : Arv Z h3 ed kd (.object "java/lang/Object") (10 : Int32) [(.ref x0_), (.ref x1_), (.ref x2_), (.ref xv), .null, .null, .null, .null, .null, .null] .null := Arv.set Ar2 q2 S2 Ng2 H2 G2 rfl W3 3 rfl (Nat.le_of_ble_eq_true rfl)
  have E_xa := E_xa.wr W3
  have F_modCount_xa := F_modCount_xa.other W3 (Or.inl (ne_xa_ed))
  have F_elementData_xa := F_elementData_xa.other W3 (Or.inl (ne_xa_ed))
  have F_size_xa := F_size_xa.other W3 (Or.inl (ne_xa_ed))
  have E_ed := E_ed.wr W3
  have E_xv := E_xv.wr W3
  have O0 := O0.wr W3 g_ed
  have K0 := K0.wr W3 (Or.inl (List.mem_of_getElem? (i := 1) rfl))
  have N3 := Fr.snoc X3 N0 g_ed
  refine Goes.to (T' := T3.setTop (mkF m 15 #[.val (.ref xa), .val (.ref xv), .val (.ref ed), .val (.int (3 : Int32))] [])) st3 ?_
  refine Goes.to (T' := T3.setTop (mkF m 16 #[.val (.ref xa), .val (.ref xv), .val (.ref ed), .val (.int (3 : Int32))] [(.ref xa)])) (fun t k => XS.aloadN X3.here hx rfl (hb hby d15_15) rfl rfl k) ?_
  refine Goes.to (T' := T3.setTop (mkF m 17 #[.val (.ref xa), .val (.ref xv), .val (.ref ed), .val (.int (3 : Int32))] [(.int (3 : Int32)), (.ref xa)])) (fun t k => XS.iloadN X3.here hx rfl (hb hby d15_16) rfl k) ?_
  refine Goes.to (T' := T3.setTop (mkF m 18 #[.val (.ref xa), .val (.ref xv), .val (.ref ed), .val (.int (3 : Int32))] [(.int (1 : Int32)), (.int (3 : Int32)), (.ref xa)])) (fun t k => XS.iconst X3.here hx rfl (hb hby d15_17) k) ?_
  refine Goes.to (T' := T3.setTop (mkF m 19 #[.val (.ref xa), .val (.ref xv), .val (.ref ed), .val (.int (3 : Int32))] [(.int ((3 : Int32) + (1 : Int32))), (.ref xa)])) (fun t k => XS.iadd X3.here hx rfl (hb hby d15_18) rfl k) ?_
  rw [show ((3 : Int32) + (1 : Int32)) = (4 : Int32) from by decide +kernel]
  obtain ⟨T4, h4, X4, e4, W4, st4⟩ := putF X3 hx hZ hown (host := "") (Or.inl (wi hw 91 rfl)) Via.refl e3 F_size_xa E_xa (Or.inl (wi hw 92 rfl)) (wi hw 27 rfl) (ty := .int) (by decide) rfl rfl (g := (mkF m 19 #[.val (.ref xa), .val (.ref xv), .val (.ref ed), .val (.int (3 : Int32))] [(.int (4 : Int32)), (.ref xa)])) rfl rfl (hb hby d15_19)
  have F_size_xa := F_size_xa.same W4
  have E_xa := E_xa.wr W4
  have F_modCount_xa := F_modCount_xa.other W4 (Or.inr (slot_ne (Or.inl (wi hw 46 rfl)) (Or.inl (wi hw 92 rfl)) (by decide) (t := .int) (t' := .int) (by decide) (by decide)))
  have F_elementData_xa := F_elementData_xa.other W4 (Or.inr (slot_ne (Or.inl (wi hw 49 rfl)) (Or.inl (wi hw 92 rfl)) (by decide) (t := (.array (.object "java/lang/Object"))) (t' := .int) (by decide) (by decide)))
  have V_ed := V_ed.other W4 (ne_ed_xa)
  have E_ed := E_ed.wr W4
  have E_xv := E_xv.wr W4
  have O0 := O0.wr W4 g_xa
  have K0 := K0.wr W4 (Or.inl (List.mem_of_getElem? (i := 0) rfl))
  have N4 := Fr.snoc X4 N3 g_xa
  refine Goes.to (T' := T4.setTop (mkF m 22 #[.val (.ref xa), .val (.ref xv), .val (.ref ed), .val (.int (3 : Int32))] [])) st4 ?_
  obtain ⟨fs, hrL, hrun, hended, hW, hsame⟩ := X4.leave (v := none) (fun _ => rfl)
  subst hQf
  refine ⟨_, _, X4.returnOut hx Bd.returns (hb hby d15_22) hrL, hrun, hended, _, _, rfl, ?_, ⟨_, rfl⟩, hW, hsame.mono (by decide) (by decide)⟩
  show Q_rmB3 Z xa xv mc ed kd x0_ x1_ x2_ h0 n0 (none) T4.heap _
  rw [e4]
  exact ⟨rfl, N4, K0, E_xa, F_modCount_xa, F_elementData_xa, F_size_xa, V_ed, E_ed⟩
def Q_rmA3 (Z : State) (xa : Addr) (xv : Addr) (mc : Int32) (ed : Addr) (kd : ClassId) (x0_ : Addr) (x1_ : Addr) (x2_ : Addr) (h0 : Heap) (n0 : Nat) (v : Option Value) (h : Heap) (L : List Loc) : Prop := v = some (.int 1) ∧ Fr n0 L ∧ Keep h0 h [xa, ed] ∧ Exa Z h xa "java/util/ArrayList" ∧ Fld Z h xa "java/util/AbstractList" "modCount" "I" (.int (mc + (1 : Int32))) ∧ Fld Z h xa "java/util/ArrayList" "elementData" "[Ljava/lang/Object;" (.ref ed) ∧ Fld Z h xa "java/util/ArrayList" "size" "I" (.int (4 : Int32)) ∧ Arv Z h ed kd (.object "java/lang/Object") (10 : Int32) [(.ref x0_), (.ref x1_), (.ref x2_), (.ref xv), .null, .null, .null, .null, .null, .null] .null ∧ Exa Z h ed "[Ljava/lang/Object;"
theorem rmA3 (hw : HW a0 Z) (xa : Addr) (xv : Addr) (mc : Int32) (ed : Addr) (kd : ClassId) (x0_ : Addr) (x1_ : Addr) (x2_ : Addr) (h0 : Heap) (n0 : Nat) (O0 : Old Z n0 h0) (NF : Nar Z w3 w0 w2 w1 w4 k_w3 k_w0 k_w1 z_cs w5) (E_xa : Exa Z h0 xa "java/util/ArrayList") (F_modCount_xa : Fld Z h0 xa "java/util/AbstractList" "modCount" "I" (.int mc)) (F_elementData_xa : Fld Z h0 xa "java/util/ArrayList" "elementData" "[Ljava/lang/Object;" (.ref ed)) (F_size_xa : Fld Z h0 xa "java/util/ArrayList" "size" "I" (.int (3 : Int32))) (V_ed : Arv Z h0 ed kd (.object "java/lang/Object") (10 : Int32) [(.ref x0_), (.ref x1_), (.ref x2_), .null, .null, .null, .null, .null, .null, .null] .null) (E_ed : Exa Z h0 ed "[Ljava/lang/Object;") (E_xv : Exa Z h0 xv "java/lang/String") (g_xa : n0 ≤ xa) (g_ed : n0 ≤ ed) (ne_ed_xa : ed ≠ xa) (Ov_ed : Ovr Z kd "java/lang/Object") :
    Con l Z (⟨"java/util/ArrayList", "add", "(Ljava/lang/Object;)Z"⟩ : MethodName) jdk_38_method_25_code 2 (some .boolean) ws ({ frames := 4, cells := 0, slots := 0, locals := 112 } : Room) #[(.ref xa), (.ref xv)] h0 (Q_rmA3 Z xa xv mc ed kd x0_ x1_ x2_ h0 n0) := by
  refine Con.body (own := "java/util/ArrayList") rfl (plainFor_of_name pn_14) (fun m => ef_rmA0 m _ _) ?_
  intro p e s m below meth c s₁ Bd hx hby hml hZ hown X0 e0 Qf hQf
  have N0 := Fr.nil n0
  have K0 := Keep.refl h0 [xa, ed]
  obtain ⟨S_w3, E_w3, S_w0, E_w0, S_w2, E_w2, F_elements_w2, E_w1, S_w4, E_w4, F_allowNulls_w2, S_w_ImmutableCollections__assertionsDisabled, V_w3, V_w0, V_w1, S_cs, nz_cs, M_OA⟩ := id NF
  have ne_xa_ed := Ne.symm ne_ed_xa
  refine Goes.to (T' := s₁.setTop (mkF m 1 #[.val (.ref xa), .val (.ref xv)] [(.ref xa)])) (fun t k => XS.aloadN X0.here hx rfl (hb hby d14_0) rfl rfl k) ?_
  refine Goes.to (T' := s₁.setTop (mkF m 2 #[.val (.ref xa), .val (.ref xv)] [(.ref xa), (.ref xa)])) (fun t k => XS.dup X0.here hx rfl (hb hby d14_1) rfl rfl k) ?_
  obtain ⟨T1, X1, e1, st1⟩ := getF X0 hx hZ hown (host := "") (Or.inl (wi hw 104 rfl)) (Via.of (wi hw 105 rfl)) e0 F_modCount_xa (g := (mkF m 2 #[.val (.ref xa), .val (.ref xv)] [(.ref xa), (.ref xa)])) rfl rfl (hb hby d14_2)
  refine Goes.to (T' := T1.setTop (mkF m 5 #[.val (.ref xa), .val (.ref xv)] [(.int mc), (.ref xa)])) st1 ?_
  refine Goes.to (T' := T1.setTop (mkF m 6 #[.val (.ref xa), .val (.ref xv)] [(.int (1 : Int32)), (.int mc), (.ref xa)])) (fun t k => XS.iconst X1.here hx rfl (hb hby d14_5) k) ?_
  refine Goes.to (T' := T1.setTop (mkF m 7 #[.val (.ref xa), .val (.ref xv)] [(.int (mc + (1 : Int32))), (.ref xa)])) (fun t k => XS.iadd X1.here hx rfl (hb hby d14_6) rfl k) ?_
  obtain ⟨T2, h2, X2, e2, W2, st2⟩ := putF X1 hx hZ hown (host := "") (Or.inl (wi hw 104 rfl)) (Via.of (wi hw 105 rfl)) e1 F_modCount_xa E_xa (Or.inl (wi hw 46 rfl)) (wi hw 27 rfl) (ty := .int) (by decide) rfl rfl (g := (mkF m 7 #[.val (.ref xa), .val (.ref xv)] [(.int (mc + (1 : Int32))), (.ref xa)])) rfl rfl (hb hby d14_7)
  have F_modCount_xa := F_modCount_xa.same W2
  have E_xa := E_xa.wr W2
  have F_elementData_xa := F_elementData_xa.other W2 (Or.inr (slot_ne (Or.inl (wi hw 49 rfl)) (Or.inl (wi hw 46 rfl)) (by decide) (t := (.array (.object "java/lang/Object"))) (t' := .int) (by decide) (by decide)))
  have F_size_xa := F_size_xa.other W2 (Or.inr (slot_ne (Or.inl (wi hw 92 rfl)) (Or.inl (wi hw 46 rfl)) (by decide) (t := .int) (t' := .int) (by decide) (by decide)))
  have V_ed := V_ed.other W2 (ne_ed_xa)
  have E_ed := E_ed.wr W2
  have E_xv := E_xv.wr W2
  have O0 := O0.wr W2 g_xa
  have K0 := K0.wr W2 (Or.inl (List.mem_of_getElem? (i := 0) rfl))
  have N2 := Fr.snoc X2 N0 g_xa
  refine Goes.to (T' := T2.setTop (mkF m 10 #[.val (.ref xa), .val (.ref xv)] [])) st2 ?_
  refine Goes.to (T' := T2.setTop (mkF m 11 #[.val (.ref xa), .val (.ref xv)] [(.ref xa)])) (fun t k => XS.aloadN X2.here hx rfl (hb hby d14_10) rfl rfl k) ?_
  refine Goes.to (T' := T2.setTop (mkF m 12 #[.val (.ref xa), .val (.ref xv)] [(.ref xv), (.ref xa)])) (fun t k => XS.aloadN X2.here hx rfl (hb hby d14_11) rfl rfl k) ?_
  refine Goes.to (T' := T2.setTop (mkF m 13 #[.val (.ref xa), .val (.ref xv)] [(.ref xa), (.ref xv), (.ref xa)])) (fun t k => XS.aloadN X2.here hx rfl (hb hby d14_12) rfl rfl k) ?_
  obtain ⟨T3, X3, e3, st3⟩ := getF X2 hx hZ hown (host := "") (Or.inl (wi hw 48 rfl)) Via.refl e2 F_elementData_xa (g := (mkF m 13 #[.val (.ref xa), .val (.ref xv)] [(.ref xa), (.ref xv), (.ref xa)])) rfl rfl (hb hby d14_13)
  refine Goes.to (T' := T3.setTop (mkF m 16 #[.val (.ref xa), .val (.ref xv)] [(.ref ed), (.ref xv), (.ref xa)])) st3 ?_
  refine Goes.to (T' := T3.setTop (mkF m 17 #[.val (.ref xa), .val (.ref xv)] [(.ref xa), (.ref ed), (.ref xv), (.ref xa)])) (fun t k => XS.aloadN X3.here hx rfl (hb hby d14_16) rfl rfl k) ?_
  obtain ⟨T4, X4, e4, st4⟩ := getF X3 hx hZ hown (host := "") (Or.inl (wi hw 91 rfl)) Via.refl e3 F_size_xa (g := (mkF m 17 #[.val (.ref xa), .val (.ref xv)] [(.ref xa), (.ref ed), (.ref xv), (.ref xa)])) rfl rfl (hb hby d14_17)
  refine Goes.to (T' := T4.setTop (mkF m 20 #[.val (.ref xa), .val (.ref xv)] [(.int (3 : Int32)), (.ref ed), (.ref xv), (.ref xa)])) st4 ?_
  obtain ⟨cq5, q5, q5'⟩ := E_xa.cell
  obtain ⟨_, _, ⟨T5, L5, k5, n5⟩, -, X5, ⟨Lc5, hQ5, l5, y5, z5⟩, st5⟩ := X4.privateBack hx (y := (⟨"java/util/ArrayList", "add", "(Ljava/lang/Object;[Ljava/lang/Object;I)V"⟩ : MethodName)) hown (mvT hZ (wi hw 106 rfl)) (mvT hZ (wi hw 107 rfl)) (mvT hZ (wi hw 109 rfl)) (Cond.privateMethod_at (mvP hZ (wi hw 108 rfl) (args := #[]))) (mvT hZ (wi hw 110 rfl)) (by decide) (backOf (W := 0) (rmB3 hw xa xv (mc + (1 : Int32)) ed kd x0_ x1_ x2_ h2 n0 O0 NF E_xa F_modCount_xa F_elementData_xa F_size_xa V_ed E_ed E_xv g_xa g_ed ne_ed_xa Ov_ed) hZ (wi hw 110 rfl) (wi hw 28 rfl) (by decide) (by decide)) (g := (mkF m 20 #[.val (.ref xa), .val (.ref xv)] [(.int (3 : Int32)), (.ref ed), (.ref xv), (.ref xa)])) rfl (by rw [hml]; rfl) (Steps.refl _) (a := xa) (by rw [e4]; exact q5) q5' (argsL := [(.ref xv), (.ref ed), (.int (3 : Int32))]) (rest := []) (lenOf pd_93 rfl) rfl (by show 2 * 0 + _ ≤ _; exact Nat.le_of_eq rfl) (hb hby d14_20) (fun _ _ => ⟨rfl, e4, (by decide : 0 + 0 ≤ _), (by decide : 0 + 0 ≤ _)⟩)
  dsimp only [Pt.U, Pt.locs, Pt.cells, Pt.slots] at X5 l5 y5 z5 st5 hQ5
  subst l5 y5 z5
  obtain ⟨rfl, Nq5, K5, r0_5, r1_5, r2_5, r3_5, r4_5, r5_5⟩ := hQ5
  have N5 := Fr.app N2 Nq5
  have E_xa := E_xa.keep K5
  have E_ed := E_ed.keep K5
  have E_xv := E_xv.keep K5
  have O0 := O0.keep K5 (allS g_xa (allS g_ed all0))
  have K0 := K0.trans K5 (allS (Or.inl (List.mem_of_getElem? (i := 0) rfl)) (allS (Or.inl (List.mem_of_getElem? (i := 1) rfl)) all0))
  have E_xa := r0_5
  have F_modCount_xa := r1_5
  have F_elementData_xa := r2_5
  have F_size_xa := r3_5
  have V_ed := r4_5
  have E_ed := r5_5
  refine Goes.thru (T' := T5.setTop (mkF m 23 #[.val (.ref xa), .val (.ref xv)] [])) st5 ?_
  refine Goes.to (T' := T5.setTop (mkF m 24 #[.val (.ref xa), .val (.ref xv)] [(.int (1 : Int32))])) (fun t k => XS.iconst X5.here hx rfl (hb hby d14_23) k) ?_
  obtain ⟨fs, hrL, hrun, hended, hW, hsame⟩ := X5.leave (v := some (.int (1 : Int32))) (fun h => by rw [Bd.returns] at h; cases h)
  subst hQf
  refine ⟨_, _, retN X5 hx (t := .boolean) Bd.returns (by simp) (hb hby d14_24) hrL, hrun, hended, _, _, rfl, ?_, ⟨_, rfl⟩, hW, hsame.mono (by decide) (by decide)⟩
  show Q_rmA3 Z xa xv mc ed kd x0_ x1_ x2_ h0 n0 (some (.int (1 : Int32))) T5.heap _
  exact ⟨rfl, N5, K0, E_xa, F_modCount_xa, F_elementData_xa, F_size_xa, V_ed, E_ed⟩
theorem d12_0 : decode jdk_38_method_9_code 0 = .ok (.aload_n 0, 1) := by decide +kernel
theorem d12_1 : decode jdk_38_method_9_code 1 = .ok (.getfield 48, 3) := by decide +kernel
theorem d12_4 : decode jdk_38_method_9_code 4 = .ok (.ifCond .ne 7, 3) := by decide +kernel
theorem d12_7 : decode jdk_38_method_9_code 7 = .ok (.iconst 1, 1) := by decide +kernel
theorem d12_8 : decode jdk_38_method_9_code 8 = .ok (.goto 4, 3) := by decide +kernel
theorem d12_12 : decode jdk_38_method_9_code 12 = .ok (.ireturn, 1) := by decide +kernel
theorem pn_12 : plainName "java/util/ArrayList" = true := by first | (simp [plainName, overriddenIn]; done) | decide +kernel
def Q_rmE0  (h0 : Heap) (n0 : Nat) (v : Option Value) (h : Heap) (L : List Loc) : Prop := v = some (.int 1) ∧ Fr n0 L ∧ h = h0
theorem rmE0 (hw : HW a0 Z) (xa : Addr) (h0 : Heap) (n0 : Nat) (O0 : Old Z n0 h0) (NF : Nar Z w3 w0 w2 w1 w4 k_w3 k_w0 k_w1 z_cs w5) (F_size_xa : Fld Z h0 xa "java/util/ArrayList" "size" "I" (.int (0 : Int32))) :
    Con l Z (⟨"java/util/ArrayList", "isEmpty", "()Z"⟩ : MethodName) jdk_38_method_9_code 1 (some .boolean) ws ({ frames := 0, cells := 0, slots := 0, locals := 0 } : Room) #[(.ref xa)] h0 (Q_rmE0  h0 n0) := by
  refine Con.body (own := "java/util/ArrayList") rfl (plainFor_of_name pn_12) (fun m => ef_rmAC m _) ?_
  intro p e s m below meth c s₁ Bd hx hby hml hZ hown X0 e0 Qf hQf
  have N0 := Fr.nil n0
  obtain ⟨S_w3, E_w3, S_w0, E_w0, S_w2, E_w2, F_elements_w2, E_w1, S_w4, E_w4, F_allowNulls_w2, S_w_ImmutableCollections__assertionsDisabled, V_w3, V_w0, V_w1, S_cs, nz_cs, M_OA⟩ := id NF
  refine Goes.to (T' := s₁.setTop (mkF m 1 #[.val (.ref xa)] [(.ref xa)])) (fun t k => XS.aloadN X0.here hx rfl (hb hby d12_0) rfl rfl k) ?_
  obtain ⟨T1, X1, e1, st1⟩ := getF X0 hx hZ hown (host := "") (Or.inl (wi hw 91 rfl)) Via.refl e0 F_size_xa (g := (mkF m 1 #[.val (.ref xa)] [(.ref xa)])) rfl rfl (hb hby d12_1)
  refine Goes.to (T' := T1.setTop (mkF m 4 #[.val (.ref xa)] [(.int (0 : Int32))])) st1 ?_
  refine Goes.to (T' := T1.setTop (mkF m 7 #[.val (.ref xa)] [])) (fun t k => XS.ifNo X1.here hx rfl (hb hby d12_4) rfl ((if0 _ _).trans (teq (by decide)).2) k) ?_
  refine Goes.to (T' := T1.setTop (mkF m 8 #[.val (.ref xa)] [(.int (1 : Int32))])) (fun t k => XS.iconst X1.here hx rfl (hb hby d12_7) k) ?_
  refine Goes.to (T' := T1.setTop (mkF m 12 #[.val (.ref xa)] [(.int (1 : Int32))])) (fun t k => XS.goto X1.here hx rfl (pc0 := 8) (pc' := 12) rfl (hb hby d12_8) (by decide) (by decide) k) ?_
  obtain ⟨fs, hrL, hrun, hended, hW, hsame⟩ := X1.leave (v := some (.int (1 : Int32))) (fun h => by rw [Bd.returns] at h; cases h)
  subst hQf
  refine ⟨_, _, retN X1 hx (t := .boolean) Bd.returns (by simp) (hb hby d12_12) hrL, hrun, hended, _, _, rfl, ?_, ⟨_, rfl⟩, hW, hsame.mono (by decide) (by decide)⟩
  show Q_rmE0  h0 n0 (some (.int (1 : Int32))) T1.heap _
  rw [e1]
  exact ⟨rfl, N0, rfl⟩
theorem d12_11 : decode jdk_38_method_9_code 11 = .ok (.iconst 0, 1) := by decide +kernel
def Q_rmE1  (h0 : Heap) (n0 : Nat) (v : Option Value) (h : Heap) (L : List Loc) : Prop := v = some (.int 0) ∧ Fr n0 L ∧ h = h0
theorem rmE1 (hw : HW a0 Z) (xa : Addr) (h0 : Heap) (n0 : Nat) (O0 : Old Z n0 h0) (NF : Nar Z w3 w0 w2 w1 w4 k_w3 k_w0 k_w1 z_cs w5) (F_size_xa : Fld Z h0 xa "java/util/ArrayList" "size" "I" (.int (1 : Int32))) :
    Con l Z (⟨"java/util/ArrayList", "isEmpty", "()Z"⟩ : MethodName) jdk_38_method_9_code 1 (some .boolean) ws ({ frames := 0, cells := 0, slots := 0, locals := 0 } : Room) #[(.ref xa)] h0 (Q_rmE1  h0 n0) := by
  refine Con.body (own := "java/util/ArrayList") rfl (plainFor_of_name pn_12) (fun m => ef_rmAC m _) ?_
  intro p e s m below meth c s₁ Bd hx hby hml hZ hown X0 e0 Qf hQf
  have N0 := Fr.nil n0
  obtain ⟨S_w3, E_w3, S_w0, E_w0, S_w2, E_w2, F_elements_w2, E_w1, S_w4, E_w4, F_allowNulls_w2, S_w_ImmutableCollections__assertionsDisabled, V_w3, V_w0, V_w1, S_cs, nz_cs, M_OA⟩ := id NF
  refine Goes.to (T' := s₁.setTop (mkF m 1 #[.val (.ref xa)] [(.ref xa)])) (fun t k => XS.aloadN X0.here hx rfl (hb hby d12_0) rfl rfl k) ?_
  obtain ⟨T1, X1, e1, st1⟩ := getF X0 hx hZ hown (host := "") (Or.inl (wi hw 91 rfl)) Via.refl e0 F_size_xa (g := (mkF m 1 #[.val (.ref xa)] [(.ref xa)])) rfl rfl (hb hby d12_1)
  refine Goes.to (T' := T1.setTop (mkF m 4 #[.val (.ref xa)] [(.int (1 : Int32))])) st1 ?_
  refine Goes.to (T' := T1.setTop (mkF m 11 #[.val (.ref xa)] [])) (fun t k => XS.ifYes X1.here hx rfl (pc0 := 4) (pc' := 11) rfl (hb hby d12_4) rfl ((if0 _ _).trans (feq (by decide)).2) (by decide) (by decide) k) ?_
  refine Goes.to (T' := T1.setTop (mkF m 12 #[.val (.ref xa)] [(.int (0 : Int32))])) (fun t k => XS.iconst X1.here hx rfl (hb hby d12_11) k) ?_
  obtain ⟨fs, hrL, hrun, hended, hW, hsame⟩ := X1.leave (v := some (.int (0 : Int32))) (fun h => by rw [Bd.returns] at h; cases h)
  subst hQf
  refine ⟨_, _, retN X1 hx (t := .boolean) Bd.returns (by simp) (hb hby d12_12) hrL, hrun, hended, _, _, rfl, ?_, ⟨_, rfl⟩, hW, hsame.mono (by decide) (by decide)⟩
  show Q_rmE1  h0 n0 (some (.int (0 : Int32))) T1.heap _
  rw [e1]
  exact ⟨rfl, N0, rfl⟩
def Q_rmE2  (h0 : Heap) (n0 : Nat) (v : Option Value) (h : Heap) (L : List Loc) : Prop := v = some (.int 0) ∧ Fr n0 L ∧ h = h0
theorem rmE2 (hw : HW a0 Z) (xa : Addr) (h0 : Heap) (n0 : Nat) (O0 : Old Z n0 h0) (NF : Nar Z w3 w0 w2 w1 w4 k_w3 k_w0 k_w1 z_cs w5) (F_size_xa : Fld Z h0 xa "java/util/ArrayList" "size" "I" (.int (2 : Int32))) :
    Con l Z (⟨"java/util/ArrayList", "isEmpty", "()Z"⟩ : MethodName) jdk_38_method_9_code 1 (some .boolean) ws ({ frames := 0, cells := 0, slots := 0, locals := 0 } : Room) #[(.ref xa)] h0 (Q_rmE2  h0 n0) := by
  refine Con.body (own := "java/util/ArrayList") rfl (plainFor_of_name pn_12) (fun m => ef_rmAC m _) ?_
  intro p e s m below meth c s₁ Bd hx hby hml hZ hown X0 e0 Qf hQf
  have N0 := Fr.nil n0
  obtain ⟨S_w3, E_w3, S_w0, E_w0, S_w2, E_w2, F_elements_w2, E_w1, S_w4, E_w4, F_allowNulls_w2, S_w_ImmutableCollections__assertionsDisabled, V_w3, V_w0, V_w1, S_cs, nz_cs, M_OA⟩ := id NF
  refine Goes.to (T' := s₁.setTop (mkF m 1 #[.val (.ref xa)] [(.ref xa)])) (fun t k => XS.aloadN X0.here hx rfl (hb hby d12_0) rfl rfl k) ?_
  obtain ⟨T1, X1, e1, st1⟩ := getF X0 hx hZ hown (host := "") (Or.inl (wi hw 91 rfl)) Via.refl e0 F_size_xa (g := (mkF m 1 #[.val (.ref xa)] [(.ref xa)])) rfl rfl (hb hby d12_1)
  refine Goes.to (T' := T1.setTop (mkF m 4 #[.val (.ref xa)] [(.int (2 : Int32))])) st1 ?_
  refine Goes.to (T' := T1.setTop (mkF m 11 #[.val (.ref xa)] [])) (fun t k => XS.ifYes X1.here hx rfl (pc0 := 4) (pc' := 11) rfl (hb hby d12_4) rfl ((if0 _ _).trans (feq (by decide)).2) (by decide) (by decide) k) ?_
  refine Goes.to (T' := T1.setTop (mkF m 12 #[.val (.ref xa)] [(.int (0 : Int32))])) (fun t k => XS.iconst X1.here hx rfl (hb hby d12_11) k) ?_
  obtain ⟨fs, hrL, hrun, hended, hW, hsame⟩ := X1.leave (v := some (.int (0 : Int32))) (fun h => by rw [Bd.returns] at h; cases h)
  subst hQf
  refine ⟨_, _, retN X1 hx (t := .boolean) Bd.returns (by simp) (hb hby d12_12) hrL, hrun, hended, _, _, rfl, ?_, ⟨_, rfl⟩, hW, hsame.mono (by decide) (by decide)⟩
  show Q_rmE2  h0 n0 (some (.int (0 : Int32))) T1.heap _
  rw [e1]
  exact ⟨rfl, N0, rfl⟩
def Q_rmE3  (h0 : Heap) (n0 : Nat) (v : Option Value) (h : Heap) (L : List Loc) : Prop := v = some (.int 0) ∧ Fr n0 L ∧ h = h0
theorem rmE3 (hw : HW a0 Z) (xa : Addr) (h0 : Heap) (n0 : Nat) (O0 : Old Z n0 h0) (NF : Nar Z w3 w0 w2 w1 w4 k_w3 k_w0 k_w1 z_cs w5) (F_size_xa : Fld Z h0 xa "java/util/ArrayList" "size" "I" (.int (3 : Int32))) :
    Con l Z (⟨"java/util/ArrayList", "isEmpty", "()Z"⟩ : MethodName) jdk_38_method_9_code 1 (some .boolean) ws ({ frames := 0, cells := 0, slots := 0, locals := 0 } : Room) #[(.ref xa)] h0 (Q_rmE3  h0 n0) := by
  refine Con.body (own := "java/util/ArrayList") rfl (plainFor_of_name pn_12) (fun m => ef_rmAC m _) ?_
  intro p e s m below meth c s₁ Bd hx hby hml hZ hown X0 e0 Qf hQf
  have N0 := Fr.nil n0
  obtain ⟨S_w3, E_w3, S_w0, E_w0, S_w2, E_w2, F_elements_w2, E_w1, S_w4, E_w4, F_allowNulls_w2, S_w_ImmutableCollections__assertionsDisabled, V_w3, V_w0, V_w1, S_cs, nz_cs, M_OA⟩ := id NF
  refine Goes.to (T' := s₁.setTop (mkF m 1 #[.val (.ref xa)] [(.ref xa)])) (fun t k => XS.aloadN X0.here hx rfl (hb hby d12_0) rfl rfl k) ?_
  obtain ⟨T1, X1, e1, st1⟩ := getF X0 hx hZ hown (host := "") (Or.inl (wi hw 91 rfl)) Via.refl e0 F_size_xa (g := (mkF m 1 #[.val (.ref xa)] [(.ref xa)])) rfl rfl (hb hby d12_1)
  refine Goes.to (T' := T1.setTop (mkF m 4 #[.val (.ref xa)] [(.int (3 : Int32))])) st1 ?_
  refine Goes.to (T' := T1.setTop (mkF m 11 #[.val (.ref xa)] [])) (fun t k => XS.ifYes X1.here hx rfl (pc0 := 4) (pc' := 11) rfl (hb hby d12_4) rfl ((if0 _ _).trans (feq (by decide)).2) (by decide) (by decide) k) ?_
  refine Goes.to (T' := T1.setTop (mkF m 12 #[.val (.ref xa)] [(.int (0 : Int32))])) (fun t k => XS.iconst X1.here hx rfl (hb hby d12_11) k) ?_
  obtain ⟨fs, hrL, hrun, hended, hW, hsame⟩ := X1.leave (v := some (.int (0 : Int32))) (fun h => by rw [Bd.returns] at h; cases h)
  subst hQf
  refine ⟨_, _, retN X1 hx (t := .boolean) Bd.returns (by simp) (hb hby d12_12) hrL, hrun, hended, _, _, rfl, ?_, ⟨_, rfl⟩, hW, hsame.mono (by decide) (by decide)⟩
  show Q_rmE3  h0 n0 (some (.int (0 : Int32))) T1.heap _
  rw [e1]
  exact ⟨rfl, N0, rfl⟩
theorem d27_0 : decode jdk_65_method_120_code 0 = .ok (.aload_n 2, 1) := by decide +kernel
theorem d27_1 : decode jdk_65_method_120_code 1 = .ok (.ldc 110, 2) := by decide +kernel
theorem d27_3 : decode jdk_65_method_120_code 3 = .ok (.if_acmp .ne 10, 3) := by decide +kernel
theorem d27_6 : decode jdk_65_method_120_code 6 = .ok (.iload_n 1, 1) := by decide +kernel
theorem d27_7 : decode jdk_65_method_120_code 7 = .ok (.anewarray 2, 3) := by decide +kernel
theorem d27_10 : decode jdk_65_method_120_code 10 = .ok (.goto 14, 3) := by decide +kernel
theorem d27_24 : decode jdk_65_method_120_code 24 = .ok (.astore_n 3, 1) := by decide +kernel
theorem d27_25 : decode jdk_65_method_120_code 25 = .ok (.aload_n 0, 1) := by decide +kernel
theorem d27_26 : decode jdk_65_method_120_code 26 = .ok (.iconst 0, 1) := by decide +kernel
theorem d27_27 : decode jdk_65_method_120_code 27 = .ok (.aload_n 3, 1) := by decide +kernel
theorem d27_28 : decode jdk_65_method_120_code 28 = .ok (.iconst 0, 1) := by decide +kernel
theorem d27_29 : decode jdk_65_method_120_code 29 = .ok (.aload_n 0, 1) := by decide +kernel
theorem d27_30 : decode jdk_65_method_120_code 30 = .ok (.arraylength, 1) := by decide +kernel
theorem d27_31 : decode jdk_65_method_120_code 31 = .ok (.iload_n 1, 1) := by decide +kernel
theorem d27_32 : decode jdk_65_method_120_code 32 = .ok (.invokestatic 304, 3) := by decide +kernel
theorem d27_35 : decode jdk_65_method_120_code 35 = .ok (.invokestatic 150, 3) := by decide +kernel
theorem d27_38 : decode jdk_65_method_120_code 38 = .ok (.aload_n 3, 1) := by decide +kernel
theorem d27_39 : decode jdk_65_method_120_code 39 = .ok (.areturn, 1) := by decide +kernel
theorem pn_27 : plainName "java/util/Arrays" = true := by first | (simp [plainName, overriddenIn]; done) | decide +kernel
theorem ef_rmC3_1 (m : MethodId) (x0 : Addr) (x1 : Int32) (x2 : Addr) : entryFrame m #[(.ref x0), (.int x1), (.ref x2)] 4 = mkF m 0 #[.val (.ref x0), .val (.int x1), .val (.ref x2), .unset] [] := by first | (simp [entryFrame, mkF, argsToLocals, Value.category]; done) | rfl
def Q_rmC3_1 (Z : State) (x0_ : Addr) (h0 : Heap) (n0 : Nat) (v : Option Value) (h : Heap) (L : List Loc) : Prop := (∃ (b : Addr) (kb : ClassId), v = some (.ref b) ∧ n0 ≤ b ∧ h0.size ≤ b ∧ Arv Z h b kb (.object "java/lang/Object") (1 : Int32) [(.ref x0_)] .null) ∧ Fr n0 L ∧ Ext h0 h
theorem rmC3_1 (hw : HW a0 Z) (ed : Addr) (kd : ClassId) (x0_ : Addr) (h0 : Heap) (n0 : Nat) (O0 : Old Z n0 h0) (NF : Nar Z w3 w0 w2 w1 w4 k_w3 k_w0 k_w1 z_cs w5) (V_ed : Arv Z h0 ed kd (.object "java/lang/Object") (10 : Int32) [(.ref x0_), .null, .null, .null, .null, .null, .null, .null, .null, .null] .null) (E_ed : Exa Z h0 ed "[Ljava/lang/Object;") (E_x0_ : Exa Z h0 x0_ "java/lang/String") :
    Con l Z (⟨"java/util/Arrays", "copyOf", "([Ljava/lang/Object;ILjava/lang/Class;)[Ljava/lang/Object;"⟩ : MethodName) jdk_65_method_120_code 4 (some (.array (.object "java/lang/Object"))) ws ({ frames := 1, cells := 1, slots := 1, locals := 96 } : Room) #[(.ref ed), (.int (1 : Int32)), (.ref w5)] h0 (Q_rmC3_1 Z x0_ h0 n0) := by
  refine Con.body (own := "java/util/Arrays") rfl (plainFor_of_name pn_27) (fun m => ef_rmC3_1 m _ _ _) ?_
  intro p e s m below meth c s₁ Bd hx hby hml hZ hown X0 e0 Qf hQf
  have N0 := Fr.nil n0
  have K0 := Keep.refl h0 []
  obtain ⟨S_w3, E_w3, S_w0, E_w0, S_w2, E_w2, F_elements_w2, E_w1, S_w4, E_w4, F_allowNulls_w2, S_w_ImmutableCollections__assertionsDisabled, V_w3, V_w0, V_w1, S_cs, nz_cs, M_OA⟩ := id NF
  refine Goes.to (T' := s₁.setTop (mkF m 1 #[.val (.ref ed), .val (.int (1 : Int32)), .val (.ref w5), .unset] [(.ref w5)])) (fun t k => XS.aloadN X0.here hx rfl (hb hby d27_0) rfl rfl k) ?_
  obtain ⟨T1, X1, e1, st1⟩ := own_ldcM X0 hx hZ hown (wi hw 186 rfl) e0 M_OA (g := (mkF m 1 #[.val (.ref ed), .val (.int (1 : Int32)), .val (.ref w5), .unset] [(.ref w5)])) rfl (hb hby d27_1)
  refine Goes.to (T' := T1.setTop (mkF m 3 #[.val (.ref ed), .val (.int (1 : Int32)), .val (.ref w5), .unset] [(.ref w5), (.ref w5)])) st1 ?_
  refine Goes.to (T' := T1.setTop (mkF m 6 #[.val (.ref ed), .val (.int (1 : Int32)), .val (.ref w5), .unset] [])) (fun t k => Jvm.RoadKit.acmp (g := (mkF m 3 #[.val (.ref ed), .val (.int (1 : Int32)), .val (.ref w5), .unset] [(.ref w5), (.ref w5)])) X1 hx rfl rfl rfl (pc0 := 3) (pc' := 6) (same := true) rfl (hb hby d27_3) rfl (decide_eq_true rfl) (by decide) (by decide) k) ?_
  refine Goes.to (T' := T1.setTop (mkF m 7 #[.val (.ref ed), .val (.int (1 : Int32)), .val (.ref w5), .unset] [(.int (1 : Int32))])) (fun t k => XS.iloadN X1.here hx rfl (hb hby d27_6) rfl k) ?_
  obtain ⟨T2, h2, k2, X2, e2, E2, A2, Ea2, O2, st2⟩ := newRE X1 hx hZ hown (wi hw 187 rfl) (wi hw 126 rfl) e1 (g := (mkF m 7 #[.val (.ref ed), .val (.int (1 : Int32)), .val (.ref w5), .unset] [(.int (1 : Int32))])) rfl (hb hby d27_7) rfl (by decide) (cap := 1) (by decide) (by decide) (by decide) (by decide) (ad := "[Ljava/lang/Object;") (by decide +kernel)
  obtain ⟨b2, g2⟩ : ∃ z, z = h0.size := ⟨_, rfl⟩
  rw [← g2] at A2 Ea2 st2
  have g_b2 : n0 ≤ b2 := Nat.le_trans (own_old O0) (Nat.le_of_eq g2.symm)
  have sz_b2 : h0.size ≤ b2 := Nat.le_trans K0.1 (Nat.le_of_eq g2.symm)
  have ne_ed_b2 : ed ≠ b2 := Nat.ne_of_lt (Nat.lt_of_lt_of_le V_ed.lt (Nat.le_of_eq g2.symm))
  have ne_b2_ed := Ne.symm ne_ed_b2
  have ne_x0__b2 : x0_ ≠ b2 := Nat.ne_of_lt (Nat.lt_of_lt_of_le E_x0_.lt (Nat.le_of_eq g2.symm))
  have ne_b2_x0_ := Ne.symm ne_x0__b2
  have V_ed := V_ed.ext E2
  have E_ed := E_ed.ext E2
  have E_x0_ := E_x0_.ext E2
  have O0 := O0.ext E2
  have K0 := K0.ext E2
  have V_b2 : Arv Z h2 b2 k2 (.object "java/lang/Object") (1 : Int32) [.null] .null := (Arv.new A2 (by decide)).pad (pad_rep [] .null 1)
  have E_b2 := Ea2
  have Ov_b2 := O2
  refine Goes.to (T' := T2.setTop (mkF m 10 #[.val (.ref ed), .val (.int (1 : Int32)), .val (.ref w5), .unset] [(.ref b2)])) st2 ?_
  refine Goes.to (T' := T2.setTop (mkF m 24 #[.val (.ref ed), .val (.int (1 : Int32)), .val (.ref w5), .unset] [(.ref b2)])) (fun t k => XS.goto X2.here hx rfl (pc0 := 10) (pc' := 24) rfl (hb hby d27_10) (by decide) (by decide) k) ?_
  refine Goes.to (T' := T2.setTop (mkF m 25 #[.val (.ref ed), .val (.int (1 : Int32)), .val (.ref w5), .val (.ref b2)] [])) (fun t k => XS.astoreN X2.here hx rfl (hb hby d27_24) rfl rfl (l' := #[.val (.ref ed), .val (.int (1 : Int32)), .val (.ref w5), .val (.ref b2)]) rfl k) ?_
  refine Goes.to (T' := T2.setTop (mkF m 26 #[.val (.ref ed), .val (.int (1 : Int32)), .val (.ref w5), .val (.ref b2)] [(.ref ed)])) (fun t k => XS.aloadN X2.here hx rfl (hb hby d27_25) rfl rfl k) ?_
  refine Goes.to (T' := T2.setTop (mkF m 27 #[.val (.ref ed), .val (.int (1 : Int32)), .val (.ref w5), .val (.ref b2)] [(.int (0 : Int32)), (.ref ed)])) (fun t k => XS.iconst X2.here hx rfl (hb hby d27_26) k) ?_
  refine Goes.to (T' := T2.setTop (mkF m 28 #[.val (.ref ed), .val (.int (1 : Int32)), .val (.ref w5), .val (.ref b2)] [(.ref b2), (.int (0 : Int32)), (.ref ed)])) (fun t k => XS.aloadN X2.here hx rfl (hb hby d27_27) rfl rfl k) ?_
  refine Goes.to (T' := T2.setTop (mkF m 29 #[.val (.ref ed), .val (.int (1 : Int32)), .val (.ref w5), .val (.ref b2)] [(.int (0 : Int32)), (.ref b2), (.int (0 : Int32)), (.ref ed)])) (fun t k => XS.iconst X2.here hx rfl (hb hby d27_28) k) ?_
  refine Goes.to (T' := T2.setTop (mkF m 30 #[.val (.ref ed), .val (.int (1 : Int32)), .val (.ref w5), .val (.ref b2)] [(.ref ed), (.int (0 : Int32)), (.ref b2), (.int (0 : Int32)), (.ref ed)])) (fun t k => XS.aloadN X2.here hx rfl (hb hby d27_29) rfl rfl k) ?_
  obtain ⟨cl3, Ar3, q3, S3, Ng3, H3, G3⟩ := id V_ed
  refine Goes.to (T' := T2.setTop (mkF m 31 #[.val (.ref ed), .val (.int (1 : Int32)), .val (.ref w5), .val (.ref b2)] [(.int (10 : Int32)), (.int (0 : Int32)), (.ref b2), (.int (0 : Int32)), (.ref ed)])) (fun t k => X2.arraylength hx (by rw [e2]; exact Ar3.1) (State.isArrayOf_alike hZ.alike Ar3.2.1) (g := (mkF m 30 #[.val (.ref ed), .val (.int (1 : Int32)), .val (.ref w5), .val (.ref b2)] [(.ref ed), (.int (0 : Int32)), (.ref b2), (.int (0 : Int32)), (.ref ed)])) rfl rfl (hb hby d27_30) _ (by rw [len_of S3 Ng3]; exact k)) ?_
  refine Goes.to (T' := T2.setTop (mkF m 32 #[.val (.ref ed), .val (.int (1 : Int32)), .val (.ref w5), .val (.ref b2)] [(.int (1 : Int32)), (.int (10 : Int32)), (.int (0 : Int32)), (.ref b2), (.int (0 : Int32)), (.ref ed)])) (fun t k => XS.iloadN X2.here hx rfl (hb hby d27_31) rfl k) ?_
  obtain ⟨_, _, ⟨T4, L4, k4, n4⟩, -, X4, ⟨Lc4, hQ4, l4, y4, z4⟩, st4⟩ := Jvm.LawKit.callS X2 hx (y := (⟨"java/lang/Math", "min", "(II)I"⟩ : MethodName)) hown (mvT hZ (wi hw 188 rfl)) (mvT hZ (wi hw 189 rfl)) (mvT hZ (wi hw 123 rfl)) (mvT hZ (wi hw 190 rfl)) (by decide) (backOf (W := 4) (rmMn1 hw   h2 n0 O0 NF ) hZ (wi hw 190 rfl) (wi hw 123 rfl) (by decide) (by decide)) (g := (mkF m 32 #[.val (.ref ed), .val (.int (1 : Int32)), .val (.ref w5), .val (.ref b2)] [(.int (1 : Int32)), (.int (10 : Int32)), (.int (0 : Int32)), (.ref b2), (.int (0 : Int32)), (.ref ed)])) rfl (by rw [hml]; rfl) (argsL := [(.int (10 : Int32)), (.int (1 : Int32))]) (rest := [(.int (0 : Int32)), (.ref b2), (.int (0 : Int32)), (.ref ed)]) (lenOf pd_42 rfl) rfl (by show 2 * 0 + _ ≤ _; exact Nat.le_of_eq rfl) (hb hby d27_32) (fun _ _ => ⟨rfl, e2, (by decide : 1 + 0 ≤ _), (by decide : 1 + 0 ≤ _)⟩)
  dsimp only [Pt.U, Pt.locs, Pt.cells, Pt.slots] at X4 l4 y4 z4 st4 hQ4
  subst l4 y4 z4
  obtain ⟨rfl, Nq4, e4⟩ := hQ4
  have N4 := Fr.app N0 Nq4
  refine Goes.to (T' := T4.setTop (mkF m 35 #[.val (.ref ed), .val (.int (1 : Int32)), .val (.ref w5), .val (.ref b2)] [(.int (1 : Int32)), (.int (0 : Int32)), (.ref b2), (.int (0 : Int32)), (.ref ed)])) st4 ?_
  obtain ⟨clB5, ArB5, qB5, -⟩ := id V_b2
  obtain ⟨T5, h5, L5, X5, e5, N5, K5, V5, st5⟩ := cpA X4 hx hZ hown (wi hw 191 rfl) (wi hw 194 rfl) (wi hw 192 rfl) (wi hw 193 rfl) e4 V_ed V_b2 (us := [(.ref x0_)]) (Or.inr ⟨rfl, rfl, ⟨Sto.ofV ArB5 qB5 Ov_b2 (Ins.of_exa E_x0_ (wi hw 127 rfl)), trivial⟩⟩) (sp := 0) (dp := 0) (nn := 1) (by decide) (by decide) (by decide) (by decide) (by decide) rfl (by decide) N4 g_b2 (g := (mkF m 35 #[.val (.ref ed), .val (.int (1 : Int32)), .val (.ref w5), .val (.ref b2)] [(.int (1 : Int32)), (.int (0 : Int32)), (.ref b2), (.int (0 : Int32)), (.ref ed)])) rfl (by rw [hml]; rfl) rfl (hb hby d27_35) (by decide) (W := 0) (by show 2 * 0 + _ ≤ _; exact Nat.le_of_eq rfl) (by decide)
  have V_ed := V_ed.keep K5 (ninS (ne_ed_b2) nin0)
  have E_ed := E_ed.keep K5
  have E_x0_ := E_x0_.keep K5
  have E_b2 := E_b2.keep K5
  have O0 := O0.keep K5 (allS g_b2 all0)
  have K0 := K0.trans K5 (allS (Or.inr sz_b2) all0)
  have V_b2 : Arv Z h5 b2 k2 (.object "java/lang/Object") (1 : Int32) [(.ref x0_)] .null := V5
  refine Goes.to (T' := T5.setTop (mkF m 38 #[.val (.ref ed), .val (.int (1 : Int32)), .val (.ref w5), .val (.ref b2)] [])) st5 ?_
  refine Goes.to (T' := T5.setTop (mkF m 39 #[.val (.ref ed), .val (.int (1 : Int32)), .val (.ref w5), .val (.ref b2)] [(.ref b2)])) (fun t k => XS.aloadN X5.here hx rfl (hb hby d27_38) rfl rfl k) ?_
  obtain ⟨fs, hrL, hrun, hended, hW, hsame⟩ := X5.leave (v := some (.ref b2)) (fun h => by rw [Bd.returns] at h; cases h)
  subst hQf
  refine ⟨_, _, retOut X5 hx Bd.returns rfl (Or.inr (Or.inr (Or.inr (Or.inr ⟨rfl, rfl, rfl⟩)))) (hb hby d27_39) hrL, hrun, hended, _, _, rfl, ?_, ⟨_, rfl⟩, hW, hsame.mono (by decide) (by decide)⟩
  show Q_rmC3_1 Z x0_ h0 n0 (some (.ref b2)) T5.heap _
  rw [e5]
  exact ⟨⟨b2, _, rfl, g_b2, sz_b2, V_b2⟩, N5, own_ext_keep K0⟩
theorem pd_139 : parseMethodDescriptor "([Ljava/lang/Object;ILjava/lang/Class;)[Ljava/lang/Object;" = some ⟨[(.array (.object "java/lang/Object")), .int, (.object "java/lang/Class")], some (.array (.object "java/lang/Object"))⟩ := by decide +kernel
theorem d26_0 : decode jdk_65_method_119_code 0 = .ok (.aload_n 0, 1) := by decide +kernel
theorem d26_1 : decode jdk_65_method_119_code 1 = .ok (.iload_n 1, 1) := by decide +kernel
theorem d26_2 : decode jdk_65_method_119_code 2 = .ok (.aload_n 0, 1) := by decide +kernel
theorem d26_3 : decode jdk_65_method_119_code 3 = .ok (.invokevirtual 86, 3) := by decide +kernel
theorem d26_6 : decode jdk_65_method_119_code 6 = .ok (.invokestatic 300, 3) := by decide +kernel
theorem d26_9 : decode jdk_65_method_119_code 9 = .ok (.areturn, 1) := by decide +kernel
theorem pn_26 : plainName "java/util/Arrays" = true := by first | (simp [plainName, overriddenIn]; done) | decide +kernel
theorem ef_rmC2_1 (m : MethodId) (x0 : Addr) (x1 : Int32) : entryFrame m #[(.ref x0), (.int x1)] 2 = mkF m 0 #[.val (.ref x0), .val (.int x1)] [] := by first | (simp [entryFrame, mkF, argsToLocals, Value.category]; done) | rfl
def Q_rmC2_1 (Z : State) (x0_ : Addr) (h0 : Heap) (n0 : Nat) (v : Option Value) (h : Heap) (L : List Loc) : Prop := (∃ (b : Addr) (kb : ClassId), v = some (.ref b) ∧ n0 ≤ b ∧ h0.size ≤ b ∧ Arv Z h b kb (.object "java/lang/Object") (1 : Int32) [(.ref x0_)] .null) ∧ Fr n0 L ∧ Ext h0 h
theorem rmC2_1 (hw : HW a0 Z) (ed : Addr) (kd : ClassId) (x0_ : Addr) (h0 : Heap) (n0 : Nat) (O0 : Old Z n0 h0) (NF : Nar Z w3 w0 w2 w1 w4 k_w3 k_w0 k_w1 z_cs w5) (V_ed : Arv Z h0 ed kd (.object "java/lang/Object") (10 : Int32) [(.ref x0_), .null, .null, .null, .null, .null, .null, .null, .null, .null] .null) (E_ed : Exa Z h0 ed "[Ljava/lang/Object;") (E_x0_ : Exa Z h0 x0_ "java/lang/String") :
    Con l Z (⟨"java/util/Arrays", "copyOf", "([Ljava/lang/Object;I)[Ljava/lang/Object;"⟩ : MethodName) jdk_65_method_119_code 2 (some (.array (.object "java/lang/Object"))) ws ({ frames := 2, cells := 1, slots := 1, locals := 112 } : Room) #[(.ref ed), (.int (1 : Int32))] h0 (Q_rmC2_1 Z x0_ h0 n0) := by
  refine Con.body (own := "java/util/Arrays") rfl (plainFor_of_name pn_26) (fun m => ef_rmC2_1 m _ _) ?_
  intro p e s m below meth c s₁ Bd hx hby hml hZ hown X0 e0 Qf hQf
  have N0 := Fr.nil n0
  have K0 := Keep.refl h0 []
  obtain ⟨S_w3, E_w3, S_w0, E_w0, S_w2, E_w2, F_elements_w2, E_w1, S_w4, E_w4, F_allowNulls_w2, S_w_ImmutableCollections__assertionsDisabled, V_w3, V_w0, V_w1, S_cs, nz_cs, M_OA⟩ := id NF
  refine Goes.to (T' := s₁.setTop (mkF m 1 #[.val (.ref ed), .val (.int (1 : Int32))] [(.ref ed)])) (fun t k => XS.aloadN X0.here hx rfl (hb hby d26_0) rfl rfl k) ?_
  refine Goes.to (T' := s₁.setTop (mkF m 2 #[.val (.ref ed), .val (.int (1 : Int32))] [(.int (1 : Int32)), (.ref ed)])) (fun t k => XS.iloadN X0.here hx rfl (hb hby d26_1) rfl k) ?_
  refine Goes.to (T' := s₁.setTop (mkF m 3 #[.val (.ref ed), .val (.int (1 : Int32))] [(.ref ed), (.int (1 : Int32)), (.ref ed)])) (fun t k => XS.aloadN X0.here hx rfl (hb hby d26_2) rfl rfl k) ?_
  obtain ⟨T1, X1, e1, st1⟩ := own_gcls X0 hx hZ hown (wi hw 177 rfl) (wi hw 178 rfl) (wi hw 80 rfl) (wi hw 180 rfl) (wi hw 179 rfl) (wi hw 181 rfl) e0 E_ed M_OA (g := (mkF m 3 #[.val (.ref ed), .val (.int (1 : Int32))] [(.ref ed), (.int (1 : Int32)), (.ref ed)])) rfl (by rw [hml]; rfl) rfl (hb hby d26_3) (by decide) (W := 2) (by show 2 * 0 + _ ≤ _; exact Nat.le_of_eq rfl) (by decide)
  refine Goes.to (T' := T1.setTop (mkF m 6 #[.val (.ref ed), .val (.int (1 : Int32))] [(.ref w5), (.int (1 : Int32)), (.ref ed)])) st1 ?_
  obtain ⟨_, _, ⟨T2, L2, k2, n2⟩, -, X2, ⟨Lc2, hQ2, l2, y2, z2⟩, st2⟩ := Jvm.LawKit.callS X1 hx (y := (⟨"java/util/Arrays", "copyOf", "([Ljava/lang/Object;ILjava/lang/Class;)[Ljava/lang/Object;"⟩ : MethodName)) hown (mvT hZ (wi hw 183 rfl)) (mvT hZ (wi hw 184 rfl)) (mvT hZ (wi hw 175 rfl)) (mvT hZ (wi hw 185 rfl)) (by decide) (backOf (W := 0) (rmC3_1 hw ed kd x0_ h0 n0 O0 NF V_ed E_ed E_x0_) hZ (wi hw 185 rfl) (wi hw 175 rfl) (by decide) (by decide)) (g := (mkF m 6 #[.val (.ref ed), .val (.int (1 : Int32))] [(.ref w5), (.int (1 : Int32)), (.ref ed)])) rfl (by rw [hml]; rfl) (argsL := [(.ref ed), (.int (1 : Int32)), (.ref w5)]) (rest := []) (lenOf pd_139 rfl) rfl (by show 2 * 0 + _ ≤ _; exact Nat.le_of_eq rfl) (hb hby d26_6) (fun _ _ => ⟨rfl, e1, (by decide : 0 + 1 ≤ _), (by decide : 0 + 1 ≤ _)⟩)
  dsimp only [Pt.U, Pt.locs, Pt.cells, Pt.slots] at X2 l2 y2 z2 st2 hQ2
  subst l2 y2 z2
  obtain ⟨⟨ba, kb, rfl, gb2, sb2, V2⟩, Nq2, Ex2⟩ := hQ2
  have N2 := Fr.app N0 Nq2
  have g_ba : n0 ≤ ba := gb2
  have sz_ba : h0.size ≤ ba := Nat.le_trans K0.1 sb2
  have ne_ed_ba : ed ≠ ba := Nat.ne_of_lt (Nat.lt_of_lt_of_le V_ed.lt sb2)
  have ne_ba_ed := Ne.symm ne_ed_ba
  have ne_x0__ba : x0_ ≠ ba := Nat.ne_of_lt (Nat.lt_of_lt_of_le E_x0_.lt sb2)
  have ne_ba_x0_ := Ne.symm ne_x0__ba
  have V_ed := V_ed.ext Ex2
  have E_ed := E_ed.ext Ex2
  have E_x0_ := E_x0_.ext Ex2
  have O0 := O0.ext Ex2
  have K0 := K0.ext Ex2
  have V_ba := V2
  refine Goes.to (T' := T2.setTop (mkF m 9 #[.val (.ref ed), .val (.int (1 : Int32))] [(.ref ba)])) st2 ?_
  obtain ⟨fs, hrL, hrun, hended, hW, hsame⟩ := X2.leave (v := some (.ref ba)) (fun h => by rw [Bd.returns] at h; cases h)
  subst hQf
  refine ⟨_, _, retOut X2 hx Bd.returns rfl (Or.inr (Or.inr (Or.inr (Or.inr ⟨rfl, rfl, rfl⟩)))) (hb hby d26_9) hrL, hrun, hended, _, _, rfl, ?_, ⟨_, rfl⟩, hW, hsame.mono (by decide) (by decide)⟩
  show Q_rmC2_1 Z x0_ h0 n0 (some (.ref ba)) T2.heap _
  exact ⟨⟨ba, _, rfl, g_ba, sz_ba, V_ba⟩, N2, own_ext_keep K0⟩
theorem pd_148 : parseMethodDescriptor "([Ljava/lang/Object;I)[Ljava/lang/Object;" = some ⟨[(.array (.object "java/lang/Object")), .int], some (.array (.object "java/lang/Object"))⟩ := by decide +kernel
theorem d25_0 : decode jdk_38_method_16_code 0 = .ok (.aload_n 0, 1) := by decide +kernel
theorem d25_1 : decode jdk_38_method_16_code 1 = .ok (.getfield 9, 3) := by decide +kernel
theorem d25_4 : decode jdk_38_method_16_code 4 = .ok (.aload_n 0, 1) := by decide +kernel
theorem d25_5 : decode jdk_38_method_16_code 5 = .ok (.getfield 48, 3) := by decide +kernel
theorem d25_8 : decode jdk_38_method_16_code 8 = .ok (.invokestatic 66, 3) := by decide +kernel
theorem d25_11 : decode jdk_38_method_16_code 11 = .ok (.areturn, 1) := by decide +kernel
theorem pn_25 : plainName "java/util/ArrayList" = true := by first | (simp [plainName, overriddenIn]; done) | decide +kernel
def Q_rmTA1 (Z : State) (x0_ : Addr) (h0 : Heap) (n0 : Nat) (v : Option Value) (h : Heap) (L : List Loc) : Prop := (∃ (b : Addr) (kb : ClassId), v = some (.ref b) ∧ n0 ≤ b ∧ h0.size ≤ b ∧ Arv Z h b kb (.object "java/lang/Object") (1 : Int32) [(.ref x0_)] .null) ∧ Fr n0 L ∧ Ext h0 h
theorem rmTA1 (hw : HW a0 Z) (xa : Addr) (mc : Int32) (ed : Addr) (kd : ClassId) (x0_ : Addr) (h0 : Heap) (n0 : Nat) (O0 : Old Z n0 h0) (NF : Nar Z w3 w0 w2 w1 w4 k_w3 k_w0 k_w1 z_cs w5) (E_xa : Exa Z h0 xa "java/util/ArrayList") (F_modCount_xa : Fld Z h0 xa "java/util/AbstractList" "modCount" "I" (.int mc)) (F_elementData_xa : Fld Z h0 xa "java/util/ArrayList" "elementData" "[Ljava/lang/Object;" (.ref ed)) (F_size_xa : Fld Z h0 xa "java/util/ArrayList" "size" "I" (.int (1 : Int32))) (V_ed : Arv Z h0 ed kd (.object "java/lang/Object") (10 : Int32) [(.ref x0_), .null, .null, .null, .null, .null, .null, .null, .null, .null] .null) (E_ed : Exa Z h0 ed "[Ljava/lang/Object;") (E_x0_ : Exa Z h0 x0_ "java/lang/String") :
    Con l Z (⟨"java/util/ArrayList", "toArray", "()[Ljava/lang/Object;"⟩ : MethodName) jdk_38_method_16_code 1 (some (.array (.object "java/lang/Object"))) ws ({ frames := 3, cells := 1, slots := 1, locals := 126 } : Room) #[(.ref xa)] h0 (Q_rmTA1 Z x0_ h0 n0) := by
  refine Con.body (own := "java/util/ArrayList") rfl (plainFor_of_name pn_25) (fun m => ef_rmAC m _) ?_
  intro p e s m below meth c s₁ Bd hx hby hml hZ hown X0 e0 Qf hQf
  have N0 := Fr.nil n0
  have K0 := Keep.refl h0 []
  obtain ⟨S_w3, E_w3, S_w0, E_w0, S_w2, E_w2, F_elements_w2, E_w1, S_w4, E_w4, F_allowNulls_w2, S_w_ImmutableCollections__assertionsDisabled, V_w3, V_w0, V_w1, S_cs, nz_cs, M_OA⟩ := id NF
  refine Goes.to (T' := s₁.setTop (mkF m 1 #[.val (.ref xa)] [(.ref xa)])) (fun t k => XS.aloadN X0.here hx rfl (hb hby d25_0) rfl rfl k) ?_
  obtain ⟨T1, X1, e1, st1⟩ := getF X0 hx hZ hown (host := "") (Or.inl (wi hw 48 rfl)) Via.refl e0 F_elementData_xa (g := (mkF m 1 #[.val (.ref xa)] [(.ref xa)])) rfl rfl (hb hby d25_1)
  refine Goes.to (T' := T1.setTop (mkF m 4 #[.val (.ref xa)] [(.ref ed)])) st1 ?_
  refine Goes.to (T' := T1.setTop (mkF m 5 #[.val (.ref xa)] [(.ref xa), (.ref ed)])) (fun t k => XS.aloadN X1.here hx rfl (hb hby d25_4) rfl rfl k) ?_
  obtain ⟨T2, X2, e2, st2⟩ := getF X1 hx hZ hown (host := "") (Or.inl (wi hw 91 rfl)) Via.refl e1 F_size_xa (g := (mkF m 5 #[.val (.ref xa)] [(.ref xa), (.ref ed)])) rfl rfl (hb hby d25_5)
  refine Goes.to (T' := T2.setTop (mkF m 8 #[.val (.ref xa)] [(.int (1 : Int32)), (.ref ed)])) st2 ?_
  obtain ⟨_, _, ⟨T3, L3, k3, n3⟩, -, X3, ⟨Lc3, hQ3, l3, y3, z3⟩, st3⟩ := Jvm.LawKit.callS X2 hx (y := (⟨"java/util/Arrays", "copyOf", "([Ljava/lang/Object;I)[Ljava/lang/Object;"⟩ : MethodName)) hown (mvT hZ (wi hw 173 rfl)) (mvT hZ (wi hw 174 rfl)) (mvT hZ (wi hw 175 rfl)) (mvT hZ (wi hw 176 rfl)) (by decide) (backOf (W := 0) (rmC2_1 hw ed kd x0_ h0 n0 O0 NF V_ed E_ed E_x0_) hZ (wi hw 176 rfl) (wi hw 175 rfl) (by decide) (by decide)) (g := (mkF m 8 #[.val (.ref xa)] [(.int (1 : Int32)), (.ref ed)])) rfl (by rw [hml]; rfl) (argsL := [(.ref ed), (.int (1 : Int32))]) (rest := []) (lenOf pd_148 rfl) rfl (by show 2 * 0 + _ ≤ _; exact Nat.le_of_eq rfl) (hb hby d25_8) (fun _ _ => ⟨rfl, e2, (by decide : 0 + 1 ≤ _), (by decide : 0 + 1 ≤ _)⟩)
  dsimp only [Pt.U, Pt.locs, Pt.cells, Pt.slots] at X3 l3 y3 z3 st3 hQ3
  subst l3 y3 z3
  obtain ⟨⟨ba, kb, rfl, gb3, sb3, V3⟩, Nq3, Ex3⟩ := hQ3
  have N3 := Fr.app N0 Nq3
  have g_ba : n0 ≤ ba := gb3
  have sz_ba : h0.size ≤ ba := Nat.le_trans K0.1 sb3
  have ne_xa_ba : xa ≠ ba := Nat.ne_of_lt (Nat.lt_of_lt_of_le E_xa.lt sb3)
  have ne_ba_xa := Ne.symm ne_xa_ba
  have ne_ed_ba : ed ≠ ba := Nat.ne_of_lt (Nat.lt_of_lt_of_le V_ed.lt sb3)
  have ne_ba_ed := Ne.symm ne_ed_ba
  have ne_x0__ba : x0_ ≠ ba := Nat.ne_of_lt (Nat.lt_of_lt_of_le E_x0_.lt sb3)
  have ne_ba_x0_ := Ne.symm ne_x0__ba
  have E_xa := E_xa.ext Ex3
  have F_modCount_xa := F_modCount_xa.ext Ex3
  have F_elementData_xa := F_elementData_xa.ext Ex3
  have F_size_xa := F_size_xa.ext Ex3
  have V_ed := V_ed.ext Ex3
  have E_ed := E_ed.ext Ex3
  have E_x0_ := E_x0_.ext Ex3
  have O0 := O0.ext Ex3
  have K0 := K0.ext Ex3
  have V_ba := V3
  refine Goes.to (T' := T3.setTop (mkF m 11 #[.val (.ref xa)] [(.ref ba)])) st3 ?_
  obtain ⟨fs, hrL, hrun, hended, hW, hsame⟩ := X3.leave (v := some (.ref ba)) (fun h => by rw [Bd.returns] at h; cases h)
  subst hQf
  refine ⟨_, _, retOut X3 hx Bd.returns rfl (Or.inr (Or.inr (Or.inr (Or.inr ⟨rfl, rfl, rfl⟩)))) (hb hby d25_11) hrL, hrun, hended, _, _, rfl, ?_, ⟨_, rfl⟩, hW, hsame.mono (by decide) (by decide)⟩
  show Q_rmTA1 Z x0_ h0 n0 (some (.ref ba)) T3.heap _
  exact ⟨⟨ba, _, rfl, g_ba, sz_ba, V_ba⟩, N3, own_ext_keep K0⟩
theorem d31_0 : decode jdk_31_method_10_code 0 = .ok (.aload_n 0, 1) := by decide +kernel
theorem d31_1 : decode jdk_31_method_10_code 1 = .ok (.ifnonnull 11, 3) := by decide +kernel
theorem d31_12 : decode jdk_31_method_10_code 12 = .ok (.aload_n 0, 1) := by decide +kernel
theorem d31_13 : decode jdk_31_method_10_code 13 = .ok (.areturn, 1) := by decide +kernel
theorem pn_31 : plainName "java/util/Objects" = true := by first | (simp [plainName, overriddenIn]; done) | decide +kernel
def Q_rmRq (xv : Addr) (h0 : Heap) (n0 : Nat) (v : Option Value) (h : Heap) (L : List Loc) : Prop := v = some (.ref xv) ∧ Fr n0 L ∧ h = h0
theorem rmRq (hw : HW a0 Z) (xv : Addr) (h0 : Heap) (n0 : Nat) (O0 : Old Z n0 h0) (NF : Nar Z w3 w0 w2 w1 w4 k_w3 k_w0 k_w1 z_cs w5) :
    Con l Z (⟨"java/util/Objects", "requireNonNull", "(Ljava/lang/Object;)Ljava/lang/Object;"⟩ : MethodName) jdk_31_method_10_code 1 (some (.object "java/lang/Object")) ws ({ frames := 0, cells := 0, slots := 0, locals := 0 } : Room) #[(.ref xv)] h0 (Q_rmRq xv h0 n0) := by
  refine Con.body (own := "java/util/Objects") rfl (plainFor_of_name pn_31) (fun m => ef_rmAC m _) ?_
  intro p e s m below meth c s₁ Bd hx hby hml hZ hown X0 e0 Qf hQf
  have N0 := Fr.nil n0
  obtain ⟨S_w3, E_w3, S_w0, E_w0, S_w2, E_w2, F_elements_w2, E_w1, S_w4, E_w4, F_allowNulls_w2, S_w_ImmutableCollections__assertionsDisabled, V_w3, V_w0, V_w1, S_cs, nz_cs, M_OA⟩ := id NF
  refine Goes.to (T' := s₁.setTop (mkF m 1 #[.val (.ref xv)] [(.ref xv)])) (fun t k => XS.aloadN X0.here hx rfl (hb hby d31_0) rfl rfl k) ?_
  refine Goes.to (T' := s₁.setTop (mkF m 12 #[.val (.ref xv)] [])) (fun t k => XS.ifnonnullYes X0.here hx rfl (pc0 := 1) (pc' := 12) rfl (hb hby d31_1) rfl (by decide) (by decide) k) ?_
  refine Goes.to (T' := s₁.setTop (mkF m 13 #[.val (.ref xv)] [(.ref xv)])) (fun t k => XS.aloadN X0.here hx rfl (hb hby d31_12) rfl rfl k) ?_
  obtain ⟨fs, hrL, hrun, hended, hW, hsame⟩ := X0.leave (v := some (.ref xv)) (fun h => by rw [Bd.returns] at h; cases h)
  subst hQf
  refine ⟨_, _, retOut X0 hx Bd.returns rfl (Or.inr (Or.inr (Or.inr (Or.inr ⟨rfl, rfl, rfl⟩)))) (hb hby d31_13) hrL, hrun, hended, _, _, rfl, ?_, ⟨_, rfl⟩, hW, hsame.mono (by decide) (by decide)⟩
  show Q_rmRq xv h0 n0 (some (.ref xv)) s₁.heap _
  rw [e0]
  exact ⟨rfl, N0, rfl⟩
theorem pd_161 : parseMethodDescriptor "(Ljava/lang/Object;)Ljava/lang/Object;" = some ⟨[(.object "java/lang/Object")], some (.object "java/lang/Object")⟩ := by decide +kernel
theorem d47_0 : decode jdk_44_method_1_code 0 = .ok (.aload_n 0, 1) := by decide +kernel
theorem d47_1 : decode jdk_44_method_1_code 1 = .ok (.invokespecial 1, 3) := by decide +kernel
theorem d47_4 : decode jdk_44_method_1_code 4 = .ok (.aload_n 0, 1) := by decide +kernel
theorem d47_5 : decode jdk_44_method_1_code 5 = .ok (.aload_n 1, 1) := by decide +kernel
theorem d47_6 : decode jdk_44_method_1_code 6 = .ok (.invokestatic 7, 3) := by decide +kernel
theorem d47_9 : decode jdk_44_method_1_code 9 = .ok (.putfield 13, 3) := by decide +kernel
theorem d47_12 : decode jdk_44_method_1_code 12 = .ok (.aload_n 0, 1) := by decide +kernel
theorem d47_13 : decode jdk_44_method_1_code 13 = .ok (.getstatic 19, 3) := by decide +kernel
theorem d47_16 : decode jdk_44_method_1_code 16 = .ok (.putfield 24, 3) := by decide +kernel
theorem d47_19 : decode jdk_44_method_1_code 19 = .ok (.return_, 1) := by decide +kernel
theorem pn_47 : plainName "java/util/ImmutableCollections$List12" = true := by first | (simp [plainName, overriddenIn]; done) | decide +kernel
def Q_rm12_1 (Z : State) (xa : Addr) (x0_ : Addr) (w4 : Addr) (h0 : Heap) (n0 : Nat) (v : Option Value) (h : Heap) (L : List Loc) : Prop := v = none ∧ Fr n0 L ∧ Keep h0 h [xa] ∧ Exa Z h xa "java/util/ImmutableCollections$List12" ∧ Fld Z h xa "java/util/ImmutableCollections$List12" "e0" "Ljava/lang/Object;" (.ref x0_) ∧ Fld Z h xa "java/util/ImmutableCollections$List12" "e1" "Ljava/lang/Object;" (.ref w4)
theorem rm12_1 (hw : HW a0 Z) (xa : Addr) (x0_ : Addr) (h0 : Heap) (n0 : Nat) (O0 : Old Z n0 h0) (NF : Nar Z w3 w0 w2 w1 w4 k_w3 k_w0 k_w1 z_cs w5) (E_xa : Exa Z h0 xa "java/util/ImmutableCollections$List12") (F_e0_xa : Fld Z h0 xa "java/util/ImmutableCollections$List12" "e0" "Ljava/lang/Object;" .null) (F_e1_xa : Fld Z h0 xa "java/util/ImmutableCollections$List12" "e1" "Ljava/lang/Object;" .null) (g_xa : n0 ≤ xa) :
    Con l Z (⟨"java/util/ImmutableCollections$List12", "<init>", "(Ljava/lang/Object;)V"⟩ : MethodName) jdk_44_method_1_code 2 none ws ({ frames := 4, cells := 0, slots := 0, locals := 60 } : Room) #[(.ref xa), (.ref x0_)] h0 (Q_rm12_1 Z xa x0_ w4 h0 n0) := by
  refine Con.body (own := "java/util/ImmutableCollections$List12") rfl (plainFor_of_name pn_47) (fun m => ef_rmA0 m _ _) ?_
  intro p e s m below meth c s₁ Bd hx hby hml hZ hown X0 e0 Qf hQf
  have N0 := Fr.nil n0
  have hnm := (name_of_methodNamed Bd.named Bd.method).1
  have K0 := Keep.refl h0 [xa]
  obtain ⟨S_w3, E_w3, S_w0, E_w0, S_w2, E_w2, F_elements_w2, E_w1, S_w4, E_w4, F_allowNulls_w2, S_w_ImmutableCollections__assertionsDisabled, V_w3, V_w0, V_w1, S_cs, nz_cs, M_OA⟩ := id NF
  refine Goes.to (T' := s₁.setTop (mkF m 1 #[.val (.ref xa), .val (.ref x0_)] [(.ref xa)])) (fun t k => XS.aloadN X0.here hx rfl (hb hby d47_0) rfl rfl k) ?_
  obtain ⟨_, _, ⟨T1, L1, k1, n1⟩, -, X1, ⟨Lc1, hQ1, l1, y1, z1⟩, st1⟩ := X0.specialBack hx (y := (⟨"java/util/ImmutableCollections$AbstractImmutableList", "<init>", "()V"⟩ : MethodName)) rfl hown (mvT hZ (wi hw 272 rfl)) (mvT hZ (wi hw 212 rfl)) (mvT hZ (wi hw 216 rfl)) (by decide) (backOf (W := 0) (rmAIL hw xa  h0 n0 O0 NF ) hZ (wi hw 216 rfl) (wi hw 215 rfl) (by decide) (by decide)) (g := (mkF m 1 #[.val (.ref xa), .val (.ref x0_)] [(.ref xa)])) rfl (by rw [hml]; rfl) (Steps.refl _) (a := xa) (argsL := []) (rest := []) (lenOf pd_5 rfl) rfl (by show 2 * 0 + _ ≤ _; exact Nat.le_of_eq rfl) (hb hby d47_1) (fun _ _ => ⟨rfl, e0, (by decide : 0 + 0 ≤ _), (by decide : 0 + 0 ≤ _)⟩)
  dsimp only [Pt.U, Pt.locs, Pt.cells, Pt.slots] at X1 l1 y1 z1 st1 hQ1
  subst l1 y1 z1
  obtain ⟨rfl, Nq1, e1⟩ := hQ1
  have N1 := Fr.app N0 Nq1
  refine Goes.thru (T' := T1.setTop (mkF m 4 #[.val (.ref xa), .val (.ref x0_)] [])) st1 ?_
  refine Goes.to (T' := T1.setTop (mkF m 5 #[.val (.ref xa), .val (.ref x0_)] [(.ref xa)])) (fun t k => XS.aloadN X1.here hx rfl (hb hby d47_4) rfl rfl k) ?_
  refine Goes.to (T' := T1.setTop (mkF m 6 #[.val (.ref xa), .val (.ref x0_)] [(.ref x0_), (.ref xa)])) (fun t k => XS.aloadN X1.here hx rfl (hb hby d47_5) rfl rfl k) ?_
  obtain ⟨_, _, ⟨T2, L2, k2, n2⟩, -, X2, ⟨Lc2, hQ2, l2, y2, z2⟩, st2⟩ := Jvm.LawKit.callS X1 hx (y := (⟨"java/util/Objects", "requireNonNull", "(Ljava/lang/Object;)Ljava/lang/Object;"⟩ : MethodName)) hown (mvT hZ (wi hw 276 rfl)) (mvT hZ (wi hw 203 rfl)) (mvT hZ (wi hw 204 rfl)) (mvT hZ (wi hw 205 rfl)) (by decide) (backOf (W := 1) (rmRq hw x0_  h0 n0 O0 NF ) hZ (wi hw 205 rfl) (wi hw 204 rfl) (by decide) (by decide)) (g := (mkF m 6 #[.val (.ref xa), .val (.ref x0_)] [(.ref x0_), (.ref xa)])) rfl (by rw [hml]; rfl) (argsL := [(.ref x0_)]) (rest := [(.ref xa)]) (lenOf pd_161 rfl) rfl (by show 2 * 0 + _ ≤ _; exact Nat.le_of_eq rfl) (hb hby d47_6) (fun _ _ => ⟨rfl, e1, (by decide : 0 + 0 ≤ _), (by decide : 0 + 0 ≤ _)⟩)
  dsimp only [Pt.U, Pt.locs, Pt.cells, Pt.slots] at X2 l2 y2 z2 st2 hQ2
  subst l2 y2 z2
  obtain ⟨rfl, Nq2, e2⟩ := hQ2
  have N2 := Fr.app N1 Nq2
  refine Goes.to (T' := T2.setTop (mkF m 9 #[.val (.ref xa), .val (.ref x0_)] [(.ref x0_), (.ref xa)])) st2 ?_
  obtain ⟨T3, h3, X3, e3, W3, st3⟩ := putF X2 hx hZ hown (host := "") (Or.inl (wi hw 277 rfl)) Via.refl e2 F_e0_xa E_xa (Or.inr ⟨(wi hw 278 rfl), rfl, hnm⟩) (wi hw 266 rfl) (ty := (.object "java/lang/Object")) (by decide) rfl rfl (g := (mkF m 9 #[.val (.ref xa), .val (.ref x0_)] [(.ref x0_), (.ref xa)])) rfl rfl (hb hby d47_9)
  have F_e0_xa := F_e0_xa.same W3
  have E_xa := E_xa.wr W3
  have F_e1_xa := F_e1_xa.other W3 (Or.inr (slot_ne (Or.inr (wi hw 280 rfl)) (Or.inr (wi hw 278 rfl)) (by decide) (t := (.object "java/lang/Object")) (t' := (.object "java/lang/Object")) (by decide) (by decide)))
  have O0 := O0.wr W3 g_xa
  have K0 := K0.wr W3 (Or.inl (List.mem_of_getElem? (i := 0) rfl))
  have N3 := Fr.snoc X3 N2 g_xa
  refine Goes.to (T' := T3.setTop (mkF m 12 #[.val (.ref xa), .val (.ref x0_)] [])) st3 ?_
  refine Goes.to (T' := T3.setTop (mkF m 13 #[.val (.ref xa), .val (.ref x0_)] [(.ref xa)])) (fun t k => XS.aloadN X3.here hx rfl (hb hby d47_12) rfl rfl k) ?_
  obtain ⟨T4, X4, e4, st4⟩ := getS2 X3 hx hZ hown (Or.inr (wi hw 287 rfl)) Via.refl e3 (S_w4.ext O0.2) (g := (mkF m 13 #[.val (.ref xa), .val (.ref x0_)] [(.ref xa)])) rfl (hb hby d47_13)
  refine Goes.to (T' := T4.setTop (mkF m 16 #[.val (.ref xa), .val (.ref x0_)] [(.ref w4), (.ref xa)])) st4 ?_
  obtain ⟨T5, h5, X5, e5, W5, st5⟩ := putF X4 hx hZ hown (host := "") (Or.inl (wi hw 279 rfl)) Via.refl e4 F_e1_xa E_xa (Or.inr ⟨(wi hw 280 rfl), rfl, hnm⟩) (wi hw 266 rfl) (ty := (.object "java/lang/Object")) (by decide) rfl rfl (g := (mkF m 16 #[.val (.ref xa), .val (.ref x0_)] [(.ref w4), (.ref xa)])) rfl rfl (hb hby d47_16)
  have F_e1_xa := F_e1_xa.same W5
  have E_xa := E_xa.wr W5
  have F_e0_xa := F_e0_xa.other W5 (Or.inr (slot_ne (Or.inr (wi hw 278 rfl)) (Or.inr (wi hw 280 rfl)) (by decide) (t := (.object "java/lang/Object")) (t' := (.object "java/lang/Object")) (by decide) (by decide)))
  have O0 := O0.wr W5 g_xa
  have K0 := K0.wr W5 (Or.inl (List.mem_of_getElem? (i := 0) rfl))
  have N5 := Fr.snoc X5 N3 g_xa
  refine Goes.to (T' := T5.setTop (mkF m 19 #[.val (.ref xa), .val (.ref x0_)] [])) st5 ?_
  obtain ⟨fs, hrL, hrun, hended, hW, hsame⟩ := X5.leave (v := none) (fun _ => rfl)
  subst hQf
  refine ⟨_, _, X5.returnOut hx Bd.returns (hb hby d47_19) hrL, hrun, hended, _, _, rfl, ?_, ⟨_, rfl⟩, hW, hsame.mono (by decide) (by decide)⟩
  show Q_rm12_1 Z xa x0_ w4 h0 n0 (none) T5.heap _
  rw [e5]
  exact ⟨rfl, N5, K0, E_xa, F_e0_xa, F_e1_xa⟩
theorem pd_173 : parseMethodDescriptor "(Ljava/lang/Object;)V" = some ⟨[(.object "java/lang/Object")], none⟩ := by decide +kernel
theorem d29_0 : decode jdk_40_method_47_code 0 = .ok (.aload_n 0, 1) := by decide +kernel
theorem d29_1 : decode jdk_40_method_47_code 1 = .ok (.arraylength, 1) := by decide +kernel
theorem d29_2 : decode jdk_40_method_47_code 2 = .ok (.tableswitch 57 0 2 #[26, 32, 43], 26) := by decide +kernel
theorem d29_34 : decode jdk_40_method_47_code 34 = .ok (.new 96, 3) := by decide +kernel
theorem d29_37 : decode jdk_40_method_47_code 37 = .ok (.dup, 1) := by decide +kernel
theorem d29_38 : decode jdk_40_method_47_code 38 = .ok (.aload_n 0, 1) := by decide +kernel
theorem d29_39 : decode jdk_40_method_47_code 39 = .ok (.iconst 0, 1) := by decide +kernel
theorem d29_40 : decode jdk_40_method_47_code 40 = .ok (.aaload, 1) := by decide +kernel
theorem d29_41 : decode jdk_40_method_47_code 41 = .ok (.invokespecial 98, 3) := by decide +kernel
theorem d29_44 : decode jdk_40_method_47_code 44 = .ok (.areturn, 1) := by decide +kernel
theorem pn_29 : plainName "java/util/List" = true := by first | (simp [plainName, overriddenIn]; done) | decide +kernel
theorem ef_rmLo1 (m : MethodId) (x0 : Addr) : entryFrame m #[(.ref x0)] 2 = mkF m 0 #[.val (.ref x0), .unset] [] := by first | (simp [entryFrame, mkF, argsToLocals, Value.category]; done) | rfl
def Q_rmLo1 (Z : State) (w4 : Addr) (x0_ : Addr) (h0 : Heap) (n0 : Nat) (v : Option Value) (h : Heap) (L : List Loc) : Prop := (∃ (b : Addr), v = some (.ref b) ∧ n0 ≤ b ∧ h0.size ≤ b ∧ Exa Z h b "java/util/ImmutableCollections$List12" ∧ Fld Z h b "java/util/ImmutableCollections$List12" "e0" "Ljava/lang/Object;" (.ref x0_) ∧ Fld Z h b "java/util/ImmutableCollections$List12" "e1" "Ljava/lang/Object;" (.ref w4)) ∧ Fr n0 L ∧ Ext h0 h
theorem rmLo1 (hw : HW a0 Z) (ba : Addr) (kb : ClassId) (x0_ : Addr) (h0 : Heap) (n0 : Nat) (O0 : Old Z n0 h0) (NF : Nar Z w3 w0 w2 w1 w4 k_w3 k_w0 k_w1 z_cs w5) (V_ba : Arv Z h0 ba kb (.object "java/lang/Object") (1 : Int32) [(.ref x0_)] .null) :
    Con l Z (⟨"java/util/List", "of", "([Ljava/lang/Object;)Ljava/util/List;"⟩ : MethodName) jdk_40_method_47_code 2 (some (.object "java/util/List")) ws ({ frames := 5, cells := 1, slots := 3, locals := 90 } : Room) #[(.ref ba)] h0 (Q_rmLo1 Z w4 x0_ h0 n0) := by
  refine Con.body (own := "java/util/List") rfl (plainFor_of_name pn_29) (fun m => ef_rmLo1 m _) ?_
  intro p e s m below meth c s₁ Bd hx hby hml hZ hown X0 e0 Qf hQf
  have N0 := Fr.nil n0
  have K0 := Keep.refl h0 []
  obtain ⟨S_w3, E_w3, S_w0, E_w0, S_w2, E_w2, F_elements_w2, E_w1, S_w4, E_w4, F_allowNulls_w2, S_w_ImmutableCollections__assertionsDisabled, V_w3, V_w0, V_w1, S_cs, nz_cs, M_OA⟩ := id NF
  refine Goes.to (T' := s₁.setTop (mkF m 1 #[.val (.ref ba), .unset] [(.ref ba)])) (fun t k => XS.aloadN X0.here hx rfl (hb hby d29_0) rfl rfl k) ?_
  obtain ⟨cl1, Ar1, q1, S1, Ng1, H1, G1⟩ := id V_ba
  refine Goes.to (T' := s₁.setTop (mkF m 2 #[.val (.ref ba), .unset] [(.int (1 : Int32))])) (fun t k => X0.arraylength hx (by rw [e0]; exact Ar1.1) (State.isArrayOf_alike hZ.alike Ar1.2.1) (g := (mkF m 1 #[.val (.ref ba), .unset] [(.ref ba)])) rfl rfl (hb hby d29_1) _ (by rw [len_of S1 Ng1]; exact k)) ?_
  refine Goes.to (T' := s₁.setTop (mkF m 34 #[.val (.ref ba), .unset] [])) (fun t k => XS.tswIn X0.here hx rfl (pc0 := 2) (pc' := 34) rfl (hb hby d29_2) rfl (by decide) (o := 32) rfl (by decide) (by decide) k) ?_
  obtain ⟨T2, h2, X2, e2, E2, A2, D2, -, st2⟩ := newO X0 hx hZ hown (wi hw 265 rfl) (wi hw 266 rfl) (wi hw 267 rfl) e0 (g := (mkF m 34 #[.val (.ref ba), .unset] [])) rfl (hb hby d29_34) (by decide) (by decide)
  obtain ⟨b2, g2⟩ : ∃ z, z = h0.size := ⟨_, rfl⟩
  rw [← g2] at A2 D2 st2
  have g_b2 : n0 ≤ b2 := Nat.le_trans (own_old O0) (Nat.le_of_eq g2.symm)
  have sz_b2 : h0.size ≤ b2 := Nat.le_trans K0.1 (Nat.le_of_eq g2.symm)
  have ne_ba_b2 : ba ≠ b2 := Nat.ne_of_lt (Nat.lt_of_lt_of_le V_ba.lt (Nat.le_of_eq g2.symm))
  have ne_b2_ba := Ne.symm ne_ba_b2
  have V_ba := V_ba.ext E2
  have O0 := O0.ext E2
  have K0 := K0.ext E2
  have E_b2 := A2
  have F_e0_b2 : Fld Z h2 b2 "java/util/ImmutableCollections$List12" "e0" "Ljava/lang/Object;" .null := D2 (Or.inr (wi hw 278 rfl)) (ty := (.object "java/lang/Object")) (by decide)
  have F_e1_b2 : Fld Z h2 b2 "java/util/ImmutableCollections$List12" "e1" "Ljava/lang/Object;" .null := D2 (Or.inr (wi hw 280 rfl)) (ty := (.object "java/lang/Object")) (by decide)
  refine Goes.to (T' := T2.setTop (mkF m 37 #[.val (.ref ba), .unset] [(.ref b2)])) st2 ?_
  refine Goes.to (T' := T2.setTop (mkF m 38 #[.val (.ref ba), .unset] [(.ref b2), (.ref b2)])) (fun t k => XS.dup X2.here hx rfl (hb hby d29_37) rfl rfl k) ?_
  refine Goes.to (T' := T2.setTop (mkF m 39 #[.val (.ref ba), .unset] [(.ref ba), (.ref b2), (.ref b2)])) (fun t k => XS.aloadN X2.here hx rfl (hb hby d29_38) rfl rfl k) ?_
  refine Goes.to (T' := T2.setTop (mkF m 40 #[.val (.ref ba), .unset] [(.int (0 : Int32)), (.ref ba), (.ref b2), (.ref b2)])) (fun t k => XS.iconst X2.here hx rfl (hb hby d29_39) k) ?_
  obtain ⟨cl3, Ar3, q3, S3, Ng3, H3, G3⟩ := id V_ba
  have hin3 : ¬ ((0 : Int32) < 0 ∨ cl3.slots.size ≤ ((0 : Int32)).toNatClampNeg) := inb_of S3 ⟨by decide, by decide⟩
  refine Goes.to (T' := T2.setTop (mkF m 41 #[.val (.ref ba), .unset] [(.ref x0_), (.ref b2), (.ref b2)])) (X2.aaload hx (j := (0 : Int32)) (v := (.ref x0_)) (by rw [e2]; exact Ar3.1) (State.isArrayOf_alike hZ.alike Ar3.2.1) rfl Ar3.2.2 hin3 (H3.at hin3 rfl) (g := (mkF m 40 #[.val (.ref ba), .unset] [(.int (0 : Int32)), (.ref ba), (.ref b2), (.ref b2)])) rfl rfl (hb hby d29_40)) ?_
  obtain ⟨_, _, ⟨T4, L4, k4, n4⟩, -, X4, ⟨Lc4, hQ4, l4, y4, z4⟩, st4⟩ := X2.specialBack hx (y := (⟨"java/util/ImmutableCollections$List12", "<init>", "(Ljava/lang/Object;)V"⟩ : MethodName)) rfl hown (mvT hZ (wi hw 293 rfl)) (mvT hZ (wi hw 294 rfl)) (mvT hZ (wi hw 295 rfl)) (by decide) (backOf (W := 1) (rm12_1 hw b2 x0_  h2 n0 O0 NF E_b2 F_e0_b2 F_e1_b2 g_b2) hZ (wi hw 295 rfl) (wi hw 267 rfl) (by decide) (by decide)) (g := (mkF m 41 #[.val (.ref ba), .unset] [(.ref x0_), (.ref b2), (.ref b2)])) rfl (by rw [hml]; rfl) (Steps.refl _) (a := b2) (argsL := [(.ref x0_)]) (rest := [(.ref b2)]) (lenOf pd_173 rfl) rfl (by show 2 * 0 + _ ≤ _; exact Nat.le_of_eq rfl) (hb hby d29_41) (fun _ _ => ⟨rfl, e2, (by decide : 1 + 0 ≤ _), (by decide : 2 + 0 ≤ _)⟩)
  dsimp only [Pt.U, Pt.locs, Pt.cells, Pt.slots] at X4 l4 y4 z4 st4 hQ4
  subst l4 y4 z4
  obtain ⟨rfl, Nq4, K4, r0_4, r1_4, r2_4⟩ := hQ4
  have N4 := Fr.app N0 Nq4
  have V_ba := V_ba.keep K4 (ninS (ne_ba_b2) nin0)
  have E_b2 := E_b2.keep K4
  have O0 := O0.keep K4 (allS g_b2 all0)
  have K0 := K0.trans K4 (allS (Or.inr sz_b2) all0)
  have E_b2 := r0_4
  have F_e0_b2 := r1_4
  have F_e1_b2 := r2_4
  refine Goes.thru (T' := T4.setTop (mkF m 44 #[.val (.ref ba), .unset] [(.ref b2)])) st4 ?_
  obtain ⟨fs, hrL, hrun, hended, hW, hsame⟩ := X4.leave (v := some (.ref b2)) (fun h => by rw [Bd.returns] at h; cases h)
  subst hQf
  refine ⟨_, _, retOut X4 hx Bd.returns rfl (Or.inr (Or.inr (Or.inr (Or.inr ⟨rfl, rfl, rfl⟩)))) (hb hby d29_44) hrL, hrun, hended, _, _, rfl, ?_, ⟨_, rfl⟩, hW, hsame.mono (by decide) (by decide)⟩
  show Q_rmLo1 Z w4 x0_ h0 n0 (some (.ref b2)) T4.heap _
  exact ⟨⟨b2, rfl, g_b2, sz_b2, E_b2, F_e0_b2, F_e1_b2⟩, N4, own_ext_keep K0⟩
theorem pd_186 : parseMethodDescriptor "()Z" = some ⟨[], some .boolean⟩ := by decide +kernel
theorem pd_187 : parseMethodDescriptor "([Ljava/lang/Object;)Ljava/util/List;" = some ⟨[(.array (.object "java/lang/Object"))], some (.object "java/util/List")⟩ := by decide +kernel
theorem d11_0 : decode jdk_56_method_3_code 0 = .ok (.aload_n 0, 1) := by decide +kernel
theorem d11_1 : decode jdk_56_method_3_code 1 = .ok (.instanceof 10, 3) := by decide +kernel
theorem d11_4 : decode jdk_56_method_3_code 4 = .ok (.ifCond .ne 22, 3) := by decide +kernel
theorem d11_7 : decode jdk_56_method_3_code 7 = .ok (.aload_n 0, 1) := by decide +kernel
theorem d11_8 : decode jdk_56_method_3_code 8 = .ok (.instanceof 12, 3) := by decide +kernel
theorem d11_11 : decode jdk_56_method_3_code 11 = .ok (.ifCond .eq 20, 3) := by decide +kernel
theorem d11_31 : decode jdk_56_method_3_code 31 = .ok (.aload_n 0, 1) := by decide +kernel
theorem d11_32 : decode jdk_56_method_3_code 32 = .ok (.invokeinterface 20 1, 5) := by decide +kernel
theorem d11_37 : decode jdk_56_method_3_code 37 = .ok (.ifCond .eq 7, 3) := by decide +kernel
theorem d11_44 : decode jdk_56_method_3_code 44 = .ok (.aload_n 0, 1) := by decide +kernel
theorem d11_45 : decode jdk_56_method_3_code 45 = .ok (.invokeinterface 30 1, 5) := by decide +kernel
theorem d11_50 : decode jdk_56_method_3_code 50 = .ok (.invokestatic 34, 3) := by decide +kernel
theorem d11_53 : decode jdk_56_method_3_code 53 = .ok (.areturn, 1) := by decide +kernel
theorem pn_11 : plainName "java/util/ImmutableCollections" = true := by first | (simp [plainName, overriddenIn]; done) | decide +kernel
def Q_rmLc1 (Z : State) (w4 : Addr) (x0_ : Addr) (h0 : Heap) (n0 : Nat) (v : Option Value) (h : Heap) (L : List Loc) : Prop := (∃ (b : Addr), v = some (.ref b) ∧ n0 ≤ b ∧ h0.size ≤ b ∧ Exa Z h b "java/util/ImmutableCollections$List12" ∧ Fld Z h b "java/util/ImmutableCollections$List12" "e0" "Ljava/lang/Object;" (.ref x0_) ∧ Fld Z h b "java/util/ImmutableCollections$List12" "e1" "Ljava/lang/Object;" (.ref w4)) ∧ Fr n0 L ∧ Ext h0 h
theorem rmLc1 (hw : HW a0 Z) (xa : Addr) (mc : Int32) (ed : Addr) (kd : ClassId) (x0_ : Addr) (h0 : Heap) (n0 : Nat) (O0 : Old Z n0 h0) (NF : Nar Z w3 w0 w2 w1 w4 k_w3 k_w0 k_w1 z_cs w5) (E_xa : Exa Z h0 xa "java/util/ArrayList") (F_modCount_xa : Fld Z h0 xa "java/util/AbstractList" "modCount" "I" (.int mc)) (F_elementData_xa : Fld Z h0 xa "java/util/ArrayList" "elementData" "[Ljava/lang/Object;" (.ref ed)) (F_size_xa : Fld Z h0 xa "java/util/ArrayList" "size" "I" (.int (1 : Int32))) (V_ed : Arv Z h0 ed kd (.object "java/lang/Object") (10 : Int32) [(.ref x0_), .null, .null, .null, .null, .null, .null, .null, .null, .null] .null) (E_ed : Exa Z h0 ed "[Ljava/lang/Object;") (E_x0_ : Exa Z h0 x0_ "java/lang/String") :
    Con l Z (⟨"java/util/ImmutableCollections", "listCopy", "(Ljava/util/Collection;)Ljava/util/List;"⟩ : MethodName) jdk_56_method_3_code 2 (some (.object "java/util/List")) ws ({ frames := 6, cells := 2, slots := 4, locals := 140 } : Room) #[(.ref xa)] h0 (Q_rmLc1 Z w4 x0_ h0 n0) := by
  refine Con.body (own := "java/util/ImmutableCollections") rfl (plainFor_of_name pn_11) (fun m => ef_rmLo1 m _) ?_
  intro p e s m below meth c s₁ Bd hx hby hml hZ hown X0 e0 Qf hQf
  have N0 := Fr.nil n0
  have K0 := Keep.refl h0 []
  obtain ⟨S_w3, E_w3, S_w0, E_w0, S_w2, E_w2, F_elements_w2, E_w1, S_w4, E_w4, F_allowNulls_w2, S_w_ImmutableCollections__assertionsDisabled, V_w3, V_w0, V_w1, S_cs, nz_cs, M_OA⟩ := id NF
  refine Goes.to (T' := s₁.setTop (mkF m 1 #[.val (.ref xa), .unset] [(.ref xa)])) (fun t k => XS.aloadN X0.here hx rfl (hb hby d11_0) rfl rfl k) ?_
  obtain ⟨T1, X1, e1, st1⟩ := instNo X0 hx hZ hown (wi hw 76 rfl) e0 E_xa (own_nsno (wi hw 77 rfl) (wi hw 266 rfl) (NS.step (wi hw 77 rfl) (NS.step (wi hw 78 rfl) (NS.step (wi hw 79 rfl) (own_nsroot (wi hw 80 rfl) (wi hw 266 rfl) (by decide)) (by decide)) (by decide)) (by decide)) (by decide)) (g := (mkF m 1 #[.val (.ref xa), .unset] [(.ref xa)])) rfl rfl (hb hby d11_1)
  refine Goes.to (T' := T1.setTop (mkF m 4 #[.val (.ref xa), .unset] [(.int (0 : Int32))])) st1 ?_
  refine Goes.to (T' := T1.setTop (mkF m 7 #[.val (.ref xa), .unset] [])) (fun t k => XS.ifNo X1.here hx rfl (hb hby d11_4) rfl ((if0 _ _).trans (teq (by decide)).2) k) ?_
  refine Goes.to (T' := T1.setTop (mkF m 8 #[.val (.ref xa), .unset] [(.ref xa)])) (fun t k => XS.aloadN X1.here hx rfl (hb hby d11_7) rfl rfl k) ?_
  obtain ⟨T2, X2, e2, st2⟩ := instNo X1 hx hZ hown (wi hw 81 rfl) e1 E_xa (by obtain ⟨tK, kK, g1K, g2K, g3K⟩ := own_selK (wi hw 156 rfl) rfl; exact own_nsnoF (wi hw 77 rfl) g1K g2K g3K (NS.step (wi hw 77 rfl) (NS.step (wi hw 78 rfl) (NS.step (wi hw 79 rfl) (own_nsrootF (wi hw 80 rfl) g1K (by decide)) (by decide)) (by decide)) (by decide)) (by decide)) (g := (mkF m 8 #[.val (.ref xa), .unset] [(.ref xa)])) rfl rfl (hb hby d11_8)
  refine Goes.to (T' := T2.setTop (mkF m 11 #[.val (.ref xa), .unset] [(.int (0 : Int32))])) st2 ?_
  refine Goes.to (T' := T2.setTop (mkF m 31 #[.val (.ref xa), .unset] [])) (fun t k => XS.ifYes X2.here hx rfl (pc0 := 11) (pc' := 31) rfl (hb hby d11_11) rfl ((if0 _ _).trans (teq (by decide)).1) (by decide) (by decide) k) ?_
  refine Goes.to (T' := T2.setTop (mkF m 32 #[.val (.ref xa), .unset] [(.ref xa)])) (fun t k => XS.aloadN X2.here hx rfl (hb hby d11_31) rfl rfl k) ?_
  obtain ⟨cq3, kq3, q3a, q3b, q3c⟩ := isOf hZ e2 E_xa
  obtain ⟨_, _, ⟨T3, L3, k3, n3⟩, -, X3, ⟨Lc3, hQ3, l3, y3, z3⟩, st3⟩ := X2.interfaceBack hx (xi := (⟨"java/util/Collection", "isEmpty", "()Z"⟩ : MethodName)) (y := (⟨"java/util/ArrayList", "isEmpty", "()Z"⟩ : MethodName)) hown (mvT hZ (wi hw 82 rfl)) (mvT hZ (wi hw 83 rfl)) (mvT hZ (wi hw 84 rfl)) (mvT hZ (wi hw 85 rfl)) (mvT hZ (wi hw 86 rfl)) (mvT hZ (wi hw 87 rfl)) (mvT hZ (wi hw 88 rfl)) (mvT hZ (wi hw 89 rfl)) (by decide) (backOf (W := 0) (rmE1 hw xa  h0 n0 O0 NF F_size_xa) hZ (wi hw 90 rfl) (wi hw 28 rfl) (by decide) (by decide)) q3a q3b q3c (g := (mkF m 32 #[.val (.ref xa), .unset] [(.ref xa)])) rfl (by rw [hml]; rfl) (Steps.refl _) (argsL := []) (rest := []) (lenOf pd_186 rfl) rfl (by show 2 * 0 + _ ≤ _; exact Nat.le_of_eq rfl) (hb hby d11_32) (fun _ _ => ⟨rfl, e2, (by decide : 0 + 0 ≤ _), (by decide : 0 + 0 ≤ _)⟩)
  dsimp only [Pt.U, Pt.locs, Pt.cells, Pt.slots] at X3 l3 y3 z3 st3 hQ3
  subst l3 y3 z3
  obtain ⟨rfl, Nq3, e3⟩ := hQ3
  have N3 := Fr.app N0 Nq3
  refine Goes.thru (T' := T3.setTop (mkF m 37 #[.val (.ref xa), .unset] [(.int (0 : Int32))])) st3 ?_
  refine Goes.to (T' := T3.setTop (mkF m 44 #[.val (.ref xa), .unset] [])) (fun t k => XS.ifYes X3.here hx rfl (pc0 := 37) (pc' := 44) rfl (hb hby d11_37) rfl ((if0 _ _).trans (teq (by decide)).1) (by decide) (by decide) k) ?_
  refine Goes.to (T' := T3.setTop (mkF m 45 #[.val (.ref xa), .unset] [(.ref xa)])) (fun t k => XS.aloadN X3.here hx rfl (hb hby d11_44) rfl rfl k) ?_
  obtain ⟨cq4, kq4, q4a, q4b, q4c⟩ := isOf hZ e3 E_xa
  obtain ⟨_, _, ⟨T4, L4, k4, n4⟩, -, X4, ⟨Lc4, hQ4, l4, y4, z4⟩, st4⟩ := X3.interfaceBack hx (xi := (⟨"java/util/Collection", "toArray", "()[Ljava/lang/Object;"⟩ : MethodName)) (y := (⟨"java/util/ArrayList", "toArray", "()[Ljava/lang/Object;"⟩ : MethodName)) hown (mvT hZ (wi hw 165 rfl)) (mvT hZ (wi hw 166 rfl)) (mvT hZ (wi hw 167 rfl)) (mvT hZ (wi hw 168 rfl)) (mvT hZ (wi hw 169 rfl)) (mvT hZ (wi hw 170 rfl)) (mvT hZ (wi hw 171 rfl)) (mvT hZ (wi hw 89 rfl)) (by decide) (backOf (W := 0) (rmTA1 hw xa mc ed kd x0_ h0 n0 O0 NF E_xa F_modCount_xa F_elementData_xa F_size_xa V_ed E_ed E_x0_) hZ (wi hw 172 rfl) (wi hw 28 rfl) (by decide) (by decide)) q4a q4b q4c (g := (mkF m 45 #[.val (.ref xa), .unset] [(.ref xa)])) rfl (by rw [hml]; rfl) (Steps.refl _) (argsL := []) (rest := []) (lenOf pd_73 rfl) rfl (by show 2 * 0 + _ ≤ _; exact Nat.le_of_eq rfl) (hb hby d11_45) (fun _ _ => ⟨rfl, e3, (by decide : 0 + 1 ≤ _), (by decide : 0 + 1 ≤ _)⟩)
  dsimp only [Pt.U, Pt.locs, Pt.cells, Pt.slots] at X4 l4 y4 z4 st4 hQ4
  subst l4 y4 z4
  obtain ⟨⟨ba, kb, rfl, gb4, sb4, V4⟩, Nq4, Ex4⟩ := hQ4
  have N4 := Fr.app N3 Nq4
  have g_ba : n0 ≤ ba := gb4
  have sz_ba : h0.size ≤ ba := Nat.le_trans K0.1 sb4
  have ne_xa_ba : xa ≠ ba := Nat.ne_of_lt (Nat.lt_of_lt_of_le E_xa.lt sb4)
  have ne_ba_xa := Ne.symm ne_xa_ba
  have ne_ed_ba : ed ≠ ba := Nat.ne_of_lt (Nat.lt_of_lt_of_le V_ed.lt sb4)
  have ne_ba_ed := Ne.symm ne_ed_ba
  have ne_x0__ba : x0_ ≠ ba := Nat.ne_of_lt (Nat.lt_of_lt_of_le E_x0_.lt sb4)
  have ne_ba_x0_ := Ne.symm ne_x0__ba
  have E_xa := E_xa.ext Ex4
  have F_modCount_xa := F_modCount_xa.ext Ex4
  have F_elementData_xa := F_elementData_xa.ext Ex4
  have F_size_xa := F_size_xa.ext Ex4
  have V_ed := V_ed.ext Ex4
  have E_ed := E_ed.ext Ex4
  have E_x0_ := E_x0_.ext Ex4
  have O0 := O0.ext Ex4
  have K0 := K0.ext Ex4
  have V_ba := V4
  refine Goes.thru (T' := T4.setTop (mkF m 50 #[.val (.ref xa), .unset] [(.ref ba)])) st4 ?_
  obtain ⟨_, _, ⟨T5, L5, k5, n5⟩, -, X5, ⟨Lc5, hQ5, l5, y5, z5⟩, st5⟩ := Jvm.LawKit.callS X4 hx (y := (⟨"java/util/List", "of", "([Ljava/lang/Object;)Ljava/util/List;"⟩ : MethodName)) hown (mvT hZ (wi hw 195 rfl)) (mvT hZ (wi hw 196 rfl)) (mvT hZ (wi hw 70 rfl)) (mvT hZ (wi hw 197 rfl)) (by decide) (backOf (W := 0) (rmLo1 hw ba kb x0_ T4.heap n0 O0 NF V_ba) hZ (wi hw 197 rfl) (wi hw 70 rfl) (by decide) (by decide)) (g := (mkF m 50 #[.val (.ref xa), .unset] [(.ref ba)])) rfl (by rw [hml]; rfl) (argsL := [(.ref ba)]) (rest := []) (lenOf pd_187 rfl) rfl (by show 2 * 0 + _ ≤ _; exact Nat.le_of_eq rfl) (hb hby d11_50) (fun _ _ => ⟨rfl, rfl, (by decide : 1 + 1 ≤ _), (by decide : 1 + 3 ≤ _)⟩)
  dsimp only [Pt.U, Pt.locs, Pt.cells, Pt.slots] at X5 l5 y5 z5 st5 hQ5
  subst l5 y5 z5
  obtain ⟨⟨lb, rfl, gl5, sl5, r0_5, r1_5, r2_5⟩, Nq5, Ex5⟩ := hQ5
  have N5 := Fr.app N4 Nq5
  have g_lb : n0 ≤ lb := gl5
  have sz_lb : h0.size ≤ lb := Nat.le_trans K0.1 sl5
  have ne_xa_lb : xa ≠ lb := Nat.ne_of_lt (Nat.lt_of_lt_of_le E_xa.lt sl5)
  have ne_lb_xa := Ne.symm ne_xa_lb
  have ne_ed_lb : ed ≠ lb := Nat.ne_of_lt (Nat.lt_of_lt_of_le V_ed.lt sl5)
  have ne_lb_ed := Ne.symm ne_ed_lb
  have ne_x0__lb : x0_ ≠ lb := Nat.ne_of_lt (Nat.lt_of_lt_of_le E_x0_.lt sl5)
  have ne_lb_x0_ := Ne.symm ne_x0__lb
  have ne_ba_lb : ba ≠ lb := Nat.ne_of_lt (Nat.lt_of_lt_of_le V_ba.lt sl5)
  have ne_lb_ba := Ne.symm ne_ba_lb
  have E_xa := E_xa.ext Ex5
  have F_modCount_xa := F_modCount_xa.ext Ex5
  have F_elementData_xa := F_elementData_xa.ext Ex5
  have F_size_xa := F_size_xa.ext Ex5
  have V_ed := V_ed.ext Ex5
  have E_ed := E_ed.ext Ex5
  have E_x0_ := E_x0_.ext Ex5
  have V_ba := V_ba.ext Ex5
  have O0 := O0.ext Ex5
  have K0 := K0.ext Ex5
  have E_lb := r0_5
  have F_e0_lb := r1_5
  have F_e1_lb := r2_5
  refine Goes.to (T' := T5.setTop (mkF m 53 #[.val (.ref xa), .unset] [(.ref lb)])) st5 ?_
  obtain ⟨fs, hrL, hrun, hended, hW, hsame⟩ := X5.leave (v := some (.ref lb)) (fun h => by rw [Bd.returns] at h; cases h)
  subst hQf
  refine ⟨_, _, retOut X5 hx Bd.returns rfl (Or.inr (Or.inr (Or.inr (Or.inr ⟨rfl, rfl, rfl⟩)))) (hb hby d11_53) hrL, hrun, hended, _, _, rfl, ?_, ⟨_, rfl⟩, hW, hsame.mono (by decide) (by decide)⟩
  show Q_rmLc1 Z w4 x0_ h0 n0 (some (.ref lb)) T5.heap _
  exact ⟨⟨lb, rfl, g_lb, sz_lb, E_lb, F_e0_lb, F_e1_lb⟩, N5, own_ext_keep K0⟩
theorem pd_202 : parseMethodDescriptor "(Ljava/util/Collection;)Ljava/util/List;" = some ⟨[(.object "java/util/Collection")], some (.object "java/util/List")⟩ := by decide +kernel
theorem d10_0 : decode jdk_40_method_48_code 0 = .ok (.aload_n 0, 1) := by decide +kernel
theorem d10_1 : decode jdk_40_method_48_code 1 = .ok (.invokestatic 112, 3) := by decide +kernel
theorem d10_4 : decode jdk_40_method_48_code 4 = .ok (.areturn, 1) := by decide +kernel
theorem pn_10 : plainName "java/util/List" = true := by first | (simp [plainName, overriddenIn]; done) | decide +kernel
def Q_rmCo1 (Z : State) (w4 : Addr) (x0_ : Addr) (h0 : Heap) (n0 : Nat) (v : Option Value) (h : Heap) (L : List Loc) : Prop := (∃ (b : Addr), v = some (.ref b) ∧ n0 ≤ b ∧ h0.size ≤ b ∧ Exa Z h b "java/util/ImmutableCollections$List12" ∧ Fld Z h b "java/util/ImmutableCollections$List12" "e0" "Ljava/lang/Object;" (.ref x0_) ∧ Fld Z h b "java/util/ImmutableCollections$List12" "e1" "Ljava/lang/Object;" (.ref w4)) ∧ Fr n0 L ∧ Ext h0 h
theorem rmCo1 (hw : HW a0 Z) (xa : Addr) (mc : Int32) (ed : Addr) (kd : ClassId) (x0_ : Addr) (h0 : Heap) (n0 : Nat) (O0 : Old Z n0 h0) (NF : Nar Z w3 w0 w2 w1 w4 k_w3 k_w0 k_w1 z_cs w5) (E_xa : Exa Z h0 xa "java/util/ArrayList") (F_modCount_xa : Fld Z h0 xa "java/util/AbstractList" "modCount" "I" (.int mc)) (F_elementData_xa : Fld Z h0 xa "java/util/ArrayList" "elementData" "[Ljava/lang/Object;" (.ref ed)) (F_size_xa : Fld Z h0 xa "java/util/ArrayList" "size" "I" (.int (1 : Int32))) (V_ed : Arv Z h0 ed kd (.object "java/lang/Object") (10 : Int32) [(.ref x0_), .null, .null, .null, .null, .null, .null, .null, .null, .null] .null) (E_ed : Exa Z h0 ed "[Ljava/lang/Object;") (E_x0_ : Exa Z h0 x0_ "java/lang/String") :
    Con l Z (⟨"java/util/List", "copyOf", "(Ljava/util/Collection;)Ljava/util/List;"⟩ : MethodName) jdk_40_method_48_code 1 (some (.object "java/util/List")) ws ({ frames := 7, cells := 2, slots := 4, locals := 154 } : Room) #[(.ref xa)] h0 (Q_rmCo1 Z w4 x0_ h0 n0) := by
  refine Con.body (own := "java/util/List") rfl (plainFor_of_name pn_10) (fun m => ef_rmAC m _) ?_
  intro p e s m below meth c s₁ Bd hx hby hml hZ hown X0 e0 Qf hQf
  have N0 := Fr.nil n0
  have K0 := Keep.refl h0 []
  obtain ⟨S_w3, E_w3, S_w0, E_w0, S_w2, E_w2, F_elements_w2, E_w1, S_w4, E_w4, F_allowNulls_w2, S_w_ImmutableCollections__assertionsDisabled, V_w3, V_w0, V_w1, S_cs, nz_cs, M_OA⟩ := id NF
  refine Goes.to (T' := s₁.setTop (mkF m 1 #[.val (.ref xa)] [(.ref xa)])) (fun t k => XS.aloadN X0.here hx rfl (hb hby d10_0) rfl rfl k) ?_
  obtain ⟨_, _, ⟨T1, L1, k1, n1⟩, -, X1, ⟨Lc1, hQ1, l1, y1, z1⟩, st1⟩ := Jvm.LawKit.callS X0 hx (y := (⟨"java/util/ImmutableCollections", "listCopy", "(Ljava/util/Collection;)Ljava/util/List;"⟩ : MethodName)) hown (mvT hZ (wi hw 72 rfl)) (mvT hZ (wi hw 73 rfl)) (mvT hZ (wi hw 74 rfl)) (mvT hZ (wi hw 75 rfl)) (by decide) (backOf (W := 0) (rmLc1 hw xa mc ed kd x0_ h0 n0 O0 NF E_xa F_modCount_xa F_elementData_xa F_size_xa V_ed E_ed E_x0_) hZ (wi hw 75 rfl) (wi hw 74 rfl) (by decide) (by decide)) (g := (mkF m 1 #[.val (.ref xa)] [(.ref xa)])) rfl (by rw [hml]; rfl) (argsL := [(.ref xa)]) (rest := []) (lenOf pd_202 rfl) rfl (by show 2 * 0 + _ ≤ _; exact Nat.le_of_eq rfl) (hb hby d10_1) (fun _ _ => ⟨rfl, e0, (by decide : 0 + 2 ≤ _), (by decide : 0 + 4 ≤ _)⟩)
  dsimp only [Pt.U, Pt.locs, Pt.cells, Pt.slots] at X1 l1 y1 z1 st1 hQ1
  subst l1 y1 z1
  obtain ⟨⟨lb, rfl, gl1, sl1, r0_1, r1_1, r2_1⟩, Nq1, Ex1⟩ := hQ1
  have N1 := Fr.app N0 Nq1
  have g_lb : n0 ≤ lb := gl1
  have sz_lb : h0.size ≤ lb := Nat.le_trans K0.1 sl1
  have ne_xa_lb : xa ≠ lb := Nat.ne_of_lt (Nat.lt_of_lt_of_le E_xa.lt sl1)
  have ne_lb_xa := Ne.symm ne_xa_lb
  have ne_ed_lb : ed ≠ lb := Nat.ne_of_lt (Nat.lt_of_lt_of_le V_ed.lt sl1)
  have ne_lb_ed := Ne.symm ne_ed_lb
  have ne_x0__lb : x0_ ≠ lb := Nat.ne_of_lt (Nat.lt_of_lt_of_le E_x0_.lt sl1)
  have ne_lb_x0_ := Ne.symm ne_x0__lb
  have E_xa := E_xa.ext Ex1
  have F_modCount_xa := F_modCount_xa.ext Ex1
  have F_elementData_xa := F_elementData_xa.ext Ex1
  have F_size_xa := F_size_xa.ext Ex1
  have V_ed := V_ed.ext Ex1
  have E_ed := E_ed.ext Ex1
  have E_x0_ := E_x0_.ext Ex1
  have O0 := O0.ext Ex1
  have K0 := K0.ext Ex1
  have E_lb := r0_1
  have F_e0_lb := r1_1
  have F_e1_lb := r2_1
  refine Goes.to (T' := T1.setTop (mkF m 4 #[.val (.ref xa)] [(.ref lb)])) st1 ?_
  obtain ⟨fs, hrL, hrun, hended, hW, hsame⟩ := X1.leave (v := some (.ref lb)) (fun h => by rw [Bd.returns] at h; cases h)
  subst hQf
  refine ⟨_, _, retOut X1 hx Bd.returns rfl (Or.inr (Or.inr (Or.inr (Or.inr ⟨rfl, rfl, rfl⟩)))) (hb hby d10_4) hrL, hrun, hended, _, _, rfl, ?_, ⟨_, rfl⟩, hW, hsame.mono (by decide) (by decide)⟩
  show Q_rmCo1 Z w4 x0_ h0 n0 (some (.ref lb)) T1.heap _
  exact ⟨⟨lb, rfl, g_lb, sz_lb, E_lb, F_e0_lb, F_e1_lb⟩, N1, own_ext_keep K0⟩
def Q_rmC3_2 (Z : State) (x0_ : Addr) (x1_ : Addr) (h0 : Heap) (n0 : Nat) (v : Option Value) (h : Heap) (L : List Loc) : Prop := (∃ (b : Addr) (kb : ClassId), v = some (.ref b) ∧ n0 ≤ b ∧ h0.size ≤ b ∧ Arv Z h b kb (.object "java/lang/Object") (2 : Int32) [(.ref x0_), (.ref x1_)] .null) ∧ Fr n0 L ∧ Ext h0 h
theorem rmC3_2 (hw : HW a0 Z) (ed : Addr) (kd : ClassId) (x0_ : Addr) (x1_ : Addr) (h0 : Heap) (n0 : Nat) (O0 : Old Z n0 h0) (NF : Nar Z w3 w0 w2 w1 w4 k_w3 k_w0 k_w1 z_cs w5) (V_ed : Arv Z h0 ed kd (.object "java/lang/Object") (10 : Int32) [(.ref x0_), (.ref x1_), .null, .null, .null, .null, .null, .null, .null, .null] .null) (E_ed : Exa Z h0 ed "[Ljava/lang/Object;") (E_x0_ : Exa Z h0 x0_ "java/lang/String") (E_x1_ : Exa Z h0 x1_ "java/lang/String") :
    Con l Z (⟨"java/util/Arrays", "copyOf", "([Ljava/lang/Object;ILjava/lang/Class;)[Ljava/lang/Object;"⟩ : MethodName) jdk_65_method_120_code 4 (some (.array (.object "java/lang/Object"))) ws ({ frames := 1, cells := 1, slots := 2, locals := 96 } : Room) #[(.ref ed), (.int (2 : Int32)), (.ref w5)] h0 (Q_rmC3_2 Z x0_ x1_ h0 n0) := by
  refine Con.body (own := "java/util/Arrays") rfl (plainFor_of_name pn_27) (fun m => ef_rmC3_1 m _ _ _) ?_
  intro p e s m below meth c s₁ Bd hx hby hml hZ hown X0 e0 Qf hQf
  have N0 := Fr.nil n0
  have K0 := Keep.refl h0 []
  obtain ⟨S_w3, E_w3, S_w0, E_w0, S_w2, E_w2, F_elements_w2, E_w1, S_w4, E_w4, F_allowNulls_w2, S_w_ImmutableCollections__assertionsDisabled, V_w3, V_w0, V_w1, S_cs, nz_cs, M_OA⟩ := id NF
  refine Goes.to (T' := s₁.setTop (mkF m 1 #[.val (.ref ed), .val (.int (2 : Int32)), .val (.ref w5), .unset] [(.ref w5)])) (fun t k => XS.aloadN X0.here hx rfl (hb hby d27_0) rfl rfl k) ?_
  obtain ⟨T1, X1, e1, st1⟩ := own_ldcM X0 hx hZ hown (wi hw 186 rfl) e0 M_OA (g := (mkF m 1 #[.val (.ref ed), .val (.int (2 : Int32)), .val (.ref w5), .unset] [(.ref w5)])) rfl (hb hby d27_1)
  refine Goes.to (T' := T1.setTop (mkF m 3 #[.val (.ref ed), .val (.int (2 : Int32)), .val (.ref w5), .unset] [(.ref w5), (.ref w5)])) st1 ?_
  refine Goes.to (T' := T1.setTop (mkF m 6 #[.val (.ref ed), .val (.int (2 : Int32)), .val (.ref w5), .unset] [])) (fun t k => Jvm.RoadKit.acmp (g := (mkF m 3 #[.val (.ref ed), .val (.int (2 : Int32)), .val (.ref w5), .unset] [(.ref w5), (.ref w5)])) X1 hx rfl rfl rfl (pc0 := 3) (pc' := 6) (same := true) rfl (hb hby d27_3) rfl (decide_eq_true rfl) (by decide) (by decide) k) ?_
  refine Goes.to (T' := T1.setTop (mkF m 7 #[.val (.ref ed), .val (.int (2 : Int32)), .val (.ref w5), .unset] [(.int (2 : Int32))])) (fun t k => XS.iloadN X1.here hx rfl (hb hby d27_6) rfl k) ?_
  obtain ⟨T2, h2, k2, X2, e2, E2, A2, Ea2, O2, st2⟩ := newRE X1 hx hZ hown (wi hw 187 rfl) (wi hw 126 rfl) e1 (g := (mkF m 7 #[.val (.ref ed), .val (.int (2 : Int32)), .val (.ref w5), .unset] [(.int (2 : Int32))])) rfl (hb hby d27_7) rfl (by decide) (cap := 2) (by decide) (by decide) (by decide) (by decide) (ad := "[Ljava/lang/Object;") (by decide +kernel)
  obtain ⟨b2, g2⟩ : ∃ z, z = h0.size := ⟨_, rfl⟩
  rw [← g2] at A2 Ea2 st2
  have g_b2 : n0 ≤ b2 := Nat.le_trans (own_old O0) (Nat.le_of_eq g2.symm)
  have sz_b2 : h0.size ≤ b2 := Nat.le_trans K0.1 (Nat.le_of_eq g2.symm)
  have ne_ed_b2 : ed ≠ b2 := Nat.ne_of_lt (Nat.lt_of_lt_of_le V_ed.lt (Nat.le_of_eq g2.symm))
  have ne_b2_ed := Ne.symm ne_ed_b2
  have ne_x0__b2 : x0_ ≠ b2 := Nat.ne_of_lt (Nat.lt_of_lt_of_le E_x0_.lt (Nat.le_of_eq g2.symm))
  have ne_b2_x0_ := Ne.symm ne_x0__b2
  have ne_x1__b2 : x1_ ≠ b2 := Nat.ne_of_lt (Nat.lt_of_lt_of_le E_x1_.lt (Nat.le_of_eq g2.symm))
  have ne_b2_x1_ := Ne.symm ne_x1__b2
  have V_ed := V_ed.ext E2
  have E_ed := E_ed.ext E2
  have E_x0_ := E_x0_.ext E2
  have E_x1_ := E_x1_.ext E2
  have O0 := O0.ext E2
  have K0 := K0.ext E2
  have V_b2 : Arv Z h2 b2 k2 (.object "java/lang/Object") (2 : Int32) [.null, .null] .null := (Arv.new A2 (by decide)).pad (pad_rep [] .null 2)
  have E_b2 := Ea2
  have Ov_b2 := O2
  refine Goes.to (T' := T2.setTop (mkF m 10 #[.val (.ref ed), .val (.int (2 : Int32)), .val (.ref w5), .unset] [(.ref b2)])) st2 ?_
  refine Goes.to (T' := T2.setTop (mkF m 24 #[.val (.ref ed), .val (.int (2 : Int32)), .val (.ref w5), .unset] [(.ref b2)])) (fun t k => XS.goto X2.here hx rfl (pc0 := 10) (pc' := 24) rfl (hb hby d27_10) (by decide) (by decide) k) ?_
  refine Goes.to (T' := T2.setTop (mkF m 25 #[.val (.ref ed), .val (.int (2 : Int32)), .val (.ref w5), .val (.ref b2)] [])) (fun t k => XS.astoreN X2.here hx rfl (hb hby d27_24) rfl rfl (l' := #[.val (.ref ed), .val (.int (2 : Int32)), .val (.ref w5), .val (.ref b2)]) rfl k) ?_
  refine Goes.to (T' := T2.setTop (mkF m 26 #[.val (.ref ed), .val (.int (2 : Int32)), .val (.ref w5), .val (.ref b2)] [(.ref ed)])) (fun t k => XS.aloadN X2.here hx rfl (hb hby d27_25) rfl rfl k) ?_
  refine Goes.to (T' := T2.setTop (mkF m 27 #[.val (.ref ed), .val (.int (2 : Int32)), .val (.ref w5), .val (.ref b2)] [(.int (0 : Int32)), (.ref ed)])) (fun t k => XS.iconst X2.here hx rfl (hb hby d27_26) k) ?_
  refine Goes.to (T' := T2.setTop (mkF m 28 #[.val (.ref ed), .val (.int (2 : Int32)), .val (.ref w5), .val (.ref b2)] [(.ref b2), (.int (0 : Int32)), (.ref ed)])) (fun t k => XS.aloadN X2.here hx rfl (hb hby d27_27) rfl rfl k) ?_
  refine Goes.to (T' := T2.setTop (mkF m 29 #[.val (.ref ed), .val (.int (2 : Int32)), .val (.ref w5), .val (.ref b2)] [(.int (0 : Int32)), (.ref b2), (.int (0 : Int32)), (.ref ed)])) (fun t k => XS.iconst X2.here hx rfl (hb hby d27_28) k) ?_
  refine Goes.to (T' := T2.setTop (mkF m 30 #[.val (.ref ed), .val (.int (2 : Int32)), .val (.ref w5), .val (.ref b2)] [(.ref ed), (.int (0 : Int32)), (.ref b2), (.int (0 : Int32)), (.ref ed)])) (fun t k => XS.aloadN X2.here hx rfl (hb hby d27_29) rfl rfl k) ?_
  obtain ⟨cl3, Ar3, q3, S3, Ng3, H3, G3⟩ := id V_ed
  refine Goes.to (T' := T2.setTop (mkF m 31 #[.val (.ref ed), .val (.int (2 : Int32)), .val (.ref w5), .val (.ref b2)] [(.int (10 : Int32)), (.int (0 : Int32)), (.ref b2), (.int (0 : Int32)), (.ref ed)])) (fun t k => X2.arraylength hx (by rw [e2]; exact Ar3.1) (State.isArrayOf_alike hZ.alike Ar3.2.1) (g := (mkF m 30 #[.val (.ref ed), .val (.int (2 : Int32)), .val (.ref w5), .val (.ref b2)] [(.ref ed), (.int (0 : Int32)), (.ref b2), (.int (0 : Int32)), (.ref ed)])) rfl rfl (hb hby d27_30) _ (by rw [len_of S3 Ng3]; exact k)) ?_
  refine Goes.to (T' := T2.setTop (mkF m 32 #[.val (.ref ed), .val (.int (2 : Int32)), .val (.ref w5), .val (.ref b2)] [(.int (2 : Int32)), (.int (10 : Int32)), (.int (0 : Int32)), (.ref b2), (.int (0 : Int32)), (.ref ed)])) (fun t k => XS.iloadN X2.here hx rfl (hb hby d27_31) rfl k) ?_
  obtain ⟨_, _, ⟨T4, L4, k4, n4⟩, -, X4, ⟨Lc4, hQ4, l4, y4, z4⟩, st4⟩ := Jvm.LawKit.callS X2 hx (y := (⟨"java/lang/Math", "min", "(II)I"⟩ : MethodName)) hown (mvT hZ (wi hw 188 rfl)) (mvT hZ (wi hw 189 rfl)) (mvT hZ (wi hw 123 rfl)) (mvT hZ (wi hw 190 rfl)) (by decide) (backOf (W := 4) (rmMn2 hw   h2 n0 O0 NF ) hZ (wi hw 190 rfl) (wi hw 123 rfl) (by decide) (by decide)) (g := (mkF m 32 #[.val (.ref ed), .val (.int (2 : Int32)), .val (.ref w5), .val (.ref b2)] [(.int (2 : Int32)), (.int (10 : Int32)), (.int (0 : Int32)), (.ref b2), (.int (0 : Int32)), (.ref ed)])) rfl (by rw [hml]; rfl) (argsL := [(.int (10 : Int32)), (.int (2 : Int32))]) (rest := [(.int (0 : Int32)), (.ref b2), (.int (0 : Int32)), (.ref ed)]) (lenOf pd_42 rfl) rfl (by show 2 * 0 + _ ≤ _; exact Nat.le_of_eq rfl) (hb hby d27_32) (fun _ _ => ⟨rfl, e2, (by decide : 1 + 0 ≤ _), (by decide : 2 + 0 ≤ _)⟩)
  dsimp only [Pt.U, Pt.locs, Pt.cells, Pt.slots] at X4 l4 y4 z4 st4 hQ4
  subst l4 y4 z4
  obtain ⟨rfl, Nq4, e4⟩ := hQ4
  have N4 := Fr.app N0 Nq4
  refine Goes.to (T' := T4.setTop (mkF m 35 #[.val (.ref ed), .val (.int (2 : Int32)), .val (.ref w5), .val (.ref b2)] [(.int (2 : Int32)), (.int (0 : Int32)), (.ref b2), (.int (0 : Int32)), (.ref ed)])) st4 ?_
  obtain ⟨clB5, ArB5, qB5, -⟩ := id V_b2
  obtain ⟨T5, h5, L5, X5, e5, N5, K5, V5, st5⟩ := cpA X4 hx hZ hown (wi hw 191 rfl) (wi hw 194 rfl) (wi hw 192 rfl) (wi hw 193 rfl) e4 V_ed V_b2 (us := [(.ref x0_), (.ref x1_)]) (Or.inr ⟨rfl, rfl, ⟨Sto.ofV ArB5 qB5 Ov_b2 (Ins.of_exa E_x0_ (wi hw 127 rfl)), ⟨Sto.ofV ArB5 qB5 Ov_b2 (Ins.of_exa E_x1_ (wi hw 127 rfl)), trivial⟩⟩⟩) (sp := 0) (dp := 0) (nn := 2) (by decide) (by decide) (by decide) (by decide) (by decide) rfl (by decide) N4 g_b2 (g := (mkF m 35 #[.val (.ref ed), .val (.int (2 : Int32)), .val (.ref w5), .val (.ref b2)] [(.int (2 : Int32)), (.int (0 : Int32)), (.ref b2), (.int (0 : Int32)), (.ref ed)])) rfl (by rw [hml]; rfl) rfl (hb hby d27_35) (by decide) (W := 0) (by show 2 * 0 + _ ≤ _; exact Nat.le_of_eq rfl) (by decide)
  have V_ed := V_ed.keep K5 (ninS (ne_ed_b2) nin0)
  have E_ed := E_ed.keep K5
  have E_x0_ := E_x0_.keep K5
  have E_x1_ := E_x1_.keep K5
  have E_b2 := E_b2.keep K5
  have O0 := O0.keep K5 (allS g_b2 all0)
  have K0 := K0.trans K5 (allS (Or.inr sz_b2) all0)
  have V_b2 : Arv Z h5 b2 k2 (.object "java/lang/Object") (2 : Int32) [(.ref x0_), (.ref x1_)] .null := V5
  refine Goes.to (T' := T5.setTop (mkF m 38 #[.val (.ref ed), .val (.int (2 : Int32)), .val (.ref w5), .val (.ref b2)] [])) st5 ?_
  refine Goes.to (T' := T5.setTop (mkF m 39 #[.val (.ref ed), .val (.int (2 : Int32)), .val (.ref w5), .val (.ref b2)] [(.ref b2)])) (fun t k => XS.aloadN X5.here hx rfl (hb hby d27_38) rfl rfl k) ?_
  obtain ⟨fs, hrL, hrun, hended, hW, hsame⟩ := X5.leave (v := some (.ref b2)) (fun h => by rw [Bd.returns] at h; cases h)
  subst hQf
  refine ⟨_, _, retOut X5 hx Bd.returns rfl (Or.inr (Or.inr (Or.inr (Or.inr ⟨rfl, rfl, rfl⟩)))) (hb hby d27_39) hrL, hrun, hended, _, _, rfl, ?_, ⟨_, rfl⟩, hW, hsame.mono (by decide) (by decide)⟩
  show Q_rmC3_2 Z x0_ x1_ h0 n0 (some (.ref b2)) T5.heap _
  rw [e5]
  exact ⟨⟨b2, _, rfl, g_b2, sz_b2, V_b2⟩, N5, own_ext_keep K0⟩
def Q_rmC2_2 (Z : State) (x0_ : Addr) (x1_ : Addr) (h0 : Heap) (n0 : Nat) (v : Option Value) (h : Heap) (L : List Loc) : Prop := (∃ (b : Addr) (kb : ClassId), v = some (.ref b) ∧ n0 ≤ b ∧ h0.size ≤ b ∧ Arv Z h b kb (.object "java/lang/Object") (2 : Int32) [(.ref x0_), (.ref x1_)] .null) ∧ Fr n0 L ∧ Ext h0 h
theorem rmC2_2 (hw : HW a0 Z) (ed : Addr) (kd : ClassId) (x0_ : Addr) (x1_ : Addr) (h0 : Heap) (n0 : Nat) (O0 : Old Z n0 h0) (NF : Nar Z w3 w0 w2 w1 w4 k_w3 k_w0 k_w1 z_cs w5) (V_ed : Arv Z h0 ed kd (.object "java/lang/Object") (10 : Int32) [(.ref x0_), (.ref x1_), .null, .null, .null, .null, .null, .null, .null, .null] .null) (E_ed : Exa Z h0 ed "[Ljava/lang/Object;") (E_x0_ : Exa Z h0 x0_ "java/lang/String") (E_x1_ : Exa Z h0 x1_ "java/lang/String") :
    Con l Z (⟨"java/util/Arrays", "copyOf", "([Ljava/lang/Object;I)[Ljava/lang/Object;"⟩ : MethodName) jdk_65_method_119_code 2 (some (.array (.object "java/lang/Object"))) ws ({ frames := 2, cells := 1, slots := 2, locals := 112 } : Room) #[(.ref ed), (.int (2 : Int32))] h0 (Q_rmC2_2 Z x0_ x1_ h0 n0) := by
  refine Con.body (own := "java/util/Arrays") rfl (plainFor_of_name pn_26) (fun m => ef_rmC2_1 m _ _) ?_
  intro p e s m below meth c s₁ Bd hx hby hml hZ hown X0 e0 Qf hQf
  have N0 := Fr.nil n0
  have K0 := Keep.refl h0 []
  obtain ⟨S_w3, E_w3, S_w0, E_w0, S_w2, E_w2, F_elements_w2, E_w1, S_w4, E_w4, F_allowNulls_w2, S_w_ImmutableCollections__assertionsDisabled, V_w3, V_w0, V_w1, S_cs, nz_cs, M_OA⟩ := id NF
  refine Goes.to (T' := s₁.setTop (mkF m 1 #[.val (.ref ed), .val (.int (2 : Int32))] [(.ref ed)])) (fun t k => XS.aloadN X0.here hx rfl (hb hby d26_0) rfl rfl k) ?_
  refine Goes.to (T' := s₁.setTop (mkF m 2 #[.val (.ref ed), .val (.int (2 : Int32))] [(.int (2 : Int32)), (.ref ed)])) (fun t k => XS.iloadN X0.here hx rfl (hb hby d26_1) rfl k) ?_
  refine Goes.to (T' := s₁.setTop (mkF m 3 #[.val (.ref ed), .val (.int (2 : Int32))] [(.ref ed), (.int (2 : Int32)), (.ref ed)])) (fun t k => XS.aloadN X0.here hx rfl (hb hby d26_2) rfl rfl k) ?_
  obtain ⟨T1, X1, e1, st1⟩ := own_gcls X0 hx hZ hown (wi hw 177 rfl) (wi hw 178 rfl) (wi hw 80 rfl) (wi hw 180 rfl) (wi hw 179 rfl) (wi hw 181 rfl) e0 E_ed M_OA (g := (mkF m 3 #[.val (.ref ed), .val (.int (2 : Int32))] [(.ref ed), (.int (2 : Int32)), (.ref ed)])) rfl (by rw [hml]; rfl) rfl (hb hby d26_3) (by decide) (W := 2) (by show 2 * 0 + _ ≤ _; exact Nat.le_of_eq rfl) (by decide)
  refine Goes.to (T' := T1.setTop (mkF m 6 #[.val (.ref ed), .val (.int (2 : Int32))] [(.ref w5), (.int (2 : Int32)), (.ref ed)])) st1 ?_
  obtain ⟨_, _, ⟨T2, L2, k2, n2⟩, -, X2, ⟨Lc2, hQ2, l2, y2, z2⟩, st2⟩ := Jvm.LawKit.callS X1 hx (y := (⟨"java/util/Arrays", "copyOf", "([Ljava/lang/Object;ILjava/lang/Class;)[Ljava/lang/Object;"⟩ : MethodName)) hown (mvT hZ (wi hw 183 rfl)) (mvT hZ (wi hw 184 rfl)) (mvT hZ (wi hw 175 rfl)) (mvT hZ (wi hw 185 rfl)) (by decide) (backOf (W := 0) (rmC3_2 hw ed kd x0_ x1_ h0 n0 O0 NF V_ed E_ed E_x0_ E_x1_) hZ (wi hw 185 rfl) (wi hw 175 rfl) (by decide) (by decide)) (g := (mkF m 6 #[.val (.ref ed), .val (.int (2 : Int32))] [(.ref w5), (.int (2 : Int32)), (.ref ed)])) rfl (by rw [hml]; rfl) (argsL := [(.ref ed), (.int (2 : Int32)), (.ref w5)]) (rest := []) (lenOf pd_139 rfl) rfl (by show 2 * 0 + _ ≤ _; exact Nat.le_of_eq rfl) (hb hby d26_6) (fun _ _ => ⟨rfl, e1, (by decide : 0 + 1 ≤ _), (by decide : 0 + 2 ≤ _)⟩)
  dsimp only [Pt.U, Pt.locs, Pt.cells, Pt.slots] at X2 l2 y2 z2 st2 hQ2
  subst l2 y2 z2
  obtain ⟨⟨ba, kb, rfl, gb2, sb2, V2⟩, Nq2, Ex2⟩ := hQ2
  have N2 := Fr.app N0 Nq2
  have g_ba : n0 ≤ ba := gb2
  have sz_ba : h0.size ≤ ba := Nat.le_trans K0.1 sb2
  have ne_ed_ba : ed ≠ ba := Nat.ne_of_lt (Nat.lt_of_lt_of_le V_ed.lt sb2)
  have ne_ba_ed := Ne.symm ne_ed_ba
  have ne_x0__ba : x0_ ≠ ba := Nat.ne_of_lt (Nat.lt_of_lt_of_le E_x0_.lt sb2)
  have ne_ba_x0_ := Ne.symm ne_x0__ba
  have ne_x1__ba : x1_ ≠ ba := Nat.ne_of_lt (Nat.lt_of_lt_of_le E_x1_.lt sb2)
  have ne_ba_x1_ := Ne.symm ne_x1__ba
  have V_ed := V_ed.ext Ex2
  have E_ed := E_ed.ext Ex2
  have E_x0_ := E_x0_.ext Ex2
  have E_x1_ := E_x1_.ext Ex2
  have O0 := O0.ext Ex2
  have K0 := K0.ext Ex2
  have V_ba := V2
  refine Goes.to (T' := T2.setTop (mkF m 9 #[.val (.ref ed), .val (.int (2 : Int32))] [(.ref ba)])) st2 ?_
  obtain ⟨fs, hrL, hrun, hended, hW, hsame⟩ := X2.leave (v := some (.ref ba)) (fun h => by rw [Bd.returns] at h; cases h)
  subst hQf
  refine ⟨_, _, retOut X2 hx Bd.returns rfl (Or.inr (Or.inr (Or.inr (Or.inr ⟨rfl, rfl, rfl⟩)))) (hb hby d26_9) hrL, hrun, hended, _, _, rfl, ?_, ⟨_, rfl⟩, hW, hsame.mono (by decide) (by decide)⟩
  show Q_rmC2_2 Z x0_ x1_ h0 n0 (some (.ref ba)) T2.heap _
  exact ⟨⟨ba, _, rfl, g_ba, sz_ba, V_ba⟩, N2, own_ext_keep K0⟩
def Q_rmTA2 (Z : State) (x0_ : Addr) (x1_ : Addr) (h0 : Heap) (n0 : Nat) (v : Option Value) (h : Heap) (L : List Loc) : Prop := (∃ (b : Addr) (kb : ClassId), v = some (.ref b) ∧ n0 ≤ b ∧ h0.size ≤ b ∧ Arv Z h b kb (.object "java/lang/Object") (2 : Int32) [(.ref x0_), (.ref x1_)] .null) ∧ Fr n0 L ∧ Ext h0 h
theorem rmTA2 (hw : HW a0 Z) (xa : Addr) (mc : Int32) (ed : Addr) (kd : ClassId) (x0_ : Addr) (x1_ : Addr) (h0 : Heap) (n0 : Nat) (O0 : Old Z n0 h0) (NF : Nar Z w3 w0 w2 w1 w4 k_w3 k_w0 k_w1 z_cs w5) (E_xa : Exa Z h0 xa "java/util/ArrayList") (F_modCount_xa : Fld Z h0 xa "java/util/AbstractList" "modCount" "I" (.int mc)) (F_elementData_xa : Fld Z h0 xa "java/util/ArrayList" "elementData" "[Ljava/lang/Object;" (.ref ed)) (F_size_xa : Fld Z h0 xa "java/util/ArrayList" "size" "I" (.int (2 : Int32))) (V_ed : Arv Z h0 ed kd (.object "java/lang/Object") (10 : Int32) [(.ref x0_), (.ref x1_), .null, .null, .null, .null, .null, .null, .null, .null] .null) (E_ed : Exa Z h0 ed "[Ljava/lang/Object;") (E_x0_ : Exa Z h0 x0_ "java/lang/String") (E_x1_ : Exa Z h0 x1_ "java/lang/String") :
    Con l Z (⟨"java/util/ArrayList", "toArray", "()[Ljava/lang/Object;"⟩ : MethodName) jdk_38_method_16_code 1 (some (.array (.object "java/lang/Object"))) ws ({ frames := 3, cells := 1, slots := 2, locals := 126 } : Room) #[(.ref xa)] h0 (Q_rmTA2 Z x0_ x1_ h0 n0) := by
  refine Con.body (own := "java/util/ArrayList") rfl (plainFor_of_name pn_25) (fun m => ef_rmAC m _) ?_
  intro p e s m below meth c s₁ Bd hx hby hml hZ hown X0 e0 Qf hQf
  have N0 := Fr.nil n0
  have K0 := Keep.refl h0 []
  obtain ⟨S_w3, E_w3, S_w0, E_w0, S_w2, E_w2, F_elements_w2, E_w1, S_w4, E_w4, F_allowNulls_w2, S_w_ImmutableCollections__assertionsDisabled, V_w3, V_w0, V_w1, S_cs, nz_cs, M_OA⟩ := id NF
  refine Goes.to (T' := s₁.setTop (mkF m 1 #[.val (.ref xa)] [(.ref xa)])) (fun t k => XS.aloadN X0.here hx rfl (hb hby d25_0) rfl rfl k) ?_
  obtain ⟨T1, X1, e1, st1⟩ := getF X0 hx hZ hown (host := "") (Or.inl (wi hw 48 rfl)) Via.refl e0 F_elementData_xa (g := (mkF m 1 #[.val (.ref xa)] [(.ref xa)])) rfl rfl (hb hby d25_1)
  refine Goes.to (T' := T1.setTop (mkF m 4 #[.val (.ref xa)] [(.ref ed)])) st1 ?_
  refine Goes.to (T' := T1.setTop (mkF m 5 #[.val (.ref xa)] [(.ref xa), (.ref ed)])) (fun t k => XS.aloadN X1.here hx rfl (hb hby d25_4) rfl rfl k) ?_
  obtain ⟨T2, X2, e2, st2⟩ := getF X1 hx hZ hown (host := "") (Or.inl (wi hw 91 rfl)) Via.refl e1 F_size_xa (g := (mkF m 5 #[.val (.ref xa)] [(.ref xa), (.ref ed)])) rfl rfl (hb hby d25_5)
  refine Goes.to (T' := T2.setTop (mkF m 8 #[.val (.ref xa)] [(.int (2 : Int32)), (.ref ed)])) st2 ?_
  obtain ⟨_, _, ⟨T3, L3, k3, n3⟩, -, X3, ⟨Lc3, hQ3, l3, y3, z3⟩, st3⟩ := Jvm.LawKit.callS X2 hx (y := (⟨"java/util/Arrays", "copyOf", "([Ljava/lang/Object;I)[Ljava/lang/Object;"⟩ : MethodName)) hown (mvT hZ (wi hw 173 rfl)) (mvT hZ (wi hw 174 rfl)) (mvT hZ (wi hw 175 rfl)) (mvT hZ (wi hw 176 rfl)) (by decide) (backOf (W := 0) (rmC2_2 hw ed kd x0_ x1_ h0 n0 O0 NF V_ed E_ed E_x0_ E_x1_) hZ (wi hw 176 rfl) (wi hw 175 rfl) (by decide) (by decide)) (g := (mkF m 8 #[.val (.ref xa)] [(.int (2 : Int32)), (.ref ed)])) rfl (by rw [hml]; rfl) (argsL := [(.ref ed), (.int (2 : Int32))]) (rest := []) (lenOf pd_148 rfl) rfl (by show 2 * 0 + _ ≤ _; exact Nat.le_of_eq rfl) (hb hby d25_8) (fun _ _ => ⟨rfl, e2, (by decide : 0 + 1 ≤ _), (by decide : 0 + 2 ≤ _)⟩)
  dsimp only [Pt.U, Pt.locs, Pt.cells, Pt.slots] at X3 l3 y3 z3 st3 hQ3
  subst l3 y3 z3
  obtain ⟨⟨ba, kb, rfl, gb3, sb3, V3⟩, Nq3, Ex3⟩ := hQ3
  have N3 := Fr.app N0 Nq3
  have g_ba : n0 ≤ ba := gb3
  have sz_ba : h0.size ≤ ba := Nat.le_trans K0.1 sb3
  have ne_xa_ba : xa ≠ ba := Nat.ne_of_lt (Nat.lt_of_lt_of_le E_xa.lt sb3)
  have ne_ba_xa := Ne.symm ne_xa_ba
  have ne_ed_ba : ed ≠ ba := Nat.ne_of_lt (Nat.lt_of_lt_of_le V_ed.lt sb3)
  have ne_ba_ed := Ne.symm ne_ed_ba
  have ne_x0__ba : x0_ ≠ ba := Nat.ne_of_lt (Nat.lt_of_lt_of_le E_x0_.lt sb3)
  have ne_ba_x0_ := Ne.symm ne_x0__ba
  have ne_x1__ba : x1_ ≠ ba := Nat.ne_of_lt (Nat.lt_of_lt_of_le E_x1_.lt sb3)
  have ne_ba_x1_ := Ne.symm ne_x1__ba
  have E_xa := E_xa.ext Ex3
  have F_modCount_xa := F_modCount_xa.ext Ex3
  have F_elementData_xa := F_elementData_xa.ext Ex3
  have F_size_xa := F_size_xa.ext Ex3
  have V_ed := V_ed.ext Ex3
  have E_ed := E_ed.ext Ex3
  have E_x0_ := E_x0_.ext Ex3
  have E_x1_ := E_x1_.ext Ex3
  have O0 := O0.ext Ex3
  have K0 := K0.ext Ex3
  have V_ba := V3
  refine Goes.to (T' := T3.setTop (mkF m 11 #[.val (.ref xa)] [(.ref ba)])) st3 ?_
  obtain ⟨fs, hrL, hrun, hended, hW, hsame⟩ := X3.leave (v := some (.ref ba)) (fun h => by rw [Bd.returns] at h; cases h)
  subst hQf
  refine ⟨_, _, retOut X3 hx Bd.returns rfl (Or.inr (Or.inr (Or.inr (Or.inr ⟨rfl, rfl, rfl⟩)))) (hb hby d25_11) hrL, hrun, hended, _, _, rfl, ?_, ⟨_, rfl⟩, hW, hsame.mono (by decide) (by decide)⟩
  show Q_rmTA2 Z x0_ x1_ h0 n0 (some (.ref ba)) T3.heap _
  exact ⟨⟨ba, _, rfl, g_ba, sz_ba, V_ba⟩, N3, own_ext_keep K0⟩
theorem d44_0 : decode jdk_44_method_2_code 0 = .ok (.aload_n 0, 1) := by decide +kernel
theorem d44_1 : decode jdk_44_method_2_code 1 = .ok (.invokespecial 1, 3) := by decide +kernel
theorem d44_4 : decode jdk_44_method_2_code 4 = .ok (.aload_n 0, 1) := by decide +kernel
theorem d44_5 : decode jdk_44_method_2_code 5 = .ok (.aload_n 1, 1) := by decide +kernel
theorem d44_6 : decode jdk_44_method_2_code 6 = .ok (.invokestatic 7, 3) := by decide +kernel
theorem d44_9 : decode jdk_44_method_2_code 9 = .ok (.putfield 13, 3) := by decide +kernel
theorem d44_12 : decode jdk_44_method_2_code 12 = .ok (.aload_n 0, 1) := by decide +kernel
theorem d44_13 : decode jdk_44_method_2_code 13 = .ok (.aload_n 2, 1) := by decide +kernel
theorem d44_14 : decode jdk_44_method_2_code 14 = .ok (.invokestatic 7, 3) := by decide +kernel
theorem d44_17 : decode jdk_44_method_2_code 17 = .ok (.putfield 24, 3) := by decide +kernel
theorem d44_20 : decode jdk_44_method_2_code 20 = .ok (.return_, 1) := by decide +kernel
theorem pn_44 : plainName "java/util/ImmutableCollections$List12" = true := by first | (simp [plainName, overriddenIn]; done) | decide +kernel
theorem ef_rm12_2 (m : MethodId) (x0 : Addr) (x1 : Addr) (x2 : Addr) : entryFrame m #[(.ref x0), (.ref x1), (.ref x2)] 3 = mkF m 0 #[.val (.ref x0), .val (.ref x1), .val (.ref x2)] [] := by first | (simp [entryFrame, mkF, argsToLocals, Value.category]; done) | rfl
def Q_rm12_2 (Z : State) (xa : Addr) (x0_ : Addr) (x1_ : Addr) (h0 : Heap) (n0 : Nat) (v : Option Value) (h : Heap) (L : List Loc) : Prop := v = none ∧ Fr n0 L ∧ Keep h0 h [xa] ∧ Exa Z h xa "java/util/ImmutableCollections$List12" ∧ Fld Z h xa "java/util/ImmutableCollections$List12" "e0" "Ljava/lang/Object;" (.ref x0_) ∧ Fld Z h xa "java/util/ImmutableCollections$List12" "e1" "Ljava/lang/Object;" (.ref x1_)
theorem rm12_2 (hw : HW a0 Z) (xa : Addr) (x0_ : Addr) (x1_ : Addr) (h0 : Heap) (n0 : Nat) (O0 : Old Z n0 h0) (NF : Nar Z w3 w0 w2 w1 w4 k_w3 k_w0 k_w1 z_cs w5) (E_xa : Exa Z h0 xa "java/util/ImmutableCollections$List12") (F_e0_xa : Fld Z h0 xa "java/util/ImmutableCollections$List12" "e0" "Ljava/lang/Object;" .null) (F_e1_xa : Fld Z h0 xa "java/util/ImmutableCollections$List12" "e1" "Ljava/lang/Object;" .null) (g_xa : n0 ≤ xa) :
    Con l Z (⟨"java/util/ImmutableCollections$List12", "<init>", "(Ljava/lang/Object;Ljava/lang/Object;)V"⟩ : MethodName) jdk_44_method_2_code 3 none ws ({ frames := 4, cells := 0, slots := 0, locals := 60 } : Room) #[(.ref xa), (.ref x0_), (.ref x1_)] h0 (Q_rm12_2 Z xa x0_ x1_ h0 n0) := by
  refine Con.body (own := "java/util/ImmutableCollections$List12") rfl (plainFor_of_name pn_44) (fun m => ef_rm12_2 m _ _ _) ?_
  intro p e s m below meth c s₁ Bd hx hby hml hZ hown X0 e0 Qf hQf
  have N0 := Fr.nil n0
  have hnm := (name_of_methodNamed Bd.named Bd.method).1
  have K0 := Keep.refl h0 [xa]
  obtain ⟨S_w3, E_w3, S_w0, E_w0, S_w2, E_w2, F_elements_w2, E_w1, S_w4, E_w4, F_allowNulls_w2, S_w_ImmutableCollections__assertionsDisabled, V_w3, V_w0, V_w1, S_cs, nz_cs, M_OA⟩ := id NF
  refine Goes.to (T' := s₁.setTop (mkF m 1 #[.val (.ref xa), .val (.ref x0_), .val (.ref x1_)] [(.ref xa)])) (fun t k => XS.aloadN X0.here hx rfl (hb hby d44_0) rfl rfl k) ?_
  obtain ⟨_, _, ⟨T1, L1, k1, n1⟩, -, X1, ⟨Lc1, hQ1, l1, y1, z1⟩, st1⟩ := X0.specialBack hx (y := (⟨"java/util/ImmutableCollections$AbstractImmutableList", "<init>", "()V"⟩ : MethodName)) rfl hown (mvT hZ (wi hw 272 rfl)) (mvT hZ (wi hw 212 rfl)) (mvT hZ (wi hw 216 rfl)) (by decide) (backOf (W := 0) (rmAIL hw xa  h0 n0 O0 NF ) hZ (wi hw 216 rfl) (wi hw 215 rfl) (by decide) (by decide)) (g := (mkF m 1 #[.val (.ref xa), .val (.ref x0_), .val (.ref x1_)] [(.ref xa)])) rfl (by rw [hml]; rfl) (Steps.refl _) (a := xa) (argsL := []) (rest := []) (lenOf pd_5 rfl) rfl (by show 2 * 0 + _ ≤ _; exact Nat.le_of_eq rfl) (hb hby d44_1) (fun _ _ => ⟨rfl, e0, (by decide : 0 + 0 ≤ _), (by decide : 0 + 0 ≤ _)⟩)
  dsimp only [Pt.U, Pt.locs, Pt.cells, Pt.slots] at X1 l1 y1 z1 st1 hQ1
  subst l1 y1 z1
  obtain ⟨rfl, Nq1, e1⟩ := hQ1
  have N1 := Fr.app N0 Nq1
  refine Goes.thru (T' := T1.setTop (mkF m 4 #[.val (.ref xa), .val (.ref x0_), .val (.ref x1_)] [])) st1 ?_
  refine Goes.to (T' := T1.setTop (mkF m 5 #[.val (.ref xa), .val (.ref x0_), .val (.ref x1_)] [(.ref xa)])) (fun t k => XS.aloadN X1.here hx rfl (hb hby d44_4) rfl rfl k) ?_
  refine Goes.to (T' := T1.setTop (mkF m 6 #[.val (.ref xa), .val (.ref x0_), .val (.ref x1_)] [(.ref x0_), (.ref xa)])) (fun t k => XS.aloadN X1.here hx rfl (hb hby d44_5) rfl rfl k) ?_
  obtain ⟨_, _, ⟨T2, L2, k2, n2⟩, -, X2, ⟨Lc2, hQ2, l2, y2, z2⟩, st2⟩ := Jvm.LawKit.callS X1 hx (y := (⟨"java/util/Objects", "requireNonNull", "(Ljava/lang/Object;)Ljava/lang/Object;"⟩ : MethodName)) hown (mvT hZ (wi hw 276 rfl)) (mvT hZ (wi hw 203 rfl)) (mvT hZ (wi hw 204 rfl)) (mvT hZ (wi hw 205 rfl)) (by decide) (backOf (W := 1) (rmRq hw x0_  h0 n0 O0 NF ) hZ (wi hw 205 rfl) (wi hw 204 rfl) (by decide) (by decide)) (g := (mkF m 6 #[.val (.ref xa), .val (.ref x0_), .val (.ref x1_)] [(.ref x0_), (.ref xa)])) rfl (by rw [hml]; rfl) (argsL := [(.ref x0_)]) (rest := [(.ref xa)]) (lenOf pd_161 rfl) rfl (by show 2 * 0 + _ ≤ _; exact Nat.le_of_eq rfl) (hb hby d44_6) (fun _ _ => ⟨rfl, e1, (by decide : 0 + 0 ≤ _), (by decide : 0 + 0 ≤ _)⟩)
  dsimp only [Pt.U, Pt.locs, Pt.cells, Pt.slots] at X2 l2 y2 z2 st2 hQ2
  subst l2 y2 z2
  obtain ⟨rfl, Nq2, e2⟩ := hQ2
  have N2 := Fr.app N1 Nq2
  refine Goes.to (T' := T2.setTop (mkF m 9 #[.val (.ref xa), .val (.ref x0_), .val (.ref x1_)] [(.ref x0_), (.ref xa)])) st2 ?_
  obtain ⟨T3, h3, X3, e3, W3, st3⟩ := putF X2 hx hZ hown (host := "") (Or.inl (wi hw 277 rfl)) Via.refl e2 F_e0_xa E_xa (Or.inr ⟨(wi hw 278 rfl), rfl, hnm⟩) (wi hw 266 rfl) (ty := (.object "java/lang/Object")) (by decide) rfl rfl (g := (mkF m 9 #[.val (.ref xa), .val (.ref x0_), .val (.ref x1_)] [(.ref x0_), (.ref xa)])) rfl rfl (hb hby d44_9)
  have F_e0_xa := F_e0_xa.same W3
  have E_xa := E_xa.wr W3
  have F_e1_xa := F_e1_xa.other W3 (Or.inr (slot_ne (Or.inr (wi hw 280 rfl)) (Or.inr (wi hw 278 rfl)) (by decide) (t := (.object "java/lang/Object")) (t' := (.object "java/lang/Object")) (by decide) (by decide)))
  have O0 := O0.wr W3 g_xa
  have K0 := K0.wr W3 (Or.inl (List.mem_of_getElem? (i := 0) rfl))
  have N3 := Fr.snoc X3 N2 g_xa
  refine Goes.to (T' := T3.setTop (mkF m 12 #[.val (.ref xa), .val (.ref x0_), .val (.ref x1_)] [])) st3 ?_
  refine Goes.to (T' := T3.setTop (mkF m 13 #[.val (.ref xa), .val (.ref x0_), .val (.ref x1_)] [(.ref xa)])) (fun t k => XS.aloadN X3.here hx rfl (hb hby d44_12) rfl rfl k) ?_
  refine Goes.to (T' := T3.setTop (mkF m 14 #[.val (.ref xa), .val (.ref x0_), .val (.ref x1_)] [(.ref x1_), (.ref xa)])) (fun t k => XS.aloadN X3.here hx rfl (hb hby d44_13) rfl rfl k) ?_
  obtain ⟨_, _, ⟨T4, L4, k4, n4⟩, -, X4, ⟨Lc4, hQ4, l4, y4, z4⟩, st4⟩ := Jvm.LawKit.callS X3 hx (y := (⟨"java/util/Objects", "requireNonNull", "(Ljava/lang/Object;)Ljava/lang/Object;"⟩ : MethodName)) hown (mvT hZ (wi hw 276 rfl)) (mvT hZ (wi hw 203 rfl)) (mvT hZ (wi hw 204 rfl)) (mvT hZ (wi hw 205 rfl)) (by decide) (backOf (W := 1) (rmRq hw x1_  h3 n0 O0 NF ) hZ (wi hw 205 rfl) (wi hw 204 rfl) (by decide) (by decide)) (g := (mkF m 14 #[.val (.ref xa), .val (.ref x0_), .val (.ref x1_)] [(.ref x1_), (.ref xa)])) rfl (by rw [hml]; rfl) (argsL := [(.ref x1_)]) (rest := [(.ref xa)]) (lenOf pd_161 rfl) rfl (by show 2 * 0 + _ ≤ _; exact Nat.le_of_eq rfl) (hb hby d44_14) (fun _ _ => ⟨rfl, e3, (by decide : 0 + 0 ≤ _), (by decide : 0 + 0 ≤ _)⟩)
  dsimp only [Pt.U, Pt.locs, Pt.cells, Pt.slots] at X4 l4 y4 z4 st4 hQ4
  subst l4 y4 z4
  obtain ⟨rfl, Nq4, e4⟩ := hQ4
  have N4 := Fr.app N3 Nq4
  refine Goes.to (T' := T4.setTop (mkF m 17 #[.val (.ref xa), .val (.ref x0_), .val (.ref x1_)] [(.ref x1_), (.ref xa)])) st4 ?_
  obtain ⟨T5, h5, X5, e5, W5, st5⟩ := putF X4 hx hZ hown (host := "") (Or.inl (wi hw 279 rfl)) Via.refl e4 F_e1_xa E_xa (Or.inr ⟨(wi hw 280 rfl), rfl, hnm⟩) (wi hw 266 rfl) (ty := (.object "java/lang/Object")) (by decide) rfl rfl (g := (mkF m 17 #[.val (.ref xa), .val (.ref x0_), .val (.ref x1_)] [(.ref x1_), (.ref xa)])) rfl rfl (hb hby d44_17)
  have F_e1_xa := F_e1_xa.same W5
  have E_xa := E_xa.wr W5
  have F_e0_xa := F_e0_xa.other W5 (Or.inr (slot_ne (Or.inr (wi hw 278 rfl)) (Or.inr (wi hw 280 rfl)) (by decide) (t := (.object "java/lang/Object")) (t' := (.object "java/lang/Object")) (by decide) (by decide)))
  have O0 := O0.wr W5 g_xa
  have K0 := K0.wr W5 (Or.inl (List.mem_of_getElem? (i := 0) rfl))
  have N5 := Fr.snoc X5 N4 g_xa
  refine Goes.to (T' := T5.setTop (mkF m 20 #[.val (.ref xa), .val (.ref x0_), .val (.ref x1_)] [])) st5 ?_
  obtain ⟨fs, hrL, hrun, hended, hW, hsame⟩ := X5.leave (v := none) (fun _ => rfl)
  subst hQf
  refine ⟨_, _, X5.returnOut hx Bd.returns (hb hby d44_20) hrL, hrun, hended, _, _, rfl, ?_, ⟨_, rfl⟩, hW, hsame.mono (by decide) (by decide)⟩
  show Q_rm12_2 Z xa x0_ x1_ h0 n0 (none) T5.heap _
  rw [e5]
  exact ⟨rfl, N5, K0, E_xa, F_e0_xa, F_e1_xa⟩
theorem pd_220 : parseMethodDescriptor "(Ljava/lang/Object;Ljava/lang/Object;)V" = some ⟨[(.object "java/lang/Object"), (.object "java/lang/Object")], none⟩ := by decide +kernel
theorem d29_45 : decode jdk_40_method_47_code 45 = .ok (.new 96, 3) := by decide +kernel
theorem d29_48 : decode jdk_40_method_47_code 48 = .ok (.dup, 1) := by decide +kernel
theorem d29_49 : decode jdk_40_method_47_code 49 = .ok (.aload_n 0, 1) := by decide +kernel
theorem d29_50 : decode jdk_40_method_47_code 50 = .ok (.iconst 0, 1) := by decide +kernel
theorem d29_51 : decode jdk_40_method_47_code 51 = .ok (.aaload, 1) := by decide +kernel
theorem d29_52 : decode jdk_40_method_47_code 52 = .ok (.aload_n 0, 1) := by decide +kernel
theorem d29_53 : decode jdk_40_method_47_code 53 = .ok (.iconst 1, 1) := by decide +kernel
theorem d29_54 : decode jdk_40_method_47_code 54 = .ok (.aaload, 1) := by decide +kernel
theorem d29_55 : decode jdk_40_method_47_code 55 = .ok (.invokespecial 100, 3) := by decide +kernel
theorem d29_58 : decode jdk_40_method_47_code 58 = .ok (.areturn, 1) := by decide +kernel
def Q_rmLo2 (Z : State) (x0_ : Addr) (x1_ : Addr) (h0 : Heap) (n0 : Nat) (v : Option Value) (h : Heap) (L : List Loc) : Prop := (∃ (b : Addr), v = some (.ref b) ∧ n0 ≤ b ∧ h0.size ≤ b ∧ Exa Z h b "java/util/ImmutableCollections$List12" ∧ Fld Z h b "java/util/ImmutableCollections$List12" "e0" "Ljava/lang/Object;" (.ref x0_) ∧ Fld Z h b "java/util/ImmutableCollections$List12" "e1" "Ljava/lang/Object;" (.ref x1_)) ∧ Fr n0 L ∧ Ext h0 h
theorem rmLo2 (hw : HW a0 Z) (ba : Addr) (kb : ClassId) (x0_ : Addr) (x1_ : Addr) (h0 : Heap) (n0 : Nat) (O0 : Old Z n0 h0) (NF : Nar Z w3 w0 w2 w1 w4 k_w3 k_w0 k_w1 z_cs w5) (V_ba : Arv Z h0 ba kb (.object "java/lang/Object") (2 : Int32) [(.ref x0_), (.ref x1_)] .null) :
    Con l Z (⟨"java/util/List", "of", "([Ljava/lang/Object;)Ljava/util/List;"⟩ : MethodName) jdk_40_method_47_code 2 (some (.object "java/util/List")) ws ({ frames := 5, cells := 1, slots := 3, locals := 90 } : Room) #[(.ref ba)] h0 (Q_rmLo2 Z x0_ x1_ h0 n0) := by
  refine Con.body (own := "java/util/List") rfl (plainFor_of_name pn_29) (fun m => ef_rmLo1 m _) ?_
  intro p e s m below meth c s₁ Bd hx hby hml hZ hown X0 e0 Qf hQf
  have N0 := Fr.nil n0
  have K0 := Keep.refl h0 []
  obtain ⟨S_w3, E_w3, S_w0, E_w0, S_w2, E_w2, F_elements_w2, E_w1, S_w4, E_w4, F_allowNulls_w2, S_w_ImmutableCollections__assertionsDisabled, V_w3, V_w0, V_w1, S_cs, nz_cs, M_OA⟩ := id NF
  refine Goes.to (T' := s₁.setTop (mkF m 1 #[.val (.ref ba), .unset] [(.ref ba)])) (fun t k => XS.aloadN X0.here hx rfl (hb hby d29_0) rfl rfl k) ?_
  obtain ⟨cl1, Ar1, q1, S1, Ng1, H1, G1⟩ := id V_ba
  refine Goes.to (T' := s₁.setTop (mkF m 2 #[.val (.ref ba), .unset] [(.int (2 : Int32))])) (fun t k => X0.arraylength hx (by rw [e0]; exact Ar1.1) (State.isArrayOf_alike hZ.alike Ar1.2.1) (g := (mkF m 1 #[.val (.ref ba), .unset] [(.ref ba)])) rfl rfl (hb hby d29_1) _ (by rw [len_of S1 Ng1]; exact k)) ?_
  refine Goes.to (T' := s₁.setTop (mkF m 45 #[.val (.ref ba), .unset] [])) (fun t k => XS.tswIn X0.here hx rfl (pc0 := 2) (pc' := 45) rfl (hb hby d29_2) rfl (by decide) (o := 43) rfl (by decide) (by decide) k) ?_
  obtain ⟨T2, h2, X2, e2, E2, A2, D2, -, st2⟩ := newO X0 hx hZ hown (wi hw 265 rfl) (wi hw 266 rfl) (wi hw 267 rfl) e0 (g := (mkF m 45 #[.val (.ref ba), .unset] [])) rfl (hb hby d29_45) (by decide) (by decide)
  obtain ⟨b2, g2⟩ : ∃ z, z = h0.size := ⟨_, rfl⟩
  rw [← g2] at A2 D2 st2
  have g_b2 : n0 ≤ b2 := Nat.le_trans (own_old O0) (Nat.le_of_eq g2.symm)
  have sz_b2 : h0.size ≤ b2 := Nat.le_trans K0.1 (Nat.le_of_eq g2.symm)
  have ne_ba_b2 : ba ≠ b2 := Nat.ne_of_lt (Nat.lt_of_lt_of_le V_ba.lt (Nat.le_of_eq g2.symm))
  have ne_b2_ba := Ne.symm ne_ba_b2
  have V_ba := V_ba.ext E2
  have O0 := O0.ext E2
  have K0 := K0.ext E2
  have E_b2 := A2
  have F_e0_b2 : Fld Z h2 b2 "java/util/ImmutableCollections$List12" "e0" "Ljava/lang/Object;" .null := D2 (Or.inr (wi hw 278 rfl)) (ty := (.object "java/lang/Object")) (by decide)
  have F_e1_b2 : Fld Z h2 b2 "java/util/ImmutableCollections$List12" "e1" "Ljava/lang/Object;" .null := D2 (Or.inr (wi hw 280 rfl)) (ty := (.object "java/lang/Object")) (by decide)
  refine Goes.to (T' := T2.setTop (mkF m 48 #[.val (.ref ba), .unset] [(.ref b2)])) st2 ?_
  refine Goes.to (T' := T2.setTop (mkF m 49 #[.val (.ref ba), .unset] [(.ref b2), (.ref b2)])) (fun t k => XS.dup X2.here hx rfl (hb hby d29_48) rfl rfl k) ?_
  refine Goes.to (T' := T2.setTop (mkF m 50 #[.val (.ref ba), .unset] [(.ref ba), (.ref b2), (.ref b2)])) (fun t k => XS.aloadN X2.here hx rfl (hb hby d29_49) rfl rfl k) ?_
  refine Goes.to (T' := T2.setTop (mkF m 51 #[.val (.ref ba), .unset] [(.int (0 : Int32)), (.ref ba), (.ref b2), (.ref b2)])) (fun t k => XS.iconst X2.here hx rfl (hb hby d29_50) k) ?_
  obtain ⟨cl3, Ar3, q3, S3, Ng3, H3, G3⟩ := id V_ba
  have hin3 : ¬ ((0 : Int32) < 0 ∨ cl3.slots.size ≤ ((0 : Int32)).toNatClampNeg) := inb_of S3 ⟨by decide, by decide⟩
  refine Goes.to (T' := T2.setTop (mkF m 52 #[.val (.ref ba), .unset] [(.ref x0_), (.ref b2), (.ref b2)])) (X2.aaload hx (j := (0 : Int32)) (v := (.ref x0_)) (by rw [e2]; exact Ar3.1) (State.isArrayOf_alike hZ.alike Ar3.2.1) rfl Ar3.2.2 hin3 (H3.at hin3 rfl) (g := (mkF m 51 #[.val (.ref ba), .unset] [(.int (0 : Int32)), (.ref ba), (.ref b2), (.ref b2)])) rfl rfl (hb hby d29_51)) ?_
  refine Goes.to (T' := T2.setTop (mkF m 53 #[.val (.ref ba), .unset] [(.ref ba), (.ref x0_), (.ref b2), (.ref b2)])) (fun t k => XS.aloadN X2.here hx rfl (hb hby d29_52) rfl rfl k) ?_
  refine Goes.to (T' := T2.setTop (mkF m 54 #[.val (.ref ba), .unset] [(.int (1 : Int32)), (.ref ba), (.ref x0_), (.ref b2), (.ref b2)])) (fun t k => XS.iconst X2.here hx rfl (hb hby d29_53) k) ?_
  obtain ⟨cl4, Ar4, q4, S4, Ng4, H4, G4⟩ := id V_ba
  have hin4 : ¬ ((1 : Int32) < 0 ∨ cl4.slots.size ≤ ((1 : Int32)).toNatClampNeg) := inb_of S4 ⟨by decide, by decide⟩
  refine Goes.to (T' := T2.setTop (mkF m 55 #[.val (.ref ba), .unset] [(.ref x1_), (.ref x0_), (.ref b2), (.ref b2)])) (X2.aaload hx (j := (1 : Int32)) (v := (.ref x1_)) (by rw [e2]; exact Ar4.1) (State.isArrayOf_alike hZ.alike Ar4.2.1) rfl Ar4.2.2 hin4 (H4.at hin4 rfl) (g := (mkF m 54 #[.val (.ref ba), .unset] [(.int (1 : Int32)), (.ref ba), (.ref x0_), (.ref b2), (.ref b2)])) rfl rfl (hb hby d29_54)) ?_
  obtain ⟨_, _, ⟨T5, L5, k5, n5⟩, -, X5, ⟨Lc5, hQ5, l5, y5, z5⟩, st5⟩ := X2.specialBack hx (y := (⟨"java/util/ImmutableCollections$List12", "<init>", "(Ljava/lang/Object;Ljava/lang/Object;)V"⟩ : MethodName)) rfl hown (mvT hZ (wi hw 268 rfl)) (mvT hZ (wi hw 269 rfl)) (mvT hZ (wi hw 271 rfl)) (by decide) (backOf (W := 1) (rm12_2 hw b2 x0_ x1_  h2 n0 O0 NF E_b2 F_e0_b2 F_e1_b2 g_b2) hZ (wi hw 271 rfl) (wi hw 267 rfl) (by decide) (by decide)) (g := (mkF m 55 #[.val (.ref ba), .unset] [(.ref x1_), (.ref x0_), (.ref b2), (.ref b2)])) rfl (by rw [hml]; rfl) (Steps.refl _) (a := b2) (argsL := [(.ref x0_), (.ref x1_)]) (rest := [(.ref b2)]) (lenOf pd_220 rfl) rfl (by show 2 * 0 + _ ≤ _; exact Nat.le_of_eq rfl) (hb hby d29_55) (fun _ _ => ⟨rfl, e2, (by decide : 1 + 0 ≤ _), (by decide : 2 + 0 ≤ _)⟩)
  dsimp only [Pt.U, Pt.locs, Pt.cells, Pt.slots] at X5 l5 y5 z5 st5 hQ5
  subst l5 y5 z5
  obtain ⟨rfl, Nq5, K5, r0_5, r1_5, r2_5⟩ := hQ5
  have N5 := Fr.app N0 Nq5
  have V_ba := V_ba.keep K5 (ninS (ne_ba_b2) nin0)
  have E_b2 := E_b2.keep K5
  have O0 := O0.keep K5 (allS g_b2 all0)
  have K0 := K0.trans K5 (allS (Or.inr sz_b2) all0)
  have E_b2 := r0_5
  have F_e0_b2 := r1_5
  have F_e1_b2 := r2_5
  refine Goes.thru (T' := T5.setTop (mkF m 58 #[.val (.ref ba), .unset] [(.ref b2)])) st5 ?_
  obtain ⟨fs, hrL, hrun, hended, hW, hsame⟩ := X5.leave (v := some (.ref b2)) (fun h => by rw [Bd.returns] at h; cases h)
  subst hQf
  refine ⟨_, _, retOut X5 hx Bd.returns rfl (Or.inr (Or.inr (Or.inr (Or.inr ⟨rfl, rfl, rfl⟩)))) (hb hby d29_58) hrL, hrun, hended, _, _, rfl, ?_, ⟨_, rfl⟩, hW, hsame.mono (by decide) (by decide)⟩
  show Q_rmLo2 Z x0_ x1_ h0 n0 (some (.ref b2)) T5.heap _
  exact ⟨⟨b2, rfl, g_b2, sz_b2, E_b2, F_e0_b2, F_e1_b2⟩, N5, own_ext_keep K0⟩
def Q_rmLc2 (Z : State) (x0_ : Addr) (x1_ : Addr) (h0 : Heap) (n0 : Nat) (v : Option Value) (h : Heap) (L : List Loc) : Prop := (∃ (b : Addr), v = some (.ref b) ∧ n0 ≤ b ∧ h0.size ≤ b ∧ Exa Z h b "java/util/ImmutableCollections$List12" ∧ Fld Z h b "java/util/ImmutableCollections$List12" "e0" "Ljava/lang/Object;" (.ref x0_) ∧ Fld Z h b "java/util/ImmutableCollections$List12" "e1" "Ljava/lang/Object;" (.ref x1_)) ∧ Fr n0 L ∧ Ext h0 h
theorem rmLc2 (hw : HW a0 Z) (xa : Addr) (mc : Int32) (ed : Addr) (kd : ClassId) (x0_ : Addr) (x1_ : Addr) (h0 : Heap) (n0 : Nat) (O0 : Old Z n0 h0) (NF : Nar Z w3 w0 w2 w1 w4 k_w3 k_w0 k_w1 z_cs w5) (E_xa : Exa Z h0 xa "java/util/ArrayList") (F_modCount_xa : Fld Z h0 xa "java/util/AbstractList" "modCount" "I" (.int mc)) (F_elementData_xa : Fld Z h0 xa "java/util/ArrayList" "elementData" "[Ljava/lang/Object;" (.ref ed)) (F_size_xa : Fld Z h0 xa "java/util/ArrayList" "size" "I" (.int (2 : Int32))) (V_ed : Arv Z h0 ed kd (.object "java/lang/Object") (10 : Int32) [(.ref x0_), (.ref x1_), .null, .null, .null, .null, .null, .null, .null, .null] .null) (E_ed : Exa Z h0 ed "[Ljava/lang/Object;") (E_x0_ : Exa Z h0 x0_ "java/lang/String") (E_x1_ : Exa Z h0 x1_ "java/lang/String") :
    Con l Z (⟨"java/util/ImmutableCollections", "listCopy", "(Ljava/util/Collection;)Ljava/util/List;"⟩ : MethodName) jdk_56_method_3_code 2 (some (.object "java/util/List")) ws ({ frames := 6, cells := 2, slots := 5, locals := 140 } : Room) #[(.ref xa)] h0 (Q_rmLc2 Z x0_ x1_ h0 n0) := by
  refine Con.body (own := "java/util/ImmutableCollections") rfl (plainFor_of_name pn_11) (fun m => ef_rmLo1 m _) ?_
  intro p e s m below meth c s₁ Bd hx hby hml hZ hown X0 e0 Qf hQf
  have N0 := Fr.nil n0
  have K0 := Keep.refl h0 []
  obtain ⟨S_w3, E_w3, S_w0, E_w0, S_w2, E_w2, F_elements_w2, E_w1, S_w4, E_w4, F_allowNulls_w2, S_w_ImmutableCollections__assertionsDisabled, V_w3, V_w0, V_w1, S_cs, nz_cs, M_OA⟩ := id NF
  refine Goes.to (T' := s₁.setTop (mkF m 1 #[.val (.ref xa), .unset] [(.ref xa)])) (fun t k => XS.aloadN X0.here hx rfl (hb hby d11_0) rfl rfl k) ?_
  obtain ⟨T1, X1, e1, st1⟩ := instNo X0 hx hZ hown (wi hw 76 rfl) e0 E_xa (own_nsno (wi hw 77 rfl) (wi hw 266 rfl) (NS.step (wi hw 77 rfl) (NS.step (wi hw 78 rfl) (NS.step (wi hw 79 rfl) (own_nsroot (wi hw 80 rfl) (wi hw 266 rfl) (by decide)) (by decide)) (by decide)) (by decide)) (by decide)) (g := (mkF m 1 #[.val (.ref xa), .unset] [(.ref xa)])) rfl rfl (hb hby d11_1)
  refine Goes.to (T' := T1.setTop (mkF m 4 #[.val (.ref xa), .unset] [(.int (0 : Int32))])) st1 ?_
  refine Goes.to (T' := T1.setTop (mkF m 7 #[.val (.ref xa), .unset] [])) (fun t k => XS.ifNo X1.here hx rfl (hb hby d11_4) rfl ((if0 _ _).trans (teq (by decide)).2) k) ?_
  refine Goes.to (T' := T1.setTop (mkF m 8 #[.val (.ref xa), .unset] [(.ref xa)])) (fun t k => XS.aloadN X1.here hx rfl (hb hby d11_7) rfl rfl k) ?_
  obtain ⟨T2, X2, e2, st2⟩ := instNo X1 hx hZ hown (wi hw 81 rfl) e1 E_xa (by obtain ⟨tK, kK, g1K, g2K, g3K⟩ := own_selK (wi hw 156 rfl) rfl; exact own_nsnoF (wi hw 77 rfl) g1K g2K g3K (NS.step (wi hw 77 rfl) (NS.step (wi hw 78 rfl) (NS.step (wi hw 79 rfl) (own_nsrootF (wi hw 80 rfl) g1K (by decide)) (by decide)) (by decide)) (by decide)) (by decide)) (g := (mkF m 8 #[.val (.ref xa), .unset] [(.ref xa)])) rfl rfl (hb hby d11_8)
  refine Goes.to (T' := T2.setTop (mkF m 11 #[.val (.ref xa), .unset] [(.int (0 : Int32))])) st2 ?_
  refine Goes.to (T' := T2.setTop (mkF m 31 #[.val (.ref xa), .unset] [])) (fun t k => XS.ifYes X2.here hx rfl (pc0 := 11) (pc' := 31) rfl (hb hby d11_11) rfl ((if0 _ _).trans (teq (by decide)).1) (by decide) (by decide) k) ?_
  refine Goes.to (T' := T2.setTop (mkF m 32 #[.val (.ref xa), .unset] [(.ref xa)])) (fun t k => XS.aloadN X2.here hx rfl (hb hby d11_31) rfl rfl k) ?_
  obtain ⟨cq3, kq3, q3a, q3b, q3c⟩ := isOf hZ e2 E_xa
  obtain ⟨_, _, ⟨T3, L3, k3, n3⟩, -, X3, ⟨Lc3, hQ3, l3, y3, z3⟩, st3⟩ := X2.interfaceBack hx (xi := (⟨"java/util/Collection", "isEmpty", "()Z"⟩ : MethodName)) (y := (⟨"java/util/ArrayList", "isEmpty", "()Z"⟩ : MethodName)) hown (mvT hZ (wi hw 82 rfl)) (mvT hZ (wi hw 83 rfl)) (mvT hZ (wi hw 84 rfl)) (mvT hZ (wi hw 85 rfl)) (mvT hZ (wi hw 86 rfl)) (mvT hZ (wi hw 87 rfl)) (mvT hZ (wi hw 88 rfl)) (mvT hZ (wi hw 89 rfl)) (by decide) (backOf (W := 0) (rmE2 hw xa  h0 n0 O0 NF F_size_xa) hZ (wi hw 90 rfl) (wi hw 28 rfl) (by decide) (by decide)) q3a q3b q3c (g := (mkF m 32 #[.val (.ref xa), .unset] [(.ref xa)])) rfl (by rw [hml]; rfl) (Steps.refl _) (argsL := []) (rest := []) (lenOf pd_186 rfl) rfl (by show 2 * 0 + _ ≤ _; exact Nat.le_of_eq rfl) (hb hby d11_32) (fun _ _ => ⟨rfl, e2, (by decide : 0 + 0 ≤ _), (by decide : 0 + 0 ≤ _)⟩)
  dsimp only [Pt.U, Pt.locs, Pt.cells, Pt.slots] at X3 l3 y3 z3 st3 hQ3
  subst l3 y3 z3
  obtain ⟨rfl, Nq3, e3⟩ := hQ3
  have N3 := Fr.app N0 Nq3
  refine Goes.thru (T' := T3.setTop (mkF m 37 #[.val (.ref xa), .unset] [(.int (0 : Int32))])) st3 ?_
  refine Goes.to (T' := T3.setTop (mkF m 44 #[.val (.ref xa), .unset] [])) (fun t k => XS.ifYes X3.here hx rfl (pc0 := 37) (pc' := 44) rfl (hb hby d11_37) rfl ((if0 _ _).trans (teq (by decide)).1) (by decide) (by decide) k) ?_
  refine Goes.to (T' := T3.setTop (mkF m 45 #[.val (.ref xa), .unset] [(.ref xa)])) (fun t k => XS.aloadN X3.here hx rfl (hb hby d11_44) rfl rfl k) ?_
  obtain ⟨cq4, kq4, q4a, q4b, q4c⟩ := isOf hZ e3 E_xa
  obtain ⟨_, _, ⟨T4, L4, k4, n4⟩, -, X4, ⟨Lc4, hQ4, l4, y4, z4⟩, st4⟩ := X3.interfaceBack hx (xi := (⟨"java/util/Collection", "toArray", "()[Ljava/lang/Object;"⟩ : MethodName)) (y := (⟨"java/util/ArrayList", "toArray", "()[Ljava/lang/Object;"⟩ : MethodName)) hown (mvT hZ (wi hw 165 rfl)) (mvT hZ (wi hw 166 rfl)) (mvT hZ (wi hw 167 rfl)) (mvT hZ (wi hw 168 rfl)) (mvT hZ (wi hw 169 rfl)) (mvT hZ (wi hw 170 rfl)) (mvT hZ (wi hw 171 rfl)) (mvT hZ (wi hw 89 rfl)) (by decide) (backOf (W := 0) (rmTA2 hw xa mc ed kd x0_ x1_ h0 n0 O0 NF E_xa F_modCount_xa F_elementData_xa F_size_xa V_ed E_ed E_x0_ E_x1_) hZ (wi hw 172 rfl) (wi hw 28 rfl) (by decide) (by decide)) q4a q4b q4c (g := (mkF m 45 #[.val (.ref xa), .unset] [(.ref xa)])) rfl (by rw [hml]; rfl) (Steps.refl _) (argsL := []) (rest := []) (lenOf pd_73 rfl) rfl (by show 2 * 0 + _ ≤ _; exact Nat.le_of_eq rfl) (hb hby d11_45) (fun _ _ => ⟨rfl, e3, (by decide : 0 + 1 ≤ _), (by decide : 0 + 2 ≤ _)⟩)
  dsimp only [Pt.U, Pt.locs, Pt.cells, Pt.slots] at X4 l4 y4 z4 st4 hQ4
  subst l4 y4 z4
  obtain ⟨⟨ba, kb, rfl, gb4, sb4, V4⟩, Nq4, Ex4⟩ := hQ4
  have N4 := Fr.app N3 Nq4
  have g_ba : n0 ≤ ba := gb4
  have sz_ba : h0.size ≤ ba := Nat.le_trans K0.1 sb4
  have ne_xa_ba : xa ≠ ba := Nat.ne_of_lt (Nat.lt_of_lt_of_le E_xa.lt sb4)
  have ne_ba_xa := Ne.symm ne_xa_ba
  have ne_ed_ba : ed ≠ ba := Nat.ne_of_lt (Nat.lt_of_lt_of_le V_ed.lt sb4)
  have ne_ba_ed := Ne.symm ne_ed_ba
  have ne_x0__ba : x0_ ≠ ba := Nat.ne_of_lt (Nat.lt_of_lt_of_le E_x0_.lt sb4)
  have ne_ba_x0_ := Ne.symm ne_x0__ba
  have ne_x1__ba : x1_ ≠ ba := Nat.ne_of_lt (Nat.lt_of_lt_of_le E_x1_.lt sb4)
  have ne_ba_x1_ := Ne.symm ne_x1__ba
  have E_xa := E_xa.ext Ex4
  have F_modCount_xa := F_modCount_xa.ext Ex4
  have F_elementData_xa := F_elementData_xa.ext Ex4
  have F_size_xa := F_size_xa.ext Ex4
  have V_ed := V_ed.ext Ex4
  have E_ed := E_ed.ext Ex4
  have E_x0_ := E_x0_.ext Ex4
  have E_x1_ := E_x1_.ext Ex4
  have O0 := O0.ext Ex4
  have K0 := K0.ext Ex4
  have V_ba := V4
  refine Goes.thru (T' := T4.setTop (mkF m 50 #[.val (.ref xa), .unset] [(.ref ba)])) st4 ?_
  obtain ⟨_, _, ⟨T5, L5, k5, n5⟩, -, X5, ⟨Lc5, hQ5, l5, y5, z5⟩, st5⟩ := Jvm.LawKit.callS X4 hx (y := (⟨"java/util/List", "of", "([Ljava/lang/Object;)Ljava/util/List;"⟩ : MethodName)) hown (mvT hZ (wi hw 195 rfl)) (mvT hZ (wi hw 196 rfl)) (mvT hZ (wi hw 70 rfl)) (mvT hZ (wi hw 197 rfl)) (by decide) (backOf (W := 0) (rmLo2 hw ba kb x0_ x1_ T4.heap n0 O0 NF V_ba) hZ (wi hw 197 rfl) (wi hw 70 rfl) (by decide) (by decide)) (g := (mkF m 50 #[.val (.ref xa), .unset] [(.ref ba)])) rfl (by rw [hml]; rfl) (argsL := [(.ref ba)]) (rest := []) (lenOf pd_187 rfl) rfl (by show 2 * 0 + _ ≤ _; exact Nat.le_of_eq rfl) (hb hby d11_50) (fun _ _ => ⟨rfl, rfl, (by decide : 1 + 1 ≤ _), (by decide : 2 + 3 ≤ _)⟩)
  dsimp only [Pt.U, Pt.locs, Pt.cells, Pt.slots] at X5 l5 y5 z5 st5 hQ5
  subst l5 y5 z5
  obtain ⟨⟨lb, rfl, gl5, sl5, r0_5, r1_5, r2_5⟩, Nq5, Ex5⟩ := hQ5
  have N5 := Fr.app N4 Nq5
  have g_lb : n0 ≤ lb := gl5
  have sz_lb : h0.size ≤ lb := Nat.le_trans K0.1 sl5
  have ne_xa_lb : xa ≠ lb := Nat.ne_of_lt (Nat.lt_of_lt_of_le E_xa.lt sl5)
  have ne_lb_xa := Ne.symm ne_xa_lb
  have ne_ed_lb : ed ≠ lb := Nat.ne_of_lt (Nat.lt_of_lt_of_le V_ed.lt sl5)
  have ne_lb_ed := Ne.symm ne_ed_lb
  have ne_x0__lb : x0_ ≠ lb := Nat.ne_of_lt (Nat.lt_of_lt_of_le E_x0_.lt sl5)
  have ne_lb_x0_ := Ne.symm ne_x0__lb
  have ne_x1__lb : x1_ ≠ lb := Nat.ne_of_lt (Nat.lt_of_lt_of_le E_x1_.lt sl5)
  have ne_lb_x1_ := Ne.symm ne_x1__lb
  have ne_ba_lb : ba ≠ lb := Nat.ne_of_lt (Nat.lt_of_lt_of_le V_ba.lt sl5)
  have ne_lb_ba := Ne.symm ne_ba_lb
  have E_xa := E_xa.ext Ex5
  have F_modCount_xa := F_modCount_xa.ext Ex5
  have F_elementData_xa := F_elementData_xa.ext Ex5
  have F_size_xa := F_size_xa.ext Ex5
  have V_ed := V_ed.ext Ex5
  have E_ed := E_ed.ext Ex5
  have E_x0_ := E_x0_.ext Ex5
  have E_x1_ := E_x1_.ext Ex5
  have V_ba := V_ba.ext Ex5
  have O0 := O0.ext Ex5
  have K0 := K0.ext Ex5
  have E_lb := r0_5
  have F_e0_lb := r1_5
  have F_e1_lb := r2_5
  refine Goes.to (T' := T5.setTop (mkF m 53 #[.val (.ref xa), .unset] [(.ref lb)])) st5 ?_
  obtain ⟨fs, hrL, hrun, hended, hW, hsame⟩ := X5.leave (v := some (.ref lb)) (fun h => by rw [Bd.returns] at h; cases h)
  subst hQf
  refine ⟨_, _, retOut X5 hx Bd.returns rfl (Or.inr (Or.inr (Or.inr (Or.inr ⟨rfl, rfl, rfl⟩)))) (hb hby d11_53) hrL, hrun, hended, _, _, rfl, ?_, ⟨_, rfl⟩, hW, hsame.mono (by decide) (by decide)⟩
  show Q_rmLc2 Z x0_ x1_ h0 n0 (some (.ref lb)) T5.heap _
  exact ⟨⟨lb, rfl, g_lb, sz_lb, E_lb, F_e0_lb, F_e1_lb⟩, N5, own_ext_keep K0⟩
def Q_rmCo2 (Z : State) (x0_ : Addr) (x1_ : Addr) (h0 : Heap) (n0 : Nat) (v : Option Value) (h : Heap) (L : List Loc) : Prop := (∃ (b : Addr), v = some (.ref b) ∧ n0 ≤ b ∧ h0.size ≤ b ∧ Exa Z h b "java/util/ImmutableCollections$List12" ∧ Fld Z h b "java/util/ImmutableCollections$List12" "e0" "Ljava/lang/Object;" (.ref x0_) ∧ Fld Z h b "java/util/ImmutableCollections$List12" "e1" "Ljava/lang/Object;" (.ref x1_)) ∧ Fr n0 L ∧ Ext h0 h
theorem rmCo2 (hw : HW a0 Z) (xa : Addr) (mc : Int32) (ed : Addr) (kd : ClassId) (x0_ : Addr) (x1_ : Addr) (h0 : Heap) (n0 : Nat) (O0 : Old Z n0 h0) (NF : Nar Z w3 w0 w2 w1 w4 k_w3 k_w0 k_w1 z_cs w5) (E_xa : Exa Z h0 xa "java/util/ArrayList") (F_modCount_xa : Fld Z h0 xa "java/util/AbstractList" "modCount" "I" (.int mc)) (F_elementData_xa : Fld Z h0 xa "java/util/ArrayList" "elementData" "[Ljava/lang/Object;" (.ref ed)) (F_size_xa : Fld Z h0 xa "java/util/ArrayList" "size" "I" (.int (2 : Int32))) (V_ed : Arv Z h0 ed kd (.object "java/lang/Object") (10 : Int32) [(.ref x0_), (.ref x1_), .null, .null, .null, .null, .null, .null, .null, .null] .null) (E_ed : Exa Z h0 ed "[Ljava/lang/Object;") (E_x0_ : Exa Z h0 x0_ "java/lang/String") (E_x1_ : Exa Z h0 x1_ "java/lang/String") :
    Con l Z (⟨"java/util/List", "copyOf", "(Ljava/util/Collection;)Ljava/util/List;"⟩ : MethodName) jdk_40_method_48_code 1 (some (.object "java/util/List")) ws ({ frames := 7, cells := 2, slots := 5, locals := 154 } : Room) #[(.ref xa)] h0 (Q_rmCo2 Z x0_ x1_ h0 n0) := by
  refine Con.body (own := "java/util/List") rfl (plainFor_of_name pn_10) (fun m => ef_rmAC m _) ?_
  intro p e s m below meth c s₁ Bd hx hby hml hZ hown X0 e0 Qf hQf
  have N0 := Fr.nil n0
  have K0 := Keep.refl h0 []
  obtain ⟨S_w3, E_w3, S_w0, E_w0, S_w2, E_w2, F_elements_w2, E_w1, S_w4, E_w4, F_allowNulls_w2, S_w_ImmutableCollections__assertionsDisabled, V_w3, V_w0, V_w1, S_cs, nz_cs, M_OA⟩ := id NF
  refine Goes.to (T' := s₁.setTop (mkF m 1 #[.val (.ref xa)] [(.ref xa)])) (fun t k => XS.aloadN X0.here hx rfl (hb hby d10_0) rfl rfl k) ?_
  obtain ⟨_, _, ⟨T1, L1, k1, n1⟩, -, X1, ⟨Lc1, hQ1, l1, y1, z1⟩, st1⟩ := Jvm.LawKit.callS X0 hx (y := (⟨"java/util/ImmutableCollections", "listCopy", "(Ljava/util/Collection;)Ljava/util/List;"⟩ : MethodName)) hown (mvT hZ (wi hw 72 rfl)) (mvT hZ (wi hw 73 rfl)) (mvT hZ (wi hw 74 rfl)) (mvT hZ (wi hw 75 rfl)) (by decide) (backOf (W := 0) (rmLc2 hw xa mc ed kd x0_ x1_ h0 n0 O0 NF E_xa F_modCount_xa F_elementData_xa F_size_xa V_ed E_ed E_x0_ E_x1_) hZ (wi hw 75 rfl) (wi hw 74 rfl) (by decide) (by decide)) (g := (mkF m 1 #[.val (.ref xa)] [(.ref xa)])) rfl (by rw [hml]; rfl) (argsL := [(.ref xa)]) (rest := []) (lenOf pd_202 rfl) rfl (by show 2 * 0 + _ ≤ _; exact Nat.le_of_eq rfl) (hb hby d10_1) (fun _ _ => ⟨rfl, e0, (by decide : 0 + 2 ≤ _), (by decide : 0 + 5 ≤ _)⟩)
  dsimp only [Pt.U, Pt.locs, Pt.cells, Pt.slots] at X1 l1 y1 z1 st1 hQ1
  subst l1 y1 z1
  obtain ⟨⟨lb, rfl, gl1, sl1, r0_1, r1_1, r2_1⟩, Nq1, Ex1⟩ := hQ1
  have N1 := Fr.app N0 Nq1
  have g_lb : n0 ≤ lb := gl1
  have sz_lb : h0.size ≤ lb := Nat.le_trans K0.1 sl1
  have ne_xa_lb : xa ≠ lb := Nat.ne_of_lt (Nat.lt_of_lt_of_le E_xa.lt sl1)
  have ne_lb_xa := Ne.symm ne_xa_lb
  have ne_ed_lb : ed ≠ lb := Nat.ne_of_lt (Nat.lt_of_lt_of_le V_ed.lt sl1)
  have ne_lb_ed := Ne.symm ne_ed_lb
  have ne_x0__lb : x0_ ≠ lb := Nat.ne_of_lt (Nat.lt_of_lt_of_le E_x0_.lt sl1)
  have ne_lb_x0_ := Ne.symm ne_x0__lb
  have ne_x1__lb : x1_ ≠ lb := Nat.ne_of_lt (Nat.lt_of_lt_of_le E_x1_.lt sl1)
  have ne_lb_x1_ := Ne.symm ne_x1__lb
  have E_xa := E_xa.ext Ex1
  have F_modCount_xa := F_modCount_xa.ext Ex1
  have F_elementData_xa := F_elementData_xa.ext Ex1
  have F_size_xa := F_size_xa.ext Ex1
  have V_ed := V_ed.ext Ex1
  have E_ed := E_ed.ext Ex1
  have E_x0_ := E_x0_.ext Ex1
  have E_x1_ := E_x1_.ext Ex1
  have O0 := O0.ext Ex1
  have K0 := K0.ext Ex1
  have E_lb := r0_1
  have F_e0_lb := r1_1
  have F_e1_lb := r2_1
  refine Goes.to (T' := T1.setTop (mkF m 4 #[.val (.ref xa)] [(.ref lb)])) st1 ?_
  obtain ⟨fs, hrL, hrun, hended, hW, hsame⟩ := X1.leave (v := some (.ref lb)) (fun h => by rw [Bd.returns] at h; cases h)
  subst hQf
  refine ⟨_, _, retOut X1 hx Bd.returns rfl (Or.inr (Or.inr (Or.inr (Or.inr ⟨rfl, rfl, rfl⟩)))) (hb hby d10_4) hrL, hrun, hended, _, _, rfl, ?_, ⟨_, rfl⟩, hW, hsame.mono (by decide) (by decide)⟩
  show Q_rmCo2 Z x0_ x1_ h0 n0 (some (.ref lb)) T1.heap _
  exact ⟨⟨lb, rfl, g_lb, sz_lb, E_lb, F_e0_lb, F_e1_lb⟩, N1, own_ext_keep K0⟩
def Q_rmC3_3 (Z : State) (x0_ : Addr) (x1_ : Addr) (x2_ : Addr) (h0 : Heap) (n0 : Nat) (v : Option Value) (h : Heap) (L : List Loc) : Prop := (∃ (b : Addr) (kb : ClassId), v = some (.ref b) ∧ n0 ≤ b ∧ h0.size ≤ b ∧ Arv Z h b kb (.object "java/lang/Object") (3 : Int32) [(.ref x0_), (.ref x1_), (.ref x2_)] .null) ∧ Fr n0 L ∧ Ext h0 h
theorem rmC3_3 (hw : HW a0 Z) (ed : Addr) (kd : ClassId) (x0_ : Addr) (x1_ : Addr) (x2_ : Addr) (h0 : Heap) (n0 : Nat) (O0 : Old Z n0 h0) (NF : Nar Z w3 w0 w2 w1 w4 k_w3 k_w0 k_w1 z_cs w5) (V_ed : Arv Z h0 ed kd (.object "java/lang/Object") (10 : Int32) [(.ref x0_), (.ref x1_), (.ref x2_), .null, .null, .null, .null, .null, .null, .null] .null) (E_ed : Exa Z h0 ed "[Ljava/lang/Object;") (E_x0_ : Exa Z h0 x0_ "java/lang/String") (E_x1_ : Exa Z h0 x1_ "java/lang/String") (E_x2_ : Exa Z h0 x2_ "java/lang/String") :
    Con l Z (⟨"java/util/Arrays", "copyOf", "([Ljava/lang/Object;ILjava/lang/Class;)[Ljava/lang/Object;"⟩ : MethodName) jdk_65_method_120_code 4 (some (.array (.object "java/lang/Object"))) ws ({ frames := 1, cells := 1, slots := 3, locals := 96 } : Room) #[(.ref ed), (.int (3 : Int32)), (.ref w5)] h0 (Q_rmC3_3 Z x0_ x1_ x2_ h0 n0) := by
  refine Con.body (own := "java/util/Arrays") rfl (plainFor_of_name pn_27) (fun m => ef_rmC3_1 m _ _ _) ?_
  intro p e s m below meth c s₁ Bd hx hby hml hZ hown X0 e0 Qf hQf
  have N0 := Fr.nil n0
  have K0 := Keep.refl h0 []
  obtain ⟨S_w3, E_w3, S_w0, E_w0, S_w2, E_w2, F_elements_w2, E_w1, S_w4, E_w4, F_allowNulls_w2, S_w_ImmutableCollections__assertionsDisabled, V_w3, V_w0, V_w1, S_cs, nz_cs, M_OA⟩ := id NF
  refine Goes.to (T' := s₁.setTop (mkF m 1 #[.val (.ref ed), .val (.int (3 : Int32)), .val (.ref w5), .unset] [(.ref w5)])) (fun t k => XS.aloadN X0.here hx rfl (hb hby d27_0) rfl rfl k) ?_
  obtain ⟨T1, X1, e1, st1⟩ := own_ldcM X0 hx hZ hown (wi hw 186 rfl) e0 M_OA (g := (mkF m 1 #[.val (.ref ed), .val (.int (3 : Int32)), .val (.ref w5), .unset] [(.ref w5)])) rfl (hb hby d27_1)
  refine Goes.to (T' := T1.setTop (mkF m 3 #[.val (.ref ed), .val (.int (3 : Int32)), .val (.ref w5), .unset] [(.ref w5), (.ref w5)])) st1 ?_
  refine Goes.to (T' := T1.setTop (mkF m 6 #[.val (.ref ed), .val (.int (3 : Int32)), .val (.ref w5), .unset] [])) (fun t k => Jvm.RoadKit.acmp (g := (mkF m 3 #[.val (.ref ed), .val (.int (3 : Int32)), .val (.ref w5), .unset] [(.ref w5), (.ref w5)])) X1 hx rfl rfl rfl (pc0 := 3) (pc' := 6) (same := true) rfl (hb hby d27_3) rfl (decide_eq_true rfl) (by decide) (by decide) k) ?_
  refine Goes.to (T' := T1.setTop (mkF m 7 #[.val (.ref ed), .val (.int (3 : Int32)), .val (.ref w5), .unset] [(.int (3 : Int32))])) (fun t k => XS.iloadN X1.here hx rfl (hb hby d27_6) rfl k) ?_
  obtain ⟨T2, h2, k2, X2, e2, E2, A2, Ea2, O2, st2⟩ := newRE X1 hx hZ hown (wi hw 187 rfl) (wi hw 126 rfl) e1 (g := (mkF m 7 #[.val (.ref ed), .val (.int (3 : Int32)), .val (.ref w5), .unset] [(.int (3 : Int32))])) rfl (hb hby d27_7) rfl (by decide) (cap := 3) (by decide) (by decide) (by decide) (by decide) (ad := "[Ljava/lang/Object;") (by decide +kernel)
  obtain ⟨b2, g2⟩ : ∃ z, z = h0.size := ⟨_, rfl⟩
  rw [← g2] at A2 Ea2 st2
  have g_b2 : n0 ≤ b2 := Nat.le_trans (own_old O0) (Nat.le_of_eq g2.symm)
  have sz_b2 : h0.size ≤ b2 := Nat.le_trans K0.1 (Nat.le_of_eq g2.symm)
  have ne_ed_b2 : ed ≠ b2 := Nat.ne_of_lt (Nat.lt_of_lt_of_le V_ed.lt (Nat.le_of_eq g2.symm))
  have ne_b2_ed := Ne.symm ne_ed_b2
  have ne_x0__b2 : x0_ ≠ b2 := Nat.ne_of_lt (Nat.lt_of_lt_of_le E_x0_.lt (Nat.le_of_eq g2.symm))
  have ne_b2_x0_ := Ne.symm ne_x0__b2
  have ne_x1__b2 : x1_ ≠ b2 := Nat.ne_of_lt (Nat.lt_of_lt_of_le E_x1_.lt (Nat.le_of_eq g2.symm))
  have ne_b2_x1_ := Ne.symm ne_x1__b2
  have ne_x2__b2 : x2_ ≠ b2 := Nat.ne_of_lt (Nat.lt_of_lt_of_le E_x2_.lt (Nat.le_of_eq g2.symm))
  have ne_b2_x2_ := Ne.symm ne_x2__b2
  have V_ed := V_ed.ext E2
  have E_ed := E_ed.ext E2
  have E_x0_ := E_x0_.ext E2
  have E_x1_ := E_x1_.ext E2
  have E_x2_ := E_x2_.ext E2
  have O0 := O0.ext E2
  have K0 := K0.ext E2
  have V_b2 : Arv Z h2 b2 k2 (.object "java/lang/Object") (3 : Int32) [.null, .null, .null] .null := (Arv.new A2 (by decide)).pad (pad_rep [] .null 3)
  have E_b2 := Ea2
  have Ov_b2 := O2
  refine Goes.to (T' := T2.setTop (mkF m 10 #[.val (.ref ed), .val (.int (3 : Int32)), .val (.ref w5), .unset] [(.ref b2)])) st2 ?_
  refine Goes.to (T' := T2.setTop (mkF m 24 #[.val (.ref ed), .val (.int (3 : Int32)), .val (.ref w5), .unset] [(.ref b2)])) (fun t k => XS.goto X2.here hx rfl (pc0 := 10) (pc' := 24) rfl (hb hby d27_10) (by decide) (by decide) k) ?_
  refine Goes.to (T' := T2.setTop (mkF m 25 #[.val (.ref ed), .val (.int (3 : Int32)), .val (.ref w5), .val (.ref b2)] [])) (fun t k => XS.astoreN X2.here hx rfl (hb hby d27_24) rfl rfl (l' := #[.val (.ref ed), .val (.int (3 : Int32)), .val (.ref w5), .val (.ref b2)]) rfl k) ?_
  refine Goes.to (T' := T2.setTop (mkF m 26 #[.val (.ref ed), .val (.int (3 : Int32)), .val (.ref w5), .val (.ref b2)] [(.ref ed)])) (fun t k => XS.aloadN X2.here hx rfl (hb hby d27_25) rfl rfl k) ?_
  refine Goes.to (T' := T2.setTop (mkF m 27 #[.val (.ref ed), .val (.int (3 : Int32)), .val (.ref w5), .val (.ref b2)] [(.int (0 : Int32)), (.ref ed)])) (fun t k => XS.iconst X2.here hx rfl (hb hby d27_26) k) ?_
  refine Goes.to (T' := T2.setTop (mkF m 28 #[.val (.ref ed), .val (.int (3 : Int32)), .val (.ref w5), .val (.ref b2)] [(.ref b2), (.int (0 : Int32)), (.ref ed)])) (fun t k => XS.aloadN X2.here hx rfl (hb hby d27_27) rfl rfl k) ?_
  refine Goes.to (T' := T2.setTop (mkF m 29 #[.val (.ref ed), .val (.int (3 : Int32)), .val (.ref w5), .val (.ref b2)] [(.int (0 : Int32)), (.ref b2), (.int (0 : Int32)), (.ref ed)])) (fun t k => XS.iconst X2.here hx rfl (hb hby d27_28) k) ?_
  refine Goes.to (T' := T2.setTop (mkF m 30 #[.val (.ref ed), .val (.int (3 : Int32)), .val (.ref w5), .val (.ref b2)] [(.ref ed), (.int (0 : Int32)), (.ref b2), (.int (0 : Int32)), (.ref ed)])) (fun t k => XS.aloadN X2.here hx rfl (hb hby d27_29) rfl rfl k) ?_
  obtain ⟨cl3, Ar3, q3, S3, Ng3, H3, G3⟩ := id V_ed
  refine Goes.to (T' := T2.setTop (mkF m 31 #[.val (.ref ed), .val (.int (3 : Int32)), .val (.ref w5), .val (.ref b2)] [(.int (10 : Int32)), (.int (0 : Int32)), (.ref b2), (.int (0 : Int32)), (.ref ed)])) (fun t k => X2.arraylength hx (by rw [e2]; exact Ar3.1) (State.isArrayOf_alike hZ.alike Ar3.2.1) (g := (mkF m 30 #[.val (.ref ed), .val (.int (3 : Int32)), .val (.ref w5), .val (.ref b2)] [(.ref ed), (.int (0 : Int32)), (.ref b2), (.int (0 : Int32)), (.ref ed)])) rfl rfl (hb hby d27_30) _ (by rw [len_of S3 Ng3]; exact k)) ?_
  refine Goes.to (T' := T2.setTop (mkF m 32 #[.val (.ref ed), .val (.int (3 : Int32)), .val (.ref w5), .val (.ref b2)] [(.int (3 : Int32)), (.int (10 : Int32)), (.int (0 : Int32)), (.ref b2), (.int (0 : Int32)), (.ref ed)])) (fun t k => XS.iloadN X2.here hx rfl (hb hby d27_31) rfl k) ?_
  obtain ⟨_, _, ⟨T4, L4, k4, n4⟩, -, X4, ⟨Lc4, hQ4, l4, y4, z4⟩, st4⟩ := Jvm.LawKit.callS X2 hx (y := (⟨"java/lang/Math", "min", "(II)I"⟩ : MethodName)) hown (mvT hZ (wi hw 188 rfl)) (mvT hZ (wi hw 189 rfl)) (mvT hZ (wi hw 123 rfl)) (mvT hZ (wi hw 190 rfl)) (by decide) (backOf (W := 4) (rmMn3 hw   h2 n0 O0 NF ) hZ (wi hw 190 rfl) (wi hw 123 rfl) (by decide) (by decide)) (g := (mkF m 32 #[.val (.ref ed), .val (.int (3 : Int32)), .val (.ref w5), .val (.ref b2)] [(.int (3 : Int32)), (.int (10 : Int32)), (.int (0 : Int32)), (.ref b2), (.int (0 : Int32)), (.ref ed)])) rfl (by rw [hml]; rfl) (argsL := [(.int (10 : Int32)), (.int (3 : Int32))]) (rest := [(.int (0 : Int32)), (.ref b2), (.int (0 : Int32)), (.ref ed)]) (lenOf pd_42 rfl) rfl (by show 2 * 0 + _ ≤ _; exact Nat.le_of_eq rfl) (hb hby d27_32) (fun _ _ => ⟨rfl, e2, (by decide : 1 + 0 ≤ _), (by decide : 3 + 0 ≤ _)⟩)
  dsimp only [Pt.U, Pt.locs, Pt.cells, Pt.slots] at X4 l4 y4 z4 st4 hQ4
  subst l4 y4 z4
  obtain ⟨rfl, Nq4, e4⟩ := hQ4
  have N4 := Fr.app N0 Nq4
  refine Goes.to (T' := T4.setTop (mkF m 35 #[.val (.ref ed), .val (.int (3 : Int32)), .val (.ref w5), .val (.ref b2)] [(.int (3 : Int32)), (.int (0 : Int32)), (.ref b2), (.int (0 : Int32)), (.ref ed)])) st4 ?_
  obtain ⟨clB5, ArB5, qB5, -⟩ := id V_b2
  obtain ⟨T5, h5, L5, X5, e5, N5, K5, V5, st5⟩ := cpA X4 hx hZ hown (wi hw 191 rfl) (wi hw 194 rfl) (wi hw 192 rfl) (wi hw 193 rfl) e4 V_ed V_b2 (us := [(.ref x0_), (.ref x1_), (.ref x2_)]) (Or.inr ⟨rfl, rfl, ⟨Sto.ofV ArB5 qB5 Ov_b2 (Ins.of_exa E_x0_ (wi hw 127 rfl)), ⟨Sto.ofV ArB5 qB5 Ov_b2 (Ins.of_exa E_x1_ (wi hw 127 rfl)), ⟨Sto.ofV ArB5 qB5 Ov_b2 (Ins.of_exa E_x2_ (wi hw 127 rfl)), trivial⟩⟩⟩⟩) (sp := 0) (dp := 0) (nn := 3) (by decide) (by decide) (by decide) (by decide) (by decide) rfl (by decide) N4 g_b2 (g := (mkF m 35 #[.val (.ref ed), .val (.int (3 : Int32)), .val (.ref w5), .val (.ref b2)] [(.int (3 : Int32)), (.int (0 : Int32)), (.ref b2), (.int (0 : Int32)), (.ref ed)])) rfl (by rw [hml]; rfl) rfl (hb hby d27_35) (by decide) (W := 0) (by show 2 * 0 + _ ≤ _; exact Nat.le_of_eq rfl) (by decide)
  have V_ed := V_ed.keep K5 (ninS (ne_ed_b2) nin0)
  have E_ed := E_ed.keep K5
  have E_x0_ := E_x0_.keep K5
  have E_x1_ := E_x1_.keep K5
  have E_x2_ := E_x2_.keep K5
  have E_b2 := E_b2.keep K5
  have O0 := O0.keep K5 (allS g_b2 all0)
  have K0 := K0.trans K5 (allS (Or.inr sz_b2) all0)
  have V_b2 : Arv Z h5 b2 k2 (.object "java/lang/Object") (3 : Int32) [(.ref x0_), (.ref x1_), (.ref x2_)] .null := V5
  refine Goes.to (T' := T5.setTop (mkF m 38 #[.val (.ref ed), .val (.int (3 : Int32)), .val (.ref w5), .val (.ref b2)] [])) st5 ?_
  refine Goes.to (T' := T5.setTop (mkF m 39 #[.val (.ref ed), .val (.int (3 : Int32)), .val (.ref w5), .val (.ref b2)] [(.ref b2)])) (fun t k => XS.aloadN X5.here hx rfl (hb hby d27_38) rfl rfl k) ?_
  obtain ⟨fs, hrL, hrun, hended, hW, hsame⟩ := X5.leave (v := some (.ref b2)) (fun h => by rw [Bd.returns] at h; cases h)
  subst hQf
  refine ⟨_, _, retOut X5 hx Bd.returns rfl (Or.inr (Or.inr (Or.inr (Or.inr ⟨rfl, rfl, rfl⟩)))) (hb hby d27_39) hrL, hrun, hended, _, _, rfl, ?_, ⟨_, rfl⟩, hW, hsame.mono (by decide) (by decide)⟩
  show Q_rmC3_3 Z x0_ x1_ x2_ h0 n0 (some (.ref b2)) T5.heap _
  rw [e5]
  exact ⟨⟨b2, _, rfl, g_b2, sz_b2, V_b2⟩, N5, own_ext_keep K0⟩
def Q_rmC2_3 (Z : State) (x0_ : Addr) (x1_ : Addr) (x2_ : Addr) (h0 : Heap) (n0 : Nat) (v : Option Value) (h : Heap) (L : List Loc) : Prop := (∃ (b : Addr) (kb : ClassId), v = some (.ref b) ∧ n0 ≤ b ∧ h0.size ≤ b ∧ Arv Z h b kb (.object "java/lang/Object") (3 : Int32) [(.ref x0_), (.ref x1_), (.ref x2_)] .null) ∧ Fr n0 L ∧ Ext h0 h
theorem rmC2_3 (hw : HW a0 Z) (ed : Addr) (kd : ClassId) (x0_ : Addr) (x1_ : Addr) (x2_ : Addr) (h0 : Heap) (n0 : Nat) (O0 : Old Z n0 h0) (NF : Nar Z w3 w0 w2 w1 w4 k_w3 k_w0 k_w1 z_cs w5) (V_ed : Arv Z h0 ed kd (.object "java/lang/Object") (10 : Int32) [(.ref x0_), (.ref x1_), (.ref x2_), .null, .null, .null, .null, .null, .null, .null] .null) (E_ed : Exa Z h0 ed "[Ljava/lang/Object;") (E_x0_ : Exa Z h0 x0_ "java/lang/String") (E_x1_ : Exa Z h0 x1_ "java/lang/String") (E_x2_ : Exa Z h0 x2_ "java/lang/String") :
    Con l Z (⟨"java/util/Arrays", "copyOf", "([Ljava/lang/Object;I)[Ljava/lang/Object;"⟩ : MethodName) jdk_65_method_119_code 2 (some (.array (.object "java/lang/Object"))) ws ({ frames := 2, cells := 1, slots := 3, locals := 112 } : Room) #[(.ref ed), (.int (3 : Int32))] h0 (Q_rmC2_3 Z x0_ x1_ x2_ h0 n0) := by
  refine Con.body (own := "java/util/Arrays") rfl (plainFor_of_name pn_26) (fun m => ef_rmC2_1 m _ _) ?_
  intro p e s m below meth c s₁ Bd hx hby hml hZ hown X0 e0 Qf hQf
  have N0 := Fr.nil n0
  have K0 := Keep.refl h0 []
  obtain ⟨S_w3, E_w3, S_w0, E_w0, S_w2, E_w2, F_elements_w2, E_w1, S_w4, E_w4, F_allowNulls_w2, S_w_ImmutableCollections__assertionsDisabled, V_w3, V_w0, V_w1, S_cs, nz_cs, M_OA⟩ := id NF
  refine Goes.to (T' := s₁.setTop (mkF m 1 #[.val (.ref ed), .val (.int (3 : Int32))] [(.ref ed)])) (fun t k => XS.aloadN X0.here hx rfl (hb hby d26_0) rfl rfl k) ?_
  refine Goes.to (T' := s₁.setTop (mkF m 2 #[.val (.ref ed), .val (.int (3 : Int32))] [(.int (3 : Int32)), (.ref ed)])) (fun t k => XS.iloadN X0.here hx rfl (hb hby d26_1) rfl k) ?_
  refine Goes.to (T' := s₁.setTop (mkF m 3 #[.val (.ref ed), .val (.int (3 : Int32))] [(.ref ed), (.int (3 : Int32)), (.ref ed)])) (fun t k => XS.aloadN X0.here hx rfl (hb hby d26_2) rfl rfl k) ?_
  obtain ⟨T1, X1, e1, st1⟩ := own_gcls X0 hx hZ hown (wi hw 177 rfl) (wi hw 178 rfl) (wi hw 80 rfl) (wi hw 180 rfl) (wi hw 179 rfl) (wi hw 181 rfl) e0 E_ed M_OA (g := (mkF m 3 #[.val (.ref ed), .val (.int (3 : Int32))] [(.ref ed), (.int (3 : Int32)), (.ref ed)])) rfl (by rw [hml]; rfl) rfl (hb hby d26_3) (by decide) (W := 2) (by show 2 * 0 + _ ≤ _; exact Nat.le_of_eq rfl) (by decide)
  refine Goes.to (T' := T1.setTop (mkF m 6 #[.val (.ref ed), .val (.int (3 : Int32))] [(.ref w5), (.int (3 : Int32)), (.ref ed)])) st1 ?_
  obtain ⟨_, _, ⟨T2, L2, k2, n2⟩, -, X2, ⟨Lc2, hQ2, l2, y2, z2⟩, st2⟩ := Jvm.LawKit.callS X1 hx (y := (⟨"java/util/Arrays", "copyOf", "([Ljava/lang/Object;ILjava/lang/Class;)[Ljava/lang/Object;"⟩ : MethodName)) hown (mvT hZ (wi hw 183 rfl)) (mvT hZ (wi hw 184 rfl)) (mvT hZ (wi hw 175 rfl)) (mvT hZ (wi hw 185 rfl)) (by decide) (backOf (W := 0) (rmC3_3 hw ed kd x0_ x1_ x2_ h0 n0 O0 NF V_ed E_ed E_x0_ E_x1_ E_x2_) hZ (wi hw 185 rfl) (wi hw 175 rfl) (by decide) (by decide)) (g := (mkF m 6 #[.val (.ref ed), .val (.int (3 : Int32))] [(.ref w5), (.int (3 : Int32)), (.ref ed)])) rfl (by rw [hml]; rfl) (argsL := [(.ref ed), (.int (3 : Int32)), (.ref w5)]) (rest := []) (lenOf pd_139 rfl) rfl (by show 2 * 0 + _ ≤ _; exact Nat.le_of_eq rfl) (hb hby d26_6) (fun _ _ => ⟨rfl, e1, (by decide : 0 + 1 ≤ _), (by decide : 0 + 3 ≤ _)⟩)
  dsimp only [Pt.U, Pt.locs, Pt.cells, Pt.slots] at X2 l2 y2 z2 st2 hQ2
  subst l2 y2 z2
  obtain ⟨⟨ba, kb, rfl, gb2, sb2, V2⟩, Nq2, Ex2⟩ := hQ2
  have N2 := Fr.app N0 Nq2
  have g_ba : n0 ≤ ba := gb2
  have sz_ba : h0.size ≤ ba := Nat.le_trans K0.1 sb2
  have ne_ed_ba : ed ≠ ba := Nat.ne_of_lt (Nat.lt_of_lt_of_le V_ed.lt sb2)
  have ne_ba_ed := Ne.symm ne_ed_ba
  have ne_x0__ba : x0_ ≠ ba := Nat.ne_of_lt (Nat.lt_of_lt_of_le E_x0_.lt sb2)
  have ne_ba_x0_ := Ne.symm ne_x0__ba
  have ne_x1__ba : x1_ ≠ ba := Nat.ne_of_lt (Nat.lt_of_lt_of_le E_x1_.lt sb2)
  have ne_ba_x1_ := Ne.symm ne_x1__ba
  have ne_x2__ba : x2_ ≠ ba := Nat.ne_of_lt (Nat.lt_of_lt_of_le E_x2_.lt sb2)
  have ne_ba_x2_ := Ne.symm ne_x2__ba
  have V_ed := V_ed.ext Ex2
  have E_ed := E_ed.ext Ex2
  have E_x0_ := E_x0_.ext Ex2
  have E_x1_ := E_x1_.ext Ex2
  have E_x2_ := E_x2_.ext Ex2
  have O0 := O0.ext Ex2
  have K0 := K0.ext Ex2
  have V_ba := V2
  refine Goes.to (T' := T2.setTop (mkF m 9 #[.val (.ref ed), .val (.int (3 : Int32))] [(.ref ba)])) st2 ?_
  obtain ⟨fs, hrL, hrun, hended, hW, hsame⟩ := X2.leave (v := some (.ref ba)) (fun h => by rw [Bd.returns] at h; cases h)
  subst hQf
  refine ⟨_, _, retOut X2 hx Bd.returns rfl (Or.inr (Or.inr (Or.inr (Or.inr ⟨rfl, rfl, rfl⟩)))) (hb hby d26_9) hrL, hrun, hended, _, _, rfl, ?_, ⟨_, rfl⟩, hW, hsame.mono (by decide) (by decide)⟩
  show Q_rmC2_3 Z x0_ x1_ x2_ h0 n0 (some (.ref ba)) T2.heap _
  exact ⟨⟨ba, _, rfl, g_ba, sz_ba, V_ba⟩, N2, own_ext_keep K0⟩
def Q_rmTA3 (Z : State) (x0_ : Addr) (x1_ : Addr) (x2_ : Addr) (h0 : Heap) (n0 : Nat) (v : Option Value) (h : Heap) (L : List Loc) : Prop := (∃ (b : Addr) (kb : ClassId), v = some (.ref b) ∧ n0 ≤ b ∧ h0.size ≤ b ∧ Arv Z h b kb (.object "java/lang/Object") (3 : Int32) [(.ref x0_), (.ref x1_), (.ref x2_)] .null) ∧ Fr n0 L ∧ Ext h0 h
theorem rmTA3 (hw : HW a0 Z) (xa : Addr) (mc : Int32) (ed : Addr) (kd : ClassId) (x0_ : Addr) (x1_ : Addr) (x2_ : Addr) (h0 : Heap) (n0 : Nat) (O0 : Old Z n0 h0) (NF : Nar Z w3 w0 w2 w1 w4 k_w3 k_w0 k_w1 z_cs w5) (E_xa : Exa Z h0 xa "java/util/ArrayList") (F_modCount_xa : Fld Z h0 xa "java/util/AbstractList" "modCount" "I" (.int mc)) (F_elementData_xa : Fld Z h0 xa "java/util/ArrayList" "elementData" "[Ljava/lang/Object;" (.ref ed)) (F_size_xa : Fld Z h0 xa "java/util/ArrayList" "size" "I" (.int (3 : Int32))) (V_ed : Arv Z h0 ed kd (.object "java/lang/Object") (10 : Int32) [(.ref x0_), (.ref x1_), (.ref x2_), .null, .null, .null, .null, .null, .null, .null] .null) (E_ed : Exa Z h0 ed "[Ljava/lang/Object;") (E_x0_ : Exa Z h0 x0_ "java/lang/String") (E_x1_ : Exa Z h0 x1_ "java/lang/String") (E_x2_ : Exa Z h0 x2_ "java/lang/String") :
    Con l Z (⟨"java/util/ArrayList", "toArray", "()[Ljava/lang/Object;"⟩ : MethodName) jdk_38_method_16_code 1 (some (.array (.object "java/lang/Object"))) ws ({ frames := 3, cells := 1, slots := 3, locals := 126 } : Room) #[(.ref xa)] h0 (Q_rmTA3 Z x0_ x1_ x2_ h0 n0) := by
  refine Con.body (own := "java/util/ArrayList") rfl (plainFor_of_name pn_25) (fun m => ef_rmAC m _) ?_
  intro p e s m below meth c s₁ Bd hx hby hml hZ hown X0 e0 Qf hQf
  have N0 := Fr.nil n0
  have K0 := Keep.refl h0 []
  obtain ⟨S_w3, E_w3, S_w0, E_w0, S_w2, E_w2, F_elements_w2, E_w1, S_w4, E_w4, F_allowNulls_w2, S_w_ImmutableCollections__assertionsDisabled, V_w3, V_w0, V_w1, S_cs, nz_cs, M_OA⟩ := id NF
  refine Goes.to (T' := s₁.setTop (mkF m 1 #[.val (.ref xa)] [(.ref xa)])) (fun t k => XS.aloadN X0.here hx rfl (hb hby d25_0) rfl rfl k) ?_
  obtain ⟨T1, X1, e1, st1⟩ := getF X0 hx hZ hown (host := "") (Or.inl (wi hw 48 rfl)) Via.refl e0 F_elementData_xa (g := (mkF m 1 #[.val (.ref xa)] [(.ref xa)])) rfl rfl (hb hby d25_1)
  refine Goes.to (T' := T1.setTop (mkF m 4 #[.val (.ref xa)] [(.ref ed)])) st1 ?_
  refine Goes.to (T' := T1.setTop (mkF m 5 #[.val (.ref xa)] [(.ref xa), (.ref ed)])) (fun t k => XS.aloadN X1.here hx rfl (hb hby d25_4) rfl rfl k) ?_
  obtain ⟨T2, X2, e2, st2⟩ := getF X1 hx hZ hown (host := "") (Or.inl (wi hw 91 rfl)) Via.refl e1 F_size_xa (g := (mkF m 5 #[.val (.ref xa)] [(.ref xa), (.ref ed)])) rfl rfl (hb hby d25_5)
  refine Goes.to (T' := T2.setTop (mkF m 8 #[.val (.ref xa)] [(.int (3 : Int32)), (.ref ed)])) st2 ?_
  obtain ⟨_, _, ⟨T3, L3, k3, n3⟩, -, X3, ⟨Lc3, hQ3, l3, y3, z3⟩, st3⟩ := Jvm.LawKit.callS X2 hx (y := (⟨"java/util/Arrays", "copyOf", "([Ljava/lang/Object;I)[Ljava/lang/Object;"⟩ : MethodName)) hown (mvT hZ (wi hw 173 rfl)) (mvT hZ (wi hw 174 rfl)) (mvT hZ (wi hw 175 rfl)) (mvT hZ (wi hw 176 rfl)) (by decide) (backOf (W := 0) (rmC2_3 hw ed kd x0_ x1_ x2_ h0 n0 O0 NF V_ed E_ed E_x0_ E_x1_ E_x2_) hZ (wi hw 176 rfl) (wi hw 175 rfl) (by decide) (by decide)) (g := (mkF m 8 #[.val (.ref xa)] [(.int (3 : Int32)), (.ref ed)])) rfl (by rw [hml]; rfl) (argsL := [(.ref ed), (.int (3 : Int32))]) (rest := []) (lenOf pd_148 rfl) rfl (by show 2 * 0 + _ ≤ _; exact Nat.le_of_eq rfl) (hb hby d25_8) (fun _ _ => ⟨rfl, e2, (by decide : 0 + 1 ≤ _), (by decide : 0 + 3 ≤ _)⟩)
  dsimp only [Pt.U, Pt.locs, Pt.cells, Pt.slots] at X3 l3 y3 z3 st3 hQ3
  subst l3 y3 z3
  obtain ⟨⟨ba, kb, rfl, gb3, sb3, V3⟩, Nq3, Ex3⟩ := hQ3
  have N3 := Fr.app N0 Nq3
  have g_ba : n0 ≤ ba := gb3
  have sz_ba : h0.size ≤ ba := Nat.le_trans K0.1 sb3
  have ne_xa_ba : xa ≠ ba := Nat.ne_of_lt (Nat.lt_of_lt_of_le E_xa.lt sb3)
  have ne_ba_xa := Ne.symm ne_xa_ba
  have ne_ed_ba : ed ≠ ba := Nat.ne_of_lt (Nat.lt_of_lt_of_le V_ed.lt sb3)
  have ne_ba_ed := Ne.symm ne_ed_ba
  have ne_x0__ba : x0_ ≠ ba := Nat.ne_of_lt (Nat.lt_of_lt_of_le E_x0_.lt sb3)
  have ne_ba_x0_ := Ne.symm ne_x0__ba
  have ne_x1__ba : x1_ ≠ ba := Nat.ne_of_lt (Nat.lt_of_lt_of_le E_x1_.lt sb3)
  have ne_ba_x1_ := Ne.symm ne_x1__ba
  have ne_x2__ba : x2_ ≠ ba := Nat.ne_of_lt (Nat.lt_of_lt_of_le E_x2_.lt sb3)
  have ne_ba_x2_ := Ne.symm ne_x2__ba
  have E_xa := E_xa.ext Ex3
  have F_modCount_xa := F_modCount_xa.ext Ex3
  have F_elementData_xa := F_elementData_xa.ext Ex3
  have F_size_xa := F_size_xa.ext Ex3
  have V_ed := V_ed.ext Ex3
  have E_ed := E_ed.ext Ex3
  have E_x0_ := E_x0_.ext Ex3
  have E_x1_ := E_x1_.ext Ex3
  have E_x2_ := E_x2_.ext Ex3
  have O0 := O0.ext Ex3
  have K0 := K0.ext Ex3
  have V_ba := V3
  refine Goes.to (T' := T3.setTop (mkF m 11 #[.val (.ref xa)] [(.ref ba)])) st3 ?_
  obtain ⟨fs, hrL, hrun, hended, hW, hsame⟩ := X3.leave (v := some (.ref ba)) (fun h => by rw [Bd.returns] at h; cases h)
  subst hQf
  refine ⟨_, _, retOut X3 hx Bd.returns rfl (Or.inr (Or.inr (Or.inr (Or.inr ⟨rfl, rfl, rfl⟩)))) (hb hby d25_11) hrL, hrun, hended, _, _, rfl, ?_, ⟨_, rfl⟩, hW, hsame.mono (by decide) (by decide)⟩
  show Q_rmTA3 Z x0_ x1_ x2_ h0 n0 (some (.ref ba)) T3.heap _
  exact ⟨⟨ba, _, rfl, g_ba, sz_ba, V_ba⟩, N3, own_ext_keep K0⟩
theorem d32_0 : decode jdk_45_method_1_code 0 = .ok (.aload_n 0, 1) := by decide +kernel
theorem d32_1 : decode jdk_45_method_1_code 1 = .ok (.invokespecial 1, 3) := by decide +kernel
theorem d32_4 : decode jdk_45_method_1_code 4 = .ok (.aload_n 0, 1) := by decide +kernel
theorem d32_5 : decode jdk_45_method_1_code 5 = .ok (.aload_n 1, 1) := by decide +kernel
theorem d32_6 : decode jdk_45_method_1_code 6 = .ok (.putfield 7, 3) := by decide +kernel
theorem d32_9 : decode jdk_45_method_1_code 9 = .ok (.aload_n 0, 1) := by decide +kernel
theorem d32_10 : decode jdk_45_method_1_code 10 = .ok (.iload_n 2, 1) := by decide +kernel
theorem d32_11 : decode jdk_45_method_1_code 11 = .ok (.putfield 13, 3) := by decide +kernel
theorem d32_14 : decode jdk_45_method_1_code 14 = .ok (.return_, 1) := by decide +kernel
theorem pn_32 : plainName "java/util/ImmutableCollections$ListN" = true := by first | (simp [plainName, overriddenIn]; done) | decide +kernel
theorem ef_rmLN (m : MethodId) (x0 : Addr) (x1 : Addr) (x2 : Int32) : entryFrame m #[(.ref x0), (.ref x1), (.int x2)] 3 = mkF m 0 #[.val (.ref x0), .val (.ref x1), .val (.int x2)] [] := by first | (simp [entryFrame, mkF, argsToLocals, Value.category]; done) | rfl
def Q_rmLN (Z : State) (xa : Addr) (tb : Addr) (h0 : Heap) (n0 : Nat) (v : Option Value) (h : Heap) (L : List Loc) : Prop := v = none ∧ Fr n0 L ∧ Keep h0 h [xa] ∧ Exa Z h xa "java/util/ImmutableCollections$ListN" ∧ Fld Z h xa "java/util/ImmutableCollections$ListN" "elements" "[Ljava/lang/Object;" (.ref tb)
theorem rmLN (hw : HW a0 Z) (xa : Addr) (tb : Addr) (h0 : Heap) (n0 : Nat) (O0 : Old Z n0 h0) (NF : Nar Z w3 w0 w2 w1 w4 k_w3 k_w0 k_w1 z_cs w5) (E_xa : Exa Z h0 xa "java/util/ImmutableCollections$ListN") (F_elements_xa : Fld Z h0 xa "java/util/ImmutableCollections$ListN" "elements" "[Ljava/lang/Object;" .null) (F_allowNulls_xa : Fld Z h0 xa "java/util/ImmutableCollections$ListN" "allowNulls" "Z" (.int (0 : Int32))) (g_xa : n0 ≤ xa) :
    Con l Z (⟨"java/util/ImmutableCollections$ListN", "<init>", "([Ljava/lang/Object;Z)V"⟩ : MethodName) jdk_45_method_1_code 3 none ws ({ frames := 4, cells := 0, slots := 0, locals := 60 } : Room) #[(.ref xa), (.ref tb), (.int (0 : Int32))] h0 (Q_rmLN Z xa tb h0 n0) := by
  refine Con.body (own := "java/util/ImmutableCollections$ListN") rfl (plainFor_of_name pn_32) (fun m => ef_rmLN m _ _ _) ?_
  intro p e s m below meth c s₁ Bd hx hby hml hZ hown X0 e0 Qf hQf
  have N0 := Fr.nil n0
  have hnm := (name_of_methodNamed Bd.named Bd.method).1
  have K0 := Keep.refl h0 [xa]
  obtain ⟨S_w3, E_w3, S_w0, E_w0, S_w2, E_w2, F_elements_w2, E_w1, S_w4, E_w4, F_allowNulls_w2, S_w_ImmutableCollections__assertionsDisabled, V_w3, V_w0, V_w1, S_cs, nz_cs, M_OA⟩ := id NF
  refine Goes.to (T' := s₁.setTop (mkF m 1 #[.val (.ref xa), .val (.ref tb), .val (.int (0 : Int32))] [(.ref xa)])) (fun t k => XS.aloadN X0.here hx rfl (hb hby d32_0) rfl rfl k) ?_
  obtain ⟨_, _, ⟨T1, L1, k1, n1⟩, -, X1, ⟨Lc1, hQ1, l1, y1, z1⟩, st1⟩ := X0.specialBack hx (y := (⟨"java/util/ImmutableCollections$AbstractImmutableList", "<init>", "()V"⟩ : MethodName)) rfl hown (mvT hZ (wi hw 211 rfl)) (mvT hZ (wi hw 212 rfl)) (mvT hZ (wi hw 216 rfl)) (by decide) (backOf (W := 0) (rmAIL hw xa  h0 n0 O0 NF ) hZ (wi hw 216 rfl) (wi hw 215 rfl) (by decide) (by decide)) (g := (mkF m 1 #[.val (.ref xa), .val (.ref tb), .val (.int (0 : Int32))] [(.ref xa)])) rfl (by rw [hml]; rfl) (Steps.refl _) (a := xa) (argsL := []) (rest := []) (lenOf pd_5 rfl) rfl (by show 2 * 0 + _ ≤ _; exact Nat.le_of_eq rfl) (hb hby d32_1) (fun _ _ => ⟨rfl, e0, (by decide : 0 + 0 ≤ _), (by decide : 0 + 0 ≤ _)⟩)
  dsimp only [Pt.U, Pt.locs, Pt.cells, Pt.slots] at X1 l1 y1 z1 st1 hQ1
  subst l1 y1 z1
  obtain ⟨rfl, Nq1, e1⟩ := hQ1
  have N1 := Fr.app N0 Nq1
  refine Goes.thru (T' := T1.setTop (mkF m 4 #[.val (.ref xa), .val (.ref tb), .val (.int (0 : Int32))] [])) st1 ?_
  refine Goes.to (T' := T1.setTop (mkF m 5 #[.val (.ref xa), .val (.ref tb), .val (.int (0 : Int32))] [(.ref xa)])) (fun t k => XS.aloadN X1.here hx rfl (hb hby d32_4) rfl rfl k) ?_
  refine Goes.to (T' := T1.setTop (mkF m 6 #[.val (.ref xa), .val (.ref tb), .val (.int (0 : Int32))] [(.ref tb), (.ref xa)])) (fun t k => XS.aloadN X1.here hx rfl (hb hby d32_5) rfl rfl k) ?_
  obtain ⟨T2, h2, X2, e2, W2, st2⟩ := putF X1 hx hZ hown (host := "") (Or.inl (wi hw 163 rfl)) Via.refl e1 F_elements_xa E_xa (Or.inr ⟨(wi hw 164 rfl), rfl, hnm⟩) (wi hw 206 rfl) (ty := (.array (.object "java/lang/Object"))) (by decide) rfl rfl (g := (mkF m 6 #[.val (.ref xa), .val (.ref tb), .val (.int (0 : Int32))] [(.ref tb), (.ref xa)])) rfl rfl (hb hby d32_6)
  have F_elements_xa := F_elements_xa.same W2
  have E_xa := E_xa.wr W2
  have F_allowNulls_xa := F_allowNulls_xa.other W2 (Or.inr (slot_ne (Or.inr (wi hw 226 rfl)) (Or.inr (wi hw 164 rfl)) (by decide) (t := .boolean) (t' := (.array (.object "java/lang/Object"))) (by decide) (by decide)))
  have O0 := O0.wr W2 g_xa
  have K0 := K0.wr W2 (Or.inl (List.mem_of_getElem? (i := 0) rfl))
  have N2 := Fr.snoc X2 N1 g_xa
  refine Goes.to (T' := T2.setTop (mkF m 9 #[.val (.ref xa), .val (.ref tb), .val (.int (0 : Int32))] [])) st2 ?_
  refine Goes.to (T' := T2.setTop (mkF m 10 #[.val (.ref xa), .val (.ref tb), .val (.int (0 : Int32))] [(.ref xa)])) (fun t k => XS.aloadN X2.here hx rfl (hb hby d32_9) rfl rfl k) ?_
  refine Goes.to (T' := T2.setTop (mkF m 11 #[.val (.ref xa), .val (.ref tb), .val (.int (0 : Int32))] [(.int (0 : Int32)), (.ref xa)])) (fun t k => XS.iloadN X2.here hx rfl (hb hby d32_10) rfl k) ?_
  obtain ⟨T3, h3, X3, e3, W3, st3⟩ := putFN X2 hx hZ hown (wi hw 225 rfl) Via.refl e2 F_allowNulls_xa E_xa (Or.inr ⟨(wi hw 226 rfl), rfl, hnm⟩) (wi hw 206 rfl) (ty := .boolean) (v' := (.int (0 : Int32))) (by decide) rfl (by decide) (g := (mkF m 11 #[.val (.ref xa), .val (.ref tb), .val (.int (0 : Int32))] [(.int (0 : Int32)), (.ref xa)])) rfl rfl (hb hby d32_11)
  have F_allowNulls_xa := F_allowNulls_xa.same W3
  have E_xa := E_xa.wr W3
  have F_elements_xa := F_elements_xa.other W3 (Or.inr (slot_ne (Or.inr (wi hw 164 rfl)) (Or.inr (wi hw 226 rfl)) (by decide) (t := (.array (.object "java/lang/Object"))) (t' := .boolean) (by decide) (by decide)))
  have O0 := O0.wr W3 g_xa
  have K0 := K0.wr W3 (Or.inl (List.mem_of_getElem? (i := 0) rfl))
  have N3 := Fr.snoc X3 N2 g_xa
  refine Goes.to (T' := T3.setTop (mkF m 14 #[.val (.ref xa), .val (.ref tb), .val (.int (0 : Int32))] [])) st3 ?_
  obtain ⟨fs, hrL, hrun, hended, hW, hsame⟩ := X3.leave (v := none) (fun _ => rfl)
  subst hQf
  refine ⟨_, _, X3.returnOut hx Bd.returns (hb hby d32_14) hrL, hrun, hended, _, _, rfl, ?_, ⟨_, rfl⟩, hW, hsame.mono (by decide) (by decide)⟩
  show Q_rmLN Z xa tb h0 n0 (none) T3.heap _
  rw [e3]
  exact ⟨rfl, N3, K0, E_xa, F_elements_xa⟩
theorem pd_242 : parseMethodDescriptor "([Ljava/lang/Object;Z)V" = some ⟨[(.array (.object "java/lang/Object")), .boolean], none⟩ := by decide +kernel
theorem d30_0 : decode jdk_56_method_4_code 0 = .ok (.aload_n 0, 1) := by decide +kernel
theorem d30_1 : decode jdk_56_method_4_code 1 = .ok (.arraylength, 1) := by decide +kernel
theorem d30_2 : decode jdk_56_method_4_code 2 = .ok (.anewarray 2, 3) := by decide +kernel
theorem d30_5 : decode jdk_56_method_4_code 5 = .ok (.astore_n 1, 1) := by decide +kernel
theorem d30_6 : decode jdk_56_method_4_code 6 = .ok (.iconst 0, 1) := by decide +kernel
theorem d30_7 : decode jdk_56_method_4_code 7 = .ok (.istore_n 2, 1) := by decide +kernel
theorem d30_8 : decode jdk_56_method_4_code 8 = .ok (.iload_n 2, 1) := by decide +kernel
theorem d30_9 : decode jdk_56_method_4_code 9 = .ok (.aload_n 0, 1) := by decide +kernel
theorem d30_10 : decode jdk_56_method_4_code 10 = .ok (.arraylength, 1) := by decide +kernel
theorem d30_11 : decode jdk_56_method_4_code 11 = .ok (.if_icmp .ge 18, 3) := by decide +kernel
theorem d30_14 : decode jdk_56_method_4_code 14 = .ok (.aload_n 1, 1) := by decide +kernel
theorem d30_15 : decode jdk_56_method_4_code 15 = .ok (.iload_n 2, 1) := by decide +kernel
theorem d30_16 : decode jdk_56_method_4_code 16 = .ok (.aload_n 0, 1) := by decide +kernel
theorem d30_17 : decode jdk_56_method_4_code 17 = .ok (.iload_n 2, 1) := by decide +kernel
theorem d30_18 : decode jdk_56_method_4_code 18 = .ok (.aaload, 1) := by decide +kernel
theorem d30_19 : decode jdk_56_method_4_code 19 = .ok (.invokestatic 37, 3) := by decide +kernel
theorem d30_22 : decode jdk_56_method_4_code 22 = .ok (.aastore, 1) := by decide +kernel
theorem d30_23 : decode jdk_56_method_4_code 23 = .ok (.iinc 2 1, 3) := by decide +kernel
theorem d30_26 : decode jdk_56_method_4_code 26 = .ok (.goto (-18), 3) := by decide +kernel
theorem d30_29 : decode jdk_56_method_4_code 29 = .ok (.new 12, 3) := by decide +kernel
theorem d30_32 : decode jdk_56_method_4_code 32 = .ok (.dup, 1) := by decide +kernel
theorem d30_33 : decode jdk_56_method_4_code 33 = .ok (.aload_n 1, 1) := by decide +kernel
theorem d30_34 : decode jdk_56_method_4_code 34 = .ok (.iconst 0, 1) := by decide +kernel
theorem d30_35 : decode jdk_56_method_4_code 35 = .ok (.invokespecial 43, 3) := by decide +kernel
theorem d30_38 : decode jdk_56_method_4_code 38 = .ok (.areturn, 1) := by decide +kernel
theorem pn_30 : plainName "java/util/ImmutableCollections" = true := by first | (simp [plainName, overriddenIn]; done) | decide +kernel
theorem ef_rmLf (m : MethodId) (x0 : Addr) : entryFrame m #[(.ref x0)] 3 = mkF m 0 #[.val (.ref x0), .unset, .unset] [] := by first | (simp [entryFrame, mkF, argsToLocals, Value.category]; done) | rfl
def Q_rmLf (Z : State) (x0_ : Addr) (x1_ : Addr) (x2_ : Addr) (h0 : Heap) (n0 : Nat) (v : Option Value) (h : Heap) (L : List Loc) : Prop := (∃ (b : Addr) (tb : Addr) (kt : ClassId), v = some (.ref b) ∧ n0 ≤ b ∧ h0.size ≤ b ∧ n0 ≤ tb ∧ h0.size ≤ tb ∧ Exa Z h b "java/util/ImmutableCollections$ListN" ∧ Fld Z h b "java/util/ImmutableCollections$ListN" "elements" "[Ljava/lang/Object;" (.ref tb) ∧ Arv Z h tb kt (.object "java/lang/Object") (3 : Int32) [(.ref x0_), (.ref x1_), (.ref x2_)] .null) ∧ Fr n0 L ∧ Ext h0 h
theorem rmLf (hw : HW a0 Z) (ba : Addr) (kb : ClassId) (x0_ : Addr) (x1_ : Addr) (x2_ : Addr) (h0 : Heap) (n0 : Nat) (O0 : Old Z n0 h0) (NF : Nar Z w3 w0 w2 w1 w4 k_w3 k_w0 k_w1 z_cs w5) (V_ba : Arv Z h0 ba kb (.object "java/lang/Object") (3 : Int32) [(.ref x0_), (.ref x1_), (.ref x2_)] .null) (E_x0_ : Exa Z h0 x0_ "java/lang/String") (E_x1_ : Exa Z h0 x1_ "java/lang/String") (E_x2_ : Exa Z h0 x2_ "java/lang/String") :
    Con l Z (⟨"java/util/ImmutableCollections", "listFromArray", "([Ljava/lang/Object;)Ljava/util/List;"⟩ : MethodName) jdk_56_method_4_code 3 (some (.object "java/util/List")) ws ({ frames := 5, cells := 2, slots := 5, locals := 80 } : Room) #[(.ref ba)] h0 (Q_rmLf Z x0_ x1_ x2_ h0 n0) := by
  refine Con.body (own := "java/util/ImmutableCollections") rfl (plainFor_of_name pn_30) (fun m => ef_rmLf m _) ?_
  intro p e s m below meth c s₁ Bd hx hby hml hZ hown X0 e0 Qf hQf
  have N0 := Fr.nil n0
  have K0 := Keep.refl h0 []
  obtain ⟨S_w3, E_w3, S_w0, E_w0, S_w2, E_w2, F_elements_w2, E_w1, S_w4, E_w4, F_allowNulls_w2, S_w_ImmutableCollections__assertionsDisabled, V_w3, V_w0, V_w1, S_cs, nz_cs, M_OA⟩ := id NF
  refine Goes.to (T' := s₁.setTop (mkF m 1 #[.val (.ref ba), .unset, .unset] [(.ref ba)])) (fun t k => XS.aloadN X0.here hx rfl (hb hby d30_0) rfl rfl k) ?_
  obtain ⟨cl1, Ar1, q1, S1, Ng1, H1, G1⟩ := id V_ba
  refine Goes.to (T' := s₁.setTop (mkF m 2 #[.val (.ref ba), .unset, .unset] [(.int (3 : Int32))])) (fun t k => X0.arraylength hx (by rw [e0]; exact Ar1.1) (State.isArrayOf_alike hZ.alike Ar1.2.1) (g := (mkF m 1 #[.val (.ref ba), .unset, .unset] [(.ref ba)])) rfl rfl (hb hby d30_1) _ (by rw [len_of S1 Ng1]; exact k)) ?_
  obtain ⟨T2, h2, k2, X2, e2, E2, A2, Ea2, O2, st2⟩ := newRE X0 hx hZ hown (wi hw 201 rfl) (wi hw 126 rfl) e0 (g := (mkF m 2 #[.val (.ref ba), .unset, .unset] [(.int (3 : Int32))])) rfl (hb hby d30_2) rfl (by decide) (cap := 3) (by decide) (by decide) (by decide) (by decide) (ad := "[Ljava/lang/Object;") (by decide +kernel)
  obtain ⟨b2, g2⟩ : ∃ z, z = h0.size := ⟨_, rfl⟩
  rw [← g2] at A2 Ea2 st2
  have g_b2 : n0 ≤ b2 := Nat.le_trans (own_old O0) (Nat.le_of_eq g2.symm)
  have sz_b2 : h0.size ≤ b2 := Nat.le_trans K0.1 (Nat.le_of_eq g2.symm)
  have ne_ba_b2 : ba ≠ b2 := Nat.ne_of_lt (Nat.lt_of_lt_of_le V_ba.lt (Nat.le_of_eq g2.symm))
  have ne_b2_ba := Ne.symm ne_ba_b2
  have ne_x0__b2 : x0_ ≠ b2 := Nat.ne_of_lt (Nat.lt_of_lt_of_le E_x0_.lt (Nat.le_of_eq g2.symm))
  have ne_b2_x0_ := Ne.symm ne_x0__b2
  have ne_x1__b2 : x1_ ≠ b2 := Nat.ne_of_lt (Nat.lt_of_lt_of_le E_x1_.lt (Nat.le_of_eq g2.symm))
  have ne_b2_x1_ := Ne.symm ne_x1__b2
  have ne_x2__b2 : x2_ ≠ b2 := Nat.ne_of_lt (Nat.lt_of_lt_of_le E_x2_.lt (Nat.le_of_eq g2.symm))
  have ne_b2_x2_ := Ne.symm ne_x2__b2
  have V_ba := V_ba.ext E2
  have E_x0_ := E_x0_.ext E2
  have E_x1_ := E_x1_.ext E2
  have E_x2_ := E_x2_.ext E2
  have O0 := O0.ext E2
  have K0 := K0.ext E2
  have V_b2 : Arv Z h2 b2 k2 (.object "java/lang/Object") (3 : Int32) [.null, .null, .null] .null := (Arv.new A2 (by decide)).pad (pad_rep [] .null 3)
  have E_b2 := Ea2
  have Ov_b2 := O2
  refine Goes.to (T' := T2.setTop (mkF m 5 #[.val (.ref ba), .unset, .unset] [(.ref b2)])) st2 ?_
  refine Goes.to (T' := T2.setTop (mkF m 6 #[.val (.ref ba), .val (.ref b2), .unset] [])) (fun t k => XS.astoreN X2.here hx rfl (hb hby d30_5) rfl rfl (l' := #[.val (.ref ba), .val (.ref b2), .unset]) rfl k) ?_
  refine Goes.to (T' := T2.setTop (mkF m 7 #[.val (.ref ba), .val (.ref b2), .unset] [(.int (0 : Int32))])) (fun t k => XS.iconst X2.here hx rfl (hb hby d30_6) k) ?_
  refine Goes.to (T' := T2.setTop (mkF m 8 #[.val (.ref ba), .val (.ref b2), .val (.int (0 : Int32))] [])) (fun t k => XS.istoreN X2.here hx rfl (hb hby d30_7) rfl (l' := #[.val (.ref ba), .val (.ref b2), .val (.int (0 : Int32))]) rfl k) ?_
  refine Goes.to (T' := T2.setTop (mkF m 9 #[.val (.ref ba), .val (.ref b2), .val (.int (0 : Int32))] [(.int (0 : Int32))])) (fun t k => XS.iloadN X2.here hx rfl (hb hby d30_8) rfl k) ?_
  refine Goes.to (T' := T2.setTop (mkF m 10 #[.val (.ref ba), .val (.ref b2), .val (.int (0 : Int32))] [(.ref ba), (.int (0 : Int32))])) (fun t k => XS.aloadN X2.here hx rfl (hb hby d30_9) rfl rfl k) ?_
  obtain ⟨cl3, Ar3, q3, S3, Ng3, H3, G3⟩ := id V_ba
  refine Goes.to (T' := T2.setTop (mkF m 11 #[.val (.ref ba), .val (.ref b2), .val (.int (0 : Int32))] [(.int (3 : Int32)), (.int (0 : Int32))])) (fun t k => X2.arraylength hx (by rw [e2]; exact Ar3.1) (State.isArrayOf_alike hZ.alike Ar3.2.1) (g := (mkF m 10 #[.val (.ref ba), .val (.ref b2), .val (.int (0 : Int32))] [(.ref ba), (.int (0 : Int32))])) rfl rfl (hb hby d30_10) _ (by rw [len_of S3 Ng3]; exact k)) ?_
  refine Goes.to (T' := T2.setTop (mkF m 14 #[.val (.ref ba), .val (.ref b2), .val (.int (0 : Int32))] [])) (fun t k => XS.icmpNo X2.here hx rfl (hb hby d30_11) rfl (tlt (by decide)).2.1 k) ?_
  refine Goes.to (T' := T2.setTop (mkF m 15 #[.val (.ref ba), .val (.ref b2), .val (.int (0 : Int32))] [(.ref b2)])) (fun t k => XS.aloadN X2.here hx rfl (hb hby d30_14) rfl rfl k) ?_
  refine Goes.to (T' := T2.setTop (mkF m 16 #[.val (.ref ba), .val (.ref b2), .val (.int (0 : Int32))] [(.int (0 : Int32)), (.ref b2)])) (fun t k => XS.iloadN X2.here hx rfl (hb hby d30_15) rfl k) ?_
  refine Goes.to (T' := T2.setTop (mkF m 17 #[.val (.ref ba), .val (.ref b2), .val (.int (0 : Int32))] [(.ref ba), (.int (0 : Int32)), (.ref b2)])) (fun t k => XS.aloadN X2.here hx rfl (hb hby d30_16) rfl rfl k) ?_
  refine Goes.to (T' := T2.setTop (mkF m 18 #[.val (.ref ba), .val (.ref b2), .val (.int (0 : Int32))] [(.int (0 : Int32)), (.ref ba), (.int (0 : Int32)), (.ref b2)])) (fun t k => XS.iloadN X2.here hx rfl (hb hby d30_17) rfl k) ?_
  obtain ⟨cl4, Ar4, q4, S4, Ng4, H4, G4⟩ := id V_ba
  have hin4 : ¬ ((0 : Int32) < 0 ∨ cl4.slots.size ≤ ((0 : Int32)).toNatClampNeg) := inb_of S4 ⟨by decide, by decide⟩
  refine Goes.to (T' := T2.setTop (mkF m 19 #[.val (.ref ba), .val (.ref b2), .val (.int (0 : Int32))] [(.ref x0_), (.int (0 : Int32)), (.ref b2)])) (X2.aaload hx (j := (0 : Int32)) (v := (.ref x0_)) (by rw [e2]; exact Ar4.1) (State.isArrayOf_alike hZ.alike Ar4.2.1) rfl Ar4.2.2 hin4 (H4.at hin4 rfl) (g := (mkF m 18 #[.val (.ref ba), .val (.ref b2), .val (.int (0 : Int32))] [(.int (0 : Int32)), (.ref ba), (.int (0 : Int32)), (.ref b2)])) rfl rfl (hb hby d30_18)) ?_
  obtain ⟨_, _, ⟨T5, L5, k5, n5⟩, -, X5, ⟨Lc5, hQ5, l5, y5, z5⟩, st5⟩ := Jvm.LawKit.callS X2 hx (y := (⟨"java/util/Objects", "requireNonNull", "(Ljava/lang/Object;)Ljava/lang/Object;"⟩ : MethodName)) hown (mvT hZ (wi hw 202 rfl)) (mvT hZ (wi hw 203 rfl)) (mvT hZ (wi hw 204 rfl)) (mvT hZ (wi hw 205 rfl)) (by decide) (backOf (W := 2) (rmRq hw x0_  h2 n0 O0 NF ) hZ (wi hw 205 rfl) (wi hw 204 rfl) (by decide) (by decide)) (g := (mkF m 19 #[.val (.ref ba), .val (.ref b2), .val (.int (0 : Int32))] [(.ref x0_), (.int (0 : Int32)), (.ref b2)])) rfl (by rw [hml]; rfl) (argsL := [(.ref x0_)]) (rest := [(.int (0 : Int32)), (.ref b2)]) (lenOf pd_161 rfl) rfl (by show 2 * 0 + _ ≤ _; exact Nat.le_of_eq rfl) (hb hby d30_19) (fun _ _ => ⟨rfl, e2, (by decide : 1 + 0 ≤ _), (by decide : 3 + 0 ≤ _)⟩)
  dsimp only [Pt.U, Pt.locs, Pt.cells, Pt.slots] at X5 l5 y5 z5 st5 hQ5
  subst l5 y5 z5
  obtain ⟨rfl, Nq5, e5⟩ := hQ5
  have N5 := Fr.app N0 Nq5
  refine Goes.to (T' := T5.setTop (mkF m 22 #[.val (.ref ba), .val (.ref b2), .val (.int (0 : Int32))] [(.ref x0_), (.int (0 : Int32)), (.ref b2)])) st5 ?_
  obtain ⟨cl6, Ar6, q6, S6, Ng6, H6, G6⟩ := V_b2
  have hin6 : ¬ ((0 : Int32) < 0 ∨ cl6.slots.size ≤ ((0 : Int32)).toNatClampNeg) := inb_of S6 ⟨by decide, by decide⟩
  obtain ⟨T7, h7, X7, e7, W7, st7⟩ := stR X5 hx hZ e5 Ar6 (j := (0 : Int32)) hin6 rfl (Sto.ofV Ar6 q6 Ov_b2 (Ins.of_exa E_x0_ (wi hw 127 rfl))) (g := (mkF m 22 #[.val (.ref ba), .val (.ref b2), .val (.int (0 : Int32))] [(.ref x0_), (.int (0 : Int32)), (.ref b2)])) rfl rfl (hb hby d30_22)
  have V_b2 : Arv Z h7 b2 k2 (.object "java/lang/Object") (3 : Int32) [(.ref x0_), .null, .null] .null := Arv.set Ar6 q6 S6 Ng6 H6 G6 rfl W7 0 rfl (Nat.le_of_ble_eq_true rfl)
  have V_ba := V_ba.other W7 (ne_ba_b2)
  have E_x0_ := E_x0_.wr W7
  have E_x1_ := E_x1_.wr W7
  have E_x2_ := E_x2_.wr W7
  have E_b2 := E_b2.wr W7
  have O0 := O0.wr W7 g_b2
  have K0 := K0.wr W7 (Or.inr sz_b2)
  have N7 := Fr.snoc X7 N5 g_b2
  refine Goes.to (T' := T7.setTop (mkF m 23 #[.val (.ref ba), .val (.ref b2), .val (.int (0 : Int32))] [])) st7 ?_
  refine Goes.to (T' := T7.setTop (mkF m 26 #[.val (.ref ba), .val (.ref b2), .val (.int ((0 : Int32) + (1 : Int32)))] [])) (fun t k => XS.iinc X7.here hx rfl (hb hby d30_23) rfl (l' := #[.val (.ref ba), .val (.ref b2), .val (.int ((0 : Int32) + (1 : Int32)))]) rfl k) ?_
  rw [show ((0 : Int32) + (1 : Int32)) = (1 : Int32) from by decide +kernel]
  refine Goes.to (T' := T7.setTop (mkF m 8 #[.val (.ref ba), .val (.ref b2), .val (.int (1 : Int32))] [])) (fun t k => XS.goto X7.here hx rfl (pc0 := 26) (pc' := 8) rfl (hb hby d30_26) (by decide) (by decide) k) ?_
  refine Goes.to (T' := T7.setTop (mkF m 9 #[.val (.ref ba), .val (.ref b2), .val (.int (1 : Int32))] [(.int (1 : Int32))])) (fun t k => XS.iloadN X7.here hx rfl (hb hby d30_8) rfl k) ?_
  refine Goes.to (T' := T7.setTop (mkF m 10 #[.val (.ref ba), .val (.ref b2), .val (.int (1 : Int32))] [(.ref ba), (.int (1 : Int32))])) (fun t k => XS.aloadN X7.here hx rfl (hb hby d30_9) rfl rfl k) ?_
  obtain ⟨cl8, Ar8, q8, S8, Ng8, H8, G8⟩ := id V_ba
  refine Goes.to (T' := T7.setTop (mkF m 11 #[.val (.ref ba), .val (.ref b2), .val (.int (1 : Int32))] [(.int (3 : Int32)), (.int (1 : Int32))])) (fun t k => X7.arraylength hx (by rw [e7]; exact Ar8.1) (State.isArrayOf_alike hZ.alike Ar8.2.1) (g := (mkF m 10 #[.val (.ref ba), .val (.ref b2), .val (.int (1 : Int32))] [(.ref ba), (.int (1 : Int32))])) rfl rfl (hb hby d30_10) _ (by rw [len_of S8 Ng8]; exact k)) ?_
  refine Goes.to (T' := T7.setTop (mkF m 14 #[.val (.ref ba), .val (.ref b2), .val (.int (1 : Int32))] [])) (fun t k => XS.icmpNo X7.here hx rfl (hb hby d30_11) rfl (tlt (by decide)).2.1 k) ?_
  refine Goes.to (T' := T7.setTop (mkF m 15 #[.val (.ref ba), .val (.ref b2), .val (.int (1 : Int32))] [(.ref b2)])) (fun t k => XS.aloadN X7.here hx rfl (hb hby d30_14) rfl rfl k) ?_
  refine Goes.to (T' := T7.setTop (mkF m 16 #[.val (.ref ba), .val (.ref b2), .val (.int (1 : Int32))] [(.int (1 : Int32)), (.ref b2)])) (fun t k => XS.iloadN X7.here hx rfl (hb hby d30_15) rfl k) ?_
  refine Goes.to (T' := T7.setTop (mkF m 17 #[.val (.ref ba), .val (.ref b2), .val (.int (1 : Int32))] [(.ref ba), (.int (1 : Int32)), (.ref b2)])) (fun t k => XS.aloadN X7.here hx rfl (hb hby d30_16) rfl rfl k) ?_
  refine Goes.to (T' := T7.setTop (mkF m 18 #[.val (.ref ba), .val (.ref b2), .val (.int (1 : Int32))] [(.int (1 : Int32)), (.ref ba), (.int (1 : Int32)), (.ref b2)])) (fun t k => XS.iloadN X7.here hx rfl (hb hby d30_17) rfl k) ?_
  obtain ⟨cl9, Ar9, q9, S9, Ng9, H9, G9⟩ := id V_ba
  have hin9 : ¬ ((1 : Int32) < 0 ∨ cl9.slots.size ≤ ((1 : Int32)).toNatClampNeg) := inb_of S9 ⟨by decide, by decide⟩
  refine Goes.to (T' := T7.setTop (mkF m 19 #[.val (.ref ba), .val (.ref b2), .val (.int (1 : Int32))] [(.ref x1_), (.int (1 : Int32)), (.ref b2)])) (X7.aaload hx (j := (1 : Int32)) (v := (.ref x1_)) (by rw [e7]; exact Ar9.1) (State.isArrayOf_alike hZ.alike Ar9.2.1) rfl Ar9.2.2 hin9 (H9.at hin9 rfl) (g := (mkF m 18 #[.val (.ref ba), .val (.ref b2), .val (.int (1 : Int32))] [(.int (1 : Int32)), (.ref ba), (.int (1 : Int32)), (.ref b2)])) rfl rfl (hb hby d30_18)) ?_
  obtain ⟨_, _, ⟨T10, L10, k10, n10⟩, -, X10, ⟨Lc10, hQ10, l10, y10, z10⟩, st10⟩ := Jvm.LawKit.callS X7 hx (y := (⟨"java/util/Objects", "requireNonNull", "(Ljava/lang/Object;)Ljava/lang/Object;"⟩ : MethodName)) hown (mvT hZ (wi hw 202 rfl)) (mvT hZ (wi hw 203 rfl)) (mvT hZ (wi hw 204 rfl)) (mvT hZ (wi hw 205 rfl)) (by decide) (backOf (W := 2) (rmRq hw x1_  h7 n0 O0 NF ) hZ (wi hw 205 rfl) (wi hw 204 rfl) (by decide) (by decide)) (g := (mkF m 19 #[.val (.ref ba), .val (.ref b2), .val (.int (1 : Int32))] [(.ref x1_), (.int (1 : Int32)), (.ref b2)])) rfl (by rw [hml]; rfl) (argsL := [(.ref x1_)]) (rest := [(.int (1 : Int32)), (.ref b2)]) (lenOf pd_161 rfl) rfl (by show 2 * 0 + _ ≤ _; exact Nat.le_of_eq rfl) (hb hby d30_19) (fun _ _ => ⟨rfl, e7, (by decide : 1 + 0 ≤ _), (by decide : 3 + 0 ≤ _)⟩)
  dsimp only [Pt.U, Pt.locs, Pt.cells, Pt.slots] at X10 l10 y10 z10 st10 hQ10
  subst l10 y10 z10
  obtain ⟨rfl, Nq10, e10⟩ := hQ10
  have N10 := Fr.app N7 Nq10
  refine Goes.to (T' := T10.setTop (mkF m 22 #[.val (.ref ba), .val (.ref b2), .val (.int (1 : Int32))] [(.ref x1_), (.int (1 : Int32)), (.ref b2)])) st10 ?_
  obtain ⟨cl11, Ar11, q11, S11, Ng11, H11, G11⟩ := V_b2
  have hin11 : ¬ ((1 : Int32) < 0 ∨ cl11.slots.size ≤ ((1 : Int32)).toNatClampNeg) := inb_of S11 ⟨by decide, by decide⟩
  obtain ⟨T12, h12, X12, e12, W12, st12⟩ := stR X10 hx hZ e10 Ar11 (j := (1 : Int32)) hin11 rfl (Sto.ofV Ar11 q11 Ov_b2 (Ins.of_exa E_x1_ (wi hw 127 rfl))) (g := (mkF m 22 #[.val (.ref ba), .val (.ref b2), .val (.int (1 : Int32))] [(.ref x1_), (.int (1 : Int32)), (.ref b2)])) rfl rfl (hb hby d30_22)
  have V_b2 : Arv Z h12 b2 k2 (.object "java/lang/Object") (3 : Int32) [(.ref x0_), (.ref x1_), .null] .null := Arv.set Ar11 q11 S11 Ng11 H11 G11 rfl W12 1 rfl (Nat.le_of_ble_eq_true rfl)
  have V_ba := V_ba.other W12 (ne_ba_b2)
  have E_x0_ := E_x0_.wr W12
  have E_x1_ := E_x1_.wr W12
  have E_x2_ := E_x2_.wr W12
  have E_b2 := E_b2.wr W12
  have O0 := O0.wr W12 g_b2
  have K0 := K0.wr W12 (Or.inr sz_b2)
  have N12 := Fr.snoc X12 N10 g_b2
  refine Goes.to (T' := T12.setTop (mkF m 23 #[.val (.ref ba), .val (.ref b2), .val (.int (1 : Int32))] [])) st12 ?_
  refine Goes.to (T' := T12.setTop (mkF m 26 #[.val (.ref ba), .val (.ref b2), .val (.int ((1 : Int32) + (1 : Int32)))] [])) (fun t k => XS.iinc X12.here hx rfl (hb hby d30_23) rfl (l' := #[.val (.ref ba), .val (.ref b2), .val (.int ((1 : Int32) + (1 : Int32)))]) rfl k) ?_
  rw [show ((1 : Int32) + (1 : Int32)) = (2 : Int32) from by decide +kernel]
  refine Goes.to (T' := T12.setTop (mkF m 8 #[.val (.ref ba), .val (.ref b2), .val (.int (2 : Int32))] [])) (fun t k => XS.goto X12.here hx rfl (pc0 := 26) (pc' := 8) rfl (hb hby d30_26) (by decide) (by decide) k) ?_
  refine Goes.to (T' := T12.setTop (mkF m 9 #[.val (.ref ba), .val (.ref b2), .val (.int (2 : Int32))] [(.int (2 : Int32))])) (fun t k => XS.iloadN X12.here hx rfl (hb hby d30_8) rfl k) ?_
  refine Goes.to (T' := T12.setTop (mkF m 10 #[.val (.ref ba), .val (.ref b2), .val (.int (2 : Int32))] [(.ref ba), (.int (2 : Int32))])) (fun t k => XS.aloadN X12.here hx rfl (hb hby d30_9) rfl rfl k) ?_
  obtain ⟨cl13, Ar13, q13, S13, Ng13, H13, G13⟩ := id V_ba
  refine Goes.to (T' := T12.setTop (mkF m 11 #[.val (.ref ba), .val (.ref b2), .val (.int (2 : Int32))] [(.int (3 : Int32)), (.int (2 : Int32))])) (fun t k => X12.arraylength hx (by rw [e12]; exact Ar13.1) (State.isArrayOf_alike hZ.alike Ar13.2.1) (g := (mkF m 10 #[.val (.ref ba), .val (.ref b2), .val (.int (2 : Int32))] [(.ref ba), (.int (2 : Int32))])) rfl rfl (hb hby d30_10) _ (by rw [len_of S13 Ng13]; exact k)) ?_
  refine Goes.to (T' := T12.setTop (mkF m 14 #[.val (.ref ba), .val (.ref b2), .val (.int (2 : Int32))] [])) (fun t k => XS.icmpNo X12.here hx rfl (hb hby d30_11) rfl (tlt (by decide)).2.1 k) ?_
  refine Goes.to (T' := T12.setTop (mkF m 15 #[.val (.ref ba), .val (.ref b2), .val (.int (2 : Int32))] [(.ref b2)])) (fun t k => XS.aloadN X12.here hx rfl (hb hby d30_14) rfl rfl k) ?_
  refine Goes.to (T' := T12.setTop (mkF m 16 #[.val (.ref ba), .val (.ref b2), .val (.int (2 : Int32))] [(.int (2 : Int32)), (.ref b2)])) (fun t k => XS.iloadN X12.here hx rfl (hb hby d30_15) rfl k) ?_
  refine Goes.to (T' := T12.setTop (mkF m 17 #[.val (.ref ba), .val (.ref b2), .val (.int (2 : Int32))] [(.ref ba), (.int (2 : Int32)), (.ref b2)])) (fun t k => XS.aloadN X12.here hx rfl (hb hby d30_16) rfl rfl k) ?_
  refine Goes.to (T' := T12.setTop (mkF m 18 #[.val (.ref ba), .val (.ref b2), .val (.int (2 : Int32))] [(.int (2 : Int32)), (.ref ba), (.int (2 : Int32)), (.ref b2)])) (fun t k => XS.iloadN X12.here hx rfl (hb hby d30_17) rfl k) ?_
  obtain ⟨cl14, Ar14, q14, S14, Ng14, H14, G14⟩ := id V_ba
  have hin14 : ¬ ((2 : Int32) < 0 ∨ cl14.slots.size ≤ ((2 : Int32)).toNatClampNeg) := inb_of S14 ⟨by decide, by decide⟩
  refine Goes.to (T' := T12.setTop (mkF m 19 #[.val (.ref ba), .val (.ref b2), .val (.int (2 : Int32))] [(.ref x2_), (.int (2 : Int32)), (.ref b2)])) (X12.aaload hx (j := (2 : Int32)) (v := (.ref x2_)) (by rw [e12]; exact Ar14.1) (State.isArrayOf_alike hZ.alike Ar14.2.1) rfl Ar14.2.2 hin14 (H14.at hin14 rfl) (g := (mkF m 18 #[.val (.ref ba), .val (.ref b2), .val (.int (2 : Int32))] [(.int (2 : Int32)), (.ref ba), (.int (2 : Int32)), (.ref b2)])) rfl rfl (hb hby d30_18)) ?_
  obtain ⟨_, _, ⟨T15, L15, k15, n15⟩, -, X15, ⟨Lc15, hQ15, l15, y15, z15⟩, st15⟩ := Jvm.LawKit.callS X12 hx (y := (⟨"java/util/Objects", "requireNonNull", "(Ljava/lang/Object;)Ljava/lang/Object;"⟩ : MethodName)) hown (mvT hZ (wi hw 202 rfl)) (mvT hZ (wi hw 203 rfl)) (mvT hZ (wi hw 204 rfl)) (mvT hZ (wi hw 205 rfl)) (by decide) (backOf (W := 2) (rmRq hw x2_  h12 n0 O0 NF ) hZ (wi hw 205 rfl) (wi hw 204 rfl) (by decide) (by decide)) (g := (mkF m 19 #[.val (.ref ba), .val (.ref b2), .val (.int (2 : Int32))] [(.ref x2_), (.int (2 : Int32)), (.ref b2)])) rfl (by rw [hml]; rfl) (argsL := [(.ref x2_)]) (rest := [(.int (2 : Int32)), (.ref b2)]) (lenOf pd_161 rfl) rfl (by show 2 * 0 + _ ≤ _; exact Nat.le_of_eq rfl) (hb hby d30_19) (fun _ _ => ⟨rfl, e12, (by decide : 1 + 0 ≤ _), (by decide : 3 + 0 ≤ _)⟩)
  dsimp only [Pt.U, Pt.locs, Pt.cells, Pt.slots] at X15 l15 y15 z15 st15 hQ15
  subst l15 y15 z15
  obtain ⟨rfl, Nq15, e15⟩ := hQ15
  have N15 := Fr.app N12 Nq15
  refine Goes.to (T' := T15.setTop (mkF m 22 #[.val (.ref ba), .val (.ref b2), .val (.int (2 : Int32))] [(.ref x2_), (.int (2 : Int32)), (.ref b2)])) st15 ?_
  obtain ⟨cl16, Ar16, q16, S16, Ng16, H16, G16⟩ := V_b2
  have hin16 : ¬ ((2 : Int32) < 0 ∨ cl16.slots.size ≤ ((2 : Int32)).toNatClampNeg) := inb_of S16 ⟨by decide, by decide⟩
  obtain ⟨T17, h17, X17, e17, W17, st17⟩ := stR X15 hx hZ e15 Ar16 (j := (2 : Int32)) hin16 rfl (Sto.ofV Ar16 q16 Ov_b2 (Ins.of_exa E_x2_ (wi hw 127 rfl))) (g := (mkF m 22 #[.val (.ref ba), .val (.ref b2), .val (.int (2 : Int32))] [(.ref x2_), (.int (2 : Int32)), (.ref b2)])) rfl rfl (hb hby d30_22)
  have V_b2 : Arv Z h17 b2 k2 (.object "java/lang/Object") (3 : Int32) [(.ref x0_), (.ref x1_), (.ref x2_)] .null := Arv.set Ar16 q16 S16 Ng16 H16 G16 rfl W17 2 rfl (Nat.le_of_ble_eq_true rfl)
  have V_ba := V_ba.other W17 (ne_ba_b2)
  have E_x0_ := E_x0_.wr W17
  have E_x1_ := E_x1_.wr W17
  have E_x2_ := E_x2_.wr W17
  have E_b2 := E_b2.wr W17
  have O0 := O0.wr W17 g_b2
  have K0 := K0.wr W17 (Or.inr sz_b2)
  have N17 := Fr.snoc X17 N15 g_b2
  refine Goes.to (T' := T17.setTop (mkF m 23 #[.val (.ref ba), .val (.ref b2), .val (.int (2 : Int32))] [])) st17 ?_
  refine Goes.to (T' := T17.setTop (mkF m 26 #[.val (.ref ba), .val (.ref b2), .val (.int ((2 : Int32) + (1 : Int32)))] [])) (fun t k => XS.iinc X17.here hx rfl (hb hby d30_23) rfl (l' := #[.val (.ref ba), .val (.ref b2), .val (.int ((2 : Int32) + (1 : Int32)))]) rfl k) ?_
  rw [show ((2 : Int32) + (1 : Int32)) = (3 : Int32) from by decide +kernel]
  refine Goes.to (T' := T17.setTop (mkF m 8 #[.val (.ref ba), .val (.ref b2), .val (.int (3 : Int32))] [])) (fun t k => XS.goto X17.here hx rfl (pc0 := 26) (pc' := 8) rfl (hb hby d30_26) (by decide) (by decide) k) ?_
  refine Goes.to (T' := T17.setTop (mkF m 9 #[.val (.ref ba), .val (.ref b2), .val (.int (3 : Int32))] [(.int (3 : Int32))])) (fun t k => XS.iloadN X17.here hx rfl (hb hby d30_8) rfl k) ?_
  refine Goes.to (T' := T17.setTop (mkF m 10 #[.val (.ref ba), .val (.ref b2), .val (.int (3 : Int32))] [(.ref ba), (.int (3 : Int32))])) (fun t k => XS.aloadN X17.here hx rfl (hb hby d30_9) rfl rfl k) ?_
  obtain ⟨cl18, Ar18, q18, S18, Ng18, H18, G18⟩ := id V_ba
  refine Goes.to (T' := T17.setTop (mkF m 11 #[.val (.ref ba), .val (.ref b2), .val (.int (3 : Int32))] [(.int (3 : Int32)), (.int (3 : Int32))])) (fun t k => X17.arraylength hx (by rw [e17]; exact Ar18.1) (State.isArrayOf_alike hZ.alike Ar18.2.1) (g := (mkF m 10 #[.val (.ref ba), .val (.ref b2), .val (.int (3 : Int32))] [(.ref ba), (.int (3 : Int32))])) rfl rfl (hb hby d30_10) _ (by rw [len_of S18 Ng18]; exact k)) ?_
  refine Goes.to (T' := T17.setTop (mkF m 29 #[.val (.ref ba), .val (.ref b2), .val (.int (3 : Int32))] [])) (fun t k => XS.icmpYes X17.here hx rfl (pc0 := 11) (pc' := 29) rfl (hb hby d30_11) rfl (flt (by decide)).2.1 (by decide) (by decide) k) ?_
  obtain ⟨T19, h19, X19, e19, E19, A19, D19, -, st19⟩ := newO X17 hx hZ hown (wi hw 81 rfl) (wi hw 206 rfl) (wi hw 161 rfl) e17 (g := (mkF m 29 #[.val (.ref ba), .val (.ref b2), .val (.int (3 : Int32))] [])) rfl (hb hby d30_29) (by decide) (by decide)
  obtain ⟨b19, g19⟩ : ∃ z, z = h17.size := ⟨_, rfl⟩
  rw [← g19] at A19 D19 st19
  have g_b19 : n0 ≤ b19 := Nat.le_trans (own_old O0) (Nat.le_of_eq g19.symm)
  have sz_b19 : h0.size ≤ b19 := Nat.le_trans K0.1 (Nat.le_of_eq g19.symm)
  have ne_ba_b19 : ba ≠ b19 := Nat.ne_of_lt (Nat.lt_of_lt_of_le V_ba.lt (Nat.le_of_eq g19.symm))
  have ne_b19_ba := Ne.symm ne_ba_b19
  have ne_x0__b19 : x0_ ≠ b19 := Nat.ne_of_lt (Nat.lt_of_lt_of_le E_x0_.lt (Nat.le_of_eq g19.symm))
  have ne_b19_x0_ := Ne.symm ne_x0__b19
  have ne_x1__b19 : x1_ ≠ b19 := Nat.ne_of_lt (Nat.lt_of_lt_of_le E_x1_.lt (Nat.le_of_eq g19.symm))
  have ne_b19_x1_ := Ne.symm ne_x1__b19
  have ne_x2__b19 : x2_ ≠ b19 := Nat.ne_of_lt (Nat.lt_of_lt_of_le E_x2_.lt (Nat.le_of_eq g19.symm))
  have ne_b19_x2_ := Ne.symm ne_x2__b19
  have ne_b2_b19 : b2 ≠ b19 := Nat.ne_of_lt (Nat.lt_of_lt_of_le V_b2.lt (Nat.le_of_eq g19.symm))
  have ne_b19_b2 := Ne.symm ne_b2_b19
  have V_ba := V_ba.ext E19
  have E_x0_ := E_x0_.ext E19
  have E_x1_ := E_x1_.ext E19
  have E_x2_ := E_x2_.ext E19
  have V_b2 := V_b2.ext E19
  have E_b2 := E_b2.ext E19
  have O0 := O0.ext E19
  have K0 := K0.ext E19
  have E_b19 := A19
  have F_elements_b19 : Fld Z h19 b19 "java/util/ImmutableCollections$ListN" "elements" "[Ljava/lang/Object;" .null := D19 (Or.inr (wi hw 164 rfl)) (ty := (.array (.object "java/lang/Object"))) (by decide)
  have F_allowNulls_b19 : Fld Z h19 b19 "java/util/ImmutableCollections$ListN" "allowNulls" "Z" (.int (0 : Int32)) := D19 (Or.inr (wi hw 226 rfl)) (ty := .boolean) (by decide)
  refine Goes.to (T' := T19.setTop (mkF m 32 #[.val (.ref ba), .val (.ref b2), .val (.int (3 : Int32))] [(.ref b19)])) st19 ?_
  refine Goes.to (T' := T19.setTop (mkF m 33 #[.val (.ref ba), .val (.ref b2), .val (.int (3 : Int32))] [(.ref b19), (.ref b19)])) (fun t k => XS.dup X19.here hx rfl (hb hby d30_32) rfl rfl k) ?_
  refine Goes.to (T' := T19.setTop (mkF m 34 #[.val (.ref ba), .val (.ref b2), .val (.int (3 : Int32))] [(.ref b2), (.ref b19), (.ref b19)])) (fun t k => XS.aloadN X19.here hx rfl (hb hby d30_33) rfl rfl k) ?_
  refine Goes.to (T' := T19.setTop (mkF m 35 #[.val (.ref ba), .val (.ref b2), .val (.int (3 : Int32))] [(.int (0 : Int32)), (.ref b2), (.ref b19), (.ref b19)])) (fun t k => XS.iconst X19.here hx rfl (hb hby d30_34) k) ?_
  obtain ⟨_, _, ⟨T20, L20, k20, n20⟩, -, X20, ⟨Lc20, hQ20, l20, y20, z20⟩, st20⟩ := X19.specialBackNest hx (y := (⟨"java/util/ImmutableCollections$ListN", "<init>", "([Ljava/lang/Object;Z)V"⟩ : MethodName)) rfl hown (own_mvM hZ (wi hw 207 rfl)) (mvT hZ (wi hw 208 rfl)) (mvT hZ (wi hw 210 rfl)) (by decide) (backOf (W := 1) (rmLN hw b19 b2  h19 n0 O0 NF E_b19 F_elements_b19 F_allowNulls_b19 g_b19) hZ (wi hw 210 rfl) (wi hw 161 rfl) (by decide) (by decide)) (g := (mkF m 35 #[.val (.ref ba), .val (.ref b2), .val (.int (3 : Int32))] [(.int (0 : Int32)), (.ref b2), (.ref b19), (.ref b19)])) rfl (by rw [hml]; rfl) (Steps.refl _) (a := b19) (argsL := [(.ref b2), (.int (0 : Int32))]) (rest := [(.ref b19)]) (lenOf pd_242 rfl) rfl (by show 2 * 0 + _ ≤ _; exact Nat.le_of_eq rfl) (hb hby d30_35) (fun _ _ => ⟨rfl, e19, (by decide : 2 + 0 ≤ _), (by decide : 5 + 0 ≤ _)⟩)
  dsimp only [Pt.U, Pt.locs, Pt.cells, Pt.slots] at X20 l20 y20 z20 st20 hQ20
  subst l20 y20 z20
  obtain ⟨rfl, Nq20, K20, r0_20, r1_20⟩ := hQ20
  have N20 := Fr.app N17 Nq20
  have V_ba := V_ba.keep K20 (ninS (ne_ba_b19) nin0)
  have E_x0_ := E_x0_.keep K20
  have E_x1_ := E_x1_.keep K20
  have E_x2_ := E_x2_.keep K20
  have V_b2 := V_b2.keep K20 (ninS (ne_b2_b19) nin0)
  have E_b2 := E_b2.keep K20
  have E_b19 := E_b19.keep K20
  have O0 := O0.keep K20 (allS g_b19 all0)
  have K0 := K0.trans K20 (allS (Or.inr sz_b19) all0)
  have E_b19 := r0_20
  have F_elements_b19 := r1_20
  refine Goes.thru (T' := T20.setTop (mkF m 38 #[.val (.ref ba), .val (.ref b2), .val (.int (3 : Int32))] [(.ref b19)])) st20 ?_
  obtain ⟨fs, hrL, hrun, hended, hW, hsame⟩ := X20.leave (v := some (.ref b19)) (fun h => by rw [Bd.returns] at h; cases h)
  subst hQf
  refine ⟨_, _, retOut X20 hx Bd.returns rfl (Or.inr (Or.inr (Or.inr (Or.inr ⟨rfl, rfl, rfl⟩)))) (hb hby d30_38) hrL, hrun, hended, _, _, rfl, ?_, ⟨_, rfl⟩, hW, hsame.mono (by decide) (by decide)⟩
  show Q_rmLf Z x0_ x1_ x2_ h0 n0 (some (.ref b19)) T20.heap _
  exact ⟨⟨b19, b2, _, rfl, g_b19, sz_b19, g_b2, sz_b2, E_b19, F_elements_b19, V_b2⟩, N20, own_ext_keep K0⟩
theorem d29_59 : decode jdk_40_method_47_code 59 = .ok (.aload_n 0, 1) := by decide +kernel
theorem d29_60 : decode jdk_40_method_47_code 60 = .ok (.invokestatic 109, 3) := by decide +kernel
theorem d29_63 : decode jdk_40_method_47_code 63 = .ok (.areturn, 1) := by decide +kernel
def Q_rmLo3 (Z : State) (x0_ : Addr) (x1_ : Addr) (x2_ : Addr) (h0 : Heap) (n0 : Nat) (v : Option Value) (h : Heap) (L : List Loc) : Prop := (∃ (b : Addr) (tb : Addr) (kt : ClassId), v = some (.ref b) ∧ n0 ≤ b ∧ h0.size ≤ b ∧ n0 ≤ tb ∧ h0.size ≤ tb ∧ Exa Z h b "java/util/ImmutableCollections$ListN" ∧ Fld Z h b "java/util/ImmutableCollections$ListN" "elements" "[Ljava/lang/Object;" (.ref tb) ∧ Arv Z h tb kt (.object "java/lang/Object") (3 : Int32) [(.ref x0_), (.ref x1_), (.ref x2_)] .null) ∧ Fr n0 L ∧ Ext h0 h
theorem rmLo3 (hw : HW a0 Z) (ba : Addr) (kb : ClassId) (x0_ : Addr) (x1_ : Addr) (x2_ : Addr) (h0 : Heap) (n0 : Nat) (O0 : Old Z n0 h0) (NF : Nar Z w3 w0 w2 w1 w4 k_w3 k_w0 k_w1 z_cs w5) (V_ba : Arv Z h0 ba kb (.object "java/lang/Object") (3 : Int32) [(.ref x0_), (.ref x1_), (.ref x2_)] .null) (E_x0_ : Exa Z h0 x0_ "java/lang/String") (E_x1_ : Exa Z h0 x1_ "java/lang/String") (E_x2_ : Exa Z h0 x2_ "java/lang/String") :
    Con l Z (⟨"java/util/List", "of", "([Ljava/lang/Object;)Ljava/util/List;"⟩ : MethodName) jdk_40_method_47_code 2 (some (.object "java/util/List")) ws ({ frames := 6, cells := 2, slots := 5, locals := 110 } : Room) #[(.ref ba)] h0 (Q_rmLo3 Z x0_ x1_ x2_ h0 n0) := by
  refine Con.body (own := "java/util/List") rfl (plainFor_of_name pn_29) (fun m => ef_rmLo1 m _) ?_
  intro p e s m below meth c s₁ Bd hx hby hml hZ hown X0 e0 Qf hQf
  have N0 := Fr.nil n0
  have K0 := Keep.refl h0 []
  obtain ⟨S_w3, E_w3, S_w0, E_w0, S_w2, E_w2, F_elements_w2, E_w1, S_w4, E_w4, F_allowNulls_w2, S_w_ImmutableCollections__assertionsDisabled, V_w3, V_w0, V_w1, S_cs, nz_cs, M_OA⟩ := id NF
  refine Goes.to (T' := s₁.setTop (mkF m 1 #[.val (.ref ba), .unset] [(.ref ba)])) (fun t k => XS.aloadN X0.here hx rfl (hb hby d29_0) rfl rfl k) ?_
  obtain ⟨cl1, Ar1, q1, S1, Ng1, H1, G1⟩ := id V_ba
  refine Goes.to (T' := s₁.setTop (mkF m 2 #[.val (.ref ba), .unset] [(.int (3 : Int32))])) (fun t k => X0.arraylength hx (by rw [e0]; exact Ar1.1) (State.isArrayOf_alike hZ.alike Ar1.2.1) (g := (mkF m 1 #[.val (.ref ba), .unset] [(.ref ba)])) rfl rfl (hb hby d29_1) _ (by rw [len_of S1 Ng1]; exact k)) ?_
  refine Goes.to (T' := s₁.setTop (mkF m 59 #[.val (.ref ba), .unset] [])) (fun t k => XS.tswOut X0.here hx rfl (pc0 := 2) (pc' := 59) rfl (hb hby d29_2) rfl (by decide) (by decide) (by decide) k) ?_
  refine Goes.to (T' := s₁.setTop (mkF m 60 #[.val (.ref ba), .unset] [(.ref ba)])) (fun t k => XS.aloadN X0.here hx rfl (hb hby d29_59) rfl rfl k) ?_
  obtain ⟨_, _, ⟨T2, L2, k2, n2⟩, -, X2, ⟨Lc2, hQ2, l2, y2, z2⟩, st2⟩ := Jvm.LawKit.callS X0 hx (y := (⟨"java/util/ImmutableCollections", "listFromArray", "([Ljava/lang/Object;)Ljava/util/List;"⟩ : MethodName)) hown (mvT hZ (wi hw 198 rfl)) (mvT hZ (wi hw 199 rfl)) (mvT hZ (wi hw 74 rfl)) (mvT hZ (wi hw 200 rfl)) (by decide) (backOf (W := 0) (rmLf hw ba kb x0_ x1_ x2_ h0 n0 O0 NF V_ba E_x0_ E_x1_ E_x2_) hZ (wi hw 200 rfl) (wi hw 74 rfl) (by decide) (by decide)) (g := (mkF m 60 #[.val (.ref ba), .unset] [(.ref ba)])) rfl (by rw [hml]; rfl) (argsL := [(.ref ba)]) (rest := []) (lenOf pd_187 rfl) rfl (by show 2 * 0 + _ ≤ _; exact Nat.le_of_eq rfl) (hb hby d29_60) (fun _ _ => ⟨rfl, e0, (by decide : 0 + 2 ≤ _), (by decide : 0 + 5 ≤ _)⟩)
  dsimp only [Pt.U, Pt.locs, Pt.cells, Pt.slots] at X2 l2 y2 z2 st2 hQ2
  subst l2 y2 z2
  obtain ⟨⟨lb, tb, kt, rfl, gl2, sl2, gt2, zt2, r0_2, r1_2, r2_2⟩, Nq2, Ex2⟩ := hQ2
  have N2 := Fr.app N0 Nq2
  have g_lb : n0 ≤ lb := gl2
  have sz_lb : h0.size ≤ lb := Nat.le_trans K0.1 sl2
  have ne_ba_lb : ba ≠ lb := Nat.ne_of_lt (Nat.lt_of_lt_of_le V_ba.lt sl2)
  have ne_lb_ba := Ne.symm ne_ba_lb
  have ne_x0__lb : x0_ ≠ lb := Nat.ne_of_lt (Nat.lt_of_lt_of_le E_x0_.lt sl2)
  have ne_lb_x0_ := Ne.symm ne_x0__lb
  have ne_x1__lb : x1_ ≠ lb := Nat.ne_of_lt (Nat.lt_of_lt_of_le E_x1_.lt sl2)
  have ne_lb_x1_ := Ne.symm ne_x1__lb
  have ne_x2__lb : x2_ ≠ lb := Nat.ne_of_lt (Nat.lt_of_lt_of_le E_x2_.lt sl2)
  have ne_lb_x2_ := Ne.symm ne_x2__lb
  have g_tb : n0 ≤ tb := gt2
  have sz_tb : h0.size ≤ tb := Nat.le_trans K0.1 zt2
  have ne_ba_tb : ba ≠ tb := Nat.ne_of_lt (Nat.lt_of_lt_of_le V_ba.lt zt2)
  have ne_tb_ba := Ne.symm ne_ba_tb
  have ne_x0__tb : x0_ ≠ tb := Nat.ne_of_lt (Nat.lt_of_lt_of_le E_x0_.lt zt2)
  have ne_tb_x0_ := Ne.symm ne_x0__tb
  have ne_x1__tb : x1_ ≠ tb := Nat.ne_of_lt (Nat.lt_of_lt_of_le E_x1_.lt zt2)
  have ne_tb_x1_ := Ne.symm ne_x1__tb
  have ne_x2__tb : x2_ ≠ tb := Nat.ne_of_lt (Nat.lt_of_lt_of_le E_x2_.lt zt2)
  have ne_tb_x2_ := Ne.symm ne_x2__tb
  have V_ba := V_ba.ext Ex2
  have E_x0_ := E_x0_.ext Ex2
  have E_x1_ := E_x1_.ext Ex2
  have E_x2_ := E_x2_.ext Ex2
  have O0 := O0.ext Ex2
  have K0 := K0.ext Ex2
  have E_lb := r0_2
  have F_elements_lb := r1_2
  have V_tb := r2_2
  refine Goes.to (T' := T2.setTop (mkF m 63 #[.val (.ref ba), .unset] [(.ref lb)])) st2 ?_
  obtain ⟨fs, hrL, hrun, hended, hW, hsame⟩ := X2.leave (v := some (.ref lb)) (fun h => by rw [Bd.returns] at h; cases h)
  subst hQf
  refine ⟨_, _, retOut X2 hx Bd.returns rfl (Or.inr (Or.inr (Or.inr (Or.inr ⟨rfl, rfl, rfl⟩)))) (hb hby d29_63) hrL, hrun, hended, _, _, rfl, ?_, ⟨_, rfl⟩, hW, hsame.mono (by decide) (by decide)⟩
  show Q_rmLo3 Z x0_ x1_ x2_ h0 n0 (some (.ref lb)) T2.heap _
  exact ⟨⟨lb, tb, kt, rfl, g_lb, sz_lb, g_tb, sz_tb, E_lb, F_elements_lb, V_tb⟩, N2, own_ext_keep K0⟩
def Q_rmLc3 (Z : State) (x0_ : Addr) (x1_ : Addr) (x2_ : Addr) (h0 : Heap) (n0 : Nat) (v : Option Value) (h : Heap) (L : List Loc) : Prop := (∃ (b : Addr) (tb : Addr) (kt : ClassId), v = some (.ref b) ∧ n0 ≤ b ∧ h0.size ≤ b ∧ n0 ≤ tb ∧ h0.size ≤ tb ∧ Exa Z h b "java/util/ImmutableCollections$ListN" ∧ Fld Z h b "java/util/ImmutableCollections$ListN" "elements" "[Ljava/lang/Object;" (.ref tb) ∧ Arv Z h tb kt (.object "java/lang/Object") (3 : Int32) [(.ref x0_), (.ref x1_), (.ref x2_)] .null) ∧ Fr n0 L ∧ Ext h0 h
theorem rmLc3 (hw : HW a0 Z) (xa : Addr) (mc : Int32) (ed : Addr) (kd : ClassId) (x0_ : Addr) (x1_ : Addr) (x2_ : Addr) (h0 : Heap) (n0 : Nat) (O0 : Old Z n0 h0) (NF : Nar Z w3 w0 w2 w1 w4 k_w3 k_w0 k_w1 z_cs w5) (E_xa : Exa Z h0 xa "java/util/ArrayList") (F_modCount_xa : Fld Z h0 xa "java/util/AbstractList" "modCount" "I" (.int mc)) (F_elementData_xa : Fld Z h0 xa "java/util/ArrayList" "elementData" "[Ljava/lang/Object;" (.ref ed)) (F_size_xa : Fld Z h0 xa "java/util/ArrayList" "size" "I" (.int (3 : Int32))) (V_ed : Arv Z h0 ed kd (.object "java/lang/Object") (10 : Int32) [(.ref x0_), (.ref x1_), (.ref x2_), .null, .null, .null, .null, .null, .null, .null] .null) (E_ed : Exa Z h0 ed "[Ljava/lang/Object;") (E_x0_ : Exa Z h0 x0_ "java/lang/String") (E_x1_ : Exa Z h0 x1_ "java/lang/String") (E_x2_ : Exa Z h0 x2_ "java/lang/String") :
    Con l Z (⟨"java/util/ImmutableCollections", "listCopy", "(Ljava/util/Collection;)Ljava/util/List;"⟩ : MethodName) jdk_56_method_3_code 2 (some (.object "java/util/List")) ws ({ frames := 7, cells := 3, slots := 8, locals := 140 } : Room) #[(.ref xa)] h0 (Q_rmLc3 Z x0_ x1_ x2_ h0 n0) := by
  refine Con.body (own := "java/util/ImmutableCollections") rfl (plainFor_of_name pn_11) (fun m => ef_rmLo1 m _) ?_
  intro p e s m below meth c s₁ Bd hx hby hml hZ hown X0 e0 Qf hQf
  have N0 := Fr.nil n0
  have K0 := Keep.refl h0 []
  obtain ⟨S_w3, E_w3, S_w0, E_w0, S_w2, E_w2, F_elements_w2, E_w1, S_w4, E_w4, F_allowNulls_w2, S_w_ImmutableCollections__assertionsDisabled, V_w3, V_w0, V_w1, S_cs, nz_cs, M_OA⟩ := id NF
  refine Goes.to (T' := s₁.setTop (mkF m 1 #[.val (.ref xa), .unset] [(.ref xa)])) (fun t k => XS.aloadN X0.here hx rfl (hb hby d11_0) rfl rfl k) ?_
  obtain ⟨T1, X1, e1, st1⟩ := instNo X0 hx hZ hown (wi hw 76 rfl) e0 E_xa (own_nsno (wi hw 77 rfl) (wi hw 266 rfl) (NS.step (wi hw 77 rfl) (NS.step (wi hw 78 rfl) (NS.step (wi hw 79 rfl) (own_nsroot (wi hw 80 rfl) (wi hw 266 rfl) (by decide)) (by decide)) (by decide)) (by decide)) (by decide)) (g := (mkF m 1 #[.val (.ref xa), .unset] [(.ref xa)])) rfl rfl (hb hby d11_1)
  refine Goes.to (T' := T1.setTop (mkF m 4 #[.val (.ref xa), .unset] [(.int (0 : Int32))])) st1 ?_
  refine Goes.to (T' := T1.setTop (mkF m 7 #[.val (.ref xa), .unset] [])) (fun t k => XS.ifNo X1.here hx rfl (hb hby d11_4) rfl ((if0 _ _).trans (teq (by decide)).2) k) ?_
  refine Goes.to (T' := T1.setTop (mkF m 8 #[.val (.ref xa), .unset] [(.ref xa)])) (fun t k => XS.aloadN X1.here hx rfl (hb hby d11_7) rfl rfl k) ?_
  obtain ⟨T2, X2, e2, st2⟩ := instNo X1 hx hZ hown (wi hw 81 rfl) e1 E_xa (by obtain ⟨tK, kK, g1K, g2K, g3K⟩ := own_selK (wi hw 156 rfl) rfl; exact own_nsnoF (wi hw 77 rfl) g1K g2K g3K (NS.step (wi hw 77 rfl) (NS.step (wi hw 78 rfl) (NS.step (wi hw 79 rfl) (own_nsrootF (wi hw 80 rfl) g1K (by decide)) (by decide)) (by decide)) (by decide)) (by decide)) (g := (mkF m 8 #[.val (.ref xa), .unset] [(.ref xa)])) rfl rfl (hb hby d11_8)
  refine Goes.to (T' := T2.setTop (mkF m 11 #[.val (.ref xa), .unset] [(.int (0 : Int32))])) st2 ?_
  refine Goes.to (T' := T2.setTop (mkF m 31 #[.val (.ref xa), .unset] [])) (fun t k => XS.ifYes X2.here hx rfl (pc0 := 11) (pc' := 31) rfl (hb hby d11_11) rfl ((if0 _ _).trans (teq (by decide)).1) (by decide) (by decide) k) ?_
  refine Goes.to (T' := T2.setTop (mkF m 32 #[.val (.ref xa), .unset] [(.ref xa)])) (fun t k => XS.aloadN X2.here hx rfl (hb hby d11_31) rfl rfl k) ?_
  obtain ⟨cq3, kq3, q3a, q3b, q3c⟩ := isOf hZ e2 E_xa
  obtain ⟨_, _, ⟨T3, L3, k3, n3⟩, -, X3, ⟨Lc3, hQ3, l3, y3, z3⟩, st3⟩ := X2.interfaceBack hx (xi := (⟨"java/util/Collection", "isEmpty", "()Z"⟩ : MethodName)) (y := (⟨"java/util/ArrayList", "isEmpty", "()Z"⟩ : MethodName)) hown (mvT hZ (wi hw 82 rfl)) (mvT hZ (wi hw 83 rfl)) (mvT hZ (wi hw 84 rfl)) (mvT hZ (wi hw 85 rfl)) (mvT hZ (wi hw 86 rfl)) (mvT hZ (wi hw 87 rfl)) (mvT hZ (wi hw 88 rfl)) (mvT hZ (wi hw 89 rfl)) (by decide) (backOf (W := 0) (rmE3 hw xa  h0 n0 O0 NF F_size_xa) hZ (wi hw 90 rfl) (wi hw 28 rfl) (by decide) (by decide)) q3a q3b q3c (g := (mkF m 32 #[.val (.ref xa), .unset] [(.ref xa)])) rfl (by rw [hml]; rfl) (Steps.refl _) (argsL := []) (rest := []) (lenOf pd_186 rfl) rfl (by show 2 * 0 + _ ≤ _; exact Nat.le_of_eq rfl) (hb hby d11_32) (fun _ _ => ⟨rfl, e2, (by decide : 0 + 0 ≤ _), (by decide : 0 + 0 ≤ _)⟩)
  dsimp only [Pt.U, Pt.locs, Pt.cells, Pt.slots] at X3 l3 y3 z3 st3 hQ3
  subst l3 y3 z3
  obtain ⟨rfl, Nq3, e3⟩ := hQ3
  have N3 := Fr.app N0 Nq3
  refine Goes.thru (T' := T3.setTop (mkF m 37 #[.val (.ref xa), .unset] [(.int (0 : Int32))])) st3 ?_
  refine Goes.to (T' := T3.setTop (mkF m 44 #[.val (.ref xa), .unset] [])) (fun t k => XS.ifYes X3.here hx rfl (pc0 := 37) (pc' := 44) rfl (hb hby d11_37) rfl ((if0 _ _).trans (teq (by decide)).1) (by decide) (by decide) k) ?_
  refine Goes.to (T' := T3.setTop (mkF m 45 #[.val (.ref xa), .unset] [(.ref xa)])) (fun t k => XS.aloadN X3.here hx rfl (hb hby d11_44) rfl rfl k) ?_
  obtain ⟨cq4, kq4, q4a, q4b, q4c⟩ := isOf hZ e3 E_xa
  obtain ⟨_, _, ⟨T4, L4, k4, n4⟩, -, X4, ⟨Lc4, hQ4, l4, y4, z4⟩, st4⟩ := X3.interfaceBack hx (xi := (⟨"java/util/Collection", "toArray", "()[Ljava/lang/Object;"⟩ : MethodName)) (y := (⟨"java/util/ArrayList", "toArray", "()[Ljava/lang/Object;"⟩ : MethodName)) hown (mvT hZ (wi hw 165 rfl)) (mvT hZ (wi hw 166 rfl)) (mvT hZ (wi hw 167 rfl)) (mvT hZ (wi hw 168 rfl)) (mvT hZ (wi hw 169 rfl)) (mvT hZ (wi hw 170 rfl)) (mvT hZ (wi hw 171 rfl)) (mvT hZ (wi hw 89 rfl)) (by decide) (backOf (W := 0) (rmTA3 hw xa mc ed kd x0_ x1_ x2_ h0 n0 O0 NF E_xa F_modCount_xa F_elementData_xa F_size_xa V_ed E_ed E_x0_ E_x1_ E_x2_) hZ (wi hw 172 rfl) (wi hw 28 rfl) (by decide) (by decide)) q4a q4b q4c (g := (mkF m 45 #[.val (.ref xa), .unset] [(.ref xa)])) rfl (by rw [hml]; rfl) (Steps.refl _) (argsL := []) (rest := []) (lenOf pd_73 rfl) rfl (by show 2 * 0 + _ ≤ _; exact Nat.le_of_eq rfl) (hb hby d11_45) (fun _ _ => ⟨rfl, e3, (by decide : 0 + 1 ≤ _), (by decide : 0 + 3 ≤ _)⟩)
  dsimp only [Pt.U, Pt.locs, Pt.cells, Pt.slots] at X4 l4 y4 z4 st4 hQ4
  subst l4 y4 z4
  obtain ⟨⟨ba, kb, rfl, gb4, sb4, V4⟩, Nq4, Ex4⟩ := hQ4
  have N4 := Fr.app N3 Nq4
  have g_ba : n0 ≤ ba := gb4
  have sz_ba : h0.size ≤ ba := Nat.le_trans K0.1 sb4
  have ne_xa_ba : xa ≠ ba := Nat.ne_of_lt (Nat.lt_of_lt_of_le E_xa.lt sb4)
  have ne_ba_xa := Ne.symm ne_xa_ba
  have ne_ed_ba : ed ≠ ba := Nat.ne_of_lt (Nat.lt_of_lt_of_le V_ed.lt sb4)
  have ne_ba_ed := Ne.symm ne_ed_ba
  have ne_x0__ba : x0_ ≠ ba := Nat.ne_of_lt (Nat.lt_of_lt_of_le E_x0_.lt sb4)
  have ne_ba_x0_ := Ne.symm ne_x0__ba
  have ne_x1__ba : x1_ ≠ ba := Nat.ne_of_lt (Nat.lt_of_lt_of_le E_x1_.lt sb4)
  have ne_ba_x1_ := Ne.symm ne_x1__ba
  have ne_x2__ba : x2_ ≠ ba := Nat.ne_of_lt (Nat.lt_of_lt_of_le E_x2_.lt sb4)
  have ne_ba_x2_ := Ne.symm ne_x2__ba
  have E_xa := E_xa.ext Ex4
  have F_modCount_xa := F_modCount_xa.ext Ex4
  have F_elementData_xa := F_elementData_xa.ext Ex4
  have F_size_xa := F_size_xa.ext Ex4
  have V_ed := V_ed.ext Ex4
  have E_ed := E_ed.ext Ex4
  have E_x0_ := E_x0_.ext Ex4
  have E_x1_ := E_x1_.ext Ex4
  have E_x2_ := E_x2_.ext Ex4
  have O0 := O0.ext Ex4
  have K0 := K0.ext Ex4
  have V_ba := V4
  refine Goes.thru (T' := T4.setTop (mkF m 50 #[.val (.ref xa), .unset] [(.ref ba)])) st4 ?_
  obtain ⟨_, _, ⟨T5, L5, k5, n5⟩, -, X5, ⟨Lc5, hQ5, l5, y5, z5⟩, st5⟩ := Jvm.LawKit.callS X4 hx (y := (⟨"java/util/List", "of", "([Ljava/lang/Object;)Ljava/util/List;"⟩ : MethodName)) hown (mvT hZ (wi hw 195 rfl)) (mvT hZ (wi hw 196 rfl)) (mvT hZ (wi hw 70 rfl)) (mvT hZ (wi hw 197 rfl)) (by decide) (backOf (W := 0) (rmLo3 hw ba kb x0_ x1_ x2_ T4.heap n0 O0 NF V_ba E_x0_ E_x1_ E_x2_) hZ (wi hw 197 rfl) (wi hw 70 rfl) (by decide) (by decide)) (g := (mkF m 50 #[.val (.ref xa), .unset] [(.ref ba)])) rfl (by rw [hml]; rfl) (argsL := [(.ref ba)]) (rest := []) (lenOf pd_187 rfl) rfl (by show 2 * 0 + _ ≤ _; exact Nat.le_of_eq rfl) (hb hby d11_50) (fun _ _ => ⟨rfl, rfl, (by decide : 1 + 2 ≤ _), (by decide : 3 + 5 ≤ _)⟩)
  dsimp only [Pt.U, Pt.locs, Pt.cells, Pt.slots] at X5 l5 y5 z5 st5 hQ5
  subst l5 y5 z5
  obtain ⟨⟨lb, tb, kt, rfl, gl5, sl5, gt5, zt5, r0_5, r1_5, r2_5⟩, Nq5, Ex5⟩ := hQ5
  have N5 := Fr.app N4 Nq5
  have g_lb : n0 ≤ lb := gl5
  have sz_lb : h0.size ≤ lb := Nat.le_trans K0.1 sl5
  have ne_xa_lb : xa ≠ lb := Nat.ne_of_lt (Nat.lt_of_lt_of_le E_xa.lt sl5)
  have ne_lb_xa := Ne.symm ne_xa_lb
  have ne_ed_lb : ed ≠ lb := Nat.ne_of_lt (Nat.lt_of_lt_of_le V_ed.lt sl5)
  have ne_lb_ed := Ne.symm ne_ed_lb
  have ne_x0__lb : x0_ ≠ lb := Nat.ne_of_lt (Nat.lt_of_lt_of_le E_x0_.lt sl5)
  have ne_lb_x0_ := Ne.symm ne_x0__lb
  have ne_x1__lb : x1_ ≠ lb := Nat.ne_of_lt (Nat.lt_of_lt_of_le E_x1_.lt sl5)
  have ne_lb_x1_ := Ne.symm ne_x1__lb
  have ne_x2__lb : x2_ ≠ lb := Nat.ne_of_lt (Nat.lt_of_lt_of_le E_x2_.lt sl5)
  have ne_lb_x2_ := Ne.symm ne_x2__lb
  have ne_ba_lb : ba ≠ lb := Nat.ne_of_lt (Nat.lt_of_lt_of_le V_ba.lt sl5)
  have ne_lb_ba := Ne.symm ne_ba_lb
  have g_tb : n0 ≤ tb := gt5
  have sz_tb : h0.size ≤ tb := Nat.le_trans K0.1 zt5
  have ne_xa_tb : xa ≠ tb := Nat.ne_of_lt (Nat.lt_of_lt_of_le E_xa.lt zt5)
  have ne_tb_xa := Ne.symm ne_xa_tb
  have ne_ed_tb : ed ≠ tb := Nat.ne_of_lt (Nat.lt_of_lt_of_le V_ed.lt zt5)
  have ne_tb_ed := Ne.symm ne_ed_tb
  have ne_x0__tb : x0_ ≠ tb := Nat.ne_of_lt (Nat.lt_of_lt_of_le E_x0_.lt zt5)
  have ne_tb_x0_ := Ne.symm ne_x0__tb
  have ne_x1__tb : x1_ ≠ tb := Nat.ne_of_lt (Nat.lt_of_lt_of_le E_x1_.lt zt5)
  have ne_tb_x1_ := Ne.symm ne_x1__tb
  have ne_x2__tb : x2_ ≠ tb := Nat.ne_of_lt (Nat.lt_of_lt_of_le E_x2_.lt zt5)
  have ne_tb_x2_ := Ne.symm ne_x2__tb
  have ne_ba_tb : ba ≠ tb := Nat.ne_of_lt (Nat.lt_of_lt_of_le V_ba.lt zt5)
  have ne_tb_ba := Ne.symm ne_ba_tb
  have E_xa := E_xa.ext Ex5
  have F_modCount_xa := F_modCount_xa.ext Ex5
  have F_elementData_xa := F_elementData_xa.ext Ex5
  have F_size_xa := F_size_xa.ext Ex5
  have V_ed := V_ed.ext Ex5
  have E_ed := E_ed.ext Ex5
  have E_x0_ := E_x0_.ext Ex5
  have E_x1_ := E_x1_.ext Ex5
  have E_x2_ := E_x2_.ext Ex5
  have V_ba := V_ba.ext Ex5
  have O0 := O0.ext Ex5
  have K0 := K0.ext Ex5
  have E_lb := r0_5
  have F_elements_lb := r1_5
  have V_tb := r2_5
  refine Goes.to (T' := T5.setTop (mkF m 53 #[.val (.ref xa), .unset] [(.ref lb)])) st5 ?_
  obtain ⟨fs, hrL, hrun, hended, hW, hsame⟩ := X5.leave (v := some (.ref lb)) (fun h => by rw [Bd.returns] at h; cases h)
  subst hQf
  refine ⟨_, _, retOut X5 hx Bd.returns rfl (Or.inr (Or.inr (Or.inr (Or.inr ⟨rfl, rfl, rfl⟩)))) (hb hby d11_53) hrL, hrun, hended, _, _, rfl, ?_, ⟨_, rfl⟩, hW, hsame.mono (by decide) (by decide)⟩
  show Q_rmLc3 Z x0_ x1_ x2_ h0 n0 (some (.ref lb)) T5.heap _
  exact ⟨⟨lb, tb, kt, rfl, g_lb, sz_lb, g_tb, sz_tb, E_lb, F_elements_lb, V_tb⟩, N5, own_ext_keep K0⟩
def Q_rmCo3 (Z : State) (x0_ : Addr) (x1_ : Addr) (x2_ : Addr) (h0 : Heap) (n0 : Nat) (v : Option Value) (h : Heap) (L : List Loc) : Prop := (∃ (b : Addr) (tb : Addr) (kt : ClassId), v = some (.ref b) ∧ n0 ≤ b ∧ h0.size ≤ b ∧ n0 ≤ tb ∧ h0.size ≤ tb ∧ Exa Z h b "java/util/ImmutableCollections$ListN" ∧ Fld Z h b "java/util/ImmutableCollections$ListN" "elements" "[Ljava/lang/Object;" (.ref tb) ∧ Arv Z h tb kt (.object "java/lang/Object") (3 : Int32) [(.ref x0_), (.ref x1_), (.ref x2_)] .null) ∧ Fr n0 L ∧ Ext h0 h
theorem rmCo3 (hw : HW a0 Z) (xa : Addr) (mc : Int32) (ed : Addr) (kd : ClassId) (x0_ : Addr) (x1_ : Addr) (x2_ : Addr) (h0 : Heap) (n0 : Nat) (O0 : Old Z n0 h0) (NF : Nar Z w3 w0 w2 w1 w4 k_w3 k_w0 k_w1 z_cs w5) (E_xa : Exa Z h0 xa "java/util/ArrayList") (F_modCount_xa : Fld Z h0 xa "java/util/AbstractList" "modCount" "I" (.int mc)) (F_elementData_xa : Fld Z h0 xa "java/util/ArrayList" "elementData" "[Ljava/lang/Object;" (.ref ed)) (F_size_xa : Fld Z h0 xa "java/util/ArrayList" "size" "I" (.int (3 : Int32))) (V_ed : Arv Z h0 ed kd (.object "java/lang/Object") (10 : Int32) [(.ref x0_), (.ref x1_), (.ref x2_), .null, .null, .null, .null, .null, .null, .null] .null) (E_ed : Exa Z h0 ed "[Ljava/lang/Object;") (E_x0_ : Exa Z h0 x0_ "java/lang/String") (E_x1_ : Exa Z h0 x1_ "java/lang/String") (E_x2_ : Exa Z h0 x2_ "java/lang/String") :
    Con l Z (⟨"java/util/List", "copyOf", "(Ljava/util/Collection;)Ljava/util/List;"⟩ : MethodName) jdk_40_method_48_code 1 (some (.object "java/util/List")) ws ({ frames := 8, cells := 3, slots := 8, locals := 154 } : Room) #[(.ref xa)] h0 (Q_rmCo3 Z x0_ x1_ x2_ h0 n0) := by
  refine Con.body (own := "java/util/List") rfl (plainFor_of_name pn_10) (fun m => ef_rmAC m _) ?_
  intro p e s m below meth c s₁ Bd hx hby hml hZ hown X0 e0 Qf hQf
  have N0 := Fr.nil n0
  have K0 := Keep.refl h0 []
  obtain ⟨S_w3, E_w3, S_w0, E_w0, S_w2, E_w2, F_elements_w2, E_w1, S_w4, E_w4, F_allowNulls_w2, S_w_ImmutableCollections__assertionsDisabled, V_w3, V_w0, V_w1, S_cs, nz_cs, M_OA⟩ := id NF
  refine Goes.to (T' := s₁.setTop (mkF m 1 #[.val (.ref xa)] [(.ref xa)])) (fun t k => XS.aloadN X0.here hx rfl (hb hby d10_0) rfl rfl k) ?_
  obtain ⟨_, _, ⟨T1, L1, k1, n1⟩, -, X1, ⟨Lc1, hQ1, l1, y1, z1⟩, st1⟩ := Jvm.LawKit.callS X0 hx (y := (⟨"java/util/ImmutableCollections", "listCopy", "(Ljava/util/Collection;)Ljava/util/List;"⟩ : MethodName)) hown (mvT hZ (wi hw 72 rfl)) (mvT hZ (wi hw 73 rfl)) (mvT hZ (wi hw 74 rfl)) (mvT hZ (wi hw 75 rfl)) (by decide) (backOf (W := 0) (rmLc3 hw xa mc ed kd x0_ x1_ x2_ h0 n0 O0 NF E_xa F_modCount_xa F_elementData_xa F_size_xa V_ed E_ed E_x0_ E_x1_ E_x2_) hZ (wi hw 75 rfl) (wi hw 74 rfl) (by decide) (by decide)) (g := (mkF m 1 #[.val (.ref xa)] [(.ref xa)])) rfl (by rw [hml]; rfl) (argsL := [(.ref xa)]) (rest := []) (lenOf pd_202 rfl) rfl (by show 2 * 0 + _ ≤ _; exact Nat.le_of_eq rfl) (hb hby d10_1) (fun _ _ => ⟨rfl, e0, (by decide : 0 + 3 ≤ _), (by decide : 0 + 8 ≤ _)⟩)
  dsimp only [Pt.U, Pt.locs, Pt.cells, Pt.slots] at X1 l1 y1 z1 st1 hQ1
  subst l1 y1 z1
  obtain ⟨⟨lb, tb, kt, rfl, gl1, sl1, gt1, zt1, r0_1, r1_1, r2_1⟩, Nq1, Ex1⟩ := hQ1
  have N1 := Fr.app N0 Nq1
  have g_lb : n0 ≤ lb := gl1
  have sz_lb : h0.size ≤ lb := Nat.le_trans K0.1 sl1
  have ne_xa_lb : xa ≠ lb := Nat.ne_of_lt (Nat.lt_of_lt_of_le E_xa.lt sl1)
  have ne_lb_xa := Ne.symm ne_xa_lb
  have ne_ed_lb : ed ≠ lb := Nat.ne_of_lt (Nat.lt_of_lt_of_le V_ed.lt sl1)
  have ne_lb_ed := Ne.symm ne_ed_lb
  have ne_x0__lb : x0_ ≠ lb := Nat.ne_of_lt (Nat.lt_of_lt_of_le E_x0_.lt sl1)
  have ne_lb_x0_ := Ne.symm ne_x0__lb
  have ne_x1__lb : x1_ ≠ lb := Nat.ne_of_lt (Nat.lt_of_lt_of_le E_x1_.lt sl1)
  have ne_lb_x1_ := Ne.symm ne_x1__lb
  have ne_x2__lb : x2_ ≠ lb := Nat.ne_of_lt (Nat.lt_of_lt_of_le E_x2_.lt sl1)
  have ne_lb_x2_ := Ne.symm ne_x2__lb
  have g_tb : n0 ≤ tb := gt1
  have sz_tb : h0.size ≤ tb := Nat.le_trans K0.1 zt1
  have ne_xa_tb : xa ≠ tb := Nat.ne_of_lt (Nat.lt_of_lt_of_le E_xa.lt zt1)
  have ne_tb_xa := Ne.symm ne_xa_tb
  have ne_ed_tb : ed ≠ tb := Nat.ne_of_lt (Nat.lt_of_lt_of_le V_ed.lt zt1)
  have ne_tb_ed := Ne.symm ne_ed_tb
  have ne_x0__tb : x0_ ≠ tb := Nat.ne_of_lt (Nat.lt_of_lt_of_le E_x0_.lt zt1)
  have ne_tb_x0_ := Ne.symm ne_x0__tb
  have ne_x1__tb : x1_ ≠ tb := Nat.ne_of_lt (Nat.lt_of_lt_of_le E_x1_.lt zt1)
  have ne_tb_x1_ := Ne.symm ne_x1__tb
  have ne_x2__tb : x2_ ≠ tb := Nat.ne_of_lt (Nat.lt_of_lt_of_le E_x2_.lt zt1)
  have ne_tb_x2_ := Ne.symm ne_x2__tb
  have E_xa := E_xa.ext Ex1
  have F_modCount_xa := F_modCount_xa.ext Ex1
  have F_elementData_xa := F_elementData_xa.ext Ex1
  have F_size_xa := F_size_xa.ext Ex1
  have V_ed := V_ed.ext Ex1
  have E_ed := E_ed.ext Ex1
  have E_x0_ := E_x0_.ext Ex1
  have E_x1_ := E_x1_.ext Ex1
  have E_x2_ := E_x2_.ext Ex1
  have O0 := O0.ext Ex1
  have K0 := K0.ext Ex1
  have E_lb := r0_1
  have F_elements_lb := r1_1
  have V_tb := r2_1
  refine Goes.to (T' := T1.setTop (mkF m 4 #[.val (.ref xa)] [(.ref lb)])) st1 ?_
  obtain ⟨fs, hrL, hrun, hended, hW, hsame⟩ := X1.leave (v := some (.ref lb)) (fun h => by rw [Bd.returns] at h; cases h)
  subst hQf
  refine ⟨_, _, retOut X1 hx Bd.returns rfl (Or.inr (Or.inr (Or.inr (Or.inr ⟨rfl, rfl, rfl⟩)))) (hb hby d10_4) hrL, hrun, hended, _, _, rfl, ?_, ⟨_, rfl⟩, hW, hsame.mono (by decide) (by decide)⟩
  show Q_rmCo3 Z x0_ x1_ x2_ h0 n0 (some (.ref lb)) T1.heap _
  exact ⟨⟨lb, tb, kt, rfl, g_lb, sz_lb, g_tb, sz_tb, E_lb, F_elements_lb, V_tb⟩, N1, own_ext_keep K0⟩
theorem d13_0 : decode jdk_40_method_36_code 0 = .ok (.getstatic 90, 3) := by decide +kernel
theorem d13_3 : decode jdk_40_method_36_code 3 = .ok (.areturn, 1) := by decide +kernel
theorem pn_13 : plainName "java/util/List" = true := by first | (simp [plainName, overriddenIn]; done) | decide +kernel
theorem ef_rmLo0 (m : MethodId)  : entryFrame m #[] 0 = mkF m 0 #[] [] := by first | (simp [entryFrame, mkF, argsToLocals, Value.category]; done) | rfl
def Q_rmLo0 (w2 : Addr) (h0 : Heap) (n0 : Nat) (v : Option Value) (h : Heap) (L : List Loc) : Prop := v = some (.ref w2) ∧ Fr n0 L ∧ h = h0
theorem rmLo0 (hw : HW a0 Z)  (h0 : Heap) (n0 : Nat) (O0 : Old Z n0 h0) (NF : Nar Z w3 w0 w2 w1 w4 k_w3 k_w0 k_w1 z_cs w5) :
    Con l Z (⟨"java/util/List", "of", "()Ljava/util/List;"⟩ : MethodName) jdk_40_method_36_code 0 (some (.object "java/util/List")) ws ({ frames := 0, cells := 0, slots := 0, locals := 0 } : Room) #[] h0 (Q_rmLo0 w2 h0 n0) := by
  refine Con.body (own := "java/util/List") rfl (plainFor_of_name pn_13) (fun m => ef_rmLo0 m ) ?_
  intro p e s m below meth c s₁ Bd hx hby hml hZ hown X0 e0 Qf hQf
  have N0 := Fr.nil n0
  obtain ⟨S_w3, E_w3, S_w0, E_w0, S_w2, E_w2, F_elements_w2, E_w1, S_w4, E_w4, F_allowNulls_w2, S_w_ImmutableCollections__assertionsDisabled, V_w3, V_w0, V_w1, S_cs, nz_cs, M_OA⟩ := id NF
  obtain ⟨T1, X1, e1, st1⟩ := getS2 X0 hx hZ hown (host := "") (Or.inl (wi hw 96 rfl)) Via.refl e0 (S_w2.ext O0.2) (g := (mkF m 0 #[] [])) rfl (hb hby d13_0)
  refine Goes.to (T' := T1.setTop (mkF m 3 #[] [(.ref w2)])) st1 ?_
  obtain ⟨fs, hrL, hrun, hended, hW, hsame⟩ := X1.leave (v := some (.ref w2)) (fun h => by rw [Bd.returns] at h; cases h)
  subst hQf
  refine ⟨_, _, retOut X1 hx Bd.returns rfl (Or.inr (Or.inr (Or.inr (Or.inr ⟨rfl, rfl, rfl⟩)))) (hb hby d13_3) hrL, hrun, hended, _, _, rfl, ?_, ⟨_, rfl⟩, hW, hsame.mono (by decide) (by decide)⟩
  show Q_rmLo0 w2 h0 n0 (some (.ref w2)) T1.heap _
  rw [e1]
  exact ⟨rfl, N0, rfl⟩
theorem pd_277 : parseMethodDescriptor "()Ljava/util/List;" = some ⟨[], some (.object "java/util/List")⟩ := by decide +kernel
theorem d11_40 : decode jdk_56_method_3_code 40 = .ok (.invokestatic 26, 3) := by decide +kernel
theorem d11_43 : decode jdk_56_method_3_code 43 = .ok (.areturn, 1) := by decide +kernel
def Q_rmLc0 (w2 : Addr) (h0 : Heap) (n0 : Nat) (v : Option Value) (h : Heap) (L : List Loc) : Prop := v = some (.ref w2) ∧ Fr n0 L ∧ h = h0
theorem rmLc0 (hw : HW a0 Z) (xa : Addr) (mc : Int32) (h0 : Heap) (n0 : Nat) (O0 : Old Z n0 h0) (NF : Nar Z w3 w0 w2 w1 w4 k_w3 k_w0 k_w1 z_cs w5) (E_xa : Exa Z h0 xa "java/util/ArrayList") (F_modCount_xa : Fld Z h0 xa "java/util/AbstractList" "modCount" "I" (.int mc)) (F_elementData_xa : Fld Z h0 xa "java/util/ArrayList" "elementData" "[Ljava/lang/Object;" (.ref w0)) (F_size_xa : Fld Z h0 xa "java/util/ArrayList" "size" "I" (.int (0 : Int32))) :
    Con l Z (⟨"java/util/ImmutableCollections", "listCopy", "(Ljava/util/Collection;)Ljava/util/List;"⟩ : MethodName) jdk_56_method_3_code 2 (some (.object "java/util/List")) ws ({ frames := 6, cells := 0, slots := 0, locals := 140 } : Room) #[(.ref xa)] h0 (Q_rmLc0 w2 h0 n0) := by
  refine Con.body (own := "java/util/ImmutableCollections") rfl (plainFor_of_name pn_11) (fun m => ef_rmLo1 m _) ?_
  intro p e s m below meth c s₁ Bd hx hby hml hZ hown X0 e0 Qf hQf
  have N0 := Fr.nil n0
  obtain ⟨S_w3, E_w3, S_w0, E_w0, S_w2, E_w2, F_elements_w2, E_w1, S_w4, E_w4, F_allowNulls_w2, S_w_ImmutableCollections__assertionsDisabled, V_w3, V_w0, V_w1, S_cs, nz_cs, M_OA⟩ := id NF
  refine Goes.to (T' := s₁.setTop (mkF m 1 #[.val (.ref xa), .unset] [(.ref xa)])) (fun t k => XS.aloadN X0.here hx rfl (hb hby d11_0) rfl rfl k) ?_
  obtain ⟨T1, X1, e1, st1⟩ := instNo X0 hx hZ hown (wi hw 76 rfl) e0 E_xa (own_nsno (wi hw 77 rfl) (wi hw 266 rfl) (NS.step (wi hw 77 rfl) (NS.step (wi hw 78 rfl) (NS.step (wi hw 79 rfl) (own_nsroot (wi hw 80 rfl) (wi hw 266 rfl) (by decide)) (by decide)) (by decide)) (by decide)) (by decide)) (g := (mkF m 1 #[.val (.ref xa), .unset] [(.ref xa)])) rfl rfl (hb hby d11_1)
  refine Goes.to (T' := T1.setTop (mkF m 4 #[.val (.ref xa), .unset] [(.int (0 : Int32))])) st1 ?_
  refine Goes.to (T' := T1.setTop (mkF m 7 #[.val (.ref xa), .unset] [])) (fun t k => XS.ifNo X1.here hx rfl (hb hby d11_4) rfl ((if0 _ _).trans (teq (by decide)).2) k) ?_
  refine Goes.to (T' := T1.setTop (mkF m 8 #[.val (.ref xa), .unset] [(.ref xa)])) (fun t k => XS.aloadN X1.here hx rfl (hb hby d11_7) rfl rfl k) ?_
  obtain ⟨T2, X2, e2, st2⟩ := instNo X1 hx hZ hown (wi hw 81 rfl) e1 E_xa (by obtain ⟨tK, kK, g1K, g2K, g3K⟩ := own_selK (wi hw 156 rfl) rfl; exact own_nsnoF (wi hw 77 rfl) g1K g2K g3K (NS.step (wi hw 77 rfl) (NS.step (wi hw 78 rfl) (NS.step (wi hw 79 rfl) (own_nsrootF (wi hw 80 rfl) g1K (by decide)) (by decide)) (by decide)) (by decide)) (by decide)) (g := (mkF m 8 #[.val (.ref xa), .unset] [(.ref xa)])) rfl rfl (hb hby d11_8)
  refine Goes.to (T' := T2.setTop (mkF m 11 #[.val (.ref xa), .unset] [(.int (0 : Int32))])) st2 ?_
  refine Goes.to (T' := T2.setTop (mkF m 31 #[.val (.ref xa), .unset] [])) (fun t k => XS.ifYes X2.here hx rfl (pc0 := 11) (pc' := 31) rfl (hb hby d11_11) rfl ((if0 _ _).trans (teq (by decide)).1) (by decide) (by decide) k) ?_
  refine Goes.to (T' := T2.setTop (mkF m 32 #[.val (.ref xa), .unset] [(.ref xa)])) (fun t k => XS.aloadN X2.here hx rfl (hb hby d11_31) rfl rfl k) ?_
  obtain ⟨cq3, kq3, q3a, q3b, q3c⟩ := isOf hZ e2 E_xa
  obtain ⟨_, _, ⟨T3, L3, k3, n3⟩, -, X3, ⟨Lc3, hQ3, l3, y3, z3⟩, st3⟩ := X2.interfaceBack hx (xi := (⟨"java/util/Collection", "isEmpty", "()Z"⟩ : MethodName)) (y := (⟨"java/util/ArrayList", "isEmpty", "()Z"⟩ : MethodName)) hown (mvT hZ (wi hw 82 rfl)) (mvT hZ (wi hw 83 rfl)) (mvT hZ (wi hw 84 rfl)) (mvT hZ (wi hw 85 rfl)) (mvT hZ (wi hw 86 rfl)) (mvT hZ (wi hw 87 rfl)) (mvT hZ (wi hw 88 rfl)) (mvT hZ (wi hw 89 rfl)) (by decide) (backOf (W := 0) (rmE0 hw xa  h0 n0 O0 NF F_size_xa) hZ (wi hw 90 rfl) (wi hw 28 rfl) (by decide) (by decide)) q3a q3b q3c (g := (mkF m 32 #[.val (.ref xa), .unset] [(.ref xa)])) rfl (by rw [hml]; rfl) (Steps.refl _) (argsL := []) (rest := []) (lenOf pd_186 rfl) rfl (by show 2 * 0 + _ ≤ _; exact Nat.le_of_eq rfl) (hb hby d11_32) (fun _ _ => ⟨rfl, e2, (by decide : 0 + 0 ≤ _), (by decide : 0 + 0 ≤ _)⟩)
  dsimp only [Pt.U, Pt.locs, Pt.cells, Pt.slots] at X3 l3 y3 z3 st3 hQ3
  subst l3 y3 z3
  obtain ⟨rfl, Nq3, e3⟩ := hQ3
  have N3 := Fr.app N0 Nq3
  refine Goes.thru (T' := T3.setTop (mkF m 37 #[.val (.ref xa), .unset] [(.int (1 : Int32))])) st3 ?_
  refine Goes.to (T' := T3.setTop (mkF m 40 #[.val (.ref xa), .unset] [])) (fun t k => XS.ifNo X3.here hx rfl (hb hby d11_37) rfl ((if0 _ _).trans (feq (by decide)).1) k) ?_
  obtain ⟨_, _, ⟨T4, L4, k4, n4⟩, -, X4, ⟨Lc4, hQ4, l4, y4, z4⟩, st4⟩ := Jvm.LawKit.callS X3 hx (y := (⟨"java/util/List", "of", "()Ljava/util/List;"⟩ : MethodName)) hown (mvT hZ (wi hw 93 rfl)) (mvT hZ (wi hw 94 rfl)) (mvT hZ (wi hw 70 rfl)) (mvT hZ (wi hw 95 rfl)) (by decide) (backOf (W := 0) (rmLo0 hw   h0 n0 O0 NF ) hZ (wi hw 95 rfl) (wi hw 70 rfl) (by decide) (by decide)) (g := (mkF m 40 #[.val (.ref xa), .unset] [])) rfl (by rw [hml]; rfl) (argsL := []) (rest := []) (lenOf pd_277 rfl) rfl (by show 2 * 0 + _ ≤ _; exact Nat.le_of_eq rfl) (hb hby d11_40) (fun _ _ => ⟨rfl, e3, (by decide : 0 + 0 ≤ _), (by decide : 0 + 0 ≤ _)⟩)
  dsimp only [Pt.U, Pt.locs, Pt.cells, Pt.slots] at X4 l4 y4 z4 st4 hQ4
  subst l4 y4 z4
  obtain ⟨rfl, Nq4, e4⟩ := hQ4
  have N4 := Fr.app N3 Nq4
  refine Goes.to (T' := T4.setTop (mkF m 43 #[.val (.ref xa), .unset] [(.ref w2)])) st4 ?_
  obtain ⟨fs, hrL, hrun, hended, hW, hsame⟩ := X4.leave (v := some (.ref w2)) (fun h => by rw [Bd.returns] at h; cases h)
  subst hQf
  refine ⟨_, _, retOut X4 hx Bd.returns rfl (Or.inr (Or.inr (Or.inr (Or.inr ⟨rfl, rfl, rfl⟩)))) (hb hby d11_43) hrL, hrun, hended, _, _, rfl, ?_, ⟨_, rfl⟩, hW, hsame.mono (by decide) (by decide)⟩
  show Q_rmLc0 w2 h0 n0 (some (.ref w2)) T4.heap _
  rw [e4]
  exact ⟨rfl, N4, rfl⟩
def Q_rmCo0 (w2 : Addr) (h0 : Heap) (n0 : Nat) (v : Option Value) (h : Heap) (L : List Loc) : Prop := v = some (.ref w2) ∧ Fr n0 L ∧ h = h0
theorem rmCo0 (hw : HW a0 Z) (xa : Addr) (mc : Int32) (h0 : Heap) (n0 : Nat) (O0 : Old Z n0 h0) (NF : Nar Z w3 w0 w2 w1 w4 k_w3 k_w0 k_w1 z_cs w5) (E_xa : Exa Z h0 xa "java/util/ArrayList") (F_modCount_xa : Fld Z h0 xa "java/util/AbstractList" "modCount" "I" (.int mc)) (F_elementData_xa : Fld Z h0 xa "java/util/ArrayList" "elementData" "[Ljava/lang/Object;" (.ref w0)) (F_size_xa : Fld Z h0 xa "java/util/ArrayList" "size" "I" (.int (0 : Int32))) :
    Con l Z (⟨"java/util/List", "copyOf", "(Ljava/util/Collection;)Ljava/util/List;"⟩ : MethodName) jdk_40_method_48_code 1 (some (.object "java/util/List")) ws ({ frames := 7, cells := 0, slots := 0, locals := 154 } : Room) #[(.ref xa)] h0 (Q_rmCo0 w2 h0 n0) := by
  refine Con.body (own := "java/util/List") rfl (plainFor_of_name pn_10) (fun m => ef_rmAC m _) ?_
  intro p e s m below meth c s₁ Bd hx hby hml hZ hown X0 e0 Qf hQf
  have N0 := Fr.nil n0
  obtain ⟨S_w3, E_w3, S_w0, E_w0, S_w2, E_w2, F_elements_w2, E_w1, S_w4, E_w4, F_allowNulls_w2, S_w_ImmutableCollections__assertionsDisabled, V_w3, V_w0, V_w1, S_cs, nz_cs, M_OA⟩ := id NF
  refine Goes.to (T' := s₁.setTop (mkF m 1 #[.val (.ref xa)] [(.ref xa)])) (fun t k => XS.aloadN X0.here hx rfl (hb hby d10_0) rfl rfl k) ?_
  obtain ⟨_, _, ⟨T1, L1, k1, n1⟩, -, X1, ⟨Lc1, hQ1, l1, y1, z1⟩, st1⟩ := Jvm.LawKit.callS X0 hx (y := (⟨"java/util/ImmutableCollections", "listCopy", "(Ljava/util/Collection;)Ljava/util/List;"⟩ : MethodName)) hown (mvT hZ (wi hw 72 rfl)) (mvT hZ (wi hw 73 rfl)) (mvT hZ (wi hw 74 rfl)) (mvT hZ (wi hw 75 rfl)) (by decide) (backOf (W := 0) (rmLc0 hw xa mc h0 n0 O0 NF E_xa F_modCount_xa F_elementData_xa F_size_xa) hZ (wi hw 75 rfl) (wi hw 74 rfl) (by decide) (by decide)) (g := (mkF m 1 #[.val (.ref xa)] [(.ref xa)])) rfl (by rw [hml]; rfl) (argsL := [(.ref xa)]) (rest := []) (lenOf pd_202 rfl) rfl (by show 2 * 0 + _ ≤ _; exact Nat.le_of_eq rfl) (hb hby d10_1) (fun _ _ => ⟨rfl, e0, (by decide : 0 + 0 ≤ _), (by decide : 0 + 0 ≤ _)⟩)
  dsimp only [Pt.U, Pt.locs, Pt.cells, Pt.slots] at X1 l1 y1 z1 st1 hQ1
  subst l1 y1 z1
  obtain ⟨rfl, Nq1, e1⟩ := hQ1
  have N1 := Fr.app N0 Nq1
  refine Goes.to (T' := T1.setTop (mkF m 4 #[.val (.ref xa)] [(.ref w2)])) st1 ?_
  obtain ⟨fs, hrL, hrun, hended, hW, hsame⟩ := X1.leave (v := some (.ref w2)) (fun h => by rw [Bd.returns] at h; cases h)
  subst hQf
  refine ⟨_, _, retOut X1 hx Bd.returns rfl (Or.inr (Or.inr (Or.inr (Or.inr ⟨rfl, rfl, rfl⟩)))) (hb hby d10_4) hrL, hrun, hended, _, _, rfl, ?_, ⟨_, rfl⟩, hW, hsame.mono (by decide) (by decide)⟩
  show Q_rmCo0 w2 h0 n0 (some (.ref w2)) T1.heap _
  rw [e1]
  exact ⟨rfl, N1, rfl⟩
theorem d41_0 : decode jdk_43_method_3_code 0 = .ok (.iload_n 0, 1) := by decide +kernel
theorem d41_1 : decode jdk_43_method_3_code 1 = .ok (.sipush 255, 3) := by decide +kernel
theorem d41_4 : decode jdk_43_method_3_code 4 = .ok (.if_icmp .gt 7, 3) := by decide +kernel
theorem d41_7 : decode jdk_43_method_3_code 7 = .ok (.iconst 1, 1) := by decide +kernel
theorem d41_8 : decode jdk_43_method_3_code 8 = .ok (.goto 4, 3) := by decide +kernel
theorem d41_12 : decode jdk_43_method_3_code 12 = .ok (.ireturn, 1) := by decide +kernel
theorem pn_41 : plainName "java/lang/StringLatin1" = true := by first | (simp [plainName, overriddenIn]; done) | decide +kernel
theorem ef_rmCE (m : MethodId) (x0 : Int32) : entryFrame m #[(.int x0)] 1 = mkF m 0 #[.val (.int x0)] [] := by first | (simp [entryFrame, mkF, argsToLocals, Value.category]; done) | rfl
def Q_rmCE  (h0 : Heap) (n0 : Nat) (v : Option Value) (h : Heap) (L : List Loc) : Prop := v = some (.int 1) ∧ Fr n0 L ∧ h = h0
theorem rmCE (hw : HW a0 Z) (pc0 : Int32) (h0 : Heap) (n0 : Nat) (O0 : Old Z n0 h0) (NF : Nar Z w3 w0 w2 w1 w4 k_w3 k_w0 k_w1 z_cs w5) (hl : ¬ (255 : Int32) < pc0) :
    Con l Z (⟨"java/lang/StringLatin1", "canEncode", "(C)Z"⟩ : MethodName) jdk_43_method_3_code 1 (some .boolean) ws ({ frames := 0, cells := 0, slots := 0, locals := 0 } : Room) #[(.int pc0)] h0 (Q_rmCE  h0 n0) := by
  refine Con.body (own := "java/lang/StringLatin1") rfl (plainFor_of_name pn_41) (fun m => ef_rmCE m _) ?_
  intro p e s m below meth c s₁ Bd hx hby hml hZ hown X0 e0 Qf hQf
  have N0 := Fr.nil n0
  obtain ⟨S_w3, E_w3, S_w0, E_w0, S_w2, E_w2, F_elements_w2, E_w1, S_w4, E_w4, F_allowNulls_w2, S_w_ImmutableCollections__assertionsDisabled, V_w3, V_w0, V_w1, S_cs, nz_cs, M_OA⟩ := id NF
  refine Goes.to (T' := s₁.setTop (mkF m 1 #[.val (.int pc0)] [(.int pc0)])) (fun t k => XS.iloadN X0.here hx rfl (hb hby d41_0) rfl k) ?_
  refine Goes.to (T' := s₁.setTop (mkF m 4 #[.val (.int pc0)] [(.int (255 : Int32)), (.int pc0)])) (fun t k => XS.sipush X0.here hx rfl (hb hby d41_1) k) ?_
  refine Goes.to (T' := s₁.setTop (mkF m 7 #[.val (.int pc0)] [])) (fun t k => XS.icmpNo X0.here hx rfl (hb hby d41_4) rfl (flt hl).2.2.1 k) ?_
  refine Goes.to (T' := s₁.setTop (mkF m 8 #[.val (.int pc0)] [(.int (1 : Int32))])) (fun t k => XS.iconst X0.here hx rfl (hb hby d41_7) k) ?_
  refine Goes.to (T' := s₁.setTop (mkF m 12 #[.val (.int pc0)] [(.int (1 : Int32))])) (fun t k => XS.goto X0.here hx rfl (pc0 := 8) (pc' := 12) rfl (hb hby d41_8) (by decide) (by decide) k) ?_
  obtain ⟨fs, hrL, hrun, hended, hW, hsame⟩ := X0.leave (v := some (.int (1 : Int32))) (fun h => by rw [Bd.returns] at h; cases h)
  subst hQf
  refine ⟨_, _, retN X0 hx (t := .boolean) Bd.returns (by simp) (hb hby d41_12) hrL, hrun, hended, _, _, rfl, ?_, ⟨_, rfl⟩, hW, hsame.mono (by decide) (by decide)⟩
  show Q_rmCE  h0 n0 (some (.int (1 : Int32))) s₁.heap _
  rw [e0]
  exact ⟨rfl, N0, rfl⟩
theorem d42_0 : decode jdk_43_method_46_code 0 = .ok (.iconst 1, 1) := by decide +kernel
theorem d42_1 : decode jdk_43_method_46_code 1 = .ok (.newarray .byte, 2) := by decide +kernel
theorem d42_3 : decode jdk_43_method_46_code 3 = .ok (.dup, 1) := by decide +kernel
theorem d42_4 : decode jdk_43_method_46_code 4 = .ok (.iconst 0, 1) := by decide +kernel
theorem d42_5 : decode jdk_43_method_46_code 5 = .ok (.iload_n 0, 1) := by decide +kernel
theorem d42_6 : decode jdk_43_method_46_code 6 = .ok (.i2b, 1) := by decide +kernel
theorem d42_7 : decode jdk_43_method_46_code 7 = .ok (.bastore, 1) := by decide +kernel
theorem d42_8 : decode jdk_43_method_46_code 8 = .ok (.areturn, 1) := by decide +kernel
theorem pn_42 : plainName "java/lang/StringLatin1" = true := by first | (simp [plainName, overriddenIn]; done) | decide +kernel
def Q_rmTB  (h0 : Heap) (n0 : Nat) (v : Option Value) (h : Heap) (L : List Loc) : Prop := (∃ b : Addr, v = some (.ref b) ∧ n0 ≤ b ∧ h0.size ≤ b) ∧ Fr n0 L ∧ Ext h0 h
theorem rmTB (hw : HW a0 Z) (pc0 : Int32) (h0 : Heap) (n0 : Nat) (O0 : Old Z n0 h0) (NF : Nar Z w3 w0 w2 w1 w4 k_w3 k_w0 k_w1 z_cs w5) :
    Con l Z (⟨"java/lang/StringLatin1", "toBytes", "(C)[B"⟩ : MethodName) jdk_43_method_46_code 1 (some (.array .byte)) ws ({ frames := 0, cells := 1, slots := 1, locals := 0 } : Room) #[(.int pc0)] h0 (Q_rmTB  h0 n0) := by
  refine Con.body (own := "java/lang/StringLatin1") rfl (plainFor_of_name pn_42) (fun m => ef_rmCE m _) ?_
  intro p e s m below meth c s₁ Bd hx hby hml hZ hown X0 e0 Qf hQf
  have N0 := Fr.nil n0
  have K0 := Keep.refl h0 []
  obtain ⟨S_w3, E_w3, S_w0, E_w0, S_w2, E_w2, F_elements_w2, E_w1, S_w4, E_w4, F_allowNulls_w2, S_w_ImmutableCollections__assertionsDisabled, V_w3, V_w0, V_w1, S_cs, nz_cs, M_OA⟩ := id NF
  refine Goes.to (T' := s₁.setTop (mkF m 1 #[.val (.int pc0)] [(.int (1 : Int32))])) (fun t k => XS.iconst X0.here hx rfl (hb hby d42_0) k) ?_
  obtain ⟨T1, h1, k1, X1, e1, E1, A1, st1⟩ := newP X0 hx hZ (wi hw 19 rfl) e0 (g := (mkF m 1 #[.val (.int pc0)] [(.int (1 : Int32))])) rfl (hb hby d42_1) rfl (by decide) (cap := 1) (by decide) (by decide) (by decide) (by decide)
  obtain ⟨b1, g1⟩ : ∃ z, z = h0.size := ⟨_, rfl⟩
  rw [← g1] at A1 st1
  have g_b1 : n0 ≤ b1 := Nat.le_trans (own_old O0) (Nat.le_of_eq g1.symm)
  have sz_b1 : h0.size ≤ b1 := Nat.le_trans K0.1 (Nat.le_of_eq g1.symm)
  have O0 := O0.ext E1
  have K0 := K0.ext E1
  have V_b1 : Arv Z h1 b1 k1 .byte (1 : Int32) [(.int (0 : Int32))] (.int (0 : Int32)) := (Arv.new A1 (by decide)).pad (pad_rep [] (.int (0 : Int32)) 1)
  refine Goes.to (T' := T1.setTop (mkF m 3 #[.val (.int pc0)] [(.ref b1)])) st1 ?_
  refine Goes.to (T' := T1.setTop (mkF m 4 #[.val (.int pc0)] [(.ref b1), (.ref b1)])) (fun t k => XS.dup X1.here hx rfl (hb hby d42_3) rfl rfl k) ?_
  refine Goes.to (T' := T1.setTop (mkF m 5 #[.val (.int pc0)] [(.int (0 : Int32)), (.ref b1), (.ref b1)])) (fun t k => XS.iconst X1.here hx rfl (hb hby d42_4) k) ?_
  refine Goes.to (T' := T1.setTop (mkF m 6 #[.val (.int pc0)] [(.int pc0), (.int (0 : Int32)), (.ref b1), (.ref b1)])) (fun t k => XS.iloadN X1.here hx rfl (hb hby d42_5) rfl k) ?_
  refine Goes.to (T' := T1.setTop (mkF m 7 #[.val (.int pc0)] [(.int (pc0.toInt8.toInt32)), (.int (0 : Int32)), (.ref b1), (.ref b1)])) (fun t k => XS.i2b X1.here hx rfl (hb hby d42_6) rfl k) ?_
  obtain ⟨cl2, Ar2, q2, S2, Ng2, H2, G2⟩ := V_b1
  have hin2 : ¬ ((0 : Int32) < 0 ∨ cl2.slots.size ≤ ((0 : Int32)).toNatClampNeg) := inb_of S2 ⟨by decide, by decide⟩
  obtain ⟨T3, h3, X3, e3, W3, st3⟩ := stB X1 hx hZ e1 Ar2 (j := (0 : Int32)) hin2 (g := (mkF m 7 #[.val (.int pc0)] [(.int (pc0.toInt8.toInt32)), (.int (0 : Int32)), (.ref b1), (.ref b1)])) rfl rfl (hb hby d42_7)
  have V_b1 : Arv Z h3 b1 k1 .byte (1 : Int32) [(.int ((pc0.toInt8.toInt32).toInt8.toInt32))] (.int (0 : Int32)) := Arv.set Ar2 q2 S2 Ng2 H2 G2 (fits_nar_byte _) W3 0 rfl (Nat.le_of_ble_eq_true rfl)
  have O0 := O0.wr W3 g_b1
  have K0 := K0.wr W3 (Or.inr sz_b1)
  have N3 := Fr.snoc X3 N0 g_b1
  refine Goes.to (T' := T3.setTop (mkF m 8 #[.val (.int pc0)] [(.ref b1)])) st3 ?_
  obtain ⟨fs, hrL, hrun, hended, hW, hsame⟩ := X3.leave (v := some (.ref b1)) (fun h => by rw [Bd.returns] at h; cases h)
  subst hQf
  refine ⟨_, _, retOut X3 hx Bd.returns rfl (Or.inr (Or.inr (Or.inr (Or.inr ⟨rfl, rfl, rfl⟩)))) (hb hby d42_8) hrL, hrun, hended, _, _, rfl, ?_, ⟨_, rfl⟩, hW, hsame.mono (by decide) (by decide)⟩
  show Q_rmTB  h0 n0 (some (.ref b1)) T3.heap _
  rw [e3]
  exact ⟨⟨b1, rfl, g_b1, sz_b1⟩, N3, own_ext_keep K0⟩
theorem d43_0 : decode jdk_42_method_151_code 0 = .ok (.aload_n 0, 1) := by decide +kernel
theorem d43_1 : decode jdk_42_method_151_code 1 = .ok (.invokespecial 1, 3) := by decide +kernel
theorem d43_4 : decode jdk_42_method_151_code 4 = .ok (.aload_n 0, 1) := by decide +kernel
theorem d43_5 : decode jdk_42_method_151_code 5 = .ok (.aload_n 1, 1) := by decide +kernel
theorem d43_6 : decode jdk_42_method_151_code 6 = .ok (.putfield 9, 3) := by decide +kernel
theorem d43_9 : decode jdk_42_method_151_code 9 = .ok (.aload_n 0, 1) := by decide +kernel
theorem d43_10 : decode jdk_42_method_151_code 10 = .ok (.iload_n 2, 1) := by decide +kernel
theorem d43_11 : decode jdk_42_method_151_code 11 = .ok (.putfield 15, 3) := by decide +kernel
theorem d43_14 : decode jdk_42_method_151_code 14 = .ok (.return_, 1) := by decide +kernel
theorem pn_43 : plainName "java/lang/String" = true := by first | (simp [plainName, overriddenIn]; done) | decide +kernel
def Q_rmSI (Z : State) (xa : Addr) (h0 : Heap) (n0 : Nat) (v : Option Value) (h : Heap) (L : List Loc) : Prop := v = none ∧ Fr n0 L ∧ Keep h0 h [xa] ∧ Exa Z h xa "java/lang/String"
theorem rmSI (hw : HW a0 Z) (xa : Addr) (yb : Addr) (h0 : Heap) (n0 : Nat) (O0 : Old Z n0 h0) (NF : Nar Z w3 w0 w2 w1 w4 k_w3 k_w0 k_w1 z_cs w5) (E_xa : Exa Z h0 xa "java/lang/String") (F_value_xa : Fld Z h0 xa "java/lang/String" "value" "[B" .null) (F_coder_xa : Fld Z h0 xa "java/lang/String" "coder" "B" (.int (0 : Int32))) (g_xa : n0 ≤ xa) :
    Con l Z (⟨"java/lang/String", "<init>", "([BB)V"⟩ : MethodName) jdk_42_method_151_code 3 none ws ({ frames := 1, cells := 0, slots := 0, locals := 12 } : Room) #[(.ref xa), (.ref yb), (.int (0 : Int32))] h0 (Q_rmSI Z xa h0 n0) := by
  refine Con.body (own := "java/lang/String") rfl (plainFor_of_name pn_43) (fun m => ef_rmLN m _ _ _) ?_
  intro p e s m below meth c s₁ Bd hx hby hml hZ hown X0 e0 Qf hQf
  have N0 := Fr.nil n0
  have hnm := (name_of_methodNamed Bd.named Bd.method).1
  have K0 := Keep.refl h0 [xa]
  obtain ⟨S_w3, E_w3, S_w0, E_w0, S_w2, E_w2, F_elements_w2, E_w1, S_w4, E_w4, F_allowNulls_w2, S_w_ImmutableCollections__assertionsDisabled, V_w3, V_w0, V_w1, S_cs, nz_cs, M_OA⟩ := id NF
  refine Goes.to (T' := s₁.setTop (mkF m 1 #[.val (.ref xa), .val (.ref yb), .val (.int (0 : Int32))] [(.ref xa)])) (fun t k => XS.aloadN X0.here hx rfl (hb hby d43_0) rfl rfl k) ?_
  obtain ⟨T1, X1, e1, st1⟩ := initO X0 hx hZ hown (wi hw 15 rfl) (wi hw 16 rfl) (wi hw 17 rfl) e0 (g := (mkF m 1 #[.val (.ref xa), .val (.ref yb), .val (.int (0 : Int32))] [(.ref xa)])) rfl (by rw [hml]; rfl) rfl (hb hby d43_1) (by decide) (W := 0) (by show 2 * 0 + _ ≤ _; exact Nat.le_of_eq rfl) (by decide)
  refine Goes.to (T' := T1.setTop (mkF m 4 #[.val (.ref xa), .val (.ref yb), .val (.int (0 : Int32))] [])) st1 ?_
  refine Goes.to (T' := T1.setTop (mkF m 5 #[.val (.ref xa), .val (.ref yb), .val (.int (0 : Int32))] [(.ref xa)])) (fun t k => XS.aloadN X1.here hx rfl (hb hby d43_4) rfl rfl k) ?_
  refine Goes.to (T' := T1.setTop (mkF m 6 #[.val (.ref xa), .val (.ref yb), .val (.int (0 : Int32))] [(.ref yb), (.ref xa)])) (fun t k => XS.aloadN X1.here hx rfl (hb hby d43_5) rfl rfl k) ?_
  obtain ⟨T2, h2, X2, e2, W2, st2⟩ := putF X1 hx hZ hown (host := "") (Or.inl (wi hw 24 rfl)) Via.refl e1 F_value_xa E_xa (Or.inr ⟨(wi hw 20 rfl), rfl, hnm⟩) (wi hw 5 rfl) (ty := (.array .byte)) (by decide) rfl rfl (g := (mkF m 6 #[.val (.ref xa), .val (.ref yb), .val (.int (0 : Int32))] [(.ref yb), (.ref xa)])) rfl rfl (hb hby d43_6)
  have F_value_xa := F_value_xa.same W2
  have E_xa := E_xa.wr W2
  have F_coder_xa := F_coder_xa.other W2 (Or.inr (slot_ne (Or.inr (wi hw 21 rfl)) (Or.inr (wi hw 20 rfl)) (by decide) (t := .byte) (t' := (.array .byte)) (by decide) (by decide)))
  have O0 := O0.wr W2 g_xa
  have K0 := K0.wr W2 (Or.inl (List.mem_of_getElem? (i := 0) rfl))
  have N2 := Fr.snoc X2 N0 g_xa
  refine Goes.to (T' := T2.setTop (mkF m 9 #[.val (.ref xa), .val (.ref yb), .val (.int (0 : Int32))] [])) st2 ?_
  refine Goes.to (T' := T2.setTop (mkF m 10 #[.val (.ref xa), .val (.ref yb), .val (.int (0 : Int32))] [(.ref xa)])) (fun t k => XS.aloadN X2.here hx rfl (hb hby d43_9) rfl rfl k) ?_
  refine Goes.to (T' := T2.setTop (mkF m 11 #[.val (.ref xa), .val (.ref yb), .val (.int (0 : Int32))] [(.int (0 : Int32)), (.ref xa)])) (fun t k => XS.iloadN X2.here hx rfl (hb hby d43_10) rfl k) ?_
  obtain ⟨T3, h3, X3, e3, W3, st3⟩ := putFN X2 hx hZ hown (wi hw 25 rfl) Via.refl e2 F_coder_xa E_xa (Or.inr ⟨(wi hw 21 rfl), rfl, hnm⟩) (wi hw 5 rfl) (ty := .byte) (v' := (.int ((0 : Int32).toInt8.toInt32))) (by decide) rfl (fits_nar_byte _) (g := (mkF m 11 #[.val (.ref xa), .val (.ref yb), .val (.int (0 : Int32))] [(.int (0 : Int32)), (.ref xa)])) rfl rfl (hb hby d43_11)
  have F_coder_xa := F_coder_xa.same W3
  have E_xa := E_xa.wr W3
  have F_value_xa := F_value_xa.other W3 (Or.inr (slot_ne (Or.inr (wi hw 20 rfl)) (Or.inr (wi hw 21 rfl)) (by decide) (t := (.array .byte)) (t' := .byte) (by decide) (by decide)))
  have O0 := O0.wr W3 g_xa
  have K0 := K0.wr W3 (Or.inl (List.mem_of_getElem? (i := 0) rfl))
  have N3 := Fr.snoc X3 N2 g_xa
  refine Goes.to (T' := T3.setTop (mkF m 14 #[.val (.ref xa), .val (.ref yb), .val (.int (0 : Int32))] [])) st3 ?_
  obtain ⟨fs, hrL, hrun, hended, hW, hsame⟩ := X3.leave (v := none) (fun _ => rfl)
  subst hQf
  refine ⟨_, _, X3.returnOut hx Bd.returns (hb hby d43_14) hrL, hrun, hended, _, _, rfl, ?_, ⟨_, rfl⟩, hW, hsame.mono (by decide) (by decide)⟩
  show Q_rmSI Z xa h0 n0 (none) T3.heap _
  rw [e3]
  exact ⟨rfl, N3, K0, E_xa⟩
theorem pd_307 : parseMethodDescriptor "(C)Z" = some ⟨[.char], some .boolean⟩ := by decide +kernel
theorem pd_308 : parseMethodDescriptor "(C)[B" = some ⟨[.char], some (.array .byte)⟩ := by decide +kernel
theorem pd_309 : parseMethodDescriptor "([BB)V" = some ⟨[(.array .byte), .byte], none⟩ := by decide +kernel
theorem d40_0 : decode jdk_42_method_139_code 0 = .ok (.getstatic 38, 3) := by decide +kernel
theorem d40_3 : decode jdk_42_method_139_code 3 = .ok (.ifCond .eq 23, 3) := by decide +kernel
theorem d40_6 : decode jdk_42_method_139_code 6 = .ok (.iload_n 0, 1) := by decide +kernel
theorem d40_7 : decode jdk_42_method_139_code 7 = .ok (.invokestatic 1015, 3) := by decide +kernel
theorem d40_10 : decode jdk_42_method_139_code 10 = .ok (.ifCond .eq 16, 3) := by decide +kernel
theorem d40_13 : decode jdk_42_method_139_code 13 = .ok (.new 10, 3) := by decide +kernel
theorem d40_16 : decode jdk_42_method_139_code 16 = .ok (.dup, 1) := by decide +kernel
theorem d40_17 : decode jdk_42_method_139_code 17 = .ok (.iload_n 0, 1) := by decide +kernel
theorem d40_18 : decode jdk_42_method_139_code 18 = .ok (.invokestatic 1018, 3) := by decide +kernel
theorem d40_21 : decode jdk_42_method_139_code 21 = .ok (.iconst 0, 1) := by decide +kernel
theorem d40_22 : decode jdk_42_method_139_code 22 = .ok (.invokespecial 209, 3) := by decide +kernel
theorem d40_25 : decode jdk_42_method_139_code 25 = .ok (.areturn, 1) := by decide +kernel
theorem pn_40 : plainName "java/lang/String" = true := by first | (simp [plainName, overriddenIn]; done) | decide +kernel
def Q_rmVO (Z : State) (h0 : Heap) (n0 : Nat) (v : Option Value) (h : Heap) (L : List Loc) : Prop := (∃ b : Addr, v = some (.ref b) ∧ n0 ≤ b ∧ h0.size ≤ b ∧ Exa Z h b "java/lang/String") ∧ Fr n0 L ∧ Ext h0 h
theorem rmVO (hw : HW a0 Z) (pc0 : Int32) (h0 : Heap) (n0 : Nat) (O0 : Old Z n0 h0) (NF : Nar Z w3 w0 w2 w1 w4 k_w3 k_w0 k_w1 z_cs w5) (hl : ¬ (255 : Int32) < pc0) :
    Con l Z (⟨"java/lang/String", "valueOf", "(C)Ljava/lang/String;"⟩ : MethodName) jdk_42_method_139_code 1 (some (.object "java/lang/String")) ws ({ frames := 2, cells := 2, slots := 5, locals := 40 } : Room) #[(.int pc0)] h0 (Q_rmVO Z h0 n0) := by
  refine Con.body (own := "java/lang/String") rfl (plainFor_of_name pn_40) (fun m => ef_rmCE m _) ?_
  intro p e s m below meth c s₁ Bd hx hby hml hZ hown X0 e0 Qf hQf
  have N0 := Fr.nil n0
  have K0 := Keep.refl h0 []
  obtain ⟨S_w3, E_w3, S_w0, E_w0, S_w2, E_w2, F_elements_w2, E_w1, S_w4, E_w4, F_allowNulls_w2, S_w_ImmutableCollections__assertionsDisabled, V_w3, V_w0, V_w1, S_cs, nz_cs, M_OA⟩ := id NF
  obtain ⟨T1, X1, e1, st1⟩ := getS2 X0 hx hZ hown (host := "") (Or.inl (wi hw 240 rfl)) Via.refl e0 (S_cs.ext O0.2) (g := (mkF m 0 #[.val (.int pc0)] [])) rfl (hb hby d40_0)
  refine Goes.to (T' := T1.setTop (mkF m 3 #[.val (.int pc0)] [(.int z_cs)])) st1 ?_
  refine Goes.to (T' := T1.setTop (mkF m 6 #[.val (.int pc0)] [])) (fun t k => XS.ifNo X1.here hx rfl (hb hby d40_3) rfl ((if0 _ _).trans (feq nz_cs).1) k) ?_
  refine Goes.to (T' := T1.setTop (mkF m 7 #[.val (.int pc0)] [(.int pc0)])) (fun t k => XS.iloadN X1.here hx rfl (hb hby d40_6) rfl k) ?_
  obtain ⟨_, _, ⟨T2, L2, k2, n2⟩, -, X2, ⟨Lc2, hQ2, l2, y2, z2⟩, st2⟩ := Jvm.LawKit.callS X1 hx (y := (⟨"java/lang/StringLatin1", "canEncode", "(C)Z"⟩ : MethodName)) hown (mvT hZ (wi hw 254 rfl)) (mvT hZ (wi hw 255 rfl)) (mvT hZ (wi hw 256 rfl)) (mvT hZ (wi hw 257 rfl)) (by decide) (backOf (W := 0) (rmCE hw pc0  h0 n0 O0 NF hl) hZ (wi hw 257 rfl) (wi hw 256 rfl) (by decide) (by decide)) (g := (mkF m 7 #[.val (.int pc0)] [(.int pc0)])) rfl (by rw [hml]; rfl) (argsL := [(.int pc0)]) (rest := []) (lenOf pd_307 rfl) rfl (by show 2 * 0 + _ ≤ _; exact Nat.le_of_eq rfl) (hb hby d40_7) (fun _ _ => ⟨rfl, e1, (by decide : 0 + 0 ≤ _), (by decide : 0 + 0 ≤ _)⟩)
  dsimp only [Pt.U, Pt.locs, Pt.cells, Pt.slots] at X2 l2 y2 z2 st2 hQ2
  subst l2 y2 z2
  obtain ⟨rfl, Nq2, e2⟩ := hQ2
  have N2 := Fr.app N0 Nq2
  refine Goes.to (T' := T2.setTop (mkF m 10 #[.val (.int pc0)] [(.int (1 : Int32))])) st2 ?_
  refine Goes.to (T' := T2.setTop (mkF m 13 #[.val (.int pc0)] [])) (fun t k => XS.ifNo X2.here hx rfl (hb hby d40_10) rfl ((if0 _ _).trans (feq (by decide)).1) k) ?_
  obtain ⟨T3, h3, X3, e3, E3, A3, D3, -, st3⟩ := newO X2 hx hZ hown (wi hw 258 rfl) (wi hw 5 rfl) (wi hw 6 rfl) e2 (g := (mkF m 13 #[.val (.int pc0)] [])) rfl (hb hby d40_13) (by decide) (by decide)
  obtain ⟨b3, g3⟩ : ∃ z, z = h0.size := ⟨_, rfl⟩
  rw [← g3] at A3 D3 st3
  have g_b3 : n0 ≤ b3 := Nat.le_trans (own_old O0) (Nat.le_of_eq g3.symm)
  have sz_b3 : h0.size ≤ b3 := Nat.le_trans K0.1 (Nat.le_of_eq g3.symm)
  have O0 := O0.ext E3
  have K0 := K0.ext E3
  have E_b3 := A3
  have F_value_b3 : Fld Z h3 b3 "java/lang/String" "value" "[B" .null := D3 (Or.inr (wi hw 20 rfl)) (ty := (.array .byte)) (by decide)
  have F_coder_b3 : Fld Z h3 b3 "java/lang/String" "coder" "B" (.int (0 : Int32)) := D3 (Or.inr (wi hw 21 rfl)) (ty := .byte) (by decide)
  refine Goes.to (T' := T3.setTop (mkF m 16 #[.val (.int pc0)] [(.ref b3)])) st3 ?_
  refine Goes.to (T' := T3.setTop (mkF m 17 #[.val (.int pc0)] [(.ref b3), (.ref b3)])) (fun t k => XS.dup X3.here hx rfl (hb hby d40_16) rfl rfl k) ?_
  refine Goes.to (T' := T3.setTop (mkF m 18 #[.val (.int pc0)] [(.int pc0), (.ref b3), (.ref b3)])) (fun t k => XS.iloadN X3.here hx rfl (hb hby d40_17) rfl k) ?_
  obtain ⟨_, _, ⟨T4, L4, k4, n4⟩, -, X4, ⟨Lc4, hQ4, l4, y4, z4⟩, st4⟩ := Jvm.LawKit.callS X3 hx (y := (⟨"java/lang/StringLatin1", "toBytes", "(C)[B"⟩ : MethodName)) hown (mvT hZ (wi hw 259 rfl)) (mvT hZ (wi hw 260 rfl)) (mvT hZ (wi hw 256 rfl)) (mvT hZ (wi hw 261 rfl)) (by decide) (backOf (W := 2) (rmTB hw pc0  h3 n0 O0 NF ) hZ (wi hw 261 rfl) (wi hw 256 rfl) (by decide) (by decide)) (g := (mkF m 18 #[.val (.int pc0)] [(.int pc0), (.ref b3), (.ref b3)])) rfl (by rw [hml]; rfl) (argsL := [(.int pc0)]) (rest := [(.ref b3), (.ref b3)]) (lenOf pd_308 rfl) rfl (by show 2 * 0 + _ ≤ _; exact Nat.le_of_eq rfl) (hb hby d40_18) (fun _ _ => ⟨rfl, e3, (by decide : 1 + 1 ≤ _), (by decide : 4 + 1 ≤ _)⟩)
  dsimp only [Pt.U, Pt.locs, Pt.cells, Pt.slots] at X4 l4 y4 z4 st4 hQ4
  subst l4 y4 z4
  obtain ⟨⟨yb, rfl, gy4, sy4⟩, Nq4, Ex4⟩ := hQ4
  have N4 := Fr.app N2 Nq4
  have g_yb : n0 ≤ yb := gy4
  have sz_yb : h0.size ≤ yb := Nat.le_trans K0.1 sy4
  have ne_b3_yb : b3 ≠ yb := Nat.ne_of_lt (Nat.lt_of_lt_of_le E_b3.lt sy4)
  have ne_yb_b3 := Ne.symm ne_b3_yb
  have E_b3 := E_b3.ext Ex4
  have F_value_b3 := F_value_b3.ext Ex4
  have F_coder_b3 := F_coder_b3.ext Ex4
  have O0 := O0.ext Ex4
  have K0 := K0.ext Ex4
  refine Goes.to (T' := T4.setTop (mkF m 21 #[.val (.int pc0)] [(.ref yb), (.ref b3), (.ref b3)])) st4 ?_
  refine Goes.to (T' := T4.setTop (mkF m 22 #[.val (.int pc0)] [(.int (0 : Int32)), (.ref yb), (.ref b3), (.ref b3)])) (fun t k => XS.iconst X4.here hx rfl (hb hby d40_21) k) ?_
  obtain ⟨_, _, ⟨T5, L5, k5, n5⟩, -, X5, ⟨Lc5, hQ5, l5, y5, z5⟩, st5⟩ := X4.specialBack hx (y := (⟨"java/lang/String", "<init>", "([BB)V"⟩ : MethodName)) rfl hown (mvT hZ (wi hw 262 rfl)) (mvT hZ (wi hw 263 rfl)) (mvT hZ (wi hw 264 rfl)) (by decide) (backOf (W := 1) (rmSI hw b3 yb  T4.heap n0 O0 NF E_b3 F_value_b3 F_coder_b3 g_b3) hZ (wi hw 264 rfl) (wi hw 6 rfl) (by decide) (by decide)) (g := (mkF m 22 #[.val (.int pc0)] [(.int (0 : Int32)), (.ref yb), (.ref b3), (.ref b3)])) rfl (by rw [hml]; rfl) (Steps.refl _) (a := b3) (argsL := [(.ref yb), (.int (0 : Int32))]) (rest := [(.ref b3)]) (lenOf pd_309 rfl) rfl (by show 2 * 0 + _ ≤ _; exact Nat.le_of_eq rfl) (hb hby d40_22) (fun _ _ => ⟨rfl, rfl, (by decide : 2 + 0 ≤ _), (by decide : 5 + 0 ≤ _)⟩)
  dsimp only [Pt.U, Pt.locs, Pt.cells, Pt.slots] at X5 l5 y5 z5 st5 hQ5
  subst l5 y5 z5
  obtain ⟨rfl, Nq5, K5, Ea5⟩ := hQ5
  have N5 := Fr.app N4 Nq5
  have E_b3 := E_b3.keep K5
  have O0 := O0.keep K5 (allS g_b3 all0)
  have K0 := K0.trans K5 (allS (Or.inr sz_b3) all0)
  have E_b3 := Ea5
  refine Goes.thru (T' := T5.setTop (mkF m 25 #[.val (.int pc0)] [(.ref b3)])) st5 ?_
  obtain ⟨fs, hrL, hrun, hended, hW, hsame⟩ := X5.leave (v := some (.ref b3)) (fun h => by rw [Bd.returns] at h; cases h)
  subst hQf
  refine ⟨_, _, retOut X5 hx Bd.returns rfl (Or.inr (Or.inr (Or.inr (Or.inr ⟨rfl, rfl, rfl⟩)))) (hb hby d40_25) hrL, hrun, hended, _, _, rfl, ?_, ⟨_, rfl⟩, hW, hsame.mono (by decide) (by decide)⟩
  show Q_rmVO Z h0 n0 (some (.ref b3)) T5.heap _
  exact ⟨⟨b3, rfl, g_b3, sz_b3, E_b3⟩, N5, own_ext_keep K0⟩
theorem d3_0 : decode jdk_42_method_149_code 0 = .ok (.aload_n 0, 1) := by decide +kernel
theorem d3_1 : decode jdk_42_method_149_code 1 = .ok (.invokespecial 1, 3) := by decide +kernel
theorem d3_4 : decode jdk_42_method_149_code 4 = .ok (.iload_n 3, 1) := by decide +kernel
theorem d3_5 : decode jdk_42_method_149_code 5 = .ok (.ifCond .ne 22, 3) := by decide +kernel
theorem d3_8 : decode jdk_42_method_149_code 8 = .ok (.aload_n 0, 1) := by decide +kernel
theorem d3_9 : decode jdk_42_method_149_code 9 = .ok (.ldc 7, 2) := by decide +kernel
theorem d3_11 : decode jdk_42_method_149_code 11 = .ok (.getfield 9, 3) := by decide +kernel
theorem d3_14 : decode jdk_42_method_149_code 14 = .ok (.putfield 9, 3) := by decide +kernel
theorem d3_17 : decode jdk_42_method_149_code 17 = .ok (.aload_n 0, 1) := by decide +kernel
theorem d3_18 : decode jdk_42_method_149_code 18 = .ok (.ldc 7, 2) := by decide +kernel
theorem d3_20 : decode jdk_42_method_149_code 20 = .ok (.getfield 15, 3) := by decide +kernel
theorem d3_23 : decode jdk_42_method_149_code 23 = .ok (.putfield 15, 3) := by decide +kernel
theorem d3_26 : decode jdk_42_method_149_code 26 = .ok (.return_, 1) := by decide +kernel
theorem pn_3 : plainName "java/lang/String" = true := by first | (simp [plainName, overriddenIn]; done) | decide +kernel
theorem ef_rmV0 (m : MethodId) (x0 : Addr) (x1 : Addr) (x2 : Int32) (x3 : Int32) : entryFrame m #[(.ref x0), (.ref x1), (.int x2), (.int x3), .null] 6 = mkF m 0 #[.val (.ref x0), .val (.ref x1), .val (.int x2), .val (.int x3), .val .null, .unset] [] := by first | (simp [entryFrame, mkF, argsToLocals, Value.category]; done) | rfl
def Q_rmV0 (Z : State) (xa : Addr) (h0 : Heap) (n0 : Nat) (v : Option Value) (h : Heap) (L : List Loc) : Prop := v = none ∧ Fr n0 L ∧ Keep h0 h [xa] ∧ Exa Z h xa "java/lang/String"
theorem rmV0 (hw : HW a0 Z) (xa : Addr) (yc : Addr) (vmC : Vm) (h0 : Heap) (n0 : Nat) (O0 : Old Z n0 h0) (NF : Nar Z w3 w0 w2 w1 w4 k_w3 k_w0 k_w1 z_cs w5) (E_xa : Exa Z h0 xa "java/lang/String") (F_value_xa : Fld Z h0 xa "java/lang/String" "value" "[B" .null) (F_coder_xa : Fld Z h0 xa "java/lang/String" "coder" "B" (.int (0 : Int32))) (g_xa : n0 ≤ xa) (SC_xa : Safe Z consts_1 vmC h0 xa) :
    MetFree l (⟨"java/lang/String", "<init>", "([CIILjava/lang/Void;)V"⟩ : MethodName) (head1 (Jvm.Cond.code (⟨"java/lang/String", "<init>", "([CIILjava/lang/Void;)V"⟩ : MethodName) jdk_42_method_149_code 6 none :: ws) ({ frames := 1, cells := 4, slots := 8, locals := 20 } : Room)) (fun a U => a = #[(.ref xa), (.ref yc), (.int (0 : Int32)), (.int (0 : Int32)), .null] ∧ Z.Warmed39 U.vm ∧ U.heap = h0 ∧ CHr Z consts_1 vmC h0 U.vm h0) (fun _ _ _ _ _ => True) (fun _ U o U' => ∃ v L, o = .returned v ∧ Q_rmV0 Z xa h0 n0 v U'.heap L ∧ CHr Z consts_1 U.vm U.heap U'.vm U'.heap ∧ ReturnedEndW U o U' L ({ frames := 1, cells := 4, slots := 8, locals := 20 } : Room).cells ({ frames := 1, cells := 4, slots := 8, locals := 20 } : Room).slots) := by
  refine MetFree.of_bodySF (plainFor_of_name pn_3) hisR ?_
  intro p e s m args below meth c s₁ Bd hml0 hP hK
  obtain ⟨rfl, hZ, hh, hCR⟩ := hP
  have hx := Bd.exec
  have hby := Bd.bytes
  have hml : c.maxLocals = 6 := hml0
  have hown : s.vm.findClass "java/lang/String" = some m.cls := findClass_of_methodNamed Bd.named
  have hnm := (name_of_methodNamed Bd.named Bd.method).1
  have X0 : Stand p l e ({ frames := 1, cells := 4, slots := 8, locals := 20 } : Room) (s.setVm s.vm) m #[(.ref xa), (.ref yc), (.int (0 : Int32)), (.int (0 : Int32)), .null] below meth c s₁ [] 0 0 := Stand.of_body Bd
  have e0 : s₁.heap = h0 := by rw [← hh, Bd.state]; rfl
  have N0 := Fr.nil n0
  have hZ : Z.Warmed39 (s.setVm s.vm).vm := hZ
  have hown : (s.setVm s.vm).vm.findClass "java/lang/String" = some m.cls := hown
  have hS : s.Since s.vm h0.size := (State.WarmedH.refl s).since _
  have hk : h0.size ≤ h0.size := Nat.le_refl _
  have own_strw : ∀ a ∈ Bundle.stringAtoms, a.before a0 Z = true := fun d hd => hw d ((by decide +kernel : ∀ d ∈ Bundle.stringAtoms, d ∈ tables_1) d hd)
  have hEL : EW Z a0 consts_1 := (EW.cons (wi hw 18 rfl) (by decide) EW.nil)
  have CR : CHr Z consts_1 s.vm h0 s.vm h0 := CHr.refl hCR.1
  have S_xa : Safe Z consts_1 s.vm h0 xa := hCR.safe E_xa.lt SC_xa
  have K0 := Keep.refl h0 [xa]
  suffices G : ∀ (Qf : Outcome → State → Prop), Qf = (fun (_ : Array Value) (U : State) (o : Outcome) (U' : State) => ∃ v L, o = .returned v ∧ Q_rmV0 Z xa h0 n0 v U'.heap L ∧ CHr Z consts_1 U.vm U.heap U'.vm U'.heap ∧ ReturnedEndW U o U' L ({ frames := 1, cells := 4, slots := 8, locals := 20 } : Room).cells ({ frames := 1, cells := 4, slots := 8, locals := 20 } : Room).slots) #[] s → Goes p.tables e below Qf (s₁.setTop (mkF m 0 #[.val (.ref xa), .val (.ref yc), .val (.int (0 : Int32)), .val (.int (0 : Int32)), .val .null, .unset] [])) by
    obtain ⟨s₂, o, g1, g2, g3, g4⟩ := G _ rfl
    exact ⟨s₂, o, castTop (ef_rmV0 m _ _ _ _) g1, g2, g3, g4⟩
  intro Qf hQf
  obtain ⟨S_w3, E_w3, S_w0, E_w0, S_w2, E_w2, F_elements_w2, E_w1, S_w4, E_w4, F_allowNulls_w2, S_w_ImmutableCollections__assertionsDisabled, V_w3, V_w0, V_w1, S_cs, nz_cs, M_OA⟩ := id NF
  refine Goes.to (T' := s₁.setTop (mkF m 1 #[.val (.ref xa), .val (.ref yc), .val (.int (0 : Int32)), .val (.int (0 : Int32)), .val .null, .unset] [(.ref xa)])) (fun t k => XS.aloadN X0.here hx rfl (hb hby d3_0) rfl rfl k) ?_
  obtain ⟨T1, X1, e1, st1⟩ := initO X0 hx hZ hown (wi hw 15 rfl) (wi hw 16 rfl) (wi hw 17 rfl) e0 (g := (mkF m 1 #[.val (.ref xa), .val (.ref yc), .val (.int (0 : Int32)), .val (.int (0 : Int32)), .val .null, .unset] [(.ref xa)])) rfl (by rw [hml]; rfl) rfl (hb hby d3_1) (by decide) (W := 0) (by show 2 * 0 + _ ≤ _; exact Nat.le_of_eq rfl) (by decide)
  refine Goes.to (T' := T1.setTop (mkF m 4 #[.val (.ref xa), .val (.ref yc), .val (.int (0 : Int32)), .val (.int (0 : Int32)), .val .null, .unset] [])) st1 ?_
  refine Goes.to (T' := T1.setTop (mkF m 5 #[.val (.ref xa), .val (.ref yc), .val (.int (0 : Int32)), .val (.int (0 : Int32)), .val .null, .unset] [(.int (0 : Int32))])) (fun t k => XS.iloadN X1.here hx rfl (hb hby d3_4) rfl k) ?_
  refine Goes.to (T' := T1.setTop (mkF m 8 #[.val (.ref xa), .val (.ref yc), .val (.int (0 : Int32)), .val (.int (0 : Int32)), .val .null, .unset] [])) (fun t k => XS.ifNo X1.here hx rfl (hb hby d3_5) rfl ((if0 _ _).trans (teq (by decide)).2) k) ?_
  refine Goes.to (T' := T1.setTop (mkF m 9 #[.val (.ref xa), .val (.ref yc), .val (.int (0 : Int32)), .val (.int (0 : Int32)), .val .null, .unset] [(.ref xa)])) (fun t k => XS.aloadN X1.here hx rfl (hb hby d3_8) rfl rfl k) ?_
  obtain ⟨b2, T2, h2, kS2, t2, kb2, X2, e2, E2, hS, hk, hZ, hown, Ea2, Fc2, Fv2, Av2, -, -, hC2, -, hne2, st2⟩ := ldcCH X1 hx hZ hown (wi hw 18 rfl) own_strw e1 hS hk hEL (List.mem_of_getElem? (i := 0) rfl) CR.1 (vs := []) (z := 0) ⟨by decide, rfl⟩ (by decide) (by decide) (g := (mkF m 9 #[.val (.ref xa), .val (.ref yc), .val (.int (0 : Int32)), .val (.int (0 : Int32)), .val .null, .unset] [(.ref xa)])) rfl (hb hby d3_9) (n := 0) (by decide) (by decide) (by decide) (by decide)
  have S_xa := hC2.safe E_xa.lt S_xa
  have CR := CR.trans hC2
  have E_xa := E_xa.ext E2
  have F_value_xa := F_value_xa.ext E2
  have F_coder_xa := F_coder_xa.ext E2
  have O0 := O0.ext E2
  have K0 := K0.ext E2
  have E_b2 : Exa Z h2 b2 "java/lang/String" := Ea2
  have F_coder_b2 : Fld Z h2 b2 "java/lang/String" "coder" "B" (.int (0 : Int32)) := Fc2
  have F_value_b2 : Fld Z h2 b2 "java/lang/String" "value" "[B" (.ref t2) := Fv2
  have V_t2 : Arv Z h2 t2 kb2 .byte (0 : Int32) [] (.int (0 : Int32)) := Av2
  have ne_xa_b2 : xa ≠ b2 := (hne2 _ S_xa).1
  have ne_b2_xa := Ne.symm ne_xa_b2
  have ne_xa_t2 : xa ≠ t2 := (hne2 _ S_xa).2
  have ne_t2_xa := Ne.symm ne_xa_t2
  refine Goes.to (T' := T2.setTop (mkF m 11 #[.val (.ref xa), .val (.ref yc), .val (.int (0 : Int32)), .val (.int (0 : Int32)), .val .null, .unset] [(.ref b2), (.ref xa)])) st2 ?_
  obtain ⟨T3, X3, e3, st3⟩ := getF X2 hx hZ hown (host := "") (Or.inl (wi hw 24 rfl)) Via.refl e2 F_value_b2 (g := (mkF m 11 #[.val (.ref xa), .val (.ref yc), .val (.int (0 : Int32)), .val (.int (0 : Int32)), .val .null, .unset] [(.ref b2), (.ref xa)])) rfl rfl (hb hby d3_11)
  refine Goes.to (T' := T3.setTop (mkF m 14 #[.val (.ref xa), .val (.ref yc), .val (.int (0 : Int32)), .val (.int (0 : Int32)), .val .null, .unset] [(.ref t2), (.ref xa)])) st3 ?_
  obtain ⟨T4, h4, X4, e4, W4, st4⟩ := putF X3 hx hZ hown (host := "") (Or.inl (wi hw 24 rfl)) Via.refl e3 F_value_xa E_xa (Or.inr ⟨(wi hw 20 rfl), rfl, hnm⟩) (wi hw 5 rfl) (ty := (.array .byte)) (by decide) rfl rfl (g := (mkF m 14 #[.val (.ref xa), .val (.ref yc), .val (.int (0 : Int32)), .val (.int (0 : Int32)), .val .null, .unset] [(.ref t2), (.ref xa)])) rfl rfl (hb hby d3_14)
  have F_value_xa := F_value_xa.same W4
  have CRn := CR.trans (CHr.wr W4 S_xa CR.1)
  have S_xa := Safe.wr W4 S_xa CR.1 S_xa
  have CR := CRn
  have E_xa := E_xa.wr W4
  have F_coder_xa := F_coder_xa.other W4 (Or.inr (slot_ne (Or.inr (wi hw 21 rfl)) (Or.inr (wi hw 20 rfl)) (by decide) (t := .byte) (t' := (.array .byte)) (by decide) (by decide)))
  have E_b2 := E_b2.wr W4
  have F_coder_b2 := F_coder_b2.other W4 (Or.inl (ne_b2_xa))
  have F_value_b2 := F_value_b2.other W4 (Or.inl (ne_b2_xa))
  have V_t2 := V_t2.other W4 (ne_t2_xa)
  have O0 := O0.wr W4 g_xa
  have hk := Nat.le_trans hk (Keep.of_wr W4).1
  have K0 := K0.wr W4 (Or.inl (List.mem_of_getElem? (i := 0) rfl))
  have N4 := Fr.snoc X4 N0 g_xa
  refine Goes.to (T' := T4.setTop (mkF m 17 #[.val (.ref xa), .val (.ref yc), .val (.int (0 : Int32)), .val (.int (0 : Int32)), .val .null, .unset] [])) st4 ?_
  refine Goes.to (T' := T4.setTop (mkF m 18 #[.val (.ref xa), .val (.ref yc), .val (.int (0 : Int32)), .val (.int (0 : Int32)), .val .null, .unset] [(.ref xa)])) (fun t k => XS.aloadN X4.here hx rfl (hb hby d3_17) rfl rfl k) ?_
  obtain ⟨b5, T5, h5, kS5, t5, kb5, X5, e5, E5, hS, hk, hZ, hown, Ea5, Fc5, Fv5, Av5, -, -, hC5, -, hne5, st5⟩ := ldcCH X4 hx hZ hown (wi hw 18 rfl) own_strw e4 hS hk hEL (List.mem_of_getElem? (i := 0) rfl) CR.1 (vs := []) (z := 0) ⟨by decide, rfl⟩ (by decide) (by decide) (g := (mkF m 18 #[.val (.ref xa), .val (.ref yc), .val (.int (0 : Int32)), .val (.int (0 : Int32)), .val .null, .unset] [(.ref xa)])) rfl (hb hby d3_18) (n := 0) (by decide) (by decide) (by decide) (by decide)
  have S_xa := hC5.safe E_xa.lt S_xa
  have CR := CR.trans hC5
  have E_xa := E_xa.ext E5
  have F_value_xa := F_value_xa.ext E5
  have F_coder_xa := F_coder_xa.ext E5
  have E_b2 := E_b2.ext E5
  have F_coder_b2 := F_coder_b2.ext E5
  have F_value_b2 := F_value_b2.ext E5
  have V_t2 := V_t2.ext E5
  have O0 := O0.ext E5
  have K0 := K0.ext E5
  have E_b5 : Exa Z h5 b5 "java/lang/String" := Ea5
  have F_coder_b5 : Fld Z h5 b5 "java/lang/String" "coder" "B" (.int (0 : Int32)) := Fc5
  have F_value_b5 : Fld Z h5 b5 "java/lang/String" "value" "[B" (.ref t5) := Fv5
  have V_t5 : Arv Z h5 t5 kb5 .byte (0 : Int32) [] (.int (0 : Int32)) := Av5
  have ne_xa_b5 : xa ≠ b5 := (hne5 _ S_xa).1
  have ne_b5_xa := Ne.symm ne_xa_b5
  have ne_xa_t5 : xa ≠ t5 := (hne5 _ S_xa).2
  have ne_t5_xa := Ne.symm ne_xa_t5
  refine Goes.to (T' := T5.setTop (mkF m 20 #[.val (.ref xa), .val (.ref yc), .val (.int (0 : Int32)), .val (.int (0 : Int32)), .val .null, .unset] [(.ref b5), (.ref xa)])) st5 ?_
  obtain ⟨T6, X6, e6, st6⟩ := getF X5 hx hZ hown (host := "") (Or.inl (wi hw 25 rfl)) Via.refl e5 F_coder_b5 (g := (mkF m 20 #[.val (.ref xa), .val (.ref yc), .val (.int (0 : Int32)), .val (.int (0 : Int32)), .val .null, .unset] [(.ref b5), (.ref xa)])) rfl rfl (hb hby d3_20)
  refine Goes.to (T' := T6.setTop (mkF m 23 #[.val (.ref xa), .val (.ref yc), .val (.int (0 : Int32)), .val (.int (0 : Int32)), .val .null, .unset] [(.int (0 : Int32)), (.ref xa)])) st6 ?_
  obtain ⟨T7, h7, X7, e7, W7, st7⟩ := putFN X6 hx hZ hown (wi hw 25 rfl) Via.refl e6 F_coder_xa E_xa (Or.inr ⟨(wi hw 21 rfl), rfl, hnm⟩) (wi hw 5 rfl) (ty := .byte) (v' := (.int ((0 : Int32).toInt8.toInt32))) (by decide) rfl (fits_nar_byte _) (g := (mkF m 23 #[.val (.ref xa), .val (.ref yc), .val (.int (0 : Int32)), .val (.int (0 : Int32)), .val .null, .unset] [(.int (0 : Int32)), (.ref xa)])) rfl rfl (hb hby d3_23)
  have F_coder_xa := F_coder_xa.same W7
  have CRn := CR.trans (CHr.wr W7 S_xa CR.1)
  have S_xa := Safe.wr W7 S_xa CR.1 S_xa
  have CR := CRn
  have E_xa := E_xa.wr W7
  have F_value_xa := F_value_xa.other W7 (Or.inr (slot_ne (Or.inr (wi hw 20 rfl)) (Or.inr (wi hw 21 rfl)) (by decide) (t := (.array .byte)) (t' := .byte) (by decide) (by decide)))
  have E_b2 := E_b2.wr W7
  have F_coder_b2 := F_coder_b2.other W7 (Or.inl (ne_b2_xa))
  have F_value_b2 := F_value_b2.other W7 (Or.inl (ne_b2_xa))
  have V_t2 := V_t2.other W7 (ne_t2_xa)
  have E_b5 := E_b5.wr W7
  have F_coder_b5 := F_coder_b5.other W7 (Or.inl (ne_b5_xa))
  have F_value_b5 := F_value_b5.other W7 (Or.inl (ne_b5_xa))
  have V_t5 := V_t5.other W7 (ne_t5_xa)
  have O0 := O0.wr W7 g_xa
  have hk := Nat.le_trans hk (Keep.of_wr W7).1
  have K0 := K0.wr W7 (Or.inl (List.mem_of_getElem? (i := 0) rfl))
  have N7 := Fr.snoc X7 N4 g_xa
  refine Goes.to (T' := T7.setTop (mkF m 26 #[.val (.ref xa), .val (.ref yc), .val (.int (0 : Int32)), .val (.int (0 : Int32)), .val .null, .unset] [])) st7 ?_
  obtain ⟨fs, hrL, hrun, hended, hRW⟩ := X7.leaveW hS (by rw [e7]; exact hk) (v := none) (fun _ => rfl)
  have hCRz : CHr Z consts_1 s.vm s.heap T7.vm T7.heap := by rw [hh, e7]; exact CR.trans (CHv.at X7 hZ hEL CR.1)
  subst hQf
  refine ⟨_, _, X7.returnOut hx Bd.returns (hb hby d3_26) hrL, hrun, hended, _, _, rfl, ?_, hCRz, hRW.1, hRW.2.1, hRW.2.2.1, hRW.2.2.2.mono (by decide) (by decide)⟩
  show Q_rmV0 Z xa h0 n0 (none) T7.heap _
  rw [e7]
  exact ⟨rfl, N7, K0, E_xa⟩
theorem pd_338 : parseMethodDescriptor "([CIILjava/lang/Void;)V" = some ⟨[(.array .char), .int, .int, (.object "java/lang/Void")], none⟩ := by decide +kernel
theorem d2_0 : decode jdk_42_method_3_code 0 = .ok (.aload_n 0, 1) := by decide +kernel
theorem d2_1 : decode jdk_42_method_3_code 1 = .ok (.aload_n 1, 1) := by decide +kernel
theorem d2_2 : decode jdk_42_method_3_code 2 = .ok (.iconst 0, 1) := by decide +kernel
theorem d2_3 : decode jdk_42_method_3_code 3 = .ok (.aload_n 1, 1) := by decide +kernel
theorem d2_4 : decode jdk_42_method_3_code 4 = .ok (.arraylength, 1) := by decide +kernel
theorem d2_5 : decode jdk_42_method_3_code 5 = .ok (.aconst_null, 1) := by decide +kernel
theorem d2_6 : decode jdk_42_method_3_code 6 = .ok (.invokespecial 27, 3) := by decide +kernel
theorem d2_9 : decode jdk_42_method_3_code 9 = .ok (.return_, 1) := by decide +kernel
theorem pn_2 : plainName "java/lang/String" = true := by first | (simp [plainName, overriddenIn]; done) | decide +kernel
def Q_rmC0 (Z : State) (xa : Addr) (h0 : Heap) (n0 : Nat) (v : Option Value) (h : Heap) (L : List Loc) : Prop := v = none ∧ Fr n0 L ∧ Keep h0 h [xa] ∧ Exa Z h xa "java/lang/String"
theorem rmC0 (hw : HW a0 Z) (xa : Addr) (yc : Addr) (kc : ClassId) (vmC : Vm) (h0 : Heap) (n0 : Nat) (O0 : Old Z n0 h0) (NF : Nar Z w3 w0 w2 w1 w4 k_w3 k_w0 k_w1 z_cs w5) (E_xa : Exa Z h0 xa "java/lang/String") (F_value_xa : Fld Z h0 xa "java/lang/String" "value" "[B" .null) (F_coder_xa : Fld Z h0 xa "java/lang/String" "coder" "B" (.int (0 : Int32))) (V_yc : Arv Z h0 yc kc .char (0 : Int32) [] (.int (0 : Int32))) (g_xa : n0 ≤ xa) (ne_yc_xa : yc ≠ xa) (SC_xa : Safe Z consts_1 vmC h0 xa) :
    MetFree l (⟨"java/lang/String", "<init>", "([C)V"⟩ : MethodName) (head1 (Jvm.Cond.code (⟨"java/lang/String", "<init>", "([C)V"⟩ : MethodName) jdk_42_method_3_code 2 none :: ws) ({ frames := 2, cells := 4, slots := 8, locals := 50 } : Room)) (fun a U => a = #[(.ref xa), (.ref yc)] ∧ Z.Warmed39 U.vm ∧ U.heap = h0 ∧ CHr Z consts_1 vmC h0 U.vm h0) (fun _ _ _ _ _ => True) (fun _ U o U' => ∃ v L, o = .returned v ∧ Q_rmC0 Z xa h0 n0 v U'.heap L ∧ CHr Z consts_1 U.vm U.heap U'.vm U'.heap ∧ ReturnedEndW U o U' L ({ frames := 2, cells := 4, slots := 8, locals := 50 } : Room).cells ({ frames := 2, cells := 4, slots := 8, locals := 50 } : Room).slots) := by
  refine MetFree.of_bodySF (plainFor_of_name pn_2) hisR ?_
  intro p e s m args below meth c s₁ Bd hml0 hP hK
  obtain ⟨rfl, hZ, hh, hCR⟩ := hP
  have hx := Bd.exec
  have hby := Bd.bytes
  have hml : c.maxLocals = 2 := hml0
  have hown : s.vm.findClass "java/lang/String" = some m.cls := findClass_of_methodNamed Bd.named
  have hnm := (name_of_methodNamed Bd.named Bd.method).1
  have X0 : Stand p l e ({ frames := 2, cells := 4, slots := 8, locals := 50 } : Room) (s.setVm s.vm) m #[(.ref xa), (.ref yc)] below meth c s₁ [] 0 0 := Stand.of_body Bd
  have e0 : s₁.heap = h0 := by rw [← hh, Bd.state]; rfl
  have N0 := Fr.nil n0
  have hZ : Z.Warmed39 (s.setVm s.vm).vm := hZ
  have hown : (s.setVm s.vm).vm.findClass "java/lang/String" = some m.cls := hown
  have hS : s.Since s.vm h0.size := (State.WarmedH.refl s).since _
  have hk : h0.size ≤ h0.size := Nat.le_refl _
  have own_strw : ∀ a ∈ Bundle.stringAtoms, a.before a0 Z = true := fun d hd => hw d ((by decide +kernel : ∀ d ∈ Bundle.stringAtoms, d ∈ tables_1) d hd)
  have hEL : EW Z a0 consts_1 := (EW.cons (wi hw 18 rfl) (by decide) EW.nil)
  have CR : CHr Z consts_1 s.vm h0 s.vm h0 := CHr.refl hCR.1
  have S_xa : Safe Z consts_1 s.vm h0 xa := hCR.safe E_xa.lt SC_xa
  have K0 := Keep.refl h0 [xa]
  suffices G : ∀ (Qf : Outcome → State → Prop), Qf = (fun (_ : Array Value) (U : State) (o : Outcome) (U' : State) => ∃ v L, o = .returned v ∧ Q_rmC0 Z xa h0 n0 v U'.heap L ∧ CHr Z consts_1 U.vm U.heap U'.vm U'.heap ∧ ReturnedEndW U o U' L ({ frames := 2, cells := 4, slots := 8, locals := 50 } : Room).cells ({ frames := 2, cells := 4, slots := 8, locals := 50 } : Room).slots) #[] s → Goes p.tables e below Qf (s₁.setTop (mkF m 0 #[.val (.ref xa), .val (.ref yc)] [])) by
    obtain ⟨s₂, o, g1, g2, g3, g4⟩ := G _ rfl
    exact ⟨s₂, o, castTop (ef_rmA0 m _ _) g1, g2, g3, g4⟩
  intro Qf hQf
  obtain ⟨S_w3, E_w3, S_w0, E_w0, S_w2, E_w2, F_elements_w2, E_w1, S_w4, E_w4, F_allowNulls_w2, S_w_ImmutableCollections__assertionsDisabled, V_w3, V_w0, V_w1, S_cs, nz_cs, M_OA⟩ := id NF
  refine Goes.to (T' := s₁.setTop (mkF m 1 #[.val (.ref xa), .val (.ref yc)] [(.ref xa)])) (fun t k => XS.aloadN X0.here hx rfl (hb hby d2_0) rfl rfl k) ?_
  refine Goes.to (T' := s₁.setTop (mkF m 2 #[.val (.ref xa), .val (.ref yc)] [(.ref yc), (.ref xa)])) (fun t k => XS.aloadN X0.here hx rfl (hb hby d2_1) rfl rfl k) ?_
  refine Goes.to (T' := s₁.setTop (mkF m 3 #[.val (.ref xa), .val (.ref yc)] [(.int (0 : Int32)), (.ref yc), (.ref xa)])) (fun t k => XS.iconst X0.here hx rfl (hb hby d2_2) k) ?_
  refine Goes.to (T' := s₁.setTop (mkF m 4 #[.val (.ref xa), .val (.ref yc)] [(.ref yc), (.int (0 : Int32)), (.ref yc), (.ref xa)])) (fun t k => XS.aloadN X0.here hx rfl (hb hby d2_3) rfl rfl k) ?_
  obtain ⟨cl1, Ar1, q1, S1, Ng1, H1, G1⟩ := id V_yc
  refine Goes.to (T' := s₁.setTop (mkF m 5 #[.val (.ref xa), .val (.ref yc)] [(.int (0 : Int32)), (.int (0 : Int32)), (.ref yc), (.ref xa)])) (fun t k => X0.arraylength hx (by rw [e0]; exact Ar1.1) (State.isArrayOf_alike hZ.alike Ar1.2.1) (g := (mkF m 4 #[.val (.ref xa), .val (.ref yc)] [(.ref yc), (.int (0 : Int32)), (.ref yc), (.ref xa)])) rfl rfl (hb hby d2_4) _ (by rw [len_of S1 Ng1]; exact k)) ?_
  refine Goes.to (T' := s₁.setTop (mkF m 6 #[.val (.ref xa), .val (.ref yc)] [.null, (.int (0 : Int32)), (.int (0 : Int32)), (.ref yc), (.ref xa)])) (fun t k => XS.aconstNull X0.here hx rfl (hb hby d2_5) k) ?_
  obtain ⟨_, _, ⟨T2, L2, k2, n2⟩, -, X2, hS2, hg2, ⟨Lc2, hQ2, l2, y2, z2, hC2⟩, st2⟩ := X0.specialBackS hx (y := (⟨"java/lang/String", "<init>", "([CIILjava/lang/Void;)V"⟩ : MethodName)) rfl hown (mvT hZ (wi hw 11 rfl)) (mvT hZ (wi hw 12 rfl)) (mvT hZ (wi hw 14 rfl)) (by decide) (own_backSH (W := 0) (rmV0 hw xa yc s.vm h0 n0 O0 NF E_xa F_value_xa F_coder_xa g_xa S_xa) hZ (wi hw 14 rfl) (wi hw 6 rfl) (by decide) (by decide) hEL CR.1) (g := (mkF m 6 #[.val (.ref xa), .val (.ref yc)] [.null, (.int (0 : Int32)), (.int (0 : Int32)), (.ref yc), (.ref xa)])) rfl (by rw [hml]; rfl) (Steps.refl _) (a := xa) (argsL := [(.ref yc), (.int (0 : Int32)), (.int (0 : Int32)), .null]) (rest := []) (lenOf pd_338 rfl) rfl (by show 2 * 0 + _ ≤ _; exact Nat.le_of_eq rfl) (hb hby d2_6) (fun _ _ => ⟨rfl, e0, (by decide : 0 + 4 ≤ _), (by decide : 0 + 8 ≤ _)⟩)
  dsimp only [Pt.U, Pt.locs, Pt.cells, Pt.slots] at X2 l2 y2 z2 st2 hQ2 hS2 hg2 hC2
  subst l2 y2 z2
  obtain ⟨rfl, Nq2, K2, Ea2⟩ := hQ2
  have N2 := Fr.app N0 Nq2
  have hS := hS.trans hS2 (Nat.le_trans hk (by rw [← e0]; exact hg2))
  have hk : T2.heap.size ≤ T2.heap.size := Nat.le_refl _
  have hZ : Z.Warmed39 (s.setVm T2.vm).vm := State.Warmed39.trans (t := (s.setVm s.vm)) hZ hS2.1
  have hown : (s.setVm T2.vm).vm.findClass "java/lang/String" = some m.cls := by rw [show (s.setVm T2.vm).vm = T2.vm from rfl, hS2.1.alike.findClass]; exact hown
  have hC2 : CHr Z consts_1 s.vm h0 T2.vm T2.heap := hC2
  have S_xa := hC2.safe E_xa.lt S_xa
  have CR := CR.trans hC2
  have E_xa := E_xa.keep K2
  have V_yc := V_yc.keep K2 (ninS (ne_yc_xa) nin0)
  have O0 := O0.keep K2 (allS g_xa all0)
  have K0 := K0.trans K2 (allS (Or.inl (List.mem_of_getElem? (i := 0) rfl)) all0)
  have E_xa := Ea2
  refine Goes.thru (T' := T2.setTop (mkF m 9 #[.val (.ref xa), .val (.ref yc)] [])) st2 ?_
  obtain ⟨fs, hrL, hrun, hended, hRW⟩ := X2.leaveW hS hk (v := none) (fun _ => rfl)
  have hCRz : CHr Z consts_1 s.vm s.heap T2.vm T2.heap := by rw [hh]; exact CR.trans (CHv.at X2 hZ hEL CR.1)
  subst hQf
  refine ⟨_, _, X2.returnOut hx Bd.returns (hb hby d2_9) hrL, hrun, hended, _, _, rfl, ?_, hCRz, hRW.1, hRW.2.1, hRW.2.2.1, hRW.2.2.2.mono (by decide) (by decide)⟩
  show Q_rmC0 Z xa h0 n0 (none) T2.heap _
  exact ⟨rfl, N2, K0, E_xa⟩
theorem pd_348 : parseMethodDescriptor "([C)V" = some ⟨[(.array .char)], none⟩ := by decide +kernel
theorem pd_349 : parseMethodDescriptor "(C)Ljava/lang/String;" = some ⟨[.char], some (.object "java/lang/String")⟩ := by decide +kernel
theorem d1_0 : decode method_2_code 0 = .ok (.iload_n 0, 1) := by decide +kernel
theorem d1_1 : decode method_2_code 1 = .ok (.sipush 255, 3) := by decide +kernel
theorem d1_4 : decode method_2_code 4 = .ok (.iand, 1) := by decide +kernel
theorem d1_5 : decode method_2_code 5 = .ok (.i2c, 1) := by decide +kernel
theorem d1_6 : decode method_2_code 6 = .ok (.istore_n 1, 1) := by decide +kernel
theorem d1_7 : decode method_2_code 7 = .ok (.iload_n 0, 1) := by decide +kernel
theorem d1_8 : decode method_2_code 8 = .ok (.bipush 8, 2) := by decide +kernel
theorem d1_10 : decode method_2_code 10 = .ok (.iushr, 1) := by decide +kernel
theorem d1_11 : decode method_2_code 11 = .ok (.sipush 255, 3) := by decide +kernel
theorem d1_14 : decode method_2_code 14 = .ok (.iand, 1) := by decide +kernel
theorem d1_15 : decode method_2_code 15 = .ok (.i2c, 1) := by decide +kernel
theorem d1_16 : decode method_2_code 16 = .ok (.istore_n 2, 1) := by decide +kernel
theorem d1_17 : decode method_2_code 17 = .ok (.iload_n 0, 1) := by decide +kernel
theorem d1_18 : decode method_2_code 18 = .ok (.bipush 16, 2) := by decide +kernel
theorem d1_20 : decode method_2_code 20 = .ok (.iushr, 1) := by decide +kernel
theorem d1_21 : decode method_2_code 21 = .ok (.iconst 3, 1) := by decide +kernel
theorem d1_22 : decode method_2_code 22 = .ok (.iand, 1) := by decide +kernel
theorem d1_23 : decode method_2_code 23 = .ok (.istore_n 3, 1) := by decide +kernel
theorem d1_24 : decode method_2_code 24 = .ok (.iload_n 3, 1) := by decide +kernel
theorem d1_25 : decode method_2_code 25 = .ok (.ifCond .ne 14, 3) := by decide +kernel
theorem d1_28 : decode method_2_code 28 = .ok (.new 7, 3) := by decide +kernel
theorem d1_31 : decode method_2_code 31 = .ok (.dup, 1) := by decide +kernel
theorem d1_32 : decode method_2_code 32 = .ok (.iconst 0, 1) := by decide +kernel
theorem d1_33 : decode method_2_code 33 = .ok (.newarray .char, 2) := by decide +kernel
theorem d1_35 : decode method_2_code 35 = .ok (.invokespecial 9, 3) := by decide +kernel
theorem d1_38 : decode method_2_code 38 = .ok (.areturn, 1) := by decide +kernel
theorem d1_39 : decode method_2_code 39 = .ok (.iload_n 3, 1) := by decide +kernel
theorem d1_40 : decode method_2_code 40 = .ok (.iconst 1, 1) := by decide +kernel
theorem d1_41 : decode method_2_code 41 = .ok (.if_icmp .ne 8, 3) := by decide +kernel
theorem d1_44 : decode method_2_code 44 = .ok (.iload_n 1, 1) := by decide +kernel
theorem d1_45 : decode method_2_code 45 = .ok (.invokestatic 12, 3) := by decide +kernel
theorem d1_48 : decode method_2_code 48 = .ok (.areturn, 1) := by decide +kernel
theorem d1_49 : decode method_2_code 49 = .ok (.iload_n 3, 1) := by decide +kernel
theorem d1_50 : decode method_2_code 50 = .ok (.iconst 2, 1) := by decide +kernel
theorem d1_51 : decode method_2_code 51 = .ok (.if_icmp .ne 22, 3) := by decide +kernel
theorem d1_54 : decode method_2_code 54 = .ok (.new 7, 3) := by decide +kernel
theorem d1_57 : decode method_2_code 57 = .ok (.dup, 1) := by decide +kernel
theorem d1_58 : decode method_2_code 58 = .ok (.iconst 2, 1) := by decide +kernel
theorem d1_59 : decode method_2_code 59 = .ok (.newarray .char, 2) := by decide +kernel
theorem d1_61 : decode method_2_code 61 = .ok (.dup, 1) := by decide +kernel
theorem d1_62 : decode method_2_code 62 = .ok (.iconst 0, 1) := by decide +kernel
theorem d1_63 : decode method_2_code 63 = .ok (.iload_n 1, 1) := by decide +kernel
theorem d1_64 : decode method_2_code 64 = .ok (.castore, 1) := by decide +kernel
theorem d1_65 : decode method_2_code 65 = .ok (.dup, 1) := by decide +kernel
theorem d1_66 : decode method_2_code 66 = .ok (.iconst 1, 1) := by decide +kernel
theorem d1_67 : decode method_2_code 67 = .ok (.iload_n 2, 1) := by decide +kernel
theorem d1_68 : decode method_2_code 68 = .ok (.castore, 1) := by decide +kernel
theorem d1_69 : decode method_2_code 69 = .ok (.invokespecial 9, 3) := by decide +kernel
theorem d1_72 : decode method_2_code 72 = .ok (.areturn, 1) := by decide +kernel
theorem d1_73 : decode method_2_code 73 = .ok (.new 7, 3) := by decide +kernel
theorem d1_76 : decode method_2_code 76 = .ok (.dup, 1) := by decide +kernel
theorem d1_77 : decode method_2_code 77 = .ok (.iconst 3, 1) := by decide +kernel
theorem d1_78 : decode method_2_code 78 = .ok (.newarray .char, 2) := by decide +kernel
theorem d1_80 : decode method_2_code 80 = .ok (.dup, 1) := by decide +kernel
theorem d1_81 : decode method_2_code 81 = .ok (.iconst 0, 1) := by decide +kernel
theorem d1_82 : decode method_2_code 82 = .ok (.iload_n 1, 1) := by decide +kernel
theorem d1_83 : decode method_2_code 83 = .ok (.castore, 1) := by decide +kernel
theorem d1_84 : decode method_2_code 84 = .ok (.dup, 1) := by decide +kernel
theorem d1_85 : decode method_2_code 85 = .ok (.iconst 1, 1) := by decide +kernel
theorem d1_86 : decode method_2_code 86 = .ok (.iload_n 2, 1) := by decide +kernel
theorem d1_87 : decode method_2_code 87 = .ok (.castore, 1) := by decide +kernel
theorem d1_88 : decode method_2_code 88 = .ok (.dup, 1) := by decide +kernel
theorem d1_89 : decode method_2_code 89 = .ok (.iconst 2, 1) := by decide +kernel
theorem d1_90 : decode method_2_code 90 = .ok (.iload_n 1, 1) := by decide +kernel
theorem d1_91 : decode method_2_code 91 = .ok (.castore, 1) := by decide +kernel
theorem d1_92 : decode method_2_code 92 = .ok (.invokespecial 9, 3) := by decide +kernel
theorem d1_95 : decode method_2_code 95 = .ok (.areturn, 1) := by decide +kernel
theorem pn_1 : plainName "com/example/nightcrawler/nightcrawler/engine/CommittedBatchesNonePinLaw" = true := by first | (simp [plainName, overriddenIn]; done) | decide +kernel
theorem ef_rmMk (m : MethodId) (x0 : Int32) : entryFrame m #[(.int x0)] 4 = mkF m 0 #[.val (.int x0), .unset, .unset, .unset] [] := by first | (simp [entryFrame, mkF, argsToLocals, Value.category]; done) | rfl
def Q_rmMk (Z : State) (h0 : Heap) (n0 : Nat) (v : Option Value) (h : Heap) (L : List Loc) : Prop := (∃ b : Addr, v = some (.ref b) ∧ n0 ≤ b ∧ h0.size ≤ b ∧ Exa Z h b "java/lang/String") ∧ Fr n0 L ∧ Ext h0 h
theorem rmMk (hw : HW a0 Z) (p0 : Int32) (vmC : Vm) (h0 : Heap) (n0 : Nat) (O0 : Old Z n0 h0) (NF : Nar Z w3 w0 w2 w1 w4 k_w3 k_w0 k_w1 z_cs w5) :
    MetFree l (⟨"com/example/nightcrawler/nightcrawler/engine/CommittedBatchesNonePinLaw", "mk", "(I)Ljava/lang/String;"⟩ : MethodName) (head1 (Jvm.Cond.code (⟨"com/example/nightcrawler/nightcrawler/engine/CommittedBatchesNonePinLaw", "mk", "(I)Ljava/lang/String;"⟩ : MethodName) method_2_code 4 (some (.object "java/lang/String")) :: ws) ({ frames := 12, cells := 8, slots := 24, locals := 240 } : Room)) (fun a U => a = #[(.int p0)] ∧ Z.Warmed39 U.vm ∧ U.heap = h0 ∧ CHr Z consts_1 vmC h0 U.vm h0) (fun _ _ _ _ _ => True) (fun _ U o U' => ∃ v L, o = .returned v ∧ Q_rmMk Z h0 n0 v U'.heap L ∧ CHr Z consts_1 U.vm U.heap U'.vm U'.heap ∧ ReturnedEndW U o U' L ({ frames := 12, cells := 8, slots := 24, locals := 240 } : Room).cells ({ frames := 12, cells := 8, slots := 24, locals := 240 } : Room).slots) := by
  refine MetFree.of_bodySF (plainFor_of_name pn_1) hisR ?_
  intro p e s m args below meth c s₁ Bd hml0 hP hK
  obtain ⟨rfl, hZ, hh, hCR⟩ := hP
  have hx := Bd.exec
  have hby := Bd.bytes
  have hml : c.maxLocals = 4 := hml0
  have hown : s.vm.findClass "com/example/nightcrawler/nightcrawler/engine/CommittedBatchesNonePinLaw" = some m.cls := findClass_of_methodNamed Bd.named
  have hnm := (name_of_methodNamed Bd.named Bd.method).1
  have X0 : Stand p l e ({ frames := 12, cells := 8, slots := 24, locals := 240 } : Room) (s.setVm s.vm) m #[(.int p0)] below meth c s₁ [] 0 0 := Stand.of_body Bd
  have e0 : s₁.heap = h0 := by rw [← hh, Bd.state]; rfl
  have N0 := Fr.nil n0
  have hZ : Z.Warmed39 (s.setVm s.vm).vm := hZ
  have hown : (s.setVm s.vm).vm.findClass "com/example/nightcrawler/nightcrawler/engine/CommittedBatchesNonePinLaw" = some m.cls := hown
  have hS : s.Since s.vm h0.size := (State.WarmedH.refl s).since _
  have hk : h0.size ≤ h0.size := Nat.le_refl _
  have own_strw : ∀ a ∈ Bundle.stringAtoms, a.before a0 Z = true := fun d hd => hw d ((by decide +kernel : ∀ d ∈ Bundle.stringAtoms, d ∈ tables_1) d hd)
  have hEL : EW Z a0 consts_1 := (EW.cons (wi hw 18 rfl) (by decide) EW.nil)
  have CR : CHr Z consts_1 s.vm h0 s.vm h0 := CHr.refl hCR.1
  have K0 := Keep.refl h0 []
  suffices G : ∀ (Qf : Outcome → State → Prop), Qf = (fun (_ : Array Value) (U : State) (o : Outcome) (U' : State) => ∃ v L, o = .returned v ∧ Q_rmMk Z h0 n0 v U'.heap L ∧ CHr Z consts_1 U.vm U.heap U'.vm U'.heap ∧ ReturnedEndW U o U' L ({ frames := 12, cells := 8, slots := 24, locals := 240 } : Room).cells ({ frames := 12, cells := 8, slots := 24, locals := 240 } : Room).slots) #[] s → Goes p.tables e below Qf (s₁.setTop (mkF m 0 #[.val (.int p0), .unset, .unset, .unset] [])) by
    obtain ⟨s₂, o, g1, g2, g3, g4⟩ := G _ rfl
    exact ⟨s₂, o, castTop (ef_rmMk m _) g1, g2, g3, g4⟩
  intro Qf hQf
  obtain ⟨S_w3, E_w3, S_w0, E_w0, S_w2, E_w2, F_elements_w2, E_w1, S_w4, E_w4, F_allowNulls_w2, S_w_ImmutableCollections__assertionsDisabled, V_w3, V_w0, V_w1, S_cs, nz_cs, M_OA⟩ := id NF
  refine Goes.to (T' := s₁.setTop (mkF m 1 #[.val (.int p0), .unset, .unset, .unset] [(.int p0)])) (fun t k => XS.iloadN X0.here hx rfl (hb hby d1_0) rfl k) ?_
  refine Goes.to (T' := s₁.setTop (mkF m 4 #[.val (.int p0), .unset, .unset, .unset] [(.int (255 : Int32)), (.int p0)])) (fun t k => XS.sipush X0.here hx rfl (hb hby d1_1) k) ?_
  refine Goes.to (T' := s₁.setTop (mkF m 5 #[.val (.int p0), .unset, .unset, .unset] [(.int (p0 &&& (255 : Int32)))])) (fun t k => XS.iand X0.here hx rfl (hb hby d1_4) rfl k) ?_
  refine Goes.to (T' := s₁.setTop (mkF m 6 #[.val (.int p0), .unset, .unset, .unset] [(.int ((p0 &&& (255 : Int32)).toUInt32.toUInt16.toUInt32.toInt32))])) (fun t k => XS.i2c X0.here hx rfl (hb hby d1_5) rfl k) ?_
  obtain ⟨f1, hf1⟩ : ∃ z : Int32, z = ((p0 &&& (255 : Int32)).toUInt32.toUInt16.toUInt32.toInt32) := ⟨_, rfl⟩
  rw [← hf1]
  have h_f1 : ¬ f1 < 0 ∧ ¬ (255 : Int32) < f1 := hf1 ▸ own_i2c _
  refine Goes.to (T' := s₁.setTop (mkF m 7 #[.val (.int p0), .val (.int f1), .unset, .unset] [])) (fun t k => XS.istoreN X0.here hx rfl (hb hby d1_6) rfl (l' := #[.val (.int p0), .val (.int f1), .unset, .unset]) rfl k) ?_
  refine Goes.to (T' := s₁.setTop (mkF m 8 #[.val (.int p0), .val (.int f1), .unset, .unset] [(.int p0)])) (fun t k => XS.iloadN X0.here hx rfl (hb hby d1_7) rfl k) ?_
  refine Goes.to (T' := s₁.setTop (mkF m 10 #[.val (.int p0), .val (.int f1), .unset, .unset] [(.int (8 : Int32)), (.int p0)])) (fun t k => XS.bipush X0.here hx rfl (hb hby d1_8) k) ?_
  refine Goes.to (T' := s₁.setTop (mkF m 11 #[.val (.int p0), .val (.int f1), .unset, .unset] [(.int ((p0.toUInt32 >>> ((8 : Int32) &&& 31).toUInt32).toInt32))])) (fun t k => XS.iushr X0.here hx rfl (hb hby d1_10) rfl k) ?_
  refine Goes.to (T' := s₁.setTop (mkF m 14 #[.val (.int p0), .val (.int f1), .unset, .unset] [(.int (255 : Int32)), (.int ((p0.toUInt32 >>> ((8 : Int32) &&& 31).toUInt32).toInt32))])) (fun t k => XS.sipush X0.here hx rfl (hb hby d1_11) k) ?_
  refine Goes.to (T' := s₁.setTop (mkF m 15 #[.val (.int p0), .val (.int f1), .unset, .unset] [(.int (((p0.toUInt32 >>> ((8 : Int32) &&& 31).toUInt32).toInt32) &&& (255 : Int32)))])) (fun t k => XS.iand X0.here hx rfl (hb hby d1_14) rfl k) ?_
  refine Goes.to (T' := s₁.setTop (mkF m 16 #[.val (.int p0), .val (.int f1), .unset, .unset] [(.int ((((p0.toUInt32 >>> ((8 : Int32) &&& 31).toUInt32).toInt32) &&& (255 : Int32)).toUInt32.toUInt16.toUInt32.toInt32))])) (fun t k => XS.i2c X0.here hx rfl (hb hby d1_15) rfl k) ?_
  obtain ⟨t1, ht1⟩ : ∃ z : Int32, z = ((((p0.toUInt32 >>> ((8 : Int32) &&& 31).toUInt32).toInt32) &&& (255 : Int32)).toUInt32.toUInt16.toUInt32.toInt32) := ⟨_, rfl⟩
  rw [← ht1]
  have h_t1 : ¬ t1 < 0 ∧ ¬ (255 : Int32) < t1 := ht1 ▸ own_i2c _
  refine Goes.to (T' := s₁.setTop (mkF m 17 #[.val (.int p0), .val (.int f1), .val (.int t1), .unset] [])) (fun t k => XS.istoreN X0.here hx rfl (hb hby d1_16) rfl (l' := #[.val (.int p0), .val (.int f1), .val (.int t1), .unset]) rfl k) ?_
  refine Goes.to (T' := s₁.setTop (mkF m 18 #[.val (.int p0), .val (.int f1), .val (.int t1), .unset] [(.int p0)])) (fun t k => XS.iloadN X0.here hx rfl (hb hby d1_17) rfl k) ?_
  refine Goes.to (T' := s₁.setTop (mkF m 20 #[.val (.int p0), .val (.int f1), .val (.int t1), .unset] [(.int (16 : Int32)), (.int p0)])) (fun t k => XS.bipush X0.here hx rfl (hb hby d1_18) k) ?_
  refine Goes.to (T' := s₁.setTop (mkF m 21 #[.val (.int p0), .val (.int f1), .val (.int t1), .unset] [(.int ((p0.toUInt32 >>> ((16 : Int32) &&& 31).toUInt32).toInt32))])) (fun t k => XS.iushr X0.here hx rfl (hb hby d1_20) rfl k) ?_
  refine Goes.to (T' := s₁.setTop (mkF m 22 #[.val (.int p0), .val (.int f1), .val (.int t1), .unset] [(.int (3 : Int32)), (.int ((p0.toUInt32 >>> ((16 : Int32) &&& 31).toUInt32).toInt32))])) (fun t k => XS.iconst X0.here hx rfl (hb hby d1_21) k) ?_
  refine Goes.to (T' := s₁.setTop (mkF m 23 #[.val (.int p0), .val (.int f1), .val (.int t1), .unset] [(.int (((p0.toUInt32 >>> ((16 : Int32) &&& 31).toUInt32).toInt32) &&& (3 : Int32)))])) (fun t k => XS.iand X0.here hx rfl (hb hby d1_22) rfl k) ?_
  rcases own_and3 ((p0.toUInt32 >>> ((16 : Int32) &&& 31).toUInt32).toInt32) with hv_1 | hv_1 | hv_1 | hv_1
  · rw [hv_1]
    refine Goes.to (T' := s₁.setTop (mkF m 24 #[.val (.int p0), .val (.int f1), .val (.int t1), .val (.int (0 : Int32))] [])) (fun t k => XS.istoreN X0.here hx rfl (hb hby d1_23) rfl (l' := #[.val (.int p0), .val (.int f1), .val (.int t1), .val (.int (0 : Int32))]) rfl k) ?_
    refine Goes.to (T' := s₁.setTop (mkF m 25 #[.val (.int p0), .val (.int f1), .val (.int t1), .val (.int (0 : Int32))] [(.int (0 : Int32))])) (fun t k => XS.iloadN X0.here hx rfl (hb hby d1_24) rfl k) ?_
    refine Goes.to (T' := s₁.setTop (mkF m 28 #[.val (.int p0), .val (.int f1), .val (.int t1), .val (.int (0 : Int32))] [])) (fun t k => XS.ifNo X0.here hx rfl (hb hby d1_25) rfl ((if0 _ _).trans (teq (by decide)).2) k) ?_
    obtain ⟨T2, h2, X2, e2, E2, A2, D2, -, st2⟩ := newO X0 hx hZ hown (wi hw 4 rfl) (wi hw 5 rfl) (wi hw 6 rfl) e0 (g := (mkF m 28 #[.val (.int p0), .val (.int f1), .val (.int t1), .val (.int (0 : Int32))] [])) rfl (hb hby d1_28) (by decide) (by decide)
    obtain ⟨b2, g2⟩ : ∃ z, z = h0.size := ⟨_, rfl⟩
    rw [← g2] at A2 D2 st2
    have g_b2 : n0 ≤ b2 := Nat.le_trans (own_old O0) (Nat.le_of_eq g2.symm)
    have sz_b2 : h0.size ≤ b2 := Nat.le_trans K0.1 (Nat.le_of_eq g2.symm)
    have S_b2 : Safe Z consts_1 s.vm h0 b2 := Safe.new (Nat.le_of_eq g2.symm)
    have S_b2 := Safe.ext E2 CR.1 S_b2
    have CR := CR.trans (CHr.ext E2 CR.1)
    have O0 := O0.ext E2
    have hk := Nat.le_trans hk E2.1
    have K0 := K0.ext E2
    have E_b2 := A2
    have F_value_b2 : Fld Z h2 b2 "java/lang/String" "value" "[B" .null := D2 (Or.inr (wi hw 20 rfl)) (ty := (.array .byte)) (by decide)
    have F_coder_b2 : Fld Z h2 b2 "java/lang/String" "coder" "B" (.int (0 : Int32)) := D2 (Or.inr (wi hw 21 rfl)) (ty := .byte) (by decide)
    refine Goes.to (T' := T2.setTop (mkF m 31 #[.val (.int p0), .val (.int f1), .val (.int t1), .val (.int (0 : Int32))] [(.ref b2)])) st2 ?_
    refine Goes.to (T' := T2.setTop (mkF m 32 #[.val (.int p0), .val (.int f1), .val (.int t1), .val (.int (0 : Int32))] [(.ref b2), (.ref b2)])) (fun t k => XS.dup X2.here hx rfl (hb hby d1_31) rfl rfl k) ?_
    refine Goes.to (T' := T2.setTop (mkF m 33 #[.val (.int p0), .val (.int f1), .val (.int t1), .val (.int (0 : Int32))] [(.int (0 : Int32)), (.ref b2), (.ref b2)])) (fun t k => XS.iconst X2.here hx rfl (hb hby d1_32) k) ?_
    obtain ⟨T3, h3, k3, X3, e3, E3, A3, st3⟩ := newP X2 hx hZ (wi hw 7 rfl) e2 (g := (mkF m 33 #[.val (.int p0), .val (.int f1), .val (.int t1), .val (.int (0 : Int32))] [(.int (0 : Int32)), (.ref b2), (.ref b2)])) rfl (hb hby d1_33) rfl (by decide) (cap := 0) (by decide) (by decide) (by decide) (by decide)
    obtain ⟨b3, g3⟩ : ∃ z, z = h2.size := ⟨_, rfl⟩
    rw [← g3] at A3 st3
    have g_b3 : n0 ≤ b3 := Nat.le_trans (own_old O0) (Nat.le_of_eq g3.symm)
    have sz_b3 : h0.size ≤ b3 := Nat.le_trans K0.1 (Nat.le_of_eq g3.symm)
    have ne_b2_b3 : b2 ≠ b3 := Nat.ne_of_lt (Nat.lt_of_lt_of_le E_b2.lt (Nat.le_of_eq g3.symm))
    have ne_b3_b2 := Ne.symm ne_b2_b3
    have S_b3 : Safe Z consts_1 s.vm h2 b3 := Safe.new (Nat.le_of_eq g3.symm)
    have S_b2 := Safe.ext E3 CR.1 S_b2
    have S_b3 := Safe.ext E3 CR.1 S_b3
    have CR := CR.trans (CHr.ext E3 CR.1)
    have E_b2 := E_b2.ext E3
    have F_value_b2 := F_value_b2.ext E3
    have F_coder_b2 := F_coder_b2.ext E3
    have O0 := O0.ext E3
    have hk := Nat.le_trans hk E3.1
    have K0 := K0.ext E3
    have V_b3 : Arv Z h3 b3 k3 .char (0 : Int32) [] (.int (0 : Int32)) := (Arv.new A3 (by decide)).pad (pad_rep [] (.int (0 : Int32)) 0)
    refine Goes.to (T' := T3.setTop (mkF m 35 #[.val (.int p0), .val (.int f1), .val (.int t1), .val (.int (0 : Int32))] [(.ref b3), (.ref b2), (.ref b2)])) st3 ?_
    obtain ⟨_, _, ⟨T4, L4, k4, n4⟩, -, X4, hS4, hg4, ⟨Lc4, hQ4, l4, y4, z4, hC4⟩, st4⟩ := X3.specialBackS hx (y := (⟨"java/lang/String", "<init>", "([C)V"⟩ : MethodName)) rfl hown (mvT hZ (wi hw 8 rfl)) (mvT hZ (wi hw 9 rfl)) (mvT hZ (wi hw 10 rfl)) (by decide) (own_backSH (W := 1) (rmC0 hw b2 b3 k3 s.vm h3 n0 O0 NF E_b2 F_value_b2 F_coder_b2 V_b3 g_b2 ne_b3_b2 S_b2) hZ (wi hw 10 rfl) (wi hw 6 rfl) (by decide) (by decide) hEL CR.1) (g := (mkF m 35 #[.val (.int p0), .val (.int f1), .val (.int t1), .val (.int (0 : Int32))] [(.ref b3), (.ref b2), (.ref b2)])) rfl (by rw [hml]; rfl) (Steps.refl _) (a := b2) (argsL := [(.ref b3)]) (rest := [(.ref b2)]) (lenOf pd_348 rfl) rfl (by show 2 * 0 + _ ≤ _; exact Nat.le_of_eq rfl) (hb hby d1_35) (fun _ _ => ⟨rfl, e3, (by decide : 2 + 4 ≤ _), (by decide : 4 + 8 ≤ _)⟩)
    dsimp only [Pt.U, Pt.locs, Pt.cells, Pt.slots] at X4 l4 y4 z4 st4 hQ4 hS4 hg4 hC4
    subst l4 y4 z4
    obtain ⟨rfl, Nq4, K4, Ea4⟩ := hQ4
    have N4 := Fr.app N0 Nq4
    have hS := hS.trans hS4 (Nat.le_trans hk (by rw [← e3]; exact hg4))
    have hk : T4.heap.size ≤ T4.heap.size := Nat.le_refl _
    have hZ : Z.Warmed39 (s.setVm T4.vm).vm := State.Warmed39.trans (t := (s.setVm s.vm)) hZ hS4.1
    have hown : (s.setVm T4.vm).vm.findClass "com/example/nightcrawler/nightcrawler/engine/CommittedBatchesNonePinLaw" = some m.cls := by rw [show (s.setVm T4.vm).vm = T4.vm from rfl, hS4.1.alike.findClass]; exact hown
    have hC4 : CHr Z consts_1 s.vm h3 T4.vm T4.heap := hC4
    have S_b2 := hC4.safe E_b2.lt S_b2
    have S_b3 := hC4.safe V_b3.lt S_b3
    have CR := CR.trans hC4
    have E_b2 := E_b2.keep K4
    have V_b3 := V_b3.keep K4 (ninS (ne_b3_b2) nin0)
    have O0 := O0.keep K4 (allS g_b2 all0)
    have K0 := K0.trans K4 (allS (Or.inr sz_b2) all0)
    have E_b2 := Ea4
    refine Goes.thru (T' := T4.setTop (mkF m 38 #[.val (.int p0), .val (.int f1), .val (.int t1), .val (.int (0 : Int32))] [(.ref b2)])) st4 ?_
    obtain ⟨fs, hrL, hrun, hended, hRW⟩ := X4.leaveW hS hk (v := some (.ref b2)) (fun h => by rw [Bd.returns] at h; cases h)
    have hCRz : CHr Z consts_1 s.vm s.heap T4.vm T4.heap := by rw [hh]; exact CR.trans (CHv.at X4 hZ hEL CR.1)
    subst hQf
    refine ⟨_, _, retOut X4 hx Bd.returns rfl (Or.inr (Or.inr (Or.inr (Or.inr ⟨rfl, rfl, rfl⟩)))) (hb hby d1_38) hrL, hrun, hended, _, _, rfl, ?_, hCRz, hRW.1, hRW.2.1, hRW.2.2.1, hRW.2.2.2.mono (by decide) (by decide)⟩
    show Q_rmMk Z h0 n0 (some (.ref b2)) T4.heap _
    exact ⟨⟨b2, rfl, g_b2, sz_b2, E_b2⟩, N4, own_ext_keep K0⟩
  · rw [hv_1]
    refine Goes.to (T' := s₁.setTop (mkF m 24 #[.val (.int p0), .val (.int f1), .val (.int t1), .val (.int (1 : Int32))] [])) (fun t k => XS.istoreN X0.here hx rfl (hb hby d1_23) rfl (l' := #[.val (.int p0), .val (.int f1), .val (.int t1), .val (.int (1 : Int32))]) rfl k) ?_
    refine Goes.to (T' := s₁.setTop (mkF m 25 #[.val (.int p0), .val (.int f1), .val (.int t1), .val (.int (1 : Int32))] [(.int (1 : Int32))])) (fun t k => XS.iloadN X0.here hx rfl (hb hby d1_24) rfl k) ?_
    refine Goes.to (T' := s₁.setTop (mkF m 39 #[.val (.int p0), .val (.int f1), .val (.int t1), .val (.int (1 : Int32))] [])) (fun t k => XS.ifYes X0.here hx rfl (pc0 := 25) (pc' := 39) rfl (hb hby d1_25) rfl ((if0 _ _).trans (feq (by decide)).2) (by decide) (by decide) k) ?_
    refine Goes.to (T' := s₁.setTop (mkF m 40 #[.val (.int p0), .val (.int f1), .val (.int t1), .val (.int (1 : Int32))] [(.int (1 : Int32))])) (fun t k => XS.iloadN X0.here hx rfl (hb hby d1_39) rfl k) ?_
    refine Goes.to (T' := s₁.setTop (mkF m 41 #[.val (.int p0), .val (.int f1), .val (.int t1), .val (.int (1 : Int32))] [(.int (1 : Int32)), (.int (1 : Int32))])) (fun t k => XS.iconst X0.here hx rfl (hb hby d1_40) k) ?_
    refine Goes.to (T' := s₁.setTop (mkF m 44 #[.val (.int p0), .val (.int f1), .val (.int t1), .val (.int (1 : Int32))] [])) (fun t k => XS.icmpNo X0.here hx rfl (hb hby d1_41) rfl (teq (by decide)).2 k) ?_
    refine Goes.to (T' := s₁.setTop (mkF m 45 #[.val (.int p0), .val (.int f1), .val (.int t1), .val (.int (1 : Int32))] [(.int f1)])) (fun t k => XS.iloadN X0.here hx rfl (hb hby d1_44) rfl k) ?_
    obtain ⟨_, _, ⟨T5, L5, k5, n5⟩, -, X5, ⟨Lc5, hQ5, l5, y5, z5⟩, st5⟩ := Jvm.LawKit.callS X0 hx (y := (⟨"java/lang/String", "valueOf", "(C)Ljava/lang/String;"⟩ : MethodName)) hown (mvT hZ (wi hw 251 rfl)) (mvT hZ (wi hw 252 rfl)) (mvT hZ (wi hw 6 rfl)) (mvT hZ (wi hw 253 rfl)) (by decide) (backOf (W := 0) (rmVO hw f1  h0 n0 O0 NF h_f1.2) hZ (wi hw 253 rfl) (wi hw 6 rfl) (by decide) (by decide)) (g := (mkF m 45 #[.val (.int p0), .val (.int f1), .val (.int t1), .val (.int (1 : Int32))] [(.int f1)])) rfl (by rw [hml]; rfl) (argsL := [(.int f1)]) (rest := []) (lenOf pd_349 rfl) rfl (by show 2 * 0 + _ ≤ _; exact Nat.le_of_eq rfl) (hb hby d1_45) (fun _ _ => ⟨rfl, e0, (by decide : 0 + 2 ≤ _), (by decide : 0 + 5 ≤ _)⟩)
    dsimp only [Pt.U, Pt.locs, Pt.cells, Pt.slots] at X5 l5 y5 z5 st5 hQ5
    subst l5 y5 z5
    obtain ⟨⟨sa, rfl, gs5, ss5, Es5⟩, Nq5, Ex5⟩ := hQ5
    have N5 := Fr.app N0 Nq5
    have g_sa : n0 ≤ sa := gs5
    have sz_sa : h0.size ≤ sa := Nat.le_trans K0.1 ss5
    have S_sa : Safe Z consts_1 s.vm h0 sa := Safe.new ss5
    have S_sa := Safe.ext Ex5 CR.1 S_sa
    have CR := CR.trans (CHr.ext Ex5 CR.1)
    have O0 := O0.ext Ex5
    have hk := Nat.le_trans hk Ex5.1
    have K0 := K0.ext Ex5
    have E_sa := Es5
    refine Goes.to (T' := T5.setTop (mkF m 48 #[.val (.int p0), .val (.int f1), .val (.int t1), .val (.int (1 : Int32))] [(.ref sa)])) st5 ?_
    obtain ⟨fs, hrL, hrun, hended, hRW⟩ := X5.leaveW hS hk (v := some (.ref sa)) (fun h => by rw [Bd.returns] at h; cases h)
    have hCRz : CHr Z consts_1 s.vm s.heap T5.vm T5.heap := by rw [hh]; exact CR.trans (CHv.at X5 hZ hEL CR.1)
    subst hQf
    refine ⟨_, _, retOut X5 hx Bd.returns rfl (Or.inr (Or.inr (Or.inr (Or.inr ⟨rfl, rfl, rfl⟩)))) (hb hby d1_48) hrL, hrun, hended, _, _, rfl, ?_, hCRz, hRW.1, hRW.2.1, hRW.2.2.1, hRW.2.2.2.mono (by decide) (by decide)⟩
    show Q_rmMk Z h0 n0 (some (.ref sa)) T5.heap _
    exact ⟨⟨sa, rfl, g_sa, sz_sa, E_sa⟩, N5, own_ext_keep K0⟩
  · rw [hv_1]
    refine Goes.to (T' := s₁.setTop (mkF m 24 #[.val (.int p0), .val (.int f1), .val (.int t1), .val (.int (2 : Int32))] [])) (fun t k => XS.istoreN X0.here hx rfl (hb hby d1_23) rfl (l' := #[.val (.int p0), .val (.int f1), .val (.int t1), .val (.int (2 : Int32))]) rfl k) ?_
    refine Goes.to (T' := s₁.setTop (mkF m 25 #[.val (.int p0), .val (.int f1), .val (.int t1), .val (.int (2 : Int32))] [(.int (2 : Int32))])) (fun t k => XS.iloadN X0.here hx rfl (hb hby d1_24) rfl k) ?_
    refine Goes.to (T' := s₁.setTop (mkF m 39 #[.val (.int p0), .val (.int f1), .val (.int t1), .val (.int (2 : Int32))] [])) (fun t k => XS.ifYes X0.here hx rfl (pc0 := 25) (pc' := 39) rfl (hb hby d1_25) rfl ((if0 _ _).trans (feq (by decide)).2) (by decide) (by decide) k) ?_
    refine Goes.to (T' := s₁.setTop (mkF m 40 #[.val (.int p0), .val (.int f1), .val (.int t1), .val (.int (2 : Int32))] [(.int (2 : Int32))])) (fun t k => XS.iloadN X0.here hx rfl (hb hby d1_39) rfl k) ?_
    refine Goes.to (T' := s₁.setTop (mkF m 41 #[.val (.int p0), .val (.int f1), .val (.int t1), .val (.int (2 : Int32))] [(.int (1 : Int32)), (.int (2 : Int32))])) (fun t k => XS.iconst X0.here hx rfl (hb hby d1_40) k) ?_
    refine Goes.to (T' := s₁.setTop (mkF m 49 #[.val (.int p0), .val (.int f1), .val (.int t1), .val (.int (2 : Int32))] [])) (fun t k => XS.icmpYes X0.here hx rfl (pc0 := 41) (pc' := 49) rfl (hb hby d1_41) rfl (feq (by decide)).2 (by decide) (by decide) k) ?_
    refine Goes.to (T' := s₁.setTop (mkF m 50 #[.val (.int p0), .val (.int f1), .val (.int t1), .val (.int (2 : Int32))] [(.int (2 : Int32))])) (fun t k => XS.iloadN X0.here hx rfl (hb hby d1_49) rfl k) ?_
    refine Goes.to (T' := s₁.setTop (mkF m 51 #[.val (.int p0), .val (.int f1), .val (.int t1), .val (.int (2 : Int32))] [(.int (2 : Int32)), (.int (2 : Int32))])) (fun t k => XS.iconst X0.here hx rfl (hb hby d1_50) k) ?_
    refine Goes.to (T' := s₁.setTop (mkF m 54 #[.val (.int p0), .val (.int f1), .val (.int t1), .val (.int (2 : Int32))] [])) (fun t k => XS.icmpNo X0.here hx rfl (hb hby d1_51) rfl (teq (by decide)).2 k) ?_
    obtain ⟨T6, h6, X6, e6, E6, A6, D6, -, st6⟩ := newO X0 hx hZ hown (wi hw 4 rfl) (wi hw 5 rfl) (wi hw 6 rfl) e0 (g := (mkF m 54 #[.val (.int p0), .val (.int f1), .val (.int t1), .val (.int (2 : Int32))] [])) rfl (hb hby d1_54) (by decide) (by decide)
    obtain ⟨b6, g6⟩ : ∃ z, z = h0.size := ⟨_, rfl⟩
    rw [← g6] at A6 D6 st6
    have g_b6 : n0 ≤ b6 := Nat.le_trans (own_old O0) (Nat.le_of_eq g6.symm)
    have sz_b6 : h0.size ≤ b6 := Nat.le_trans K0.1 (Nat.le_of_eq g6.symm)
    have S_b6 : Safe Z consts_1 s.vm h0 b6 := Safe.new (Nat.le_of_eq g6.symm)
    have S_b6 := Safe.ext E6 CR.1 S_b6
    have CR := CR.trans (CHr.ext E6 CR.1)
    have O0 := O0.ext E6
    have hk := Nat.le_trans hk E6.1
    have K0 := K0.ext E6
    have E_b6 := A6
    have F_value_b6 : Fld Z h6 b6 "java/lang/String" "value" "[B" .null := D6 (Or.inr (wi hw 20 rfl)) (ty := (.array .byte)) (by decide)
    have F_coder_b6 : Fld Z h6 b6 "java/lang/String" "coder" "B" (.int (0 : Int32)) := D6 (Or.inr (wi hw 21 rfl)) (ty := .byte) (by decide)
    refine Goes.to (T' := T6.setTop (mkF m 57 #[.val (.int p0), .val (.int f1), .val (.int t1), .val (.int (2 : Int32))] [(.ref b6)])) st6 ?_
    refine Goes.to (T' := T6.setTop (mkF m 58 #[.val (.int p0), .val (.int f1), .val (.int t1), .val (.int (2 : Int32))] [(.ref b6), (.ref b6)])) (fun t k => XS.dup X6.here hx rfl (hb hby d1_57) rfl rfl k) ?_
    refine Goes.to (T' := T6.setTop (mkF m 59 #[.val (.int p0), .val (.int f1), .val (.int t1), .val (.int (2 : Int32))] [(.int (2 : Int32)), (.ref b6), (.ref b6)])) (fun t k => XS.iconst X6.here hx rfl (hb hby d1_58) k) ?_
    obtain ⟨T7, h7, k7, X7, e7, E7, A7, st7⟩ := newP X6 hx hZ (wi hw 7 rfl) e6 (g := (mkF m 59 #[.val (.int p0), .val (.int f1), .val (.int t1), .val (.int (2 : Int32))] [(.int (2 : Int32)), (.ref b6), (.ref b6)])) rfl (hb hby d1_59) rfl (by decide) (cap := 2) (by decide) (by decide) (by decide) (by decide)
    obtain ⟨b7, g7⟩ : ∃ z, z = h6.size := ⟨_, rfl⟩
    rw [← g7] at A7 st7
    have g_b7 : n0 ≤ b7 := Nat.le_trans (own_old O0) (Nat.le_of_eq g7.symm)
    have sz_b7 : h0.size ≤ b7 := Nat.le_trans K0.1 (Nat.le_of_eq g7.symm)
    have ne_b6_b7 : b6 ≠ b7 := Nat.ne_of_lt (Nat.lt_of_lt_of_le E_b6.lt (Nat.le_of_eq g7.symm))
    have ne_b7_b6 := Ne.symm ne_b6_b7
    have S_b7 : Safe Z consts_1 s.vm h6 b7 := Safe.new (Nat.le_of_eq g7.symm)
    have S_b6 := Safe.ext E7 CR.1 S_b6
    have S_b7 := Safe.ext E7 CR.1 S_b7
    have CR := CR.trans (CHr.ext E7 CR.1)
    have E_b6 := E_b6.ext E7
    have F_value_b6 := F_value_b6.ext E7
    have F_coder_b6 := F_coder_b6.ext E7
    have O0 := O0.ext E7
    have hk := Nat.le_trans hk E7.1
    have K0 := K0.ext E7
    have V_b7 : Arv Z h7 b7 k7 .char (2 : Int32) [(.int (0 : Int32)), (.int (0 : Int32))] (.int (0 : Int32)) := (Arv.new A7 (by decide)).pad (pad_rep [] (.int (0 : Int32)) 2)
    refine Goes.to (T' := T7.setTop (mkF m 61 #[.val (.int p0), .val (.int f1), .val (.int t1), .val (.int (2 : Int32))] [(.ref b7), (.ref b6), (.ref b6)])) st7 ?_
    refine Goes.to (T' := T7.setTop (mkF m 62 #[.val (.int p0), .val (.int f1), .val (.int t1), .val (.int (2 : Int32))] [(.ref b7), (.ref b7), (.ref b6), (.ref b6)])) (fun t k => XS.dup X7.here hx rfl (hb hby d1_61) rfl rfl k) ?_
    refine Goes.to (T' := T7.setTop (mkF m 63 #[.val (.int p0), .val (.int f1), .val (.int t1), .val (.int (2 : Int32))] [(.int (0 : Int32)), (.ref b7), (.ref b7), (.ref b6), (.ref b6)])) (fun t k => XS.iconst X7.here hx rfl (hb hby d1_62) k) ?_
    refine Goes.to (T' := T7.setTop (mkF m 64 #[.val (.int p0), .val (.int f1), .val (.int t1), .val (.int (2 : Int32))] [(.int f1), (.int (0 : Int32)), (.ref b7), (.ref b7), (.ref b6), (.ref b6)])) (fun t k => XS.iloadN X7.here hx rfl (hb hby d1_63) rfl k) ?_
    obtain ⟨cl8, Ar8, q8, S8, Ng8, H8, G8⟩ := V_b7
    have hin8 : ¬ ((0 : Int32) < 0 ∨ cl8.slots.size ≤ ((0 : Int32)).toNatClampNeg) := inb_of S8 ⟨by decide, by decide⟩
    obtain ⟨T9, h9, X9, e9, W9, st9⟩ := stC X7 hx hZ e7 Ar8 (j := (0 : Int32)) hin8 (g := (mkF m 64 #[.val (.int p0), .val (.int f1), .val (.int t1), .val (.int (2 : Int32))] [(.int f1), (.int (0 : Int32)), (.ref b7), (.ref b7), (.ref b6), (.ref b6)])) rfl rfl (hb hby d1_64)
    have V_b7 : Arv Z h9 b7 k7 .char (2 : Int32) [(.int (nar .char f1)), (.int (0 : Int32))] (.int (0 : Int32)) := Arv.set Ar8 q8 S8 Ng8 H8 G8 (fits_nar_char _) W9 0 rfl (Nat.le_of_ble_eq_true rfl)
    have CRn := CR.trans (CHr.wr W9 S_b7 CR.1)
    have S_b6 := Safe.wr W9 S_b7 CR.1 S_b6
    have S_b7 := Safe.wr W9 S_b7 CR.1 S_b7
    have CR := CRn
    have E_b6 := E_b6.wr W9
    have F_value_b6 := F_value_b6.other W9 (Or.inl (ne_b6_b7))
    have F_coder_b6 := F_coder_b6.other W9 (Or.inl (ne_b6_b7))
    have O0 := O0.wr W9 g_b7
    have hk := Nat.le_trans hk (Keep.of_wr W9).1
    have K0 := K0.wr W9 (Or.inr sz_b7)
    have N9 := Fr.snoc X9 N0 g_b7
    refine Goes.to (T' := T9.setTop (mkF m 65 #[.val (.int p0), .val (.int f1), .val (.int t1), .val (.int (2 : Int32))] [(.ref b7), (.ref b6), (.ref b6)])) st9 ?_
    refine Goes.to (T' := T9.setTop (mkF m 66 #[.val (.int p0), .val (.int f1), .val (.int t1), .val (.int (2 : Int32))] [(.ref b7), (.ref b7), (.ref b6), (.ref b6)])) (fun t k => XS.dup X9.here hx rfl (hb hby d1_65) rfl rfl k) ?_
    refine Goes.to (T' := T9.setTop (mkF m 67 #[.val (.int p0), .val (.int f1), .val (.int t1), .val (.int (2 : Int32))] [(.int (1 : Int32)), (.ref b7), (.ref b7), (.ref b6), (.ref b6)])) (fun t k => XS.iconst X9.here hx rfl (hb hby d1_66) k) ?_
    refine Goes.to (T' := T9.setTop (mkF m 68 #[.val (.int p0), .val (.int f1), .val (.int t1), .val (.int (2 : Int32))] [(.int t1), (.int (1 : Int32)), (.ref b7), (.ref b7), (.ref b6), (.ref b6)])) (fun t k => XS.iloadN X9.here hx rfl (hb hby d1_67) rfl k) ?_
    obtain ⟨cl10, Ar10, q10, S10, Ng10, H10, G10⟩ := V_b7
    have hin10 : ¬ ((1 : Int32) < 0 ∨ cl10.slots.size ≤ ((1 : Int32)).toNatClampNeg) := inb_of S10 ⟨by decide, by decide⟩
    obtain ⟨T11, h11, X11, e11, W11, st11⟩ := stC X9 hx hZ e9 Ar10 (j := (1 : Int32)) hin10 (g := (mkF m 68 #[.val (.int p0), .val (.int f1), .val (.int t1), .val (.int (2 : Int32))] [(.int t1), (.int (1 : Int32)), (.ref b7), (.ref b7), (.ref b6), (.ref b6)])) rfl rfl (hb hby d1_68)
    have V_b7 : Arv Z h11 b7 k7 .char (2 : Int32) [(.int (nar .char f1)), (.int (nar .char t1))] (.int (0 : Int32)) := Arv.set Ar10 q10 S10 Ng10 H10 G10 (fits_nar_char _) W11 1 rfl (Nat.le_of_ble_eq_true rfl)
    have CRn := CR.trans (CHr.wr W11 S_b7 CR.1)
    have S_b6 := Safe.wr W11 S_b7 CR.1 S_b6
    have S_b7 := Safe.wr W11 S_b7 CR.1 S_b7
    have CR := CRn
    have E_b6 := E_b6.wr W11
    have F_value_b6 := F_value_b6.other W11 (Or.inl (ne_b6_b7))
    have F_coder_b6 := F_coder_b6.other W11 (Or.inl (ne_b6_b7))
    have O0 := O0.wr W11 g_b7
    have hk := Nat.le_trans hk (Keep.of_wr W11).1
    have K0 := K0.wr W11 (Or.inr sz_b7)
    have N11 := Fr.snoc X11 N9 g_b7
    refine Goes.to (T' := T11.setTop (mkF m 69 #[.val (.int p0), .val (.int f1), .val (.int t1), .val (.int (2 : Int32))] [(.ref b7), (.ref b6), (.ref b6)])) st11 ?_
    rw [own_narc h_f1] at V_b7
    rw [own_narc h_t1] at V_b7
    have hws : ∀ d ∈ StrChars.Road.words, d.before a0 Z = true := fun d hd => hw d ((by decide +kernel : ∀ d ∈ StrChars.Road.words, d ∈ tables_1) d hd)
    have hlat : ∀ c ∈ [f1, t1], ¬ c < 0 ∧ ¬ (255 : Int32) < c := by
      intro c hc
      simp only [List.mem_cons, List.not_mem_nil, or_false] at hc
      rcases hc with rfl | rfl
      · exact h_f1
      · exact h_t1
    obtain ⟨_, _, ⟨T12, L12, k12, n12⟩, -, X12, ⟨Lc12, hQ12, l12, y12, z12⟩, st12⟩ := X11.specialBack hx (y := (⟨"java/lang/String", "<init>", "([C)V"⟩ : MethodName)) rfl hown (mvT hZ (wi hw 8 rfl)) (mvT hZ (wi hw 9 rfl)) (mvT hZ (wi hw 10 rfl)) (by decide) (StrChars.Road.backV (W := 1) hZ hws (kI := 4) (wi hw 5 rfl) (cs := [f1, t1]) (bs := [f1.toInt8.toInt32, t1.toInt8.toInt32]) (n := 2) g_b6 (own_old O0) E_b6 F_value_b6 F_coder_b6 V_b7 (S_cs.ext O0.2) nz_cs rfl rfl (by decide) (by decide) hlat rfl (by decide) (by decide)) (g := (mkF m 69 #[.val (.int p0), .val (.int f1), .val (.int t1), .val (.int (2 : Int32))] [(.ref b7), (.ref b6), (.ref b6)])) rfl (by rw [hml]; rfl) (Steps.refl _) (a := b6) (argsL := [(.ref b7)]) (rest := [(.ref b6)]) (lenOf pd_348 rfl) rfl (by show 2 * 0 + _ ≤ _; exact Nat.le_of_eq rfl) (hb hby d1_69) (fun _ _ => ⟨rfl, e11, (by decide : 2 + 1 ≤ _), (by decide : 6 + 2 ≤ _)⟩)
    dsimp only [Pt.U, Pt.locs, Pt.cells, Pt.slots] at X12 l12 y12 z12 st12 hQ12
    subst l12 y12 z12
    obtain ⟨rfl, Nq12, K12, -, Fc12, t12, kb12, gt12, szt12, net12, Fv12, Av12⟩ := hQ12
    have N12 := Fr.app N11 Nq12
    have g_t12 : n0 ≤ t12 := gt12
    have sz_t12 : h0.size ≤ t12 := Nat.le_trans K0.1 szt12
    have ne_b6_t12 : b6 ≠ t12 := Nat.ne_of_lt (Nat.lt_of_lt_of_le E_b6.lt szt12)
    have ne_t12_b6 := Ne.symm ne_b6_t12
    have ne_b7_t12 : b7 ≠ t12 := Nat.ne_of_lt (Nat.lt_of_lt_of_le V_b7.lt szt12)
    have ne_t12_b7 := Ne.symm ne_b7_t12
    have S_t12 : Safe Z consts_1 s.vm h11 t12 := Safe.new szt12
    have CRn := CR.trans (CHr.keep K12 (allS S_b6 all0) CR.1)
    have S_b7' := Safe.keep K12 (allS S_b6 all0) CR.1 S_b7
    have S_t12' := Safe.keep K12 (allS S_b6 all0) CR.1 S_t12
    have S_b6' := Safe.keep K12 (allS S_b6 all0) CR.1 S_b6
    have S_b6 := S_b6'
    have S_b7 := S_b7'
    have S_t12 := S_t12'
    have CR := CRn
    have E_b6 := E_b6.keep K12
    have V_b7 := V_b7.keep K12 (ninS (ne_b7_b6) nin0)
    have O0 := O0.keep K12 (allS g_b6 all0)
    have hk := Nat.le_trans hk K12.1
    have K0 := K0.trans K12 (allS (Or.inr sz_b6) all0)
    have F_coder_b6 := Fc12
    have F_value_b6 := Fv12
    have V_t12 : Arv Z T12.heap t12 kb12 .byte (2 : Int32) [(.int f1.toInt8.toInt32), (.int t1.toInt8.toInt32)] (.int (0 : Int32)) := Av12
    refine Goes.thru (T' := T12.setTop (mkF m 72 #[.val (.int p0), .val (.int f1), .val (.int t1), .val (.int (2 : Int32))] [(.ref b6)])) st12 ?_
    obtain ⟨fs, hrL, hrun, hended, hRW⟩ := X12.leaveW hS hk (v := some (.ref b6)) (fun h => by rw [Bd.returns] at h; cases h)
    have hCRz : CHr Z consts_1 s.vm s.heap T12.vm T12.heap := by rw [hh]; exact CR.trans (CHv.at X12 hZ hEL CR.1)
    subst hQf
    refine ⟨_, _, retOut X12 hx Bd.returns rfl (Or.inr (Or.inr (Or.inr (Or.inr ⟨rfl, rfl, rfl⟩)))) (hb hby d1_72) hrL, hrun, hended, _, _, rfl, ?_, hCRz, hRW.1, hRW.2.1, hRW.2.2.1, hRW.2.2.2.mono (by decide) (by decide)⟩
    show Q_rmMk Z h0 n0 (some (.ref b6)) T12.heap _
    exact ⟨⟨b6, rfl, g_b6, sz_b6, E_b6⟩, N12, own_ext_keep K0⟩
  · rw [hv_1]
    refine Goes.to (T' := s₁.setTop (mkF m 24 #[.val (.int p0), .val (.int f1), .val (.int t1), .val (.int (3 : Int32))] [])) (fun t k => XS.istoreN X0.here hx rfl (hb hby d1_23) rfl (l' := #[.val (.int p0), .val (.int f1), .val (.int t1), .val (.int (3 : Int32))]) rfl k) ?_
    refine Goes.to (T' := s₁.setTop (mkF m 25 #[.val (.int p0), .val (.int f1), .val (.int t1), .val (.int (3 : Int32))] [(.int (3 : Int32))])) (fun t k => XS.iloadN X0.here hx rfl (hb hby d1_24) rfl k) ?_
    refine Goes.to (T' := s₁.setTop (mkF m 39 #[.val (.int p0), .val (.int f1), .val (.int t1), .val (.int (3 : Int32))] [])) (fun t k => XS.ifYes X0.here hx rfl (pc0 := 25) (pc' := 39) rfl (hb hby d1_25) rfl ((if0 _ _).trans (feq (by decide)).2) (by decide) (by decide) k) ?_
    refine Goes.to (T' := s₁.setTop (mkF m 40 #[.val (.int p0), .val (.int f1), .val (.int t1), .val (.int (3 : Int32))] [(.int (3 : Int32))])) (fun t k => XS.iloadN X0.here hx rfl (hb hby d1_39) rfl k) ?_
    refine Goes.to (T' := s₁.setTop (mkF m 41 #[.val (.int p0), .val (.int f1), .val (.int t1), .val (.int (3 : Int32))] [(.int (1 : Int32)), (.int (3 : Int32))])) (fun t k => XS.iconst X0.here hx rfl (hb hby d1_40) k) ?_
    refine Goes.to (T' := s₁.setTop (mkF m 49 #[.val (.int p0), .val (.int f1), .val (.int t1), .val (.int (3 : Int32))] [])) (fun t k => XS.icmpYes X0.here hx rfl (pc0 := 41) (pc' := 49) rfl (hb hby d1_41) rfl (feq (by decide)).2 (by decide) (by decide) k) ?_
    refine Goes.to (T' := s₁.setTop (mkF m 50 #[.val (.int p0), .val (.int f1), .val (.int t1), .val (.int (3 : Int32))] [(.int (3 : Int32))])) (fun t k => XS.iloadN X0.here hx rfl (hb hby d1_49) rfl k) ?_
    refine Goes.to (T' := s₁.setTop (mkF m 51 #[.val (.int p0), .val (.int f1), .val (.int t1), .val (.int (3 : Int32))] [(.int (2 : Int32)), (.int (3 : Int32))])) (fun t k => XS.iconst X0.here hx rfl (hb hby d1_50) k) ?_
    refine Goes.to (T' := s₁.setTop (mkF m 73 #[.val (.int p0), .val (.int f1), .val (.int t1), .val (.int (3 : Int32))] [])) (fun t k => XS.icmpYes X0.here hx rfl (pc0 := 51) (pc' := 73) rfl (hb hby d1_51) rfl (feq (by decide)).2 (by decide) (by decide) k) ?_
    obtain ⟨T13, h13, X13, e13, E13, A13, D13, -, st13⟩ := newO X0 hx hZ hown (wi hw 4 rfl) (wi hw 5 rfl) (wi hw 6 rfl) e0 (g := (mkF m 73 #[.val (.int p0), .val (.int f1), .val (.int t1), .val (.int (3 : Int32))] [])) rfl (hb hby d1_73) (by decide) (by decide)
    obtain ⟨b13, g13⟩ : ∃ z, z = h0.size := ⟨_, rfl⟩
    rw [← g13] at A13 D13 st13
    have g_b13 : n0 ≤ b13 := Nat.le_trans (own_old O0) (Nat.le_of_eq g13.symm)
    have sz_b13 : h0.size ≤ b13 := Nat.le_trans K0.1 (Nat.le_of_eq g13.symm)
    have S_b13 : Safe Z consts_1 s.vm h0 b13 := Safe.new (Nat.le_of_eq g13.symm)
    have S_b13 := Safe.ext E13 CR.1 S_b13
    have CR := CR.trans (CHr.ext E13 CR.1)
    have O0 := O0.ext E13
    have hk := Nat.le_trans hk E13.1
    have K0 := K0.ext E13
    have E_b13 := A13
    have F_value_b13 : Fld Z h13 b13 "java/lang/String" "value" "[B" .null := D13 (Or.inr (wi hw 20 rfl)) (ty := (.array .byte)) (by decide)
    have F_coder_b13 : Fld Z h13 b13 "java/lang/String" "coder" "B" (.int (0 : Int32)) := D13 (Or.inr (wi hw 21 rfl)) (ty := .byte) (by decide)
    refine Goes.to (T' := T13.setTop (mkF m 76 #[.val (.int p0), .val (.int f1), .val (.int t1), .val (.int (3 : Int32))] [(.ref b13)])) st13 ?_
    refine Goes.to (T' := T13.setTop (mkF m 77 #[.val (.int p0), .val (.int f1), .val (.int t1), .val (.int (3 : Int32))] [(.ref b13), (.ref b13)])) (fun t k => XS.dup X13.here hx rfl (hb hby d1_76) rfl rfl k) ?_
    refine Goes.to (T' := T13.setTop (mkF m 78 #[.val (.int p0), .val (.int f1), .val (.int t1), .val (.int (3 : Int32))] [(.int (3 : Int32)), (.ref b13), (.ref b13)])) (fun t k => XS.iconst X13.here hx rfl (hb hby d1_77) k) ?_
    obtain ⟨T14, h14, k14, X14, e14, E14, A14, st14⟩ := newP X13 hx hZ (wi hw 7 rfl) e13 (g := (mkF m 78 #[.val (.int p0), .val (.int f1), .val (.int t1), .val (.int (3 : Int32))] [(.int (3 : Int32)), (.ref b13), (.ref b13)])) rfl (hb hby d1_78) rfl (by decide) (cap := 3) (by decide) (by decide) (by decide) (by decide)
    obtain ⟨b14, g14⟩ : ∃ z, z = h13.size := ⟨_, rfl⟩
    rw [← g14] at A14 st14
    have g_b14 : n0 ≤ b14 := Nat.le_trans (own_old O0) (Nat.le_of_eq g14.symm)
    have sz_b14 : h0.size ≤ b14 := Nat.le_trans K0.1 (Nat.le_of_eq g14.symm)
    have ne_b13_b14 : b13 ≠ b14 := Nat.ne_of_lt (Nat.lt_of_lt_of_le E_b13.lt (Nat.le_of_eq g14.symm))
    have ne_b14_b13 := Ne.symm ne_b13_b14
    have S_b14 : Safe Z consts_1 s.vm h13 b14 := Safe.new (Nat.le_of_eq g14.symm)
    have S_b13 := Safe.ext E14 CR.1 S_b13
    have S_b14 := Safe.ext E14 CR.1 S_b14
    have CR := CR.trans (CHr.ext E14 CR.1)
    have E_b13 := E_b13.ext E14
    have F_value_b13 := F_value_b13.ext E14
    have F_coder_b13 := F_coder_b13.ext E14
    have O0 := O0.ext E14
    have hk := Nat.le_trans hk E14.1
    have K0 := K0.ext E14
    have V_b14 : Arv Z h14 b14 k14 .char (3 : Int32) [(.int (0 : Int32)), (.int (0 : Int32)), (.int (0 : Int32))] (.int (0 : Int32)) := (Arv.new A14 (by decide)).pad (pad_rep [] (.int (0 : Int32)) 3)
    refine Goes.to (T' := T14.setTop (mkF m 80 #[.val (.int p0), .val (.int f1), .val (.int t1), .val (.int (3 : Int32))] [(.ref b14), (.ref b13), (.ref b13)])) st14 ?_
    refine Goes.to (T' := T14.setTop (mkF m 81 #[.val (.int p0), .val (.int f1), .val (.int t1), .val (.int (3 : Int32))] [(.ref b14), (.ref b14), (.ref b13), (.ref b13)])) (fun t k => XS.dup X14.here hx rfl (hb hby d1_80) rfl rfl k) ?_
    refine Goes.to (T' := T14.setTop (mkF m 82 #[.val (.int p0), .val (.int f1), .val (.int t1), .val (.int (3 : Int32))] [(.int (0 : Int32)), (.ref b14), (.ref b14), (.ref b13), (.ref b13)])) (fun t k => XS.iconst X14.here hx rfl (hb hby d1_81) k) ?_
    refine Goes.to (T' := T14.setTop (mkF m 83 #[.val (.int p0), .val (.int f1), .val (.int t1), .val (.int (3 : Int32))] [(.int f1), (.int (0 : Int32)), (.ref b14), (.ref b14), (.ref b13), (.ref b13)])) (fun t k => XS.iloadN X14.here hx rfl (hb hby d1_82) rfl k) ?_
    obtain ⟨cl15, Ar15, q15, S15, Ng15, H15, G15⟩ := V_b14
    have hin15 : ¬ ((0 : Int32) < 0 ∨ cl15.slots.size ≤ ((0 : Int32)).toNatClampNeg) := inb_of S15 ⟨by decide, by decide⟩
    obtain ⟨T16, h16, X16, e16, W16, st16⟩ := stC X14 hx hZ e14 Ar15 (j := (0 : Int32)) hin15 (g := (mkF m 83 #[.val (.int p0), .val (.int f1), .val (.int t1), .val (.int (3 : Int32))] [(.int f1), (.int (0 : Int32)), (.ref b14), (.ref b14), (.ref b13), (.ref b13)])) rfl rfl (hb hby d1_83)
    have V_b14 : Arv Z h16 b14 k14 .char (3 : Int32) [(.int (nar .char f1)), (.int (0 : Int32)), (.int (0 : Int32))] (.int (0 : Int32)) := Arv.set Ar15 q15 S15 Ng15 H15 G15 (fits_nar_char _) W16 0 rfl (Nat.le_of_ble_eq_true rfl)
    have CRn := CR.trans (CHr.wr W16 S_b14 CR.1)
    have S_b13 := Safe.wr W16 S_b14 CR.1 S_b13
    have S_b14 := Safe.wr W16 S_b14 CR.1 S_b14
    have CR := CRn
    have E_b13 := E_b13.wr W16
    have F_value_b13 := F_value_b13.other W16 (Or.inl (ne_b13_b14))
    have F_coder_b13 := F_coder_b13.other W16 (Or.inl (ne_b13_b14))
    have O0 := O0.wr W16 g_b14
    have hk := Nat.le_trans hk (Keep.of_wr W16).1
    have K0 := K0.wr W16 (Or.inr sz_b14)
    have N16 := Fr.snoc X16 N0 g_b14
    refine Goes.to (T' := T16.setTop (mkF m 84 #[.val (.int p0), .val (.int f1), .val (.int t1), .val (.int (3 : Int32))] [(.ref b14), (.ref b13), (.ref b13)])) st16 ?_
    refine Goes.to (T' := T16.setTop (mkF m 85 #[.val (.int p0), .val (.int f1), .val (.int t1), .val (.int (3 : Int32))] [(.ref b14), (.ref b14), (.ref b13), (.ref b13)])) (fun t k => XS.dup X16.here hx rfl (hb hby d1_84) rfl rfl k) ?_
    refine Goes.to (T' := T16.setTop (mkF m 86 #[.val (.int p0), .val (.int f1), .val (.int t1), .val (.int (3 : Int32))] [(.int (1 : Int32)), (.ref b14), (.ref b14), (.ref b13), (.ref b13)])) (fun t k => XS.iconst X16.here hx rfl (hb hby d1_85) k) ?_
    refine Goes.to (T' := T16.setTop (mkF m 87 #[.val (.int p0), .val (.int f1), .val (.int t1), .val (.int (3 : Int32))] [(.int t1), (.int (1 : Int32)), (.ref b14), (.ref b14), (.ref b13), (.ref b13)])) (fun t k => XS.iloadN X16.here hx rfl (hb hby d1_86) rfl k) ?_
    obtain ⟨cl17, Ar17, q17, S17, Ng17, H17, G17⟩ := V_b14
    have hin17 : ¬ ((1 : Int32) < 0 ∨ cl17.slots.size ≤ ((1 : Int32)).toNatClampNeg) := inb_of S17 ⟨by decide, by decide⟩
    obtain ⟨T18, h18, X18, e18, W18, st18⟩ := stC X16 hx hZ e16 Ar17 (j := (1 : Int32)) hin17 (g := (mkF m 87 #[.val (.int p0), .val (.int f1), .val (.int t1), .val (.int (3 : Int32))] [(.int t1), (.int (1 : Int32)), (.ref b14), (.ref b14), (.ref b13), (.ref b13)])) rfl rfl (hb hby d1_87)
    have V_b14 : Arv Z h18 b14 k14 .char (3 : Int32) [(.int (nar .char f1)), (.int (nar .char t1)), (.int (0 : Int32))] (.int (0 : Int32)) := Arv.set Ar17 q17 S17 Ng17 H17 G17 (fits_nar_char _) W18 1 rfl (Nat.le_of_ble_eq_true rfl)
    have CRn := CR.trans (CHr.wr W18 S_b14 CR.1)
    have S_b13 := Safe.wr W18 S_b14 CR.1 S_b13
    have S_b14 := Safe.wr W18 S_b14 CR.1 S_b14
    have CR := CRn
    have E_b13 := E_b13.wr W18
    have F_value_b13 := F_value_b13.other W18 (Or.inl (ne_b13_b14))
    have F_coder_b13 := F_coder_b13.other W18 (Or.inl (ne_b13_b14))
    have O0 := O0.wr W18 g_b14
    have hk := Nat.le_trans hk (Keep.of_wr W18).1
    have K0 := K0.wr W18 (Or.inr sz_b14)
    have N18 := Fr.snoc X18 N16 g_b14
    refine Goes.to (T' := T18.setTop (mkF m 88 #[.val (.int p0), .val (.int f1), .val (.int t1), .val (.int (3 : Int32))] [(.ref b14), (.ref b13), (.ref b13)])) st18 ?_
    refine Goes.to (T' := T18.setTop (mkF m 89 #[.val (.int p0), .val (.int f1), .val (.int t1), .val (.int (3 : Int32))] [(.ref b14), (.ref b14), (.ref b13), (.ref b13)])) (fun t k => XS.dup X18.here hx rfl (hb hby d1_88) rfl rfl k) ?_
    refine Goes.to (T' := T18.setTop (mkF m 90 #[.val (.int p0), .val (.int f1), .val (.int t1), .val (.int (3 : Int32))] [(.int (2 : Int32)), (.ref b14), (.ref b14), (.ref b13), (.ref b13)])) (fun t k => XS.iconst X18.here hx rfl (hb hby d1_89) k) ?_
    refine Goes.to (T' := T18.setTop (mkF m 91 #[.val (.int p0), .val (.int f1), .val (.int t1), .val (.int (3 : Int32))] [(.int f1), (.int (2 : Int32)), (.ref b14), (.ref b14), (.ref b13), (.ref b13)])) (fun t k => XS.iloadN X18.here hx rfl (hb hby d1_90) rfl k) ?_
    obtain ⟨cl19, Ar19, q19, S19, Ng19, H19, G19⟩ := V_b14
    have hin19 : ¬ ((2 : Int32) < 0 ∨ cl19.slots.size ≤ ((2 : Int32)).toNatClampNeg) := inb_of S19 ⟨by decide, by decide⟩
    obtain ⟨T20, h20, X20, e20, W20, st20⟩ := stC X18 hx hZ e18 Ar19 (j := (2 : Int32)) hin19 (g := (mkF m 91 #[.val (.int p0), .val (.int f1), .val (.int t1), .val (.int (3 : Int32))] [(.int f1), (.int (2 : Int32)), (.ref b14), (.ref b14), (.ref b13), (.ref b13)])) rfl rfl (hb hby d1_91)
    have V_b14 : Arv Z h20 b14 k14 .char (3 : Int32) [(.int (nar .char f1)), (.int (nar .char t1)), (.int (nar .char f1))] (.int (0 : Int32)) := Arv.set Ar19 q19 S19 Ng19 H19 G19 (fits_nar_char _) W20 2 rfl (Nat.le_of_ble_eq_true rfl)
    have CRn := CR.trans (CHr.wr W20 S_b14 CR.1)
    have S_b13 := Safe.wr W20 S_b14 CR.1 S_b13
    have S_b14 := Safe.wr W20 S_b14 CR.1 S_b14
    have CR := CRn
    have E_b13 := E_b13.wr W20
    have F_value_b13 := F_value_b13.other W20 (Or.inl (ne_b13_b14))
    have F_coder_b13 := F_coder_b13.other W20 (Or.inl (ne_b13_b14))
    have O0 := O0.wr W20 g_b14
    have hk := Nat.le_trans hk (Keep.of_wr W20).1
    have K0 := K0.wr W20 (Or.inr sz_b14)
    have N20 := Fr.snoc X20 N18 g_b14
    refine Goes.to (T' := T20.setTop (mkF m 92 #[.val (.int p0), .val (.int f1), .val (.int t1), .val (.int (3 : Int32))] [(.ref b14), (.ref b13), (.ref b13)])) st20 ?_
    rw [own_narc h_f1] at V_b14
    rw [own_narc h_t1] at V_b14
    have hws : ∀ d ∈ StrChars.Road.words, d.before a0 Z = true := fun d hd => hw d ((by decide +kernel : ∀ d ∈ StrChars.Road.words, d ∈ tables_1) d hd)
    have hlat : ∀ c ∈ [f1, t1, f1], ¬ c < 0 ∧ ¬ (255 : Int32) < c := by
      intro c hc
      simp only [List.mem_cons, List.not_mem_nil, or_false] at hc
      rcases hc with rfl | rfl | rfl
      · exact h_f1
      · exact h_t1
      · exact h_f1
    obtain ⟨_, _, ⟨T21, L21, k21, n21⟩, -, X21, ⟨Lc21, hQ21, l21, y21, z21⟩, st21⟩ := X20.specialBack hx (y := (⟨"java/lang/String", "<init>", "([C)V"⟩ : MethodName)) rfl hown (mvT hZ (wi hw 8 rfl)) (mvT hZ (wi hw 9 rfl)) (mvT hZ (wi hw 10 rfl)) (by decide) (StrChars.Road.backV (W := 1) hZ hws (kI := 4) (wi hw 5 rfl) (cs := [f1, t1, f1]) (bs := [f1.toInt8.toInt32, t1.toInt8.toInt32, f1.toInt8.toInt32]) (n := 3) g_b13 (own_old O0) E_b13 F_value_b13 F_coder_b13 V_b14 (S_cs.ext O0.2) nz_cs rfl rfl (by decide) (by decide) hlat rfl (by decide) (by decide)) (g := (mkF m 92 #[.val (.int p0), .val (.int f1), .val (.int t1), .val (.int (3 : Int32))] [(.ref b14), (.ref b13), (.ref b13)])) rfl (by rw [hml]; rfl) (Steps.refl _) (a := b13) (argsL := [(.ref b14)]) (rest := [(.ref b13)]) (lenOf pd_348 rfl) rfl (by show 2 * 0 + _ ≤ _; exact Nat.le_of_eq rfl) (hb hby d1_92) (fun _ _ => ⟨rfl, e20, (by decide : 2 + 1 ≤ _), (by decide : 7 + 3 ≤ _)⟩)
    dsimp only [Pt.U, Pt.locs, Pt.cells, Pt.slots] at X21 l21 y21 z21 st21 hQ21
    subst l21 y21 z21
    obtain ⟨rfl, Nq21, K21, -, Fc21, t21, kb21, gt21, szt21, net21, Fv21, Av21⟩ := hQ21
    have N21 := Fr.app N20 Nq21
    have g_t21 : n0 ≤ t21 := gt21
    have sz_t21 : h0.size ≤ t21 := Nat.le_trans K0.1 szt21
    have ne_b13_t21 : b13 ≠ t21 := Nat.ne_of_lt (Nat.lt_of_lt_of_le E_b13.lt szt21)
    have ne_t21_b13 := Ne.symm ne_b13_t21
    have ne_b14_t21 : b14 ≠ t21 := Nat.ne_of_lt (Nat.lt_of_lt_of_le V_b14.lt szt21)
    have ne_t21_b14 := Ne.symm ne_b14_t21
    have S_t21 : Safe Z consts_1 s.vm h20 t21 := Safe.new szt21
    have CRn := CR.trans (CHr.keep K21 (allS S_b13 all0) CR.1)
    have S_b14' := Safe.keep K21 (allS S_b13 all0) CR.1 S_b14
    have S_t21' := Safe.keep K21 (allS S_b13 all0) CR.1 S_t21
    have S_b13' := Safe.keep K21 (allS S_b13 all0) CR.1 S_b13
    have S_b13 := S_b13'
    have S_b14 := S_b14'
    have S_t21 := S_t21'
    have CR := CRn
    have E_b13 := E_b13.keep K21
    have V_b14 := V_b14.keep K21 (ninS (ne_b14_b13) nin0)
    have O0 := O0.keep K21 (allS g_b13 all0)
    have hk := Nat.le_trans hk K21.1
    have K0 := K0.trans K21 (allS (Or.inr sz_b13) all0)
    have F_coder_b13 := Fc21
    have F_value_b13 := Fv21
    have V_t21 : Arv Z T21.heap t21 kb21 .byte (3 : Int32) [(.int f1.toInt8.toInt32), (.int t1.toInt8.toInt32), (.int f1.toInt8.toInt32)] (.int (0 : Int32)) := Av21
    refine Goes.thru (T' := T21.setTop (mkF m 95 #[.val (.int p0), .val (.int f1), .val (.int t1), .val (.int (3 : Int32))] [(.ref b13)])) st21 ?_
    obtain ⟨fs, hrL, hrun, hended, hRW⟩ := X21.leaveW hS hk (v := some (.ref b13)) (fun h => by rw [Bd.returns] at h; cases h)
    have hCRz : CHr Z consts_1 s.vm s.heap T21.vm T21.heap := by rw [hh]; exact CR.trans (CHv.at X21 hZ hEL CR.1)
    subst hQf
    refine ⟨_, _, retOut X21 hx Bd.returns rfl (Or.inr (Or.inr (Or.inr (Or.inr ⟨rfl, rfl, rfl⟩)))) (hb hby d1_95) hrL, hrun, hended, _, _, rfl, ?_, hCRz, hRW.1, hRW.2.1, hRW.2.2.1, hRW.2.2.2.mono (by decide) (by decide)⟩
    show Q_rmMk Z h0 n0 (some (.ref b13)) T21.heap _
    exact ⟨⟨b13, rfl, g_b13, sz_b13, E_b13⟩, N21, own_ext_keep K0⟩
def LA1 (v0 : Addr) (v1 : Addr) : Array Slot := #[.val (.ref v0), .val (.long (0 : Int64)), .second, .val (.long (0 : Int64)), .second, .val (.long (0 : Int64)), .second, .val (.int (1 : Int32)), .val (.ref v1)]
theorem d9_0 : decode prog_3_method_1_code 0 = .ok (.aload_n 0, 1) := by decide +kernel
theorem d9_1 : decode prog_3_method_1_code 1 = .ok (.invokespecial 1, 3) := by decide +kernel
theorem d9_4 : decode prog_3_method_1_code 4 = .ok (.aload_n 0, 1) := by decide +kernel
theorem d9_5 : decode prog_3_method_1_code 5 = .ok (.lload_n 1, 1) := by decide +kernel
theorem d9_6 : decode prog_3_method_1_code 6 = .ok (.putfield 7, 3) := by decide +kernel
theorem d9_9 : decode prog_3_method_1_code 9 = .ok (.aload_n 0, 1) := by decide +kernel
theorem d9_10 : decode prog_3_method_1_code 10 = .ok (.lload_n 3, 1) := by decide +kernel
theorem d9_11 : decode prog_3_method_1_code 11 = .ok (.putfield 13, 3) := by decide +kernel
theorem d9_14 : decode prog_3_method_1_code 14 = .ok (.aload_n 0, 1) := by decide +kernel
theorem d9_15 : decode prog_3_method_1_code 15 = .ok (.lload 5, 2) := by decide +kernel
theorem d9_17 : decode prog_3_method_1_code 17 = .ok (.putfield 16, 3) := by decide +kernel
theorem d9_20 : decode prog_3_method_1_code 20 = .ok (.aload_n 0, 1) := by decide +kernel
theorem d9_21 : decode prog_3_method_1_code 21 = .ok (.iload 7, 2) := by decide +kernel
theorem d9_23 : decode prog_3_method_1_code 23 = .ok (.putfield 19, 3) := by decide +kernel
theorem d9_26 : decode prog_3_method_1_code 26 = .ok (.aload_n 0, 1) := by decide +kernel
theorem d9_27 : decode prog_3_method_1_code 27 = .ok (.aload 8, 2) := by decide +kernel
theorem d9_29 : decode prog_3_method_1_code 29 = .ok (.invokestatic 23, 3) := by decide +kernel
theorem d9_32 : decode prog_3_method_1_code 32 = .ok (.putfield 29, 3) := by decide +kernel
theorem d9_35 : decode prog_3_method_1_code 35 = .ok (.return_, 1) := by decide +kernel
theorem pn_9 : plainName "com/example/nightcrawler/nightcrawler/engine/CommittedBatches" = true := by first | (simp [plainName, overriddenIn]; done) | decide +kernel
theorem ef_rmCI_0 (m : MethodId) (x0 : Addr) (x1 : Int64) (x2 : Int64) (x3 : Int64) (x4 : Int32) (x5 : Addr) : entryFrame m #[(.ref x0), (.long x1), (.long x2), (.long x3), (.int x4), (.ref x5)] 9 = mkF m 0 #[.val (.ref x0), .val (.long x1), .second, .val (.long x2), .second, .val (.long x3), .second, .val (.int x4), .val (.ref x5)] [] := by first | (simp [entryFrame, mkF, argsToLocals, Value.category]; done) | rfl
def Q_rmCI_0 (Z : State) (xa : Addr) (w2 : Addr) (h0 : Heap) (n0 : Nat) (v : Option Value) (h : Heap) (L : List Loc) : Prop := v = none ∧ Fr n0 L ∧ Keep h0 h [xa] ∧ Exa Z h xa "com/example/nightcrawler/nightcrawler/engine/CommittedBatches" ∧ Fld Z h xa "com/example/nightcrawler/nightcrawler/engine/CommittedBatches" "batches" "J" (.long (0 : Int64)) ∧ Fld Z h xa "com/example/nightcrawler/nightcrawler/engine/CommittedBatches" "deleted" "J" (.long (0 : Int64)) ∧ Fld Z h xa "com/example/nightcrawler/nightcrawler/engine/CommittedBatches" "lost" "J" (.long (0 : Int64)) ∧ Fld Z h xa "com/example/nightcrawler/nightcrawler/engine/CommittedBatches" "usedUp" "Z" (.int (1 : Int32)) ∧ Fld Z h xa "com/example/nightcrawler/nightcrawler/engine/CommittedBatches" "last" "Ljava/util/List;" (.ref w2)
theorem rmCI_0 (hw : HW a0 Z) (xa : Addr) (al : Addr) (mc : Int32) (h0 : Heap) (n0 : Nat) (O0 : Old Z n0 h0) (NF : Nar Z w3 w0 w2 w1 w4 k_w3 k_w0 k_w1 z_cs w5) (E_xa : Exa Z h0 xa "com/example/nightcrawler/nightcrawler/engine/CommittedBatches") (F_batches_xa : Fld Z h0 xa "com/example/nightcrawler/nightcrawler/engine/CommittedBatches" "batches" "J" (.long (0 : Int64))) (F_deleted_xa : Fld Z h0 xa "com/example/nightcrawler/nightcrawler/engine/CommittedBatches" "deleted" "J" (.long (0 : Int64))) (F_lost_xa : Fld Z h0 xa "com/example/nightcrawler/nightcrawler/engine/CommittedBatches" "lost" "J" (.long (0 : Int64))) (F_usedUp_xa : Fld Z h0 xa "com/example/nightcrawler/nightcrawler/engine/CommittedBatches" "usedUp" "Z" (.int (0 : Int32))) (F_last_xa : Fld Z h0 xa "com/example/nightcrawler/nightcrawler/engine/CommittedBatches" "last" "Ljava/util/List;" .null) (E_al : Exa Z h0 al "java/util/ArrayList") (F_modCount_al : Fld Z h0 al "java/util/AbstractList" "modCount" "I" (.int mc)) (F_elementData_al : Fld Z h0 al "java/util/ArrayList" "elementData" "[Ljava/lang/Object;" (.ref w0)) (F_size_al : Fld Z h0 al "java/util/ArrayList" "size" "I" (.int (0 : Int32))) (g_xa : n0 ≤ xa) (ne_al_xa : al ≠ xa) :
    Con l Z (⟨"com/example/nightcrawler/nightcrawler/engine/CommittedBatches", "<init>", "(JJJZLjava/util/List;)V"⟩ : MethodName) prog_3_method_1_code 9 none ws ({ frames := 10, cells := 0, slots := 0, locals := 168 } : Room) #[(.ref xa), (.long (0 : Int64)), (.long (0 : Int64)), (.long (0 : Int64)), (.int (1 : Int32)), (.ref al)] h0 (Q_rmCI_0 Z xa w2 h0 n0) := by
  refine Con.body (own := "com/example/nightcrawler/nightcrawler/engine/CommittedBatches") rfl (plainFor_of_name pn_9) (fun m => ef_rmCI_0 m _ _ _ _ _ _) ?_
  intro p e s m below meth c s₁ Bd hx hby hml hZ hown X0 e0 Qf hQf
  have N0 := Fr.nil n0
  have hnm := (name_of_methodNamed Bd.named Bd.method).1
  have K0 := Keep.refl h0 [xa]
  obtain ⟨S_w3, E_w3, S_w0, E_w0, S_w2, E_w2, F_elements_w2, E_w1, S_w4, E_w4, F_allowNulls_w2, S_w_ImmutableCollections__assertionsDisabled, V_w3, V_w0, V_w1, S_cs, nz_cs, M_OA⟩ := id NF
  have ne_xa_al := Ne.symm ne_al_xa
  refine Goes.to (T' := s₁.setTop (mkF m 1 (LA1 xa al) [(.ref xa)])) (fun t k => XS.aloadN X0.here hx rfl (hb hby d9_0) rfl rfl k) ?_
  obtain ⟨T1, X1, e1, st1⟩ := initO X0 hx hZ hown (wi hw 59 rfl) (wi hw 16 rfl) (wi hw 17 rfl) e0 (g := (mkF m 1 (LA1 xa al) [(.ref xa)])) rfl (by rw [hml]; rfl) rfl (hb hby d9_1) (by decide) (W := 0) (by show 2 * 0 + _ ≤ _; exact Nat.le_of_eq rfl) (by decide)
  refine Goes.to (T' := T1.setTop (mkF m 4 (LA1 xa al) [])) st1 ?_
  refine Goes.to (T' := T1.setTop (mkF m 5 (LA1 xa al) [(.ref xa)])) (fun t k => XS.aloadN X1.here hx rfl (hb hby d9_4) rfl rfl k) ?_
  refine Goes.to (T' := T1.setTop (mkF m 6 (LA1 xa al) [(.long (0 : Int64)), (.ref xa)])) (fun t k => XS.lloadN X1.here hx rfl (hb hby d9_5) rfl k) ?_
  obtain ⟨T2, h2, X2, e2, W2, st2⟩ := putF X1 hx hZ hown (host := "") (Or.inl (wi hw 60 rfl)) Via.refl e1 F_batches_xa E_xa (Or.inr ⟨(wi hw 61 rfl), rfl, hnm⟩) (wi hw 55 rfl) (ty := .long) (by decide) rfl rfl (g := (mkF m 6 (LA1 xa al) [(.long (0 : Int64)), (.ref xa)])) rfl rfl (hb hby d9_6)
  have F_batches_xa := F_batches_xa.same W2
  have E_xa := E_xa.wr W2
  have F_deleted_xa := F_deleted_xa.other W2 (Or.inr (slot_ne (Or.inr (wi hw 63 rfl)) (Or.inr (wi hw 61 rfl)) (by decide) (t := .long) (t' := .long) (by decide) (by decide)))
  have F_lost_xa := F_lost_xa.other W2 (Or.inr (slot_ne (Or.inr (wi hw 65 rfl)) (Or.inr (wi hw 61 rfl)) (by decide) (t := .long) (t' := .long) (by decide) (by decide)))
  have F_usedUp_xa := F_usedUp_xa.other W2 (Or.inr (slot_ne (Or.inr (wi hw 67 rfl)) (Or.inr (wi hw 61 rfl)) (by decide) (t := .boolean) (t' := .long) (by decide) (by decide)))
  have F_last_xa := F_last_xa.other W2 (Or.inr (slot_ne (Or.inr (wi hw 98 rfl)) (Or.inr (wi hw 61 rfl)) (by decide) (t := (.object "java/util/List")) (t' := .long) (by decide) (by decide)))
  have E_al := E_al.wr W2
  have F_modCount_al := F_modCount_al.other W2 (Or.inl (ne_al_xa))
  have F_elementData_al := F_elementData_al.other W2 (Or.inl (ne_al_xa))
  have F_size_al := F_size_al.other W2 (Or.inl (ne_al_xa))
  have O0 := O0.wr W2 g_xa
  have K0 := K0.wr W2 (Or.inl (List.mem_of_getElem? (i := 0) rfl))
  have N2 := Fr.snoc X2 N0 g_xa
  refine Goes.to (T' := T2.setTop (mkF m 9 (LA1 xa al) [])) st2 ?_
  refine Goes.to (T' := T2.setTop (mkF m 10 (LA1 xa al) [(.ref xa)])) (fun t k => XS.aloadN X2.here hx rfl (hb hby d9_9) rfl rfl k) ?_
  refine Goes.to (T' := T2.setTop (mkF m 11 (LA1 xa al) [(.long (0 : Int64)), (.ref xa)])) (fun t k => XS.lloadN X2.here hx rfl (hb hby d9_10) rfl k) ?_
  obtain ⟨T3, h3, X3, e3, W3, st3⟩ := putF X2 hx hZ hown (host := "") (Or.inl (wi hw 62 rfl)) Via.refl e2 F_deleted_xa E_xa (Or.inr ⟨(wi hw 63 rfl), rfl, hnm⟩) (wi hw 55 rfl) (ty := .long) (by decide) rfl rfl (g := (mkF m 11 (LA1 xa al) [(.long (0 : Int64)), (.ref xa)])) rfl rfl (hb hby d9_11)
  have F_deleted_xa := F_deleted_xa.same W3
  have E_xa := E_xa.wr W3
  have F_batches_xa := F_batches_xa.other W3 (Or.inr (slot_ne (Or.inr (wi hw 61 rfl)) (Or.inr (wi hw 63 rfl)) (by decide) (t := .long) (t' := .long) (by decide) (by decide)))
  have F_lost_xa := F_lost_xa.other W3 (Or.inr (slot_ne (Or.inr (wi hw 65 rfl)) (Or.inr (wi hw 63 rfl)) (by decide) (t := .long) (t' := .long) (by decide) (by decide)))
  have F_usedUp_xa := F_usedUp_xa.other W3 (Or.inr (slot_ne (Or.inr (wi hw 67 rfl)) (Or.inr (wi hw 63 rfl)) (by decide) (t := .boolean) (t' := .long) (by decide) (by decide)))
  have F_last_xa := F_last_xa.other W3 (Or.inr (slot_ne (Or.inr (wi hw 98 rfl)) (Or.inr (wi hw 63 rfl)) (by decide) (t := (.object "java/util/List")) (t' := .long) (by decide) (by decide)))
  have E_al := E_al.wr W3
  have F_modCount_al := F_modCount_al.other W3 (Or.inl (ne_al_xa))
  have F_elementData_al := F_elementData_al.other W3 (Or.inl (ne_al_xa))
  have F_size_al := F_size_al.other W3 (Or.inl (ne_al_xa))
  have O0 := O0.wr W3 g_xa
  have K0 := K0.wr W3 (Or.inl (List.mem_of_getElem? (i := 0) rfl))
  have N3 := Fr.snoc X3 N2 g_xa
  refine Goes.to (T' := T3.setTop (mkF m 14 (LA1 xa al) [])) st3 ?_
  refine Goes.to (T' := T3.setTop (mkF m 15 (LA1 xa al) [(.ref xa)])) (fun t k => XS.aloadN X3.here hx rfl (hb hby d9_14) rfl rfl k) ?_
  refine Goes.to (T' := T3.setTop (mkF m 17 (LA1 xa al) [(.long (0 : Int64)), (.ref xa)])) (fun t k => XS.lload X3.here hx rfl (hb hby d9_15) rfl k) ?_
  obtain ⟨T4, h4, X4, e4, W4, st4⟩ := putF X3 hx hZ hown (host := "") (Or.inl (wi hw 64 rfl)) Via.refl e3 F_lost_xa E_xa (Or.inr ⟨(wi hw 65 rfl), rfl, hnm⟩) (wi hw 55 rfl) (ty := .long) (by decide) rfl rfl (g := (mkF m 17 (LA1 xa al) [(.long (0 : Int64)), (.ref xa)])) rfl rfl (hb hby d9_17)
  have F_lost_xa := F_lost_xa.same W4
  have E_xa := E_xa.wr W4
  have F_batches_xa := F_batches_xa.other W4 (Or.inr (slot_ne (Or.inr (wi hw 61 rfl)) (Or.inr (wi hw 65 rfl)) (by decide) (t := .long) (t' := .long) (by decide) (by decide)))
  have F_deleted_xa := F_deleted_xa.other W4 (Or.inr (slot_ne (Or.inr (wi hw 63 rfl)) (Or.inr (wi hw 65 rfl)) (by decide) (t := .long) (t' := .long) (by decide) (by decide)))
  have F_usedUp_xa := F_usedUp_xa.other W4 (Or.inr (slot_ne (Or.inr (wi hw 67 rfl)) (Or.inr (wi hw 65 rfl)) (by decide) (t := .boolean) (t' := .long) (by decide) (by decide)))
  have F_last_xa := F_last_xa.other W4 (Or.inr (slot_ne (Or.inr (wi hw 98 rfl)) (Or.inr (wi hw 65 rfl)) (by decide) (t := (.object "java/util/List")) (t' := .long) (by decide) (by decide)))
  have E_al := E_al.wr W4
  have F_modCount_al := F_modCount_al.other W4 (Or.inl (ne_al_xa))
  have F_elementData_al := F_elementData_al.other W4 (Or.inl (ne_al_xa))
  have F_size_al := F_size_al.other W4 (Or.inl (ne_al_xa))
  have O0 := O0.wr W4 g_xa
  have K0 := K0.wr W4 (Or.inl (List.mem_of_getElem? (i := 0) rfl))
  have N4 := Fr.snoc X4 N3 g_xa
  refine Goes.to (T' := T4.setTop (mkF m 20 (LA1 xa al) [])) st4 ?_
  refine Goes.to (T' := T4.setTop (mkF m 21 (LA1 xa al) [(.ref xa)])) (fun t k => XS.aloadN X4.here hx rfl (hb hby d9_20) rfl rfl k) ?_
  refine Goes.to (T' := T4.setTop (mkF m 23 (LA1 xa al) [(.int (1 : Int32)), (.ref xa)])) (fun t k => XS.iload X4.here hx rfl (hb hby d9_21) rfl k) ?_
  obtain ⟨T5, h5, X5, e5, W5, st5⟩ := putFN X4 hx hZ hown (wi hw 66 rfl) Via.refl e4 F_usedUp_xa E_xa (Or.inr ⟨(wi hw 67 rfl), rfl, hnm⟩) (wi hw 55 rfl) (ty := .boolean) (v' := (.int (1 : Int32))) (by decide) rfl (by decide) (g := (mkF m 23 (LA1 xa al) [(.int (1 : Int32)), (.ref xa)])) rfl rfl (hb hby d9_23)
  have F_usedUp_xa := F_usedUp_xa.same W5
  have E_xa := E_xa.wr W5
  have F_batches_xa := F_batches_xa.other W5 (Or.inr (slot_ne (Or.inr (wi hw 61 rfl)) (Or.inr (wi hw 67 rfl)) (by decide) (t := .long) (t' := .boolean) (by decide) (by decide)))
  have F_deleted_xa := F_deleted_xa.other W5 (Or.inr (slot_ne (Or.inr (wi hw 63 rfl)) (Or.inr (wi hw 67 rfl)) (by decide) (t := .long) (t' := .boolean) (by decide) (by decide)))
  have F_lost_xa := F_lost_xa.other W5 (Or.inr (slot_ne (Or.inr (wi hw 65 rfl)) (Or.inr (wi hw 67 rfl)) (by decide) (t := .long) (t' := .boolean) (by decide) (by decide)))
  have F_last_xa := F_last_xa.other W5 (Or.inr (slot_ne (Or.inr (wi hw 98 rfl)) (Or.inr (wi hw 67 rfl)) (by decide) (t := (.object "java/util/List")) (t' := .boolean) (by decide) (by decide)))
  have E_al := E_al.wr W5
  have F_modCount_al := F_modCount_al.other W5 (Or.inl (ne_al_xa))
  have F_elementData_al := F_elementData_al.other W5 (Or.inl (ne_al_xa))
  have F_size_al := F_size_al.other W5 (Or.inl (ne_al_xa))
  have O0 := O0.wr W5 g_xa
  have K0 := K0.wr W5 (Or.inl (List.mem_of_getElem? (i := 0) rfl))
  have N5 := Fr.snoc X5 N4 g_xa
  refine Goes.to (T' := T5.setTop (mkF m 26 (LA1 xa al) [])) st5 ?_
  refine Goes.to (T' := T5.setTop (mkF m 27 (LA1 xa al) [(.ref xa)])) (fun t k => XS.aloadN X5.here hx rfl (hb hby d9_26) rfl rfl k) ?_
  refine Goes.to (T' := T5.setTop (mkF m 29 (LA1 xa al) [(.ref al), (.ref xa)])) (fun t k => XS.aload X5.here hx rfl (hb hby d9_27) rfl rfl k) ?_
  obtain ⟨_, _, ⟨T6, L6, k6, n6⟩, -, X6, ⟨Lc6, hQ6, l6, y6, z6⟩, st6⟩ := Jvm.LawKit.callS X5 hx (y := (⟨"java/util/List", "copyOf", "(Ljava/util/Collection;)Ljava/util/List;"⟩ : MethodName)) hown (mvT hZ (wi hw 68 rfl)) (mvT hZ (wi hw 69 rfl)) (mvT hZ (wi hw 70 rfl)) (mvT hZ (wi hw 71 rfl)) (by decide) (backOf (W := 1) (rmCo0 hw al mc h5 n0 O0 NF E_al F_modCount_al F_elementData_al F_size_al) hZ (wi hw 71 rfl) (wi hw 70 rfl) (by decide) (by decide)) (g := (mkF m 29 (LA1 xa al) [(.ref al), (.ref xa)])) rfl (by rw [hml]; rfl) (argsL := [(.ref al)]) (rest := [(.ref xa)]) (lenOf pd_202 rfl) rfl (by show 2 * 0 + _ ≤ _; exact Nat.le_of_eq rfl) (hb hby d9_29) (fun _ _ => ⟨rfl, e5, (by decide : 0 + 0 ≤ _), (by decide : 0 + 0 ≤ _)⟩)
  dsimp only [Pt.U, Pt.locs, Pt.cells, Pt.slots] at X6 l6 y6 z6 st6 hQ6
  subst l6 y6 z6
  obtain ⟨rfl, Nq6, e6⟩ := hQ6
  have N6 := Fr.app N5 Nq6
  refine Goes.to (T' := T6.setTop (mkF m 32 (LA1 xa al) [(.ref w2), (.ref xa)])) st6 ?_
  obtain ⟨T7, h7, X7, e7, W7, st7⟩ := putF X6 hx hZ hown (host := "") (Or.inl (wi hw 97 rfl)) Via.refl e6 F_last_xa E_xa (Or.inr ⟨(wi hw 98 rfl), rfl, hnm⟩) (wi hw 55 rfl) (ty := (.object "java/util/List")) (by decide) rfl rfl (g := (mkF m 32 (LA1 xa al) [(.ref w2), (.ref xa)])) rfl rfl (hb hby d9_32)
  have F_last_xa := F_last_xa.same W7
  have E_xa := E_xa.wr W7
  have F_batches_xa := F_batches_xa.other W7 (Or.inr (slot_ne (Or.inr (wi hw 61 rfl)) (Or.inr (wi hw 98 rfl)) (by decide) (t := .long) (t' := (.object "java/util/List")) (by decide) (by decide)))
  have F_deleted_xa := F_deleted_xa.other W7 (Or.inr (slot_ne (Or.inr (wi hw 63 rfl)) (Or.inr (wi hw 98 rfl)) (by decide) (t := .long) (t' := (.object "java/util/List")) (by decide) (by decide)))
  have F_lost_xa := F_lost_xa.other W7 (Or.inr (slot_ne (Or.inr (wi hw 65 rfl)) (Or.inr (wi hw 98 rfl)) (by decide) (t := .long) (t' := (.object "java/util/List")) (by decide) (by decide)))
  have F_usedUp_xa := F_usedUp_xa.other W7 (Or.inr (slot_ne (Or.inr (wi hw 67 rfl)) (Or.inr (wi hw 98 rfl)) (by decide) (t := .boolean) (t' := (.object "java/util/List")) (by decide) (by decide)))
  have E_al := E_al.wr W7
  have F_modCount_al := F_modCount_al.other W7 (Or.inl (ne_al_xa))
  have F_elementData_al := F_elementData_al.other W7 (Or.inl (ne_al_xa))
  have F_size_al := F_size_al.other W7 (Or.inl (ne_al_xa))
  have O0 := O0.wr W7 g_xa
  have K0 := K0.wr W7 (Or.inl (List.mem_of_getElem? (i := 0) rfl))
  have N7 := Fr.snoc X7 N6 g_xa
  refine Goes.to (T' := T7.setTop (mkF m 35 (LA1 xa al) [])) st7 ?_
  obtain ⟨fs, hrL, hrun, hended, hW, hsame⟩ := X7.leave (v := none) (fun _ => rfl)
  subst hQf
  refine ⟨_, _, X7.returnOut hx Bd.returns (hb hby d9_35) hrL, hrun, hended, _, _, rfl, ?_, ⟨_, rfl⟩, hW, hsame.mono (by decide) (by decide)⟩
  show Q_rmCI_0 Z xa w2 h0 n0 (none) T7.heap _
  rw [e7]
  exact ⟨rfl, N7, K0, E_xa, F_batches_xa, F_deleted_xa, F_lost_xa, F_usedUp_xa, F_last_xa⟩
theorem pd_441 : parseMethodDescriptor "(JJJZLjava/util/List;)V" = some ⟨[.long, .long, .long, .boolean, (.object "java/util/List")], none⟩ := by decide +kernel
theorem d8_0 : decode prog_3_method_3_code 0 = .ok (.new 8, 3) := by decide +kernel
theorem d8_3 : decode prog_3_method_3_code 3 = .ok (.dup, 1) := by decide +kernel
theorem d8_4 : decode prog_3_method_3_code 4 = .ok (.lconst 0, 1) := by decide +kernel
theorem d8_5 : decode prog_3_method_3_code 5 = .ok (.lconst 0, 1) := by decide +kernel
theorem d8_6 : decode prog_3_method_3_code 6 = .ok (.lconst 0, 1) := by decide +kernel
theorem d8_7 : decode prog_3_method_3_code 7 = .ok (.iconst 1, 1) := by decide +kernel
theorem d8_8 : decode prog_3_method_3_code 8 = .ok (.aload_n 0, 1) := by decide +kernel
theorem d8_9 : decode prog_3_method_3_code 9 = .ok (.invokespecial 33, 3) := by decide +kernel
theorem d8_12 : decode prog_3_method_3_code 12 = .ok (.areturn, 1) := by decide +kernel
theorem pn_8 : plainName "com/example/nightcrawler/nightcrawler/engine/CommittedBatches" = true := by first | (simp [plainName, overriddenIn]; done) | decide +kernel
def Q_rmNo0 (Z : State) (w2 : Addr) (h0 : Heap) (n0 : Nat) (v : Option Value) (h : Heap) (L : List Loc) : Prop := (∃ (b : Addr), v = some (.ref b) ∧ n0 ≤ b ∧ h0.size ≤ b ∧ Exa Z h b "com/example/nightcrawler/nightcrawler/engine/CommittedBatches" ∧ Fld Z h b "com/example/nightcrawler/nightcrawler/engine/CommittedBatches" "batches" "J" (.long (0 : Int64)) ∧ Fld Z h b "com/example/nightcrawler/nightcrawler/engine/CommittedBatches" "deleted" "J" (.long (0 : Int64)) ∧ Fld Z h b "com/example/nightcrawler/nightcrawler/engine/CommittedBatches" "lost" "J" (.long (0 : Int64)) ∧ Fld Z h b "com/example/nightcrawler/nightcrawler/engine/CommittedBatches" "usedUp" "Z" (.int (1 : Int32)) ∧ Fld Z h b "com/example/nightcrawler/nightcrawler/engine/CommittedBatches" "last" "Ljava/util/List;" (.ref w2)) ∧ Fr n0 L ∧ Ext h0 h
theorem rmNo0 (hw : HW a0 Z) (al : Addr) (mc : Int32) (h0 : Heap) (n0 : Nat) (O0 : Old Z n0 h0) (NF : Nar Z w3 w0 w2 w1 w4 k_w3 k_w0 k_w1 z_cs w5) (E_al : Exa Z h0 al "java/util/ArrayList") (F_modCount_al : Fld Z h0 al "java/util/AbstractList" "modCount" "I" (.int mc)) (F_elementData_al : Fld Z h0 al "java/util/ArrayList" "elementData" "[Ljava/lang/Object;" (.ref w0)) (F_size_al : Fld Z h0 al "java/util/ArrayList" "size" "I" (.int (0 : Int32))) :
    Con l Z (⟨"com/example/nightcrawler/nightcrawler/engine/CommittedBatches", "none", "(Ljava/util/List;)Lcom/example/nightcrawler/nightcrawler/engine/CommittedBatches;"⟩ : MethodName) prog_3_method_3_code 1 (some (.object "com/example/nightcrawler/nightcrawler/engine/CommittedBatches")) ws ({ frames := 11, cells := 1, slots := 5, locals := 190 } : Room) #[(.ref al)] h0 (Q_rmNo0 Z w2 h0 n0) := by
  refine Con.body (own := "com/example/nightcrawler/nightcrawler/engine/CommittedBatches") rfl (plainFor_of_name pn_8) (fun m => ef_rmAC m _) ?_
  intro p e s m below meth c s₁ Bd hx hby hml hZ hown X0 e0 Qf hQf
  have N0 := Fr.nil n0
  have K0 := Keep.refl h0 []
  obtain ⟨S_w3, E_w3, S_w0, E_w0, S_w2, E_w2, F_elements_w2, E_w1, S_w4, E_w4, F_allowNulls_w2, S_w_ImmutableCollections__assertionsDisabled, V_w3, V_w0, V_w1, S_cs, nz_cs, M_OA⟩ := id NF
  obtain ⟨T1, h1, X1, e1, E1, A1, D1, -, st1⟩ := newO X0 hx hZ hown (wi hw 54 rfl) (wi hw 55 rfl) (wi hw 52 rfl) e0 (g := (mkF m 0 #[.val (.ref al)] [])) rfl (hb hby d8_0) (by decide) (by decide)
  obtain ⟨b1, g1⟩ : ∃ z, z = h0.size := ⟨_, rfl⟩
  rw [← g1] at A1 D1 st1
  have g_b1 : n0 ≤ b1 := Nat.le_trans (own_old O0) (Nat.le_of_eq g1.symm)
  have sz_b1 : h0.size ≤ b1 := Nat.le_trans K0.1 (Nat.le_of_eq g1.symm)
  have ne_al_b1 : al ≠ b1 := Nat.ne_of_lt (Nat.lt_of_lt_of_le E_al.lt (Nat.le_of_eq g1.symm))
  have ne_b1_al := Ne.symm ne_al_b1
  have E_al := E_al.ext E1
  have F_modCount_al := F_modCount_al.ext E1
  have F_elementData_al := F_elementData_al.ext E1
  have F_size_al := F_size_al.ext E1
  have O0 := O0.ext E1
  have K0 := K0.ext E1
  have E_b1 := A1
  have F_batches_b1 : Fld Z h1 b1 "com/example/nightcrawler/nightcrawler/engine/CommittedBatches" "batches" "J" (.long (0 : Int64)) := D1 (Or.inr (wi hw 61 rfl)) (ty := .long) (by decide)
  have F_deleted_b1 : Fld Z h1 b1 "com/example/nightcrawler/nightcrawler/engine/CommittedBatches" "deleted" "J" (.long (0 : Int64)) := D1 (Or.inr (wi hw 63 rfl)) (ty := .long) (by decide)
  have F_lost_b1 : Fld Z h1 b1 "com/example/nightcrawler/nightcrawler/engine/CommittedBatches" "lost" "J" (.long (0 : Int64)) := D1 (Or.inr (wi hw 65 rfl)) (ty := .long) (by decide)
  have F_usedUp_b1 : Fld Z h1 b1 "com/example/nightcrawler/nightcrawler/engine/CommittedBatches" "usedUp" "Z" (.int (0 : Int32)) := D1 (Or.inr (wi hw 67 rfl)) (ty := .boolean) (by decide)
  have F_last_b1 : Fld Z h1 b1 "com/example/nightcrawler/nightcrawler/engine/CommittedBatches" "last" "Ljava/util/List;" .null := D1 (Or.inr (wi hw 98 rfl)) (ty := (.object "java/util/List")) (by decide)
  refine Goes.to (T' := T1.setTop (mkF m 3 #[.val (.ref al)] [(.ref b1)])) st1 ?_
  refine Goes.to (T' := T1.setTop (mkF m 4 #[.val (.ref al)] [(.ref b1), (.ref b1)])) (fun t k => XS.dup X1.here hx rfl (hb hby d8_3) rfl rfl k) ?_
  refine Goes.to (T' := T1.setTop (mkF m 5 #[.val (.ref al)] [(.long (0 : Int64)), (.ref b1), (.ref b1)])) (fun t k => XS.lconst X1.here hx rfl (hb hby d8_4) k) ?_
  refine Goes.to (T' := T1.setTop (mkF m 6 #[.val (.ref al)] [(.long (0 : Int64)), (.long (0 : Int64)), (.ref b1), (.ref b1)])) (fun t k => XS.lconst X1.here hx rfl (hb hby d8_5) k) ?_
  refine Goes.to (T' := T1.setTop (mkF m 7 #[.val (.ref al)] [(.long (0 : Int64)), (.long (0 : Int64)), (.long (0 : Int64)), (.ref b1), (.ref b1)])) (fun t k => XS.lconst X1.here hx rfl (hb hby d8_6) k) ?_
  refine Goes.to (T' := T1.setTop (mkF m 8 #[.val (.ref al)] [(.int (1 : Int32)), (.long (0 : Int64)), (.long (0 : Int64)), (.long (0 : Int64)), (.ref b1), (.ref b1)])) (fun t k => XS.iconst X1.here hx rfl (hb hby d8_7) k) ?_
  refine Goes.to (T' := T1.setTop (mkF m 9 #[.val (.ref al)] [(.ref al), (.int (1 : Int32)), (.long (0 : Int64)), (.long (0 : Int64)), (.long (0 : Int64)), (.ref b1), (.ref b1)])) (fun t k => XS.aloadN X1.here hx rfl (hb hby d8_8) rfl rfl k) ?_
  obtain ⟨_, _, ⟨T2, L2, k2, n2⟩, -, X2, ⟨Lc2, hQ2, l2, y2, z2⟩, st2⟩ := X1.specialBack hx (y := (⟨"com/example/nightcrawler/nightcrawler/engine/CommittedBatches", "<init>", "(JJJZLjava/util/List;)V"⟩ : MethodName)) rfl hown (mvT hZ (wi hw 56 rfl)) (mvT hZ (wi hw 57 rfl)) (mvT hZ (wi hw 58 rfl)) (by decide) (backOf (W := 1) (rmCI_0 hw b1 al mc h1 n0 O0 NF E_b1 F_batches_b1 F_deleted_b1 F_lost_b1 F_usedUp_b1 F_last_b1 E_al F_modCount_al F_elementData_al F_size_al g_b1 ne_al_b1) hZ (wi hw 58 rfl) (wi hw 52 rfl) (by decide) (by decide)) (g := (mkF m 9 #[.val (.ref al)] [(.ref al), (.int (1 : Int32)), (.long (0 : Int64)), (.long (0 : Int64)), (.long (0 : Int64)), (.ref b1), (.ref b1)])) rfl (by rw [hml]; rfl) (Steps.refl _) (a := b1) (argsL := [(.long (0 : Int64)), (.long (0 : Int64)), (.long (0 : Int64)), (.int (1 : Int32)), (.ref al)]) (rest := [(.ref b1)]) (lenOf pd_441 rfl) rfl (by show 2 * 0 + _ ≤ _; exact Nat.le_of_eq rfl) (hb hby d8_9) (fun _ _ => ⟨rfl, e1, (by decide : 1 + 0 ≤ _), (by decide : 5 + 0 ≤ _)⟩)
  dsimp only [Pt.U, Pt.locs, Pt.cells, Pt.slots] at X2 l2 y2 z2 st2 hQ2
  subst l2 y2 z2
  obtain ⟨rfl, Nq2, K2, r0_2, r1_2, r2_2, r3_2, r4_2, r5_2⟩ := hQ2
  have N2 := Fr.app N0 Nq2
  have E_al := E_al.keep K2
  have F_modCount_al := F_modCount_al.keep K2 (ninS (ne_al_b1) nin0)
  have F_elementData_al := F_elementData_al.keep K2 (ninS (ne_al_b1) nin0)
  have F_size_al := F_size_al.keep K2 (ninS (ne_al_b1) nin0)
  have E_b1 := E_b1.keep K2
  have O0 := O0.keep K2 (allS g_b1 all0)
  have K0 := K0.trans K2 (allS (Or.inr sz_b1) all0)
  have E_b1 := r0_2
  have F_batches_b1 := r1_2
  have F_deleted_b1 := r2_2
  have F_lost_b1 := r3_2
  have F_usedUp_b1 := r4_2
  have F_last_b1 := r5_2
  refine Goes.thru (T' := T2.setTop (mkF m 12 #[.val (.ref al)] [(.ref b1)])) st2 ?_
  obtain ⟨fs, hrL, hrun, hended, hW, hsame⟩ := X2.leave (v := some (.ref b1)) (fun h => by rw [Bd.returns] at h; cases h)
  subst hQf
  refine ⟨_, _, retOut X2 hx Bd.returns rfl (Or.inr (Or.inr (Or.inr (Or.inr ⟨rfl, rfl, rfl⟩)))) (hb hby d8_12) hrL, hrun, hended, _, _, rfl, ?_, ⟨_, rfl⟩, hW, hsame.mono (by decide) (by decide)⟩
  show Q_rmNo0 Z w2 h0 n0 (some (.ref b1)) T2.heap _
  exact ⟨⟨b1, rfl, g_b1, sz_b1, E_b1, F_batches_b1, F_deleted_b1, F_lost_b1, F_usedUp_b1, F_last_b1⟩, N2, own_ext_keep K0⟩
def Q_rmCI_1 (Z : State) (xa : Addr) (w4 : Addr) (x0_ : Addr) (h0 : Heap) (n0 : Nat) (v : Option Value) (h : Heap) (L : List Loc) : Prop := (v = none ∧ ∃ (lb : Addr), n0 ≤ lb ∧ h0.size ≤ lb ∧ Exa Z h xa "com/example/nightcrawler/nightcrawler/engine/CommittedBatches" ∧ Fld Z h xa "com/example/nightcrawler/nightcrawler/engine/CommittedBatches" "batches" "J" (.long (0 : Int64)) ∧ Fld Z h xa "com/example/nightcrawler/nightcrawler/engine/CommittedBatches" "deleted" "J" (.long (0 : Int64)) ∧ Fld Z h xa "com/example/nightcrawler/nightcrawler/engine/CommittedBatches" "lost" "J" (.long (0 : Int64)) ∧ Fld Z h xa "com/example/nightcrawler/nightcrawler/engine/CommittedBatches" "usedUp" "Z" (.int (1 : Int32)) ∧ Fld Z h xa "com/example/nightcrawler/nightcrawler/engine/CommittedBatches" "last" "Ljava/util/List;" (.ref lb) ∧ Exa Z h lb "java/util/ImmutableCollections$List12" ∧ Fld Z h lb "java/util/ImmutableCollections$List12" "e0" "Ljava/lang/Object;" (.ref x0_) ∧ Fld Z h lb "java/util/ImmutableCollections$List12" "e1" "Ljava/lang/Object;" (.ref w4)) ∧ Fr n0 L ∧ Keep h0 h [xa]
theorem rmCI_1 (hw : HW a0 Z) (xa : Addr) (al : Addr) (mc : Int32) (ed : Addr) (kd : ClassId) (x0_ : Addr) (h0 : Heap) (n0 : Nat) (O0 : Old Z n0 h0) (NF : Nar Z w3 w0 w2 w1 w4 k_w3 k_w0 k_w1 z_cs w5) (E_xa : Exa Z h0 xa "com/example/nightcrawler/nightcrawler/engine/CommittedBatches") (F_batches_xa : Fld Z h0 xa "com/example/nightcrawler/nightcrawler/engine/CommittedBatches" "batches" "J" (.long (0 : Int64))) (F_deleted_xa : Fld Z h0 xa "com/example/nightcrawler/nightcrawler/engine/CommittedBatches" "deleted" "J" (.long (0 : Int64))) (F_lost_xa : Fld Z h0 xa "com/example/nightcrawler/nightcrawler/engine/CommittedBatches" "lost" "J" (.long (0 : Int64))) (F_usedUp_xa : Fld Z h0 xa "com/example/nightcrawler/nightcrawler/engine/CommittedBatches" "usedUp" "Z" (.int (0 : Int32))) (F_last_xa : Fld Z h0 xa "com/example/nightcrawler/nightcrawler/engine/CommittedBatches" "last" "Ljava/util/List;" .null) (E_al : Exa Z h0 al "java/util/ArrayList") (F_modCount_al : Fld Z h0 al "java/util/AbstractList" "modCount" "I" (.int mc)) (F_elementData_al : Fld Z h0 al "java/util/ArrayList" "elementData" "[Ljava/lang/Object;" (.ref ed)) (F_size_al : Fld Z h0 al "java/util/ArrayList" "size" "I" (.int (1 : Int32))) (V_ed : Arv Z h0 ed kd (.object "java/lang/Object") (10 : Int32) [(.ref x0_), .null, .null, .null, .null, .null, .null, .null, .null, .null] .null) (E_ed : Exa Z h0 ed "[Ljava/lang/Object;") (E_x0_ : Exa Z h0 x0_ "java/lang/String") (g_xa : n0 ≤ xa) (ne_al_xa : al ≠ xa) (ne_ed_xa : ed ≠ xa) :
    Con l Z (⟨"com/example/nightcrawler/nightcrawler/engine/CommittedBatches", "<init>", "(JJJZLjava/util/List;)V"⟩ : MethodName) prog_3_method_1_code 9 none ws ({ frames := 10, cells := 2, slots := 4, locals := 168 } : Room) #[(.ref xa), (.long (0 : Int64)), (.long (0 : Int64)), (.long (0 : Int64)), (.int (1 : Int32)), (.ref al)] h0 (Q_rmCI_1 Z xa w4 x0_ h0 n0) := by
  refine Con.body (own := "com/example/nightcrawler/nightcrawler/engine/CommittedBatches") rfl (plainFor_of_name pn_9) (fun m => ef_rmCI_0 m _ _ _ _ _ _) ?_
  intro p e s m below meth c s₁ Bd hx hby hml hZ hown X0 e0 Qf hQf
  have N0 := Fr.nil n0
  have hnm := (name_of_methodNamed Bd.named Bd.method).1
  have K0 := Keep.refl h0 [xa]
  obtain ⟨S_w3, E_w3, S_w0, E_w0, S_w2, E_w2, F_elements_w2, E_w1, S_w4, E_w4, F_allowNulls_w2, S_w_ImmutableCollections__assertionsDisabled, V_w3, V_w0, V_w1, S_cs, nz_cs, M_OA⟩ := id NF
  have ne_xa_al := Ne.symm ne_al_xa
  have ne_xa_ed := Ne.symm ne_ed_xa
  refine Goes.to (T' := s₁.setTop (mkF m 1 (LA1 xa al) [(.ref xa)])) (fun t k => XS.aloadN X0.here hx rfl (hb hby d9_0) rfl rfl k) ?_
  obtain ⟨T1, X1, e1, st1⟩ := initO X0 hx hZ hown (wi hw 59 rfl) (wi hw 16 rfl) (wi hw 17 rfl) e0 (g := (mkF m 1 (LA1 xa al) [(.ref xa)])) rfl (by rw [hml]; rfl) rfl (hb hby d9_1) (by decide) (W := 0) (by show 2 * 0 + _ ≤ _; exact Nat.le_of_eq rfl) (by decide)
  refine Goes.to (T' := T1.setTop (mkF m 4 (LA1 xa al) [])) st1 ?_
  refine Goes.to (T' := T1.setTop (mkF m 5 (LA1 xa al) [(.ref xa)])) (fun t k => XS.aloadN X1.here hx rfl (hb hby d9_4) rfl rfl k) ?_
  refine Goes.to (T' := T1.setTop (mkF m 6 (LA1 xa al) [(.long (0 : Int64)), (.ref xa)])) (fun t k => XS.lloadN X1.here hx rfl (hb hby d9_5) rfl k) ?_
  obtain ⟨T2, h2, X2, e2, W2, st2⟩ := putF X1 hx hZ hown (host := "") (Or.inl (wi hw 60 rfl)) Via.refl e1 F_batches_xa E_xa (Or.inr ⟨(wi hw 61 rfl), rfl, hnm⟩) (wi hw 55 rfl) (ty := .long) (by decide) rfl rfl (g := (mkF m 6 (LA1 xa al) [(.long (0 : Int64)), (.ref xa)])) rfl rfl (hb hby d9_6)
  have F_batches_xa := F_batches_xa.same W2
  have E_xa := E_xa.wr W2
  have F_deleted_xa := F_deleted_xa.other W2 (Or.inr (slot_ne (Or.inr (wi hw 63 rfl)) (Or.inr (wi hw 61 rfl)) (by decide) (t := .long) (t' := .long) (by decide) (by decide)))
  have F_lost_xa := F_lost_xa.other W2 (Or.inr (slot_ne (Or.inr (wi hw 65 rfl)) (Or.inr (wi hw 61 rfl)) (by decide) (t := .long) (t' := .long) (by decide) (by decide)))
  have F_usedUp_xa := F_usedUp_xa.other W2 (Or.inr (slot_ne (Or.inr (wi hw 67 rfl)) (Or.inr (wi hw 61 rfl)) (by decide) (t := .boolean) (t' := .long) (by decide) (by decide)))
  have F_last_xa := F_last_xa.other W2 (Or.inr (slot_ne (Or.inr (wi hw 98 rfl)) (Or.inr (wi hw 61 rfl)) (by decide) (t := (.object "java/util/List")) (t' := .long) (by decide) (by decide)))
  have E_al := E_al.wr W2
  have F_modCount_al := F_modCount_al.other W2 (Or.inl (ne_al_xa))
  have F_elementData_al := F_elementData_al.other W2 (Or.inl (ne_al_xa))
  have F_size_al := F_size_al.other W2 (Or.inl (ne_al_xa))
  have V_ed := V_ed.other W2 (ne_ed_xa)
  have E_ed := E_ed.wr W2
  have E_x0_ := E_x0_.wr W2
  have O0 := O0.wr W2 g_xa
  have K0 := K0.wr W2 (Or.inl (List.mem_of_getElem? (i := 0) rfl))
  have N2 := Fr.snoc X2 N0 g_xa
  refine Goes.to (T' := T2.setTop (mkF m 9 (LA1 xa al) [])) st2 ?_
  refine Goes.to (T' := T2.setTop (mkF m 10 (LA1 xa al) [(.ref xa)])) (fun t k => XS.aloadN X2.here hx rfl (hb hby d9_9) rfl rfl k) ?_
  refine Goes.to (T' := T2.setTop (mkF m 11 (LA1 xa al) [(.long (0 : Int64)), (.ref xa)])) (fun t k => XS.lloadN X2.here hx rfl (hb hby d9_10) rfl k) ?_
  obtain ⟨T3, h3, X3, e3, W3, st3⟩ := putF X2 hx hZ hown (host := "") (Or.inl (wi hw 62 rfl)) Via.refl e2 F_deleted_xa E_xa (Or.inr ⟨(wi hw 63 rfl), rfl, hnm⟩) (wi hw 55 rfl) (ty := .long) (by decide) rfl rfl (g := (mkF m 11 (LA1 xa al) [(.long (0 : Int64)), (.ref xa)])) rfl rfl (hb hby d9_11)
  have F_deleted_xa := F_deleted_xa.same W3
  have E_xa := E_xa.wr W3
  have F_batches_xa := F_batches_xa.other W3 (Or.inr (slot_ne (Or.inr (wi hw 61 rfl)) (Or.inr (wi hw 63 rfl)) (by decide) (t := .long) (t' := .long) (by decide) (by decide)))
  have F_lost_xa := F_lost_xa.other W3 (Or.inr (slot_ne (Or.inr (wi hw 65 rfl)) (Or.inr (wi hw 63 rfl)) (by decide) (t := .long) (t' := .long) (by decide) (by decide)))
  have F_usedUp_xa := F_usedUp_xa.other W3 (Or.inr (slot_ne (Or.inr (wi hw 67 rfl)) (Or.inr (wi hw 63 rfl)) (by decide) (t := .boolean) (t' := .long) (by decide) (by decide)))
  have F_last_xa := F_last_xa.other W3 (Or.inr (slot_ne (Or.inr (wi hw 98 rfl)) (Or.inr (wi hw 63 rfl)) (by decide) (t := (.object "java/util/List")) (t' := .long) (by decide) (by decide)))
  have E_al := E_al.wr W3
  have F_modCount_al := F_modCount_al.other W3 (Or.inl (ne_al_xa))
  have F_elementData_al := F_elementData_al.other W3 (Or.inl (ne_al_xa))
  have F_size_al := F_size_al.other W3 (Or.inl (ne_al_xa))
  have V_ed := V_ed.other W3 (ne_ed_xa)
  have E_ed := E_ed.wr W3
  have E_x0_ := E_x0_.wr W3
  have O0 := O0.wr W3 g_xa
  have K0 := K0.wr W3 (Or.inl (List.mem_of_getElem? (i := 0) rfl))
  have N3 := Fr.snoc X3 N2 g_xa
  refine Goes.to (T' := T3.setTop (mkF m 14 (LA1 xa al) [])) st3 ?_
  refine Goes.to (T' := T3.setTop (mkF m 15 (LA1 xa al) [(.ref xa)])) (fun t k => XS.aloadN X3.here hx rfl (hb hby d9_14) rfl rfl k) ?_
  refine Goes.to (T' := T3.setTop (mkF m 17 (LA1 xa al) [(.long (0 : Int64)), (.ref xa)])) (fun t k => XS.lload X3.here hx rfl (hb hby d9_15) rfl k) ?_
  obtain ⟨T4, h4, X4, e4, W4, st4⟩ := putF X3 hx hZ hown (host := "") (Or.inl (wi hw 64 rfl)) Via.refl e3 F_lost_xa E_xa (Or.inr ⟨(wi hw 65 rfl), rfl, hnm⟩) (wi hw 55 rfl) (ty := .long) (by decide) rfl rfl (g := (mkF m 17 (LA1 xa al) [(.long (0 : Int64)), (.ref xa)])) rfl rfl (hb hby d9_17)
  have F_lost_xa := F_lost_xa.same W4
  have E_xa := E_xa.wr W4
  have F_batches_xa := F_batches_xa.other W4 (Or.inr (slot_ne (Or.inr (wi hw 61 rfl)) (Or.inr (wi hw 65 rfl)) (by decide) (t := .long) (t' := .long) (by decide) (by decide)))
  have F_deleted_xa := F_deleted_xa.other W4 (Or.inr (slot_ne (Or.inr (wi hw 63 rfl)) (Or.inr (wi hw 65 rfl)) (by decide) (t := .long) (t' := .long) (by decide) (by decide)))
  have F_usedUp_xa := F_usedUp_xa.other W4 (Or.inr (slot_ne (Or.inr (wi hw 67 rfl)) (Or.inr (wi hw 65 rfl)) (by decide) (t := .boolean) (t' := .long) (by decide) (by decide)))
  have F_last_xa := F_last_xa.other W4 (Or.inr (slot_ne (Or.inr (wi hw 98 rfl)) (Or.inr (wi hw 65 rfl)) (by decide) (t := (.object "java/util/List")) (t' := .long) (by decide) (by decide)))
  have E_al := E_al.wr W4
  have F_modCount_al := F_modCount_al.other W4 (Or.inl (ne_al_xa))
  have F_elementData_al := F_elementData_al.other W4 (Or.inl (ne_al_xa))
  have F_size_al := F_size_al.other W4 (Or.inl (ne_al_xa))
  have V_ed := V_ed.other W4 (ne_ed_xa)
  have E_ed := E_ed.wr W4
  have E_x0_ := E_x0_.wr W4
  have O0 := O0.wr W4 g_xa
  have K0 := K0.wr W4 (Or.inl (List.mem_of_getElem? (i := 0) rfl))
  have N4 := Fr.snoc X4 N3 g_xa
  refine Goes.to (T' := T4.setTop (mkF m 20 (LA1 xa al) [])) st4 ?_
  refine Goes.to (T' := T4.setTop (mkF m 21 (LA1 xa al) [(.ref xa)])) (fun t k => XS.aloadN X4.here hx rfl (hb hby d9_20) rfl rfl k) ?_
  refine Goes.to (T' := T4.setTop (mkF m 23 (LA1 xa al) [(.int (1 : Int32)), (.ref xa)])) (fun t k => XS.iload X4.here hx rfl (hb hby d9_21) rfl k) ?_
  obtain ⟨T5, h5, X5, e5, W5, st5⟩ := putFN X4 hx hZ hown (wi hw 66 rfl) Via.refl e4 F_usedUp_xa E_xa (Or.inr ⟨(wi hw 67 rfl), rfl, hnm⟩) (wi hw 55 rfl) (ty := .boolean) (v' := (.int (1 : Int32))) (by decide) rfl (by decide) (g := (mkF m 23 (LA1 xa al) [(.int (1 : Int32)), (.ref xa)])) rfl rfl (hb hby d9_23)
  have F_usedUp_xa := F_usedUp_xa.same W5
  have E_xa := E_xa.wr W5
  have F_batches_xa := F_batches_xa.other W5 (Or.inr (slot_ne (Or.inr (wi hw 61 rfl)) (Or.inr (wi hw 67 rfl)) (by decide) (t := .long) (t' := .boolean) (by decide) (by decide)))
  have F_deleted_xa := F_deleted_xa.other W5 (Or.inr (slot_ne (Or.inr (wi hw 63 rfl)) (Or.inr (wi hw 67 rfl)) (by decide) (t := .long) (t' := .boolean) (by decide) (by decide)))
  have F_lost_xa := F_lost_xa.other W5 (Or.inr (slot_ne (Or.inr (wi hw 65 rfl)) (Or.inr (wi hw 67 rfl)) (by decide) (t := .long) (t' := .boolean) (by decide) (by decide)))
  have F_last_xa := F_last_xa.other W5 (Or.inr (slot_ne (Or.inr (wi hw 98 rfl)) (Or.inr (wi hw 67 rfl)) (by decide) (t := (.object "java/util/List")) (t' := .boolean) (by decide) (by decide)))
  have E_al := E_al.wr W5
  have F_modCount_al := F_modCount_al.other W5 (Or.inl (ne_al_xa))
  have F_elementData_al := F_elementData_al.other W5 (Or.inl (ne_al_xa))
  have F_size_al := F_size_al.other W5 (Or.inl (ne_al_xa))
  have V_ed := V_ed.other W5 (ne_ed_xa)
  have E_ed := E_ed.wr W5
  have E_x0_ := E_x0_.wr W5
  have O0 := O0.wr W5 g_xa
  have K0 := K0.wr W5 (Or.inl (List.mem_of_getElem? (i := 0) rfl))
  have N5 := Fr.snoc X5 N4 g_xa
  refine Goes.to (T' := T5.setTop (mkF m 26 (LA1 xa al) [])) st5 ?_
  refine Goes.to (T' := T5.setTop (mkF m 27 (LA1 xa al) [(.ref xa)])) (fun t k => XS.aloadN X5.here hx rfl (hb hby d9_26) rfl rfl k) ?_
  refine Goes.to (T' := T5.setTop (mkF m 29 (LA1 xa al) [(.ref al), (.ref xa)])) (fun t k => XS.aload X5.here hx rfl (hb hby d9_27) rfl rfl k) ?_
  obtain ⟨_, _, ⟨T6, L6, k6, n6⟩, -, X6, ⟨Lc6, hQ6, l6, y6, z6⟩, st6⟩ := Jvm.LawKit.callS X5 hx (y := (⟨"java/util/List", "copyOf", "(Ljava/util/Collection;)Ljava/util/List;"⟩ : MethodName)) hown (mvT hZ (wi hw 68 rfl)) (mvT hZ (wi hw 69 rfl)) (mvT hZ (wi hw 70 rfl)) (mvT hZ (wi hw 71 rfl)) (by decide) (backOf (W := 1) (rmCo1 hw al mc ed kd x0_ h5 n0 O0 NF E_al F_modCount_al F_elementData_al F_size_al V_ed E_ed E_x0_) hZ (wi hw 71 rfl) (wi hw 70 rfl) (by decide) (by decide)) (g := (mkF m 29 (LA1 xa al) [(.ref al), (.ref xa)])) rfl (by rw [hml]; rfl) (argsL := [(.ref al)]) (rest := [(.ref xa)]) (lenOf pd_202 rfl) rfl (by show 2 * 0 + _ ≤ _; exact Nat.le_of_eq rfl) (hb hby d9_29) (fun _ _ => ⟨rfl, e5, (by decide : 0 + 2 ≤ _), (by decide : 0 + 4 ≤ _)⟩)
  dsimp only [Pt.U, Pt.locs, Pt.cells, Pt.slots] at X6 l6 y6 z6 st6 hQ6
  subst l6 y6 z6
  obtain ⟨⟨lb, rfl, gl6, sl6, r0_6, r1_6, r2_6⟩, Nq6, Ex6⟩ := hQ6
  have N6 := Fr.app N5 Nq6
  have g_lb : n0 ≤ lb := gl6
  have sz_lb : h0.size ≤ lb := Nat.le_trans K0.1 sl6
  have ne_xa_lb : xa ≠ lb := Nat.ne_of_lt (Nat.lt_of_lt_of_le E_xa.lt sl6)
  have ne_lb_xa := Ne.symm ne_xa_lb
  have ne_al_lb : al ≠ lb := Nat.ne_of_lt (Nat.lt_of_lt_of_le E_al.lt sl6)
  have ne_lb_al := Ne.symm ne_al_lb
  have ne_ed_lb : ed ≠ lb := Nat.ne_of_lt (Nat.lt_of_lt_of_le V_ed.lt sl6)
  have ne_lb_ed := Ne.symm ne_ed_lb
  have ne_x0__lb : x0_ ≠ lb := Nat.ne_of_lt (Nat.lt_of_lt_of_le E_x0_.lt sl6)
  have ne_lb_x0_ := Ne.symm ne_x0__lb
  have E_xa := E_xa.ext Ex6
  have F_batches_xa := F_batches_xa.ext Ex6
  have F_deleted_xa := F_deleted_xa.ext Ex6
  have F_lost_xa := F_lost_xa.ext Ex6
  have F_usedUp_xa := F_usedUp_xa.ext Ex6
  have F_last_xa := F_last_xa.ext Ex6
  have E_al := E_al.ext Ex6
  have F_modCount_al := F_modCount_al.ext Ex6
  have F_elementData_al := F_elementData_al.ext Ex6
  have F_size_al := F_size_al.ext Ex6
  have V_ed := V_ed.ext Ex6
  have E_ed := E_ed.ext Ex6
  have E_x0_ := E_x0_.ext Ex6
  have O0 := O0.ext Ex6
  have K0 := K0.ext Ex6
  have E_lb := r0_6
  have F_e0_lb := r1_6
  have F_e1_lb := r2_6
  refine Goes.to (T' := T6.setTop (mkF m 32 (LA1 xa al) [(.ref lb), (.ref xa)])) st6 ?_
  obtain ⟨T7, h7, X7, e7, W7, st7⟩ := putF X6 hx hZ hown (host := "") (Or.inl (wi hw 97 rfl)) Via.refl rfl F_last_xa E_xa (Or.inr ⟨(wi hw 98 rfl), rfl, hnm⟩) (wi hw 55 rfl) (ty := (.object "java/util/List")) (by decide) rfl rfl (g := (mkF m 32 (LA1 xa al) [(.ref lb), (.ref xa)])) rfl rfl (hb hby d9_32)
  have F_last_xa := F_last_xa.same W7
  have E_xa := E_xa.wr W7
  have F_batches_xa := F_batches_xa.other W7 (Or.inr (slot_ne (Or.inr (wi hw 61 rfl)) (Or.inr (wi hw 98 rfl)) (by decide) (t := .long) (t' := (.object "java/util/List")) (by decide) (by decide)))
  have F_deleted_xa := F_deleted_xa.other W7 (Or.inr (slot_ne (Or.inr (wi hw 63 rfl)) (Or.inr (wi hw 98 rfl)) (by decide) (t := .long) (t' := (.object "java/util/List")) (by decide) (by decide)))
  have F_lost_xa := F_lost_xa.other W7 (Or.inr (slot_ne (Or.inr (wi hw 65 rfl)) (Or.inr (wi hw 98 rfl)) (by decide) (t := .long) (t' := (.object "java/util/List")) (by decide) (by decide)))
  have F_usedUp_xa := F_usedUp_xa.other W7 (Or.inr (slot_ne (Or.inr (wi hw 67 rfl)) (Or.inr (wi hw 98 rfl)) (by decide) (t := .boolean) (t' := (.object "java/util/List")) (by decide) (by decide)))
  have E_al := E_al.wr W7
  have F_modCount_al := F_modCount_al.other W7 (Or.inl (ne_al_xa))
  have F_elementData_al := F_elementData_al.other W7 (Or.inl (ne_al_xa))
  have F_size_al := F_size_al.other W7 (Or.inl (ne_al_xa))
  have V_ed := V_ed.other W7 (ne_ed_xa)
  have E_ed := E_ed.wr W7
  have E_x0_ := E_x0_.wr W7
  have E_lb := E_lb.wr W7
  have F_e0_lb := F_e0_lb.other W7 (Or.inl (ne_lb_xa))
  have F_e1_lb := F_e1_lb.other W7 (Or.inl (ne_lb_xa))
  have O0 := O0.wr W7 g_xa
  have K0 := K0.wr W7 (Or.inl (List.mem_of_getElem? (i := 0) rfl))
  have N7 := Fr.snoc X7 N6 g_xa
  refine Goes.to (T' := T7.setTop (mkF m 35 (LA1 xa al) [])) st7 ?_
  obtain ⟨fs, hrL, hrun, hended, hW, hsame⟩ := X7.leave (v := none) (fun _ => rfl)
  subst hQf
  refine ⟨_, _, X7.returnOut hx Bd.returns (hb hby d9_35) hrL, hrun, hended, _, _, rfl, ?_, ⟨_, rfl⟩, hW, hsame.mono (by decide) (by decide)⟩
  show Q_rmCI_1 Z xa w4 x0_ h0 n0 (none) T7.heap _
  rw [e7]
  exact ⟨⟨rfl, lb, g_lb, sz_lb, E_xa, F_batches_xa, F_deleted_xa, F_lost_xa, F_usedUp_xa, F_last_xa, E_lb, F_e0_lb, F_e1_lb⟩, N7, K0⟩
def Q_rmNo1 (Z : State) (w4 : Addr) (x0_ : Addr) (h0 : Heap) (n0 : Nat) (v : Option Value) (h : Heap) (L : List Loc) : Prop := (∃ (b : Addr) (lb : Addr), v = some (.ref b) ∧ n0 ≤ b ∧ h0.size ≤ b ∧ n0 ≤ lb ∧ h0.size ≤ lb ∧ Exa Z h b "com/example/nightcrawler/nightcrawler/engine/CommittedBatches" ∧ Fld Z h b "com/example/nightcrawler/nightcrawler/engine/CommittedBatches" "batches" "J" (.long (0 : Int64)) ∧ Fld Z h b "com/example/nightcrawler/nightcrawler/engine/CommittedBatches" "deleted" "J" (.long (0 : Int64)) ∧ Fld Z h b "com/example/nightcrawler/nightcrawler/engine/CommittedBatches" "lost" "J" (.long (0 : Int64)) ∧ Fld Z h b "com/example/nightcrawler/nightcrawler/engine/CommittedBatches" "usedUp" "Z" (.int (1 : Int32)) ∧ Fld Z h b "com/example/nightcrawler/nightcrawler/engine/CommittedBatches" "last" "Ljava/util/List;" (.ref lb) ∧ Exa Z h lb "java/util/ImmutableCollections$List12" ∧ Fld Z h lb "java/util/ImmutableCollections$List12" "e0" "Ljava/lang/Object;" (.ref x0_) ∧ Fld Z h lb "java/util/ImmutableCollections$List12" "e1" "Ljava/lang/Object;" (.ref w4)) ∧ Fr n0 L ∧ Ext h0 h
theorem rmNo1 (hw : HW a0 Z) (al : Addr) (mc : Int32) (ed : Addr) (kd : ClassId) (x0_ : Addr) (h0 : Heap) (n0 : Nat) (O0 : Old Z n0 h0) (NF : Nar Z w3 w0 w2 w1 w4 k_w3 k_w0 k_w1 z_cs w5) (E_al : Exa Z h0 al "java/util/ArrayList") (F_modCount_al : Fld Z h0 al "java/util/AbstractList" "modCount" "I" (.int mc)) (F_elementData_al : Fld Z h0 al "java/util/ArrayList" "elementData" "[Ljava/lang/Object;" (.ref ed)) (F_size_al : Fld Z h0 al "java/util/ArrayList" "size" "I" (.int (1 : Int32))) (V_ed : Arv Z h0 ed kd (.object "java/lang/Object") (10 : Int32) [(.ref x0_), .null, .null, .null, .null, .null, .null, .null, .null, .null] .null) (E_ed : Exa Z h0 ed "[Ljava/lang/Object;") (E_x0_ : Exa Z h0 x0_ "java/lang/String") :
    Con l Z (⟨"com/example/nightcrawler/nightcrawler/engine/CommittedBatches", "none", "(Ljava/util/List;)Lcom/example/nightcrawler/nightcrawler/engine/CommittedBatches;"⟩ : MethodName) prog_3_method_3_code 1 (some (.object "com/example/nightcrawler/nightcrawler/engine/CommittedBatches")) ws ({ frames := 11, cells := 3, slots := 9, locals := 190 } : Room) #[(.ref al)] h0 (Q_rmNo1 Z w4 x0_ h0 n0) := by
  refine Con.body (own := "com/example/nightcrawler/nightcrawler/engine/CommittedBatches") rfl (plainFor_of_name pn_8) (fun m => ef_rmAC m _) ?_
  intro p e s m below meth c s₁ Bd hx hby hml hZ hown X0 e0 Qf hQf
  have N0 := Fr.nil n0
  have K0 := Keep.refl h0 []
  obtain ⟨S_w3, E_w3, S_w0, E_w0, S_w2, E_w2, F_elements_w2, E_w1, S_w4, E_w4, F_allowNulls_w2, S_w_ImmutableCollections__assertionsDisabled, V_w3, V_w0, V_w1, S_cs, nz_cs, M_OA⟩ := id NF
  obtain ⟨T1, h1, X1, e1, E1, A1, D1, -, st1⟩ := newO X0 hx hZ hown (wi hw 54 rfl) (wi hw 55 rfl) (wi hw 52 rfl) e0 (g := (mkF m 0 #[.val (.ref al)] [])) rfl (hb hby d8_0) (by decide) (by decide)
  obtain ⟨b1, g1⟩ : ∃ z, z = h0.size := ⟨_, rfl⟩
  rw [← g1] at A1 D1 st1
  have g_b1 : n0 ≤ b1 := Nat.le_trans (own_old O0) (Nat.le_of_eq g1.symm)
  have sz_b1 : h0.size ≤ b1 := Nat.le_trans K0.1 (Nat.le_of_eq g1.symm)
  have ne_al_b1 : al ≠ b1 := Nat.ne_of_lt (Nat.lt_of_lt_of_le E_al.lt (Nat.le_of_eq g1.symm))
  have ne_b1_al := Ne.symm ne_al_b1
  have ne_ed_b1 : ed ≠ b1 := Nat.ne_of_lt (Nat.lt_of_lt_of_le V_ed.lt (Nat.le_of_eq g1.symm))
  have ne_b1_ed := Ne.symm ne_ed_b1
  have ne_x0__b1 : x0_ ≠ b1 := Nat.ne_of_lt (Nat.lt_of_lt_of_le E_x0_.lt (Nat.le_of_eq g1.symm))
  have ne_b1_x0_ := Ne.symm ne_x0__b1
  have E_al := E_al.ext E1
  have F_modCount_al := F_modCount_al.ext E1
  have F_elementData_al := F_elementData_al.ext E1
  have F_size_al := F_size_al.ext E1
  have V_ed := V_ed.ext E1
  have E_ed := E_ed.ext E1
  have E_x0_ := E_x0_.ext E1
  have O0 := O0.ext E1
  have K0 := K0.ext E1
  have E_b1 := A1
  have F_batches_b1 : Fld Z h1 b1 "com/example/nightcrawler/nightcrawler/engine/CommittedBatches" "batches" "J" (.long (0 : Int64)) := D1 (Or.inr (wi hw 61 rfl)) (ty := .long) (by decide)
  have F_deleted_b1 : Fld Z h1 b1 "com/example/nightcrawler/nightcrawler/engine/CommittedBatches" "deleted" "J" (.long (0 : Int64)) := D1 (Or.inr (wi hw 63 rfl)) (ty := .long) (by decide)
  have F_lost_b1 : Fld Z h1 b1 "com/example/nightcrawler/nightcrawler/engine/CommittedBatches" "lost" "J" (.long (0 : Int64)) := D1 (Or.inr (wi hw 65 rfl)) (ty := .long) (by decide)
  have F_usedUp_b1 : Fld Z h1 b1 "com/example/nightcrawler/nightcrawler/engine/CommittedBatches" "usedUp" "Z" (.int (0 : Int32)) := D1 (Or.inr (wi hw 67 rfl)) (ty := .boolean) (by decide)
  have F_last_b1 : Fld Z h1 b1 "com/example/nightcrawler/nightcrawler/engine/CommittedBatches" "last" "Ljava/util/List;" .null := D1 (Or.inr (wi hw 98 rfl)) (ty := (.object "java/util/List")) (by decide)
  refine Goes.to (T' := T1.setTop (mkF m 3 #[.val (.ref al)] [(.ref b1)])) st1 ?_
  refine Goes.to (T' := T1.setTop (mkF m 4 #[.val (.ref al)] [(.ref b1), (.ref b1)])) (fun t k => XS.dup X1.here hx rfl (hb hby d8_3) rfl rfl k) ?_
  refine Goes.to (T' := T1.setTop (mkF m 5 #[.val (.ref al)] [(.long (0 : Int64)), (.ref b1), (.ref b1)])) (fun t k => XS.lconst X1.here hx rfl (hb hby d8_4) k) ?_
  refine Goes.to (T' := T1.setTop (mkF m 6 #[.val (.ref al)] [(.long (0 : Int64)), (.long (0 : Int64)), (.ref b1), (.ref b1)])) (fun t k => XS.lconst X1.here hx rfl (hb hby d8_5) k) ?_
  refine Goes.to (T' := T1.setTop (mkF m 7 #[.val (.ref al)] [(.long (0 : Int64)), (.long (0 : Int64)), (.long (0 : Int64)), (.ref b1), (.ref b1)])) (fun t k => XS.lconst X1.here hx rfl (hb hby d8_6) k) ?_
  refine Goes.to (T' := T1.setTop (mkF m 8 #[.val (.ref al)] [(.int (1 : Int32)), (.long (0 : Int64)), (.long (0 : Int64)), (.long (0 : Int64)), (.ref b1), (.ref b1)])) (fun t k => XS.iconst X1.here hx rfl (hb hby d8_7) k) ?_
  refine Goes.to (T' := T1.setTop (mkF m 9 #[.val (.ref al)] [(.ref al), (.int (1 : Int32)), (.long (0 : Int64)), (.long (0 : Int64)), (.long (0 : Int64)), (.ref b1), (.ref b1)])) (fun t k => XS.aloadN X1.here hx rfl (hb hby d8_8) rfl rfl k) ?_
  obtain ⟨_, _, ⟨T2, L2, k2, n2⟩, -, X2, ⟨Lc2, hQ2, l2, y2, z2⟩, st2⟩ := X1.specialBack hx (y := (⟨"com/example/nightcrawler/nightcrawler/engine/CommittedBatches", "<init>", "(JJJZLjava/util/List;)V"⟩ : MethodName)) rfl hown (mvT hZ (wi hw 56 rfl)) (mvT hZ (wi hw 57 rfl)) (mvT hZ (wi hw 58 rfl)) (by decide) (backOf (W := 1) (rmCI_1 hw b1 al mc ed kd x0_ h1 n0 O0 NF E_b1 F_batches_b1 F_deleted_b1 F_lost_b1 F_usedUp_b1 F_last_b1 E_al F_modCount_al F_elementData_al F_size_al V_ed E_ed E_x0_ g_b1 ne_al_b1 ne_ed_b1) hZ (wi hw 58 rfl) (wi hw 52 rfl) (by decide) (by decide)) (g := (mkF m 9 #[.val (.ref al)] [(.ref al), (.int (1 : Int32)), (.long (0 : Int64)), (.long (0 : Int64)), (.long (0 : Int64)), (.ref b1), (.ref b1)])) rfl (by rw [hml]; rfl) (Steps.refl _) (a := b1) (argsL := [(.long (0 : Int64)), (.long (0 : Int64)), (.long (0 : Int64)), (.int (1 : Int32)), (.ref al)]) (rest := [(.ref b1)]) (lenOf pd_441 rfl) rfl (by show 2 * 0 + _ ≤ _; exact Nat.le_of_eq rfl) (hb hby d8_9) (fun _ _ => ⟨rfl, e1, (by decide : 1 + 2 ≤ _), (by decide : 5 + 4 ≤ _)⟩)
  dsimp only [Pt.U, Pt.locs, Pt.cells, Pt.slots] at X2 l2 y2 z2 st2 hQ2
  subst l2 y2 z2
  obtain ⟨⟨rfl, lb, gl2, sl2, r0_2, r1_2, r2_2, r3_2, r4_2, r5_2, r6_2, r7_2, r8_2⟩, Nq2, K2⟩ := hQ2
  have N2 := Fr.app N0 Nq2
  have g_lb : n0 ≤ lb := gl2
  have sz_lb : h0.size ≤ lb := Nat.le_trans K0.1 sl2
  have ne_al_lb : al ≠ lb := Nat.ne_of_lt (Nat.lt_of_lt_of_le E_al.lt sl2)
  have ne_lb_al := Ne.symm ne_al_lb
  have ne_ed_lb : ed ≠ lb := Nat.ne_of_lt (Nat.lt_of_lt_of_le V_ed.lt sl2)
  have ne_lb_ed := Ne.symm ne_ed_lb
  have ne_x0__lb : x0_ ≠ lb := Nat.ne_of_lt (Nat.lt_of_lt_of_le E_x0_.lt sl2)
  have ne_lb_x0_ := Ne.symm ne_x0__lb
  have ne_b1_lb : b1 ≠ lb := Nat.ne_of_lt (Nat.lt_of_lt_of_le E_b1.lt sl2)
  have ne_lb_b1 := Ne.symm ne_b1_lb
  have E_al := E_al.keep K2
  have F_modCount_al := F_modCount_al.keep K2 (ninS (ne_al_b1) nin0)
  have F_elementData_al := F_elementData_al.keep K2 (ninS (ne_al_b1) nin0)
  have F_size_al := F_size_al.keep K2 (ninS (ne_al_b1) nin0)
  have V_ed := V_ed.keep K2 (ninS (ne_ed_b1) nin0)
  have E_ed := E_ed.keep K2
  have E_x0_ := E_x0_.keep K2
  have E_b1 := E_b1.keep K2
  have O0 := O0.keep K2 (allS g_b1 all0)
  have K0 := K0.trans K2 (allS (Or.inr sz_b1) all0)
  have E_b1 := r0_2
  have F_batches_b1 := r1_2
  have F_deleted_b1 := r2_2
  have F_lost_b1 := r3_2
  have F_usedUp_b1 := r4_2
  have F_last_b1 := r5_2
  have E_lb := r6_2
  have F_e0_lb := r7_2
  have F_e1_lb := r8_2
  refine Goes.thru (T' := T2.setTop (mkF m 12 #[.val (.ref al)] [(.ref b1)])) st2 ?_
  obtain ⟨fs, hrL, hrun, hended, hW, hsame⟩ := X2.leave (v := some (.ref b1)) (fun h => by rw [Bd.returns] at h; cases h)
  subst hQf
  refine ⟨_, _, retOut X2 hx Bd.returns rfl (Or.inr (Or.inr (Or.inr (Or.inr ⟨rfl, rfl, rfl⟩)))) (hb hby d8_12) hrL, hrun, hended, _, _, rfl, ?_, ⟨_, rfl⟩, hW, hsame.mono (by decide) (by decide)⟩
  show Q_rmNo1 Z w4 x0_ h0 n0 (some (.ref b1)) T2.heap _
  exact ⟨⟨b1, lb, rfl, g_b1, sz_b1, g_lb, sz_lb, E_b1, F_batches_b1, F_deleted_b1, F_lost_b1, F_usedUp_b1, F_last_b1, E_lb, F_e0_lb, F_e1_lb⟩, N2, own_ext_keep K0⟩
def Q_rmCI_2 (Z : State) (xa : Addr) (x0_ : Addr) (x1_ : Addr) (h0 : Heap) (n0 : Nat) (v : Option Value) (h : Heap) (L : List Loc) : Prop := (v = none ∧ ∃ (lb : Addr), n0 ≤ lb ∧ h0.size ≤ lb ∧ Exa Z h xa "com/example/nightcrawler/nightcrawler/engine/CommittedBatches" ∧ Fld Z h xa "com/example/nightcrawler/nightcrawler/engine/CommittedBatches" "batches" "J" (.long (0 : Int64)) ∧ Fld Z h xa "com/example/nightcrawler/nightcrawler/engine/CommittedBatches" "deleted" "J" (.long (0 : Int64)) ∧ Fld Z h xa "com/example/nightcrawler/nightcrawler/engine/CommittedBatches" "lost" "J" (.long (0 : Int64)) ∧ Fld Z h xa "com/example/nightcrawler/nightcrawler/engine/CommittedBatches" "usedUp" "Z" (.int (1 : Int32)) ∧ Fld Z h xa "com/example/nightcrawler/nightcrawler/engine/CommittedBatches" "last" "Ljava/util/List;" (.ref lb) ∧ Exa Z h lb "java/util/ImmutableCollections$List12" ∧ Fld Z h lb "java/util/ImmutableCollections$List12" "e0" "Ljava/lang/Object;" (.ref x0_) ∧ Fld Z h lb "java/util/ImmutableCollections$List12" "e1" "Ljava/lang/Object;" (.ref x1_)) ∧ Fr n0 L ∧ Keep h0 h [xa]
theorem rmCI_2 (hw : HW a0 Z) (xa : Addr) (al : Addr) (mc : Int32) (ed : Addr) (kd : ClassId) (x0_ : Addr) (x1_ : Addr) (h0 : Heap) (n0 : Nat) (O0 : Old Z n0 h0) (NF : Nar Z w3 w0 w2 w1 w4 k_w3 k_w0 k_w1 z_cs w5) (E_xa : Exa Z h0 xa "com/example/nightcrawler/nightcrawler/engine/CommittedBatches") (F_batches_xa : Fld Z h0 xa "com/example/nightcrawler/nightcrawler/engine/CommittedBatches" "batches" "J" (.long (0 : Int64))) (F_deleted_xa : Fld Z h0 xa "com/example/nightcrawler/nightcrawler/engine/CommittedBatches" "deleted" "J" (.long (0 : Int64))) (F_lost_xa : Fld Z h0 xa "com/example/nightcrawler/nightcrawler/engine/CommittedBatches" "lost" "J" (.long (0 : Int64))) (F_usedUp_xa : Fld Z h0 xa "com/example/nightcrawler/nightcrawler/engine/CommittedBatches" "usedUp" "Z" (.int (0 : Int32))) (F_last_xa : Fld Z h0 xa "com/example/nightcrawler/nightcrawler/engine/CommittedBatches" "last" "Ljava/util/List;" .null) (E_al : Exa Z h0 al "java/util/ArrayList") (F_modCount_al : Fld Z h0 al "java/util/AbstractList" "modCount" "I" (.int mc)) (F_elementData_al : Fld Z h0 al "java/util/ArrayList" "elementData" "[Ljava/lang/Object;" (.ref ed)) (F_size_al : Fld Z h0 al "java/util/ArrayList" "size" "I" (.int (2 : Int32))) (V_ed : Arv Z h0 ed kd (.object "java/lang/Object") (10 : Int32) [(.ref x0_), (.ref x1_), .null, .null, .null, .null, .null, .null, .null, .null] .null) (E_ed : Exa Z h0 ed "[Ljava/lang/Object;") (E_x0_ : Exa Z h0 x0_ "java/lang/String") (E_x1_ : Exa Z h0 x1_ "java/lang/String") (g_xa : n0 ≤ xa) (ne_al_xa : al ≠ xa) (ne_ed_xa : ed ≠ xa) :
    Con l Z (⟨"com/example/nightcrawler/nightcrawler/engine/CommittedBatches", "<init>", "(JJJZLjava/util/List;)V"⟩ : MethodName) prog_3_method_1_code 9 none ws ({ frames := 10, cells := 2, slots := 5, locals := 168 } : Room) #[(.ref xa), (.long (0 : Int64)), (.long (0 : Int64)), (.long (0 : Int64)), (.int (1 : Int32)), (.ref al)] h0 (Q_rmCI_2 Z xa x0_ x1_ h0 n0) := by
  refine Con.body (own := "com/example/nightcrawler/nightcrawler/engine/CommittedBatches") rfl (plainFor_of_name pn_9) (fun m => ef_rmCI_0 m _ _ _ _ _ _) ?_
  intro p e s m below meth c s₁ Bd hx hby hml hZ hown X0 e0 Qf hQf
  have N0 := Fr.nil n0
  have hnm := (name_of_methodNamed Bd.named Bd.method).1
  have K0 := Keep.refl h0 [xa]
  obtain ⟨S_w3, E_w3, S_w0, E_w0, S_w2, E_w2, F_elements_w2, E_w1, S_w4, E_w4, F_allowNulls_w2, S_w_ImmutableCollections__assertionsDisabled, V_w3, V_w0, V_w1, S_cs, nz_cs, M_OA⟩ := id NF
  have ne_xa_al := Ne.symm ne_al_xa
  have ne_xa_ed := Ne.symm ne_ed_xa
  refine Goes.to (T' := s₁.setTop (mkF m 1 (LA1 xa al) [(.ref xa)])) (fun t k => XS.aloadN X0.here hx rfl (hb hby d9_0) rfl rfl k) ?_
  obtain ⟨T1, X1, e1, st1⟩ := initO X0 hx hZ hown (wi hw 59 rfl) (wi hw 16 rfl) (wi hw 17 rfl) e0 (g := (mkF m 1 (LA1 xa al) [(.ref xa)])) rfl (by rw [hml]; rfl) rfl (hb hby d9_1) (by decide) (W := 0) (by show 2 * 0 + _ ≤ _; exact Nat.le_of_eq rfl) (by decide)
  refine Goes.to (T' := T1.setTop (mkF m 4 (LA1 xa al) [])) st1 ?_
  refine Goes.to (T' := T1.setTop (mkF m 5 (LA1 xa al) [(.ref xa)])) (fun t k => XS.aloadN X1.here hx rfl (hb hby d9_4) rfl rfl k) ?_
  refine Goes.to (T' := T1.setTop (mkF m 6 (LA1 xa al) [(.long (0 : Int64)), (.ref xa)])) (fun t k => XS.lloadN X1.here hx rfl (hb hby d9_5) rfl k) ?_
  obtain ⟨T2, h2, X2, e2, W2, st2⟩ := putF X1 hx hZ hown (host := "") (Or.inl (wi hw 60 rfl)) Via.refl e1 F_batches_xa E_xa (Or.inr ⟨(wi hw 61 rfl), rfl, hnm⟩) (wi hw 55 rfl) (ty := .long) (by decide) rfl rfl (g := (mkF m 6 (LA1 xa al) [(.long (0 : Int64)), (.ref xa)])) rfl rfl (hb hby d9_6)
  have F_batches_xa := F_batches_xa.same W2
  have E_xa := E_xa.wr W2
  have F_deleted_xa := F_deleted_xa.other W2 (Or.inr (slot_ne (Or.inr (wi hw 63 rfl)) (Or.inr (wi hw 61 rfl)) (by decide) (t := .long) (t' := .long) (by decide) (by decide)))
  have F_lost_xa := F_lost_xa.other W2 (Or.inr (slot_ne (Or.inr (wi hw 65 rfl)) (Or.inr (wi hw 61 rfl)) (by decide) (t := .long) (t' := .long) (by decide) (by decide)))
  have F_usedUp_xa := F_usedUp_xa.other W2 (Or.inr (slot_ne (Or.inr (wi hw 67 rfl)) (Or.inr (wi hw 61 rfl)) (by decide) (t := .boolean) (t' := .long) (by decide) (by decide)))
  have F_last_xa := F_last_xa.other W2 (Or.inr (slot_ne (Or.inr (wi hw 98 rfl)) (Or.inr (wi hw 61 rfl)) (by decide) (t := (.object "java/util/List")) (t' := .long) (by decide) (by decide)))
  have E_al := E_al.wr W2
  have F_modCount_al := F_modCount_al.other W2 (Or.inl (ne_al_xa))
  have F_elementData_al := F_elementData_al.other W2 (Or.inl (ne_al_xa))
  have F_size_al := F_size_al.other W2 (Or.inl (ne_al_xa))
  have V_ed := V_ed.other W2 (ne_ed_xa)
  have E_ed := E_ed.wr W2
  have E_x0_ := E_x0_.wr W2
  have E_x1_ := E_x1_.wr W2
  have O0 := O0.wr W2 g_xa
  have K0 := K0.wr W2 (Or.inl (List.mem_of_getElem? (i := 0) rfl))
  have N2 := Fr.snoc X2 N0 g_xa
  refine Goes.to (T' := T2.setTop (mkF m 9 (LA1 xa al) [])) st2 ?_
  refine Goes.to (T' := T2.setTop (mkF m 10 (LA1 xa al) [(.ref xa)])) (fun t k => XS.aloadN X2.here hx rfl (hb hby d9_9) rfl rfl k) ?_
  refine Goes.to (T' := T2.setTop (mkF m 11 (LA1 xa al) [(.long (0 : Int64)), (.ref xa)])) (fun t k => XS.lloadN X2.here hx rfl (hb hby d9_10) rfl k) ?_
  obtain ⟨T3, h3, X3, e3, W3, st3⟩ := putF X2 hx hZ hown (host := "") (Or.inl (wi hw 62 rfl)) Via.refl e2 F_deleted_xa E_xa (Or.inr ⟨(wi hw 63 rfl), rfl, hnm⟩) (wi hw 55 rfl) (ty := .long) (by decide) rfl rfl (g := (mkF m 11 (LA1 xa al) [(.long (0 : Int64)), (.ref xa)])) rfl rfl (hb hby d9_11)
  have F_deleted_xa := F_deleted_xa.same W3
  have E_xa := E_xa.wr W3
  have F_batches_xa := F_batches_xa.other W3 (Or.inr (slot_ne (Or.inr (wi hw 61 rfl)) (Or.inr (wi hw 63 rfl)) (by decide) (t := .long) (t' := .long) (by decide) (by decide)))
  have F_lost_xa := F_lost_xa.other W3 (Or.inr (slot_ne (Or.inr (wi hw 65 rfl)) (Or.inr (wi hw 63 rfl)) (by decide) (t := .long) (t' := .long) (by decide) (by decide)))
  have F_usedUp_xa := F_usedUp_xa.other W3 (Or.inr (slot_ne (Or.inr (wi hw 67 rfl)) (Or.inr (wi hw 63 rfl)) (by decide) (t := .boolean) (t' := .long) (by decide) (by decide)))
  have F_last_xa := F_last_xa.other W3 (Or.inr (slot_ne (Or.inr (wi hw 98 rfl)) (Or.inr (wi hw 63 rfl)) (by decide) (t := (.object "java/util/List")) (t' := .long) (by decide) (by decide)))
  have E_al := E_al.wr W3
  have F_modCount_al := F_modCount_al.other W3 (Or.inl (ne_al_xa))
  have F_elementData_al := F_elementData_al.other W3 (Or.inl (ne_al_xa))
  have F_size_al := F_size_al.other W3 (Or.inl (ne_al_xa))
  have V_ed := V_ed.other W3 (ne_ed_xa)
  have E_ed := E_ed.wr W3
  have E_x0_ := E_x0_.wr W3
  have E_x1_ := E_x1_.wr W3
  have O0 := O0.wr W3 g_xa
  have K0 := K0.wr W3 (Or.inl (List.mem_of_getElem? (i := 0) rfl))
  have N3 := Fr.snoc X3 N2 g_xa
  refine Goes.to (T' := T3.setTop (mkF m 14 (LA1 xa al) [])) st3 ?_
  refine Goes.to (T' := T3.setTop (mkF m 15 (LA1 xa al) [(.ref xa)])) (fun t k => XS.aloadN X3.here hx rfl (hb hby d9_14) rfl rfl k) ?_
  refine Goes.to (T' := T3.setTop (mkF m 17 (LA1 xa al) [(.long (0 : Int64)), (.ref xa)])) (fun t k => XS.lload X3.here hx rfl (hb hby d9_15) rfl k) ?_
  obtain ⟨T4, h4, X4, e4, W4, st4⟩ := putF X3 hx hZ hown (host := "") (Or.inl (wi hw 64 rfl)) Via.refl e3 F_lost_xa E_xa (Or.inr ⟨(wi hw 65 rfl), rfl, hnm⟩) (wi hw 55 rfl) (ty := .long) (by decide) rfl rfl (g := (mkF m 17 (LA1 xa al) [(.long (0 : Int64)), (.ref xa)])) rfl rfl (hb hby d9_17)
  have F_lost_xa := F_lost_xa.same W4
  have E_xa := E_xa.wr W4
  have F_batches_xa := F_batches_xa.other W4 (Or.inr (slot_ne (Or.inr (wi hw 61 rfl)) (Or.inr (wi hw 65 rfl)) (by decide) (t := .long) (t' := .long) (by decide) (by decide)))
  have F_deleted_xa := F_deleted_xa.other W4 (Or.inr (slot_ne (Or.inr (wi hw 63 rfl)) (Or.inr (wi hw 65 rfl)) (by decide) (t := .long) (t' := .long) (by decide) (by decide)))
  have F_usedUp_xa := F_usedUp_xa.other W4 (Or.inr (slot_ne (Or.inr (wi hw 67 rfl)) (Or.inr (wi hw 65 rfl)) (by decide) (t := .boolean) (t' := .long) (by decide) (by decide)))
  have F_last_xa := F_last_xa.other W4 (Or.inr (slot_ne (Or.inr (wi hw 98 rfl)) (Or.inr (wi hw 65 rfl)) (by decide) (t := (.object "java/util/List")) (t' := .long) (by decide) (by decide)))
  have E_al := E_al.wr W4
  have F_modCount_al := F_modCount_al.other W4 (Or.inl (ne_al_xa))
  have F_elementData_al := F_elementData_al.other W4 (Or.inl (ne_al_xa))
  have F_size_al := F_size_al.other W4 (Or.inl (ne_al_xa))
  have V_ed := V_ed.other W4 (ne_ed_xa)
  have E_ed := E_ed.wr W4
  have E_x0_ := E_x0_.wr W4
  have E_x1_ := E_x1_.wr W4
  have O0 := O0.wr W4 g_xa
  have K0 := K0.wr W4 (Or.inl (List.mem_of_getElem? (i := 0) rfl))
  have N4 := Fr.snoc X4 N3 g_xa
  refine Goes.to (T' := T4.setTop (mkF m 20 (LA1 xa al) [])) st4 ?_
  refine Goes.to (T' := T4.setTop (mkF m 21 (LA1 xa al) [(.ref xa)])) (fun t k => XS.aloadN X4.here hx rfl (hb hby d9_20) rfl rfl k) ?_
  refine Goes.to (T' := T4.setTop (mkF m 23 (LA1 xa al) [(.int (1 : Int32)), (.ref xa)])) (fun t k => XS.iload X4.here hx rfl (hb hby d9_21) rfl k) ?_
  obtain ⟨T5, h5, X5, e5, W5, st5⟩ := putFN X4 hx hZ hown (wi hw 66 rfl) Via.refl e4 F_usedUp_xa E_xa (Or.inr ⟨(wi hw 67 rfl), rfl, hnm⟩) (wi hw 55 rfl) (ty := .boolean) (v' := (.int (1 : Int32))) (by decide) rfl (by decide) (g := (mkF m 23 (LA1 xa al) [(.int (1 : Int32)), (.ref xa)])) rfl rfl (hb hby d9_23)
  have F_usedUp_xa := F_usedUp_xa.same W5
  have E_xa := E_xa.wr W5
  have F_batches_xa := F_batches_xa.other W5 (Or.inr (slot_ne (Or.inr (wi hw 61 rfl)) (Or.inr (wi hw 67 rfl)) (by decide) (t := .long) (t' := .boolean) (by decide) (by decide)))
  have F_deleted_xa := F_deleted_xa.other W5 (Or.inr (slot_ne (Or.inr (wi hw 63 rfl)) (Or.inr (wi hw 67 rfl)) (by decide) (t := .long) (t' := .boolean) (by decide) (by decide)))
  have F_lost_xa := F_lost_xa.other W5 (Or.inr (slot_ne (Or.inr (wi hw 65 rfl)) (Or.inr (wi hw 67 rfl)) (by decide) (t := .long) (t' := .boolean) (by decide) (by decide)))
  have F_last_xa := F_last_xa.other W5 (Or.inr (slot_ne (Or.inr (wi hw 98 rfl)) (Or.inr (wi hw 67 rfl)) (by decide) (t := (.object "java/util/List")) (t' := .boolean) (by decide) (by decide)))
  have E_al := E_al.wr W5
  have F_modCount_al := F_modCount_al.other W5 (Or.inl (ne_al_xa))
  have F_elementData_al := F_elementData_al.other W5 (Or.inl (ne_al_xa))
  have F_size_al := F_size_al.other W5 (Or.inl (ne_al_xa))
  have V_ed := V_ed.other W5 (ne_ed_xa)
  have E_ed := E_ed.wr W5
  have E_x0_ := E_x0_.wr W5
  have E_x1_ := E_x1_.wr W5
  have O0 := O0.wr W5 g_xa
  have K0 := K0.wr W5 (Or.inl (List.mem_of_getElem? (i := 0) rfl))
  have N5 := Fr.snoc X5 N4 g_xa
  refine Goes.to (T' := T5.setTop (mkF m 26 (LA1 xa al) [])) st5 ?_
  refine Goes.to (T' := T5.setTop (mkF m 27 (LA1 xa al) [(.ref xa)])) (fun t k => XS.aloadN X5.here hx rfl (hb hby d9_26) rfl rfl k) ?_
  refine Goes.to (T' := T5.setTop (mkF m 29 (LA1 xa al) [(.ref al), (.ref xa)])) (fun t k => XS.aload X5.here hx rfl (hb hby d9_27) rfl rfl k) ?_
  obtain ⟨_, _, ⟨T6, L6, k6, n6⟩, -, X6, ⟨Lc6, hQ6, l6, y6, z6⟩, st6⟩ := Jvm.LawKit.callS X5 hx (y := (⟨"java/util/List", "copyOf", "(Ljava/util/Collection;)Ljava/util/List;"⟩ : MethodName)) hown (mvT hZ (wi hw 68 rfl)) (mvT hZ (wi hw 69 rfl)) (mvT hZ (wi hw 70 rfl)) (mvT hZ (wi hw 71 rfl)) (by decide) (backOf (W := 1) (rmCo2 hw al mc ed kd x0_ x1_ h5 n0 O0 NF E_al F_modCount_al F_elementData_al F_size_al V_ed E_ed E_x0_ E_x1_) hZ (wi hw 71 rfl) (wi hw 70 rfl) (by decide) (by decide)) (g := (mkF m 29 (LA1 xa al) [(.ref al), (.ref xa)])) rfl (by rw [hml]; rfl) (argsL := [(.ref al)]) (rest := [(.ref xa)]) (lenOf pd_202 rfl) rfl (by show 2 * 0 + _ ≤ _; exact Nat.le_of_eq rfl) (hb hby d9_29) (fun _ _ => ⟨rfl, e5, (by decide : 0 + 2 ≤ _), (by decide : 0 + 5 ≤ _)⟩)
  dsimp only [Pt.U, Pt.locs, Pt.cells, Pt.slots] at X6 l6 y6 z6 st6 hQ6
  subst l6 y6 z6
  obtain ⟨⟨lb, rfl, gl6, sl6, r0_6, r1_6, r2_6⟩, Nq6, Ex6⟩ := hQ6
  have N6 := Fr.app N5 Nq6
  have g_lb : n0 ≤ lb := gl6
  have sz_lb : h0.size ≤ lb := Nat.le_trans K0.1 sl6
  have ne_xa_lb : xa ≠ lb := Nat.ne_of_lt (Nat.lt_of_lt_of_le E_xa.lt sl6)
  have ne_lb_xa := Ne.symm ne_xa_lb
  have ne_al_lb : al ≠ lb := Nat.ne_of_lt (Nat.lt_of_lt_of_le E_al.lt sl6)
  have ne_lb_al := Ne.symm ne_al_lb
  have ne_ed_lb : ed ≠ lb := Nat.ne_of_lt (Nat.lt_of_lt_of_le V_ed.lt sl6)
  have ne_lb_ed := Ne.symm ne_ed_lb
  have ne_x0__lb : x0_ ≠ lb := Nat.ne_of_lt (Nat.lt_of_lt_of_le E_x0_.lt sl6)
  have ne_lb_x0_ := Ne.symm ne_x0__lb
  have ne_x1__lb : x1_ ≠ lb := Nat.ne_of_lt (Nat.lt_of_lt_of_le E_x1_.lt sl6)
  have ne_lb_x1_ := Ne.symm ne_x1__lb
  have E_xa := E_xa.ext Ex6
  have F_batches_xa := F_batches_xa.ext Ex6
  have F_deleted_xa := F_deleted_xa.ext Ex6
  have F_lost_xa := F_lost_xa.ext Ex6
  have F_usedUp_xa := F_usedUp_xa.ext Ex6
  have F_last_xa := F_last_xa.ext Ex6
  have E_al := E_al.ext Ex6
  have F_modCount_al := F_modCount_al.ext Ex6
  have F_elementData_al := F_elementData_al.ext Ex6
  have F_size_al := F_size_al.ext Ex6
  have V_ed := V_ed.ext Ex6
  have E_ed := E_ed.ext Ex6
  have E_x0_ := E_x0_.ext Ex6
  have E_x1_ := E_x1_.ext Ex6
  have O0 := O0.ext Ex6
  have K0 := K0.ext Ex6
  have E_lb := r0_6
  have F_e0_lb := r1_6
  have F_e1_lb := r2_6
  refine Goes.to (T' := T6.setTop (mkF m 32 (LA1 xa al) [(.ref lb), (.ref xa)])) st6 ?_
  obtain ⟨T7, h7, X7, e7, W7, st7⟩ := putF X6 hx hZ hown (host := "") (Or.inl (wi hw 97 rfl)) Via.refl rfl F_last_xa E_xa (Or.inr ⟨(wi hw 98 rfl), rfl, hnm⟩) (wi hw 55 rfl) (ty := (.object "java/util/List")) (by decide) rfl rfl (g := (mkF m 32 (LA1 xa al) [(.ref lb), (.ref xa)])) rfl rfl (hb hby d9_32)
  have F_last_xa := F_last_xa.same W7
  have E_xa := E_xa.wr W7
  have F_batches_xa := F_batches_xa.other W7 (Or.inr (slot_ne (Or.inr (wi hw 61 rfl)) (Or.inr (wi hw 98 rfl)) (by decide) (t := .long) (t' := (.object "java/util/List")) (by decide) (by decide)))
  have F_deleted_xa := F_deleted_xa.other W7 (Or.inr (slot_ne (Or.inr (wi hw 63 rfl)) (Or.inr (wi hw 98 rfl)) (by decide) (t := .long) (t' := (.object "java/util/List")) (by decide) (by decide)))
  have F_lost_xa := F_lost_xa.other W7 (Or.inr (slot_ne (Or.inr (wi hw 65 rfl)) (Or.inr (wi hw 98 rfl)) (by decide) (t := .long) (t' := (.object "java/util/List")) (by decide) (by decide)))
  have F_usedUp_xa := F_usedUp_xa.other W7 (Or.inr (slot_ne (Or.inr (wi hw 67 rfl)) (Or.inr (wi hw 98 rfl)) (by decide) (t := .boolean) (t' := (.object "java/util/List")) (by decide) (by decide)))
  have E_al := E_al.wr W7
  have F_modCount_al := F_modCount_al.other W7 (Or.inl (ne_al_xa))
  have F_elementData_al := F_elementData_al.other W7 (Or.inl (ne_al_xa))
  have F_size_al := F_size_al.other W7 (Or.inl (ne_al_xa))
  have V_ed := V_ed.other W7 (ne_ed_xa)
  have E_ed := E_ed.wr W7
  have E_x0_ := E_x0_.wr W7
  have E_x1_ := E_x1_.wr W7
  have E_lb := E_lb.wr W7
  have F_e0_lb := F_e0_lb.other W7 (Or.inl (ne_lb_xa))
  have F_e1_lb := F_e1_lb.other W7 (Or.inl (ne_lb_xa))
  have O0 := O0.wr W7 g_xa
  have K0 := K0.wr W7 (Or.inl (List.mem_of_getElem? (i := 0) rfl))
  have N7 := Fr.snoc X7 N6 g_xa
  refine Goes.to (T' := T7.setTop (mkF m 35 (LA1 xa al) [])) st7 ?_
  obtain ⟨fs, hrL, hrun, hended, hW, hsame⟩ := X7.leave (v := none) (fun _ => rfl)
  subst hQf
  refine ⟨_, _, X7.returnOut hx Bd.returns (hb hby d9_35) hrL, hrun, hended, _, _, rfl, ?_, ⟨_, rfl⟩, hW, hsame.mono (by decide) (by decide)⟩
  show Q_rmCI_2 Z xa x0_ x1_ h0 n0 (none) T7.heap _
  rw [e7]
  exact ⟨⟨rfl, lb, g_lb, sz_lb, E_xa, F_batches_xa, F_deleted_xa, F_lost_xa, F_usedUp_xa, F_last_xa, E_lb, F_e0_lb, F_e1_lb⟩, N7, K0⟩
def Q_rmNo2 (Z : State) (x0_ : Addr) (x1_ : Addr) (h0 : Heap) (n0 : Nat) (v : Option Value) (h : Heap) (L : List Loc) : Prop := (∃ (b : Addr) (lb : Addr), v = some (.ref b) ∧ n0 ≤ b ∧ h0.size ≤ b ∧ n0 ≤ lb ∧ h0.size ≤ lb ∧ Exa Z h b "com/example/nightcrawler/nightcrawler/engine/CommittedBatches" ∧ Fld Z h b "com/example/nightcrawler/nightcrawler/engine/CommittedBatches" "batches" "J" (.long (0 : Int64)) ∧ Fld Z h b "com/example/nightcrawler/nightcrawler/engine/CommittedBatches" "deleted" "J" (.long (0 : Int64)) ∧ Fld Z h b "com/example/nightcrawler/nightcrawler/engine/CommittedBatches" "lost" "J" (.long (0 : Int64)) ∧ Fld Z h b "com/example/nightcrawler/nightcrawler/engine/CommittedBatches" "usedUp" "Z" (.int (1 : Int32)) ∧ Fld Z h b "com/example/nightcrawler/nightcrawler/engine/CommittedBatches" "last" "Ljava/util/List;" (.ref lb) ∧ Exa Z h lb "java/util/ImmutableCollections$List12" ∧ Fld Z h lb "java/util/ImmutableCollections$List12" "e0" "Ljava/lang/Object;" (.ref x0_) ∧ Fld Z h lb "java/util/ImmutableCollections$List12" "e1" "Ljava/lang/Object;" (.ref x1_)) ∧ Fr n0 L ∧ Ext h0 h
theorem rmNo2 (hw : HW a0 Z) (al : Addr) (mc : Int32) (ed : Addr) (kd : ClassId) (x0_ : Addr) (x1_ : Addr) (h0 : Heap) (n0 : Nat) (O0 : Old Z n0 h0) (NF : Nar Z w3 w0 w2 w1 w4 k_w3 k_w0 k_w1 z_cs w5) (E_al : Exa Z h0 al "java/util/ArrayList") (F_modCount_al : Fld Z h0 al "java/util/AbstractList" "modCount" "I" (.int mc)) (F_elementData_al : Fld Z h0 al "java/util/ArrayList" "elementData" "[Ljava/lang/Object;" (.ref ed)) (F_size_al : Fld Z h0 al "java/util/ArrayList" "size" "I" (.int (2 : Int32))) (V_ed : Arv Z h0 ed kd (.object "java/lang/Object") (10 : Int32) [(.ref x0_), (.ref x1_), .null, .null, .null, .null, .null, .null, .null, .null] .null) (E_ed : Exa Z h0 ed "[Ljava/lang/Object;") (E_x0_ : Exa Z h0 x0_ "java/lang/String") (E_x1_ : Exa Z h0 x1_ "java/lang/String") :
    Con l Z (⟨"com/example/nightcrawler/nightcrawler/engine/CommittedBatches", "none", "(Ljava/util/List;)Lcom/example/nightcrawler/nightcrawler/engine/CommittedBatches;"⟩ : MethodName) prog_3_method_3_code 1 (some (.object "com/example/nightcrawler/nightcrawler/engine/CommittedBatches")) ws ({ frames := 11, cells := 3, slots := 10, locals := 190 } : Room) #[(.ref al)] h0 (Q_rmNo2 Z x0_ x1_ h0 n0) := by
  refine Con.body (own := "com/example/nightcrawler/nightcrawler/engine/CommittedBatches") rfl (plainFor_of_name pn_8) (fun m => ef_rmAC m _) ?_
  intro p e s m below meth c s₁ Bd hx hby hml hZ hown X0 e0 Qf hQf
  have N0 := Fr.nil n0
  have K0 := Keep.refl h0 []
  obtain ⟨S_w3, E_w3, S_w0, E_w0, S_w2, E_w2, F_elements_w2, E_w1, S_w4, E_w4, F_allowNulls_w2, S_w_ImmutableCollections__assertionsDisabled, V_w3, V_w0, V_w1, S_cs, nz_cs, M_OA⟩ := id NF
  obtain ⟨T1, h1, X1, e1, E1, A1, D1, -, st1⟩ := newO X0 hx hZ hown (wi hw 54 rfl) (wi hw 55 rfl) (wi hw 52 rfl) e0 (g := (mkF m 0 #[.val (.ref al)] [])) rfl (hb hby d8_0) (by decide) (by decide)
  obtain ⟨b1, g1⟩ : ∃ z, z = h0.size := ⟨_, rfl⟩
  rw [← g1] at A1 D1 st1
  have g_b1 : n0 ≤ b1 := Nat.le_trans (own_old O0) (Nat.le_of_eq g1.symm)
  have sz_b1 : h0.size ≤ b1 := Nat.le_trans K0.1 (Nat.le_of_eq g1.symm)
  have ne_al_b1 : al ≠ b1 := Nat.ne_of_lt (Nat.lt_of_lt_of_le E_al.lt (Nat.le_of_eq g1.symm))
  have ne_b1_al := Ne.symm ne_al_b1
  have ne_ed_b1 : ed ≠ b1 := Nat.ne_of_lt (Nat.lt_of_lt_of_le V_ed.lt (Nat.le_of_eq g1.symm))
  have ne_b1_ed := Ne.symm ne_ed_b1
  have ne_x0__b1 : x0_ ≠ b1 := Nat.ne_of_lt (Nat.lt_of_lt_of_le E_x0_.lt (Nat.le_of_eq g1.symm))
  have ne_b1_x0_ := Ne.symm ne_x0__b1
  have ne_x1__b1 : x1_ ≠ b1 := Nat.ne_of_lt (Nat.lt_of_lt_of_le E_x1_.lt (Nat.le_of_eq g1.symm))
  have ne_b1_x1_ := Ne.symm ne_x1__b1
  have E_al := E_al.ext E1
  have F_modCount_al := F_modCount_al.ext E1
  have F_elementData_al := F_elementData_al.ext E1
  have F_size_al := F_size_al.ext E1
  have V_ed := V_ed.ext E1
  have E_ed := E_ed.ext E1
  have E_x0_ := E_x0_.ext E1
  have E_x1_ := E_x1_.ext E1
  have O0 := O0.ext E1
  have K0 := K0.ext E1
  have E_b1 := A1
  have F_batches_b1 : Fld Z h1 b1 "com/example/nightcrawler/nightcrawler/engine/CommittedBatches" "batches" "J" (.long (0 : Int64)) := D1 (Or.inr (wi hw 61 rfl)) (ty := .long) (by decide)
  have F_deleted_b1 : Fld Z h1 b1 "com/example/nightcrawler/nightcrawler/engine/CommittedBatches" "deleted" "J" (.long (0 : Int64)) := D1 (Or.inr (wi hw 63 rfl)) (ty := .long) (by decide)
  have F_lost_b1 : Fld Z h1 b1 "com/example/nightcrawler/nightcrawler/engine/CommittedBatches" "lost" "J" (.long (0 : Int64)) := D1 (Or.inr (wi hw 65 rfl)) (ty := .long) (by decide)
  have F_usedUp_b1 : Fld Z h1 b1 "com/example/nightcrawler/nightcrawler/engine/CommittedBatches" "usedUp" "Z" (.int (0 : Int32)) := D1 (Or.inr (wi hw 67 rfl)) (ty := .boolean) (by decide)
  have F_last_b1 : Fld Z h1 b1 "com/example/nightcrawler/nightcrawler/engine/CommittedBatches" "last" "Ljava/util/List;" .null := D1 (Or.inr (wi hw 98 rfl)) (ty := (.object "java/util/List")) (by decide)
  refine Goes.to (T' := T1.setTop (mkF m 3 #[.val (.ref al)] [(.ref b1)])) st1 ?_
  refine Goes.to (T' := T1.setTop (mkF m 4 #[.val (.ref al)] [(.ref b1), (.ref b1)])) (fun t k => XS.dup X1.here hx rfl (hb hby d8_3) rfl rfl k) ?_
  refine Goes.to (T' := T1.setTop (mkF m 5 #[.val (.ref al)] [(.long (0 : Int64)), (.ref b1), (.ref b1)])) (fun t k => XS.lconst X1.here hx rfl (hb hby d8_4) k) ?_
  refine Goes.to (T' := T1.setTop (mkF m 6 #[.val (.ref al)] [(.long (0 : Int64)), (.long (0 : Int64)), (.ref b1), (.ref b1)])) (fun t k => XS.lconst X1.here hx rfl (hb hby d8_5) k) ?_
  refine Goes.to (T' := T1.setTop (mkF m 7 #[.val (.ref al)] [(.long (0 : Int64)), (.long (0 : Int64)), (.long (0 : Int64)), (.ref b1), (.ref b1)])) (fun t k => XS.lconst X1.here hx rfl (hb hby d8_6) k) ?_
  refine Goes.to (T' := T1.setTop (mkF m 8 #[.val (.ref al)] [(.int (1 : Int32)), (.long (0 : Int64)), (.long (0 : Int64)), (.long (0 : Int64)), (.ref b1), (.ref b1)])) (fun t k => XS.iconst X1.here hx rfl (hb hby d8_7) k) ?_
  refine Goes.to (T' := T1.setTop (mkF m 9 #[.val (.ref al)] [(.ref al), (.int (1 : Int32)), (.long (0 : Int64)), (.long (0 : Int64)), (.long (0 : Int64)), (.ref b1), (.ref b1)])) (fun t k => XS.aloadN X1.here hx rfl (hb hby d8_8) rfl rfl k) ?_
  obtain ⟨_, _, ⟨T2, L2, k2, n2⟩, -, X2, ⟨Lc2, hQ2, l2, y2, z2⟩, st2⟩ := X1.specialBack hx (y := (⟨"com/example/nightcrawler/nightcrawler/engine/CommittedBatches", "<init>", "(JJJZLjava/util/List;)V"⟩ : MethodName)) rfl hown (mvT hZ (wi hw 56 rfl)) (mvT hZ (wi hw 57 rfl)) (mvT hZ (wi hw 58 rfl)) (by decide) (backOf (W := 1) (rmCI_2 hw b1 al mc ed kd x0_ x1_ h1 n0 O0 NF E_b1 F_batches_b1 F_deleted_b1 F_lost_b1 F_usedUp_b1 F_last_b1 E_al F_modCount_al F_elementData_al F_size_al V_ed E_ed E_x0_ E_x1_ g_b1 ne_al_b1 ne_ed_b1) hZ (wi hw 58 rfl) (wi hw 52 rfl) (by decide) (by decide)) (g := (mkF m 9 #[.val (.ref al)] [(.ref al), (.int (1 : Int32)), (.long (0 : Int64)), (.long (0 : Int64)), (.long (0 : Int64)), (.ref b1), (.ref b1)])) rfl (by rw [hml]; rfl) (Steps.refl _) (a := b1) (argsL := [(.long (0 : Int64)), (.long (0 : Int64)), (.long (0 : Int64)), (.int (1 : Int32)), (.ref al)]) (rest := [(.ref b1)]) (lenOf pd_441 rfl) rfl (by show 2 * 0 + _ ≤ _; exact Nat.le_of_eq rfl) (hb hby d8_9) (fun _ _ => ⟨rfl, e1, (by decide : 1 + 2 ≤ _), (by decide : 5 + 5 ≤ _)⟩)
  dsimp only [Pt.U, Pt.locs, Pt.cells, Pt.slots] at X2 l2 y2 z2 st2 hQ2
  subst l2 y2 z2
  obtain ⟨⟨rfl, lb, gl2, sl2, r0_2, r1_2, r2_2, r3_2, r4_2, r5_2, r6_2, r7_2, r8_2⟩, Nq2, K2⟩ := hQ2
  have N2 := Fr.app N0 Nq2
  have g_lb : n0 ≤ lb := gl2
  have sz_lb : h0.size ≤ lb := Nat.le_trans K0.1 sl2
  have ne_al_lb : al ≠ lb := Nat.ne_of_lt (Nat.lt_of_lt_of_le E_al.lt sl2)
  have ne_lb_al := Ne.symm ne_al_lb
  have ne_ed_lb : ed ≠ lb := Nat.ne_of_lt (Nat.lt_of_lt_of_le V_ed.lt sl2)
  have ne_lb_ed := Ne.symm ne_ed_lb
  have ne_x0__lb : x0_ ≠ lb := Nat.ne_of_lt (Nat.lt_of_lt_of_le E_x0_.lt sl2)
  have ne_lb_x0_ := Ne.symm ne_x0__lb
  have ne_x1__lb : x1_ ≠ lb := Nat.ne_of_lt (Nat.lt_of_lt_of_le E_x1_.lt sl2)
  have ne_lb_x1_ := Ne.symm ne_x1__lb
  have ne_b1_lb : b1 ≠ lb := Nat.ne_of_lt (Nat.lt_of_lt_of_le E_b1.lt sl2)
  have ne_lb_b1 := Ne.symm ne_b1_lb
  have E_al := E_al.keep K2
  have F_modCount_al := F_modCount_al.keep K2 (ninS (ne_al_b1) nin0)
  have F_elementData_al := F_elementData_al.keep K2 (ninS (ne_al_b1) nin0)
  have F_size_al := F_size_al.keep K2 (ninS (ne_al_b1) nin0)
  have V_ed := V_ed.keep K2 (ninS (ne_ed_b1) nin0)
  have E_ed := E_ed.keep K2
  have E_x0_ := E_x0_.keep K2
  have E_x1_ := E_x1_.keep K2
  have E_b1 := E_b1.keep K2
  have O0 := O0.keep K2 (allS g_b1 all0)
  have K0 := K0.trans K2 (allS (Or.inr sz_b1) all0)
  have E_b1 := r0_2
  have F_batches_b1 := r1_2
  have F_deleted_b1 := r2_2
  have F_lost_b1 := r3_2
  have F_usedUp_b1 := r4_2
  have F_last_b1 := r5_2
  have E_lb := r6_2
  have F_e0_lb := r7_2
  have F_e1_lb := r8_2
  refine Goes.thru (T' := T2.setTop (mkF m 12 #[.val (.ref al)] [(.ref b1)])) st2 ?_
  obtain ⟨fs, hrL, hrun, hended, hW, hsame⟩ := X2.leave (v := some (.ref b1)) (fun h => by rw [Bd.returns] at h; cases h)
  subst hQf
  refine ⟨_, _, retOut X2 hx Bd.returns rfl (Or.inr (Or.inr (Or.inr (Or.inr ⟨rfl, rfl, rfl⟩)))) (hb hby d8_12) hrL, hrun, hended, _, _, rfl, ?_, ⟨_, rfl⟩, hW, hsame.mono (by decide) (by decide)⟩
  show Q_rmNo2 Z x0_ x1_ h0 n0 (some (.ref b1)) T2.heap _
  exact ⟨⟨b1, lb, rfl, g_b1, sz_b1, g_lb, sz_lb, E_b1, F_batches_b1, F_deleted_b1, F_lost_b1, F_usedUp_b1, F_last_b1, E_lb, F_e0_lb, F_e1_lb⟩, N2, own_ext_keep K0⟩
def Q_rmCI_3 (Z : State) (xa : Addr) (x0_ : Addr) (x1_ : Addr) (x2_ : Addr) (h0 : Heap) (n0 : Nat) (v : Option Value) (h : Heap) (L : List Loc) : Prop := (v = none ∧ ∃ (lb : Addr) (tb : Addr) (kt : ClassId), n0 ≤ lb ∧ h0.size ≤ lb ∧ n0 ≤ tb ∧ h0.size ≤ tb ∧ Exa Z h xa "com/example/nightcrawler/nightcrawler/engine/CommittedBatches" ∧ Fld Z h xa "com/example/nightcrawler/nightcrawler/engine/CommittedBatches" "batches" "J" (.long (0 : Int64)) ∧ Fld Z h xa "com/example/nightcrawler/nightcrawler/engine/CommittedBatches" "deleted" "J" (.long (0 : Int64)) ∧ Fld Z h xa "com/example/nightcrawler/nightcrawler/engine/CommittedBatches" "lost" "J" (.long (0 : Int64)) ∧ Fld Z h xa "com/example/nightcrawler/nightcrawler/engine/CommittedBatches" "usedUp" "Z" (.int (1 : Int32)) ∧ Fld Z h xa "com/example/nightcrawler/nightcrawler/engine/CommittedBatches" "last" "Ljava/util/List;" (.ref lb) ∧ Exa Z h lb "java/util/ImmutableCollections$ListN" ∧ Fld Z h lb "java/util/ImmutableCollections$ListN" "elements" "[Ljava/lang/Object;" (.ref tb) ∧ Arv Z h tb kt (.object "java/lang/Object") (3 : Int32) [(.ref x0_), (.ref x1_), (.ref x2_)] .null) ∧ Fr n0 L ∧ Keep h0 h [xa]
theorem rmCI_3 (hw : HW a0 Z) (xa : Addr) (al : Addr) (mc : Int32) (ed : Addr) (kd : ClassId) (x0_ : Addr) (x1_ : Addr) (x2_ : Addr) (h0 : Heap) (n0 : Nat) (O0 : Old Z n0 h0) (NF : Nar Z w3 w0 w2 w1 w4 k_w3 k_w0 k_w1 z_cs w5) (E_xa : Exa Z h0 xa "com/example/nightcrawler/nightcrawler/engine/CommittedBatches") (F_batches_xa : Fld Z h0 xa "com/example/nightcrawler/nightcrawler/engine/CommittedBatches" "batches" "J" (.long (0 : Int64))) (F_deleted_xa : Fld Z h0 xa "com/example/nightcrawler/nightcrawler/engine/CommittedBatches" "deleted" "J" (.long (0 : Int64))) (F_lost_xa : Fld Z h0 xa "com/example/nightcrawler/nightcrawler/engine/CommittedBatches" "lost" "J" (.long (0 : Int64))) (F_usedUp_xa : Fld Z h0 xa "com/example/nightcrawler/nightcrawler/engine/CommittedBatches" "usedUp" "Z" (.int (0 : Int32))) (F_last_xa : Fld Z h0 xa "com/example/nightcrawler/nightcrawler/engine/CommittedBatches" "last" "Ljava/util/List;" .null) (E_al : Exa Z h0 al "java/util/ArrayList") (F_modCount_al : Fld Z h0 al "java/util/AbstractList" "modCount" "I" (.int mc)) (F_elementData_al : Fld Z h0 al "java/util/ArrayList" "elementData" "[Ljava/lang/Object;" (.ref ed)) (F_size_al : Fld Z h0 al "java/util/ArrayList" "size" "I" (.int (3 : Int32))) (V_ed : Arv Z h0 ed kd (.object "java/lang/Object") (10 : Int32) [(.ref x0_), (.ref x1_), (.ref x2_), .null, .null, .null, .null, .null, .null, .null] .null) (E_ed : Exa Z h0 ed "[Ljava/lang/Object;") (E_x0_ : Exa Z h0 x0_ "java/lang/String") (E_x1_ : Exa Z h0 x1_ "java/lang/String") (E_x2_ : Exa Z h0 x2_ "java/lang/String") (g_xa : n0 ≤ xa) (ne_al_xa : al ≠ xa) (ne_ed_xa : ed ≠ xa) :
    Con l Z (⟨"com/example/nightcrawler/nightcrawler/engine/CommittedBatches", "<init>", "(JJJZLjava/util/List;)V"⟩ : MethodName) prog_3_method_1_code 9 none ws ({ frames := 10, cells := 3, slots := 8, locals := 168 } : Room) #[(.ref xa), (.long (0 : Int64)), (.long (0 : Int64)), (.long (0 : Int64)), (.int (1 : Int32)), (.ref al)] h0 (Q_rmCI_3 Z xa x0_ x1_ x2_ h0 n0) := by
  refine Con.body (own := "com/example/nightcrawler/nightcrawler/engine/CommittedBatches") rfl (plainFor_of_name pn_9) (fun m => ef_rmCI_0 m _ _ _ _ _ _) ?_
  intro p e s m below meth c s₁ Bd hx hby hml hZ hown X0 e0 Qf hQf
  have N0 := Fr.nil n0
  have hnm := (name_of_methodNamed Bd.named Bd.method).1
  have K0 := Keep.refl h0 [xa]
  obtain ⟨S_w3, E_w3, S_w0, E_w0, S_w2, E_w2, F_elements_w2, E_w1, S_w4, E_w4, F_allowNulls_w2, S_w_ImmutableCollections__assertionsDisabled, V_w3, V_w0, V_w1, S_cs, nz_cs, M_OA⟩ := id NF
  have ne_xa_al := Ne.symm ne_al_xa
  have ne_xa_ed := Ne.symm ne_ed_xa
  refine Goes.to (T' := s₁.setTop (mkF m 1 (LA1 xa al) [(.ref xa)])) (fun t k => XS.aloadN X0.here hx rfl (hb hby d9_0) rfl rfl k) ?_
  obtain ⟨T1, X1, e1, st1⟩ := initO X0 hx hZ hown (wi hw 59 rfl) (wi hw 16 rfl) (wi hw 17 rfl) e0 (g := (mkF m 1 (LA1 xa al) [(.ref xa)])) rfl (by rw [hml]; rfl) rfl (hb hby d9_1) (by decide) (W := 0) (by show 2 * 0 + _ ≤ _; exact Nat.le_of_eq rfl) (by decide)
  refine Goes.to (T' := T1.setTop (mkF m 4 (LA1 xa al) [])) st1 ?_
  refine Goes.to (T' := T1.setTop (mkF m 5 (LA1 xa al) [(.ref xa)])) (fun t k => XS.aloadN X1.here hx rfl (hb hby d9_4) rfl rfl k) ?_
  refine Goes.to (T' := T1.setTop (mkF m 6 (LA1 xa al) [(.long (0 : Int64)), (.ref xa)])) (fun t k => XS.lloadN X1.here hx rfl (hb hby d9_5) rfl k) ?_
  obtain ⟨T2, h2, X2, e2, W2, st2⟩ := putF X1 hx hZ hown (host := "") (Or.inl (wi hw 60 rfl)) Via.refl e1 F_batches_xa E_xa (Or.inr ⟨(wi hw 61 rfl), rfl, hnm⟩) (wi hw 55 rfl) (ty := .long) (by decide) rfl rfl (g := (mkF m 6 (LA1 xa al) [(.long (0 : Int64)), (.ref xa)])) rfl rfl (hb hby d9_6)
  have F_batches_xa := F_batches_xa.same W2
  have E_xa := E_xa.wr W2
  have F_deleted_xa := F_deleted_xa.other W2 (Or.inr (slot_ne (Or.inr (wi hw 63 rfl)) (Or.inr (wi hw 61 rfl)) (by decide) (t := .long) (t' := .long) (by decide) (by decide)))
  have F_lost_xa := F_lost_xa.other W2 (Or.inr (slot_ne (Or.inr (wi hw 65 rfl)) (Or.inr (wi hw 61 rfl)) (by decide) (t := .long) (t' := .long) (by decide) (by decide)))
  have F_usedUp_xa := F_usedUp_xa.other W2 (Or.inr (slot_ne (Or.inr (wi hw 67 rfl)) (Or.inr (wi hw 61 rfl)) (by decide) (t := .boolean) (t' := .long) (by decide) (by decide)))
  have F_last_xa := F_last_xa.other W2 (Or.inr (slot_ne (Or.inr (wi hw 98 rfl)) (Or.inr (wi hw 61 rfl)) (by decide) (t := (.object "java/util/List")) (t' := .long) (by decide) (by decide)))
  have E_al := E_al.wr W2
  have F_modCount_al := F_modCount_al.other W2 (Or.inl (ne_al_xa))
  have F_elementData_al := F_elementData_al.other W2 (Or.inl (ne_al_xa))
  have F_size_al := F_size_al.other W2 (Or.inl (ne_al_xa))
  have V_ed := V_ed.other W2 (ne_ed_xa)
  have E_ed := E_ed.wr W2
  have E_x0_ := E_x0_.wr W2
  have E_x1_ := E_x1_.wr W2
  have E_x2_ := E_x2_.wr W2
  have O0 := O0.wr W2 g_xa
  have K0 := K0.wr W2 (Or.inl (List.mem_of_getElem? (i := 0) rfl))
  have N2 := Fr.snoc X2 N0 g_xa
  refine Goes.to (T' := T2.setTop (mkF m 9 (LA1 xa al) [])) st2 ?_
  refine Goes.to (T' := T2.setTop (mkF m 10 (LA1 xa al) [(.ref xa)])) (fun t k => XS.aloadN X2.here hx rfl (hb hby d9_9) rfl rfl k) ?_
  refine Goes.to (T' := T2.setTop (mkF m 11 (LA1 xa al) [(.long (0 : Int64)), (.ref xa)])) (fun t k => XS.lloadN X2.here hx rfl (hb hby d9_10) rfl k) ?_
  obtain ⟨T3, h3, X3, e3, W3, st3⟩ := putF X2 hx hZ hown (host := "") (Or.inl (wi hw 62 rfl)) Via.refl e2 F_deleted_xa E_xa (Or.inr ⟨(wi hw 63 rfl), rfl, hnm⟩) (wi hw 55 rfl) (ty := .long) (by decide) rfl rfl (g := (mkF m 11 (LA1 xa al) [(.long (0 : Int64)), (.ref xa)])) rfl rfl (hb hby d9_11)
  have F_deleted_xa := F_deleted_xa.same W3
  have E_xa := E_xa.wr W3
  have F_batches_xa := F_batches_xa.other W3 (Or.inr (slot_ne (Or.inr (wi hw 61 rfl)) (Or.inr (wi hw 63 rfl)) (by decide) (t := .long) (t' := .long) (by decide) (by decide)))
  have F_lost_xa := F_lost_xa.other W3 (Or.inr (slot_ne (Or.inr (wi hw 65 rfl)) (Or.inr (wi hw 63 rfl)) (by decide) (t := .long) (t' := .long) (by decide) (by decide)))
  have F_usedUp_xa := F_usedUp_xa.other W3 (Or.inr (slot_ne (Or.inr (wi hw 67 rfl)) (Or.inr (wi hw 63 rfl)) (by decide) (t := .boolean) (t' := .long) (by decide) (by decide)))
  have F_last_xa := F_last_xa.other W3 (Or.inr (slot_ne (Or.inr (wi hw 98 rfl)) (Or.inr (wi hw 63 rfl)) (by decide) (t := (.object "java/util/List")) (t' := .long) (by decide) (by decide)))
  have E_al := E_al.wr W3
  have F_modCount_al := F_modCount_al.other W3 (Or.inl (ne_al_xa))
  have F_elementData_al := F_elementData_al.other W3 (Or.inl (ne_al_xa))
  have F_size_al := F_size_al.other W3 (Or.inl (ne_al_xa))
  have V_ed := V_ed.other W3 (ne_ed_xa)
  have E_ed := E_ed.wr W3
  have E_x0_ := E_x0_.wr W3
  have E_x1_ := E_x1_.wr W3
  have E_x2_ := E_x2_.wr W3
  have O0 := O0.wr W3 g_xa
  have K0 := K0.wr W3 (Or.inl (List.mem_of_getElem? (i := 0) rfl))
  have N3 := Fr.snoc X3 N2 g_xa
  refine Goes.to (T' := T3.setTop (mkF m 14 (LA1 xa al) [])) st3 ?_
  refine Goes.to (T' := T3.setTop (mkF m 15 (LA1 xa al) [(.ref xa)])) (fun t k => XS.aloadN X3.here hx rfl (hb hby d9_14) rfl rfl k) ?_
  refine Goes.to (T' := T3.setTop (mkF m 17 (LA1 xa al) [(.long (0 : Int64)), (.ref xa)])) (fun t k => XS.lload X3.here hx rfl (hb hby d9_15) rfl k) ?_
  obtain ⟨T4, h4, X4, e4, W4, st4⟩ := putF X3 hx hZ hown (host := "") (Or.inl (wi hw 64 rfl)) Via.refl e3 F_lost_xa E_xa (Or.inr ⟨(wi hw 65 rfl), rfl, hnm⟩) (wi hw 55 rfl) (ty := .long) (by decide) rfl rfl (g := (mkF m 17 (LA1 xa al) [(.long (0 : Int64)), (.ref xa)])) rfl rfl (hb hby d9_17)
  have F_lost_xa := F_lost_xa.same W4
  have E_xa := E_xa.wr W4
  have F_batches_xa := F_batches_xa.other W4 (Or.inr (slot_ne (Or.inr (wi hw 61 rfl)) (Or.inr (wi hw 65 rfl)) (by decide) (t := .long) (t' := .long) (by decide) (by decide)))
  have F_deleted_xa := F_deleted_xa.other W4 (Or.inr (slot_ne (Or.inr (wi hw 63 rfl)) (Or.inr (wi hw 65 rfl)) (by decide) (t := .long) (t' := .long) (by decide) (by decide)))
  have F_usedUp_xa := F_usedUp_xa.other W4 (Or.inr (slot_ne (Or.inr (wi hw 67 rfl)) (Or.inr (wi hw 65 rfl)) (by decide) (t := .boolean) (t' := .long) (by decide) (by decide)))
  have F_last_xa := F_last_xa.other W4 (Or.inr (slot_ne (Or.inr (wi hw 98 rfl)) (Or.inr (wi hw 65 rfl)) (by decide) (t := (.object "java/util/List")) (t' := .long) (by decide) (by decide)))
  have E_al := E_al.wr W4
  have F_modCount_al := F_modCount_al.other W4 (Or.inl (ne_al_xa))
  have F_elementData_al := F_elementData_al.other W4 (Or.inl (ne_al_xa))
  have F_size_al := F_size_al.other W4 (Or.inl (ne_al_xa))
  have V_ed := V_ed.other W4 (ne_ed_xa)
  have E_ed := E_ed.wr W4
  have E_x0_ := E_x0_.wr W4
  have E_x1_ := E_x1_.wr W4
  have E_x2_ := E_x2_.wr W4
  have O0 := O0.wr W4 g_xa
  have K0 := K0.wr W4 (Or.inl (List.mem_of_getElem? (i := 0) rfl))
  have N4 := Fr.snoc X4 N3 g_xa
  refine Goes.to (T' := T4.setTop (mkF m 20 (LA1 xa al) [])) st4 ?_
  refine Goes.to (T' := T4.setTop (mkF m 21 (LA1 xa al) [(.ref xa)])) (fun t k => XS.aloadN X4.here hx rfl (hb hby d9_20) rfl rfl k) ?_
  refine Goes.to (T' := T4.setTop (mkF m 23 (LA1 xa al) [(.int (1 : Int32)), (.ref xa)])) (fun t k => XS.iload X4.here hx rfl (hb hby d9_21) rfl k) ?_
  obtain ⟨T5, h5, X5, e5, W5, st5⟩ := putFN X4 hx hZ hown (wi hw 66 rfl) Via.refl e4 F_usedUp_xa E_xa (Or.inr ⟨(wi hw 67 rfl), rfl, hnm⟩) (wi hw 55 rfl) (ty := .boolean) (v' := (.int (1 : Int32))) (by decide) rfl (by decide) (g := (mkF m 23 (LA1 xa al) [(.int (1 : Int32)), (.ref xa)])) rfl rfl (hb hby d9_23)
  have F_usedUp_xa := F_usedUp_xa.same W5
  have E_xa := E_xa.wr W5
  have F_batches_xa := F_batches_xa.other W5 (Or.inr (slot_ne (Or.inr (wi hw 61 rfl)) (Or.inr (wi hw 67 rfl)) (by decide) (t := .long) (t' := .boolean) (by decide) (by decide)))
  have F_deleted_xa := F_deleted_xa.other W5 (Or.inr (slot_ne (Or.inr (wi hw 63 rfl)) (Or.inr (wi hw 67 rfl)) (by decide) (t := .long) (t' := .boolean) (by decide) (by decide)))
  have F_lost_xa := F_lost_xa.other W5 (Or.inr (slot_ne (Or.inr (wi hw 65 rfl)) (Or.inr (wi hw 67 rfl)) (by decide) (t := .long) (t' := .boolean) (by decide) (by decide)))
  have F_last_xa := F_last_xa.other W5 (Or.inr (slot_ne (Or.inr (wi hw 98 rfl)) (Or.inr (wi hw 67 rfl)) (by decide) (t := (.object "java/util/List")) (t' := .boolean) (by decide) (by decide)))
  have E_al := E_al.wr W5
  have F_modCount_al := F_modCount_al.other W5 (Or.inl (ne_al_xa))
  have F_elementData_al := F_elementData_al.other W5 (Or.inl (ne_al_xa))
  have F_size_al := F_size_al.other W5 (Or.inl (ne_al_xa))
  have V_ed := V_ed.other W5 (ne_ed_xa)
  have E_ed := E_ed.wr W5
  have E_x0_ := E_x0_.wr W5
  have E_x1_ := E_x1_.wr W5
  have E_x2_ := E_x2_.wr W5
  have O0 := O0.wr W5 g_xa
  have K0 := K0.wr W5 (Or.inl (List.mem_of_getElem? (i := 0) rfl))
  have N5 := Fr.snoc X5 N4 g_xa
  refine Goes.to (T' := T5.setTop (mkF m 26 (LA1 xa al) [])) st5 ?_
  refine Goes.to (T' := T5.setTop (mkF m 27 (LA1 xa al) [(.ref xa)])) (fun t k => XS.aloadN X5.here hx rfl (hb hby d9_26) rfl rfl k) ?_
  refine Goes.to (T' := T5.setTop (mkF m 29 (LA1 xa al) [(.ref al), (.ref xa)])) (fun t k => XS.aload X5.here hx rfl (hb hby d9_27) rfl rfl k) ?_
  obtain ⟨_, _, ⟨T6, L6, k6, n6⟩, -, X6, ⟨Lc6, hQ6, l6, y6, z6⟩, st6⟩ := Jvm.LawKit.callS X5 hx (y := (⟨"java/util/List", "copyOf", "(Ljava/util/Collection;)Ljava/util/List;"⟩ : MethodName)) hown (mvT hZ (wi hw 68 rfl)) (mvT hZ (wi hw 69 rfl)) (mvT hZ (wi hw 70 rfl)) (mvT hZ (wi hw 71 rfl)) (by decide) (backOf (W := 1) (rmCo3 hw al mc ed kd x0_ x1_ x2_ h5 n0 O0 NF E_al F_modCount_al F_elementData_al F_size_al V_ed E_ed E_x0_ E_x1_ E_x2_) hZ (wi hw 71 rfl) (wi hw 70 rfl) (by decide) (by decide)) (g := (mkF m 29 (LA1 xa al) [(.ref al), (.ref xa)])) rfl (by rw [hml]; rfl) (argsL := [(.ref al)]) (rest := [(.ref xa)]) (lenOf pd_202 rfl) rfl (by show 2 * 0 + _ ≤ _; exact Nat.le_of_eq rfl) (hb hby d9_29) (fun _ _ => ⟨rfl, e5, (by decide : 0 + 3 ≤ _), (by decide : 0 + 8 ≤ _)⟩)
  dsimp only [Pt.U, Pt.locs, Pt.cells, Pt.slots] at X6 l6 y6 z6 st6 hQ6
  subst l6 y6 z6
  obtain ⟨⟨lb, tb, kt, rfl, gl6, sl6, gt6, zt6, r0_6, r1_6, r2_6⟩, Nq6, Ex6⟩ := hQ6
  have N6 := Fr.app N5 Nq6
  have g_lb : n0 ≤ lb := gl6
  have sz_lb : h0.size ≤ lb := Nat.le_trans K0.1 sl6
  have ne_xa_lb : xa ≠ lb := Nat.ne_of_lt (Nat.lt_of_lt_of_le E_xa.lt sl6)
  have ne_lb_xa := Ne.symm ne_xa_lb
  have ne_al_lb : al ≠ lb := Nat.ne_of_lt (Nat.lt_of_lt_of_le E_al.lt sl6)
  have ne_lb_al := Ne.symm ne_al_lb
  have ne_ed_lb : ed ≠ lb := Nat.ne_of_lt (Nat.lt_of_lt_of_le V_ed.lt sl6)
  have ne_lb_ed := Ne.symm ne_ed_lb
  have ne_x0__lb : x0_ ≠ lb := Nat.ne_of_lt (Nat.lt_of_lt_of_le E_x0_.lt sl6)
  have ne_lb_x0_ := Ne.symm ne_x0__lb
  have ne_x1__lb : x1_ ≠ lb := Nat.ne_of_lt (Nat.lt_of_lt_of_le E_x1_.lt sl6)
  have ne_lb_x1_ := Ne.symm ne_x1__lb
  have ne_x2__lb : x2_ ≠ lb := Nat.ne_of_lt (Nat.lt_of_lt_of_le E_x2_.lt sl6)
  have ne_lb_x2_ := Ne.symm ne_x2__lb
  have g_tb : n0 ≤ tb := gt6
  have sz_tb : h0.size ≤ tb := Nat.le_trans K0.1 zt6
  have ne_xa_tb : xa ≠ tb := Nat.ne_of_lt (Nat.lt_of_lt_of_le E_xa.lt zt6)
  have ne_tb_xa := Ne.symm ne_xa_tb
  have ne_al_tb : al ≠ tb := Nat.ne_of_lt (Nat.lt_of_lt_of_le E_al.lt zt6)
  have ne_tb_al := Ne.symm ne_al_tb
  have ne_ed_tb : ed ≠ tb := Nat.ne_of_lt (Nat.lt_of_lt_of_le V_ed.lt zt6)
  have ne_tb_ed := Ne.symm ne_ed_tb
  have ne_x0__tb : x0_ ≠ tb := Nat.ne_of_lt (Nat.lt_of_lt_of_le E_x0_.lt zt6)
  have ne_tb_x0_ := Ne.symm ne_x0__tb
  have ne_x1__tb : x1_ ≠ tb := Nat.ne_of_lt (Nat.lt_of_lt_of_le E_x1_.lt zt6)
  have ne_tb_x1_ := Ne.symm ne_x1__tb
  have ne_x2__tb : x2_ ≠ tb := Nat.ne_of_lt (Nat.lt_of_lt_of_le E_x2_.lt zt6)
  have ne_tb_x2_ := Ne.symm ne_x2__tb
  have E_xa := E_xa.ext Ex6
  have F_batches_xa := F_batches_xa.ext Ex6
  have F_deleted_xa := F_deleted_xa.ext Ex6
  have F_lost_xa := F_lost_xa.ext Ex6
  have F_usedUp_xa := F_usedUp_xa.ext Ex6
  have F_last_xa := F_last_xa.ext Ex6
  have E_al := E_al.ext Ex6
  have F_modCount_al := F_modCount_al.ext Ex6
  have F_elementData_al := F_elementData_al.ext Ex6
  have F_size_al := F_size_al.ext Ex6
  have V_ed := V_ed.ext Ex6
  have E_ed := E_ed.ext Ex6
  have E_x0_ := E_x0_.ext Ex6
  have E_x1_ := E_x1_.ext Ex6
  have E_x2_ := E_x2_.ext Ex6
  have O0 := O0.ext Ex6
  have K0 := K0.ext Ex6
  have E_lb := r0_6
  have F_elements_lb := r1_6
  have V_tb := r2_6
  refine Goes.to (T' := T6.setTop (mkF m 32 (LA1 xa al) [(.ref lb), (.ref xa)])) st6 ?_
  obtain ⟨T7, h7, X7, e7, W7, st7⟩ := putF X6 hx hZ hown (host := "") (Or.inl (wi hw 97 rfl)) Via.refl rfl F_last_xa E_xa (Or.inr ⟨(wi hw 98 rfl), rfl, hnm⟩) (wi hw 55 rfl) (ty := (.object "java/util/List")) (by decide) rfl rfl (g := (mkF m 32 (LA1 xa al) [(.ref lb), (.ref xa)])) rfl rfl (hb hby d9_32)
  have F_last_xa := F_last_xa.same W7
  have E_xa := E_xa.wr W7
  have F_batches_xa := F_batches_xa.other W7 (Or.inr (slot_ne (Or.inr (wi hw 61 rfl)) (Or.inr (wi hw 98 rfl)) (by decide) (t := .long) (t' := (.object "java/util/List")) (by decide) (by decide)))
  have F_deleted_xa := F_deleted_xa.other W7 (Or.inr (slot_ne (Or.inr (wi hw 63 rfl)) (Or.inr (wi hw 98 rfl)) (by decide) (t := .long) (t' := (.object "java/util/List")) (by decide) (by decide)))
  have F_lost_xa := F_lost_xa.other W7 (Or.inr (slot_ne (Or.inr (wi hw 65 rfl)) (Or.inr (wi hw 98 rfl)) (by decide) (t := .long) (t' := (.object "java/util/List")) (by decide) (by decide)))
  have F_usedUp_xa := F_usedUp_xa.other W7 (Or.inr (slot_ne (Or.inr (wi hw 67 rfl)) (Or.inr (wi hw 98 rfl)) (by decide) (t := .boolean) (t' := (.object "java/util/List")) (by decide) (by decide)))
  have E_al := E_al.wr W7
  have F_modCount_al := F_modCount_al.other W7 (Or.inl (ne_al_xa))
  have F_elementData_al := F_elementData_al.other W7 (Or.inl (ne_al_xa))
  have F_size_al := F_size_al.other W7 (Or.inl (ne_al_xa))
  have V_ed := V_ed.other W7 (ne_ed_xa)
  have E_ed := E_ed.wr W7
  have E_x0_ := E_x0_.wr W7
  have E_x1_ := E_x1_.wr W7
  have E_x2_ := E_x2_.wr W7
  have E_lb := E_lb.wr W7
  have F_elements_lb := F_elements_lb.other W7 (Or.inl (ne_lb_xa))
  have V_tb := V_tb.other W7 (ne_tb_xa)
  have O0 := O0.wr W7 g_xa
  have K0 := K0.wr W7 (Or.inl (List.mem_of_getElem? (i := 0) rfl))
  have N7 := Fr.snoc X7 N6 g_xa
  refine Goes.to (T' := T7.setTop (mkF m 35 (LA1 xa al) [])) st7 ?_
  obtain ⟨fs, hrL, hrun, hended, hW, hsame⟩ := X7.leave (v := none) (fun _ => rfl)
  subst hQf
  refine ⟨_, _, X7.returnOut hx Bd.returns (hb hby d9_35) hrL, hrun, hended, _, _, rfl, ?_, ⟨_, rfl⟩, hW, hsame.mono (by decide) (by decide)⟩
  show Q_rmCI_3 Z xa x0_ x1_ x2_ h0 n0 (none) T7.heap _
  rw [e7]
  exact ⟨⟨rfl, lb, tb, kt, g_lb, sz_lb, g_tb, sz_tb, E_xa, F_batches_xa, F_deleted_xa, F_lost_xa, F_usedUp_xa, F_last_xa, E_lb, F_elements_lb, V_tb⟩, N7, K0⟩
def Q_rmNo3 (Z : State) (x0_ : Addr) (x1_ : Addr) (x2_ : Addr) (h0 : Heap) (n0 : Nat) (v : Option Value) (h : Heap) (L : List Loc) : Prop := (∃ (b : Addr) (lb : Addr) (tb : Addr) (kt : ClassId), v = some (.ref b) ∧ n0 ≤ b ∧ h0.size ≤ b ∧ n0 ≤ lb ∧ h0.size ≤ lb ∧ n0 ≤ tb ∧ h0.size ≤ tb ∧ Exa Z h b "com/example/nightcrawler/nightcrawler/engine/CommittedBatches" ∧ Fld Z h b "com/example/nightcrawler/nightcrawler/engine/CommittedBatches" "batches" "J" (.long (0 : Int64)) ∧ Fld Z h b "com/example/nightcrawler/nightcrawler/engine/CommittedBatches" "deleted" "J" (.long (0 : Int64)) ∧ Fld Z h b "com/example/nightcrawler/nightcrawler/engine/CommittedBatches" "lost" "J" (.long (0 : Int64)) ∧ Fld Z h b "com/example/nightcrawler/nightcrawler/engine/CommittedBatches" "usedUp" "Z" (.int (1 : Int32)) ∧ Fld Z h b "com/example/nightcrawler/nightcrawler/engine/CommittedBatches" "last" "Ljava/util/List;" (.ref lb) ∧ Exa Z h lb "java/util/ImmutableCollections$ListN" ∧ Fld Z h lb "java/util/ImmutableCollections$ListN" "elements" "[Ljava/lang/Object;" (.ref tb) ∧ Arv Z h tb kt (.object "java/lang/Object") (3 : Int32) [(.ref x0_), (.ref x1_), (.ref x2_)] .null) ∧ Fr n0 L ∧ Ext h0 h
theorem rmNo3 (hw : HW a0 Z) (al : Addr) (mc : Int32) (ed : Addr) (kd : ClassId) (x0_ : Addr) (x1_ : Addr) (x2_ : Addr) (h0 : Heap) (n0 : Nat) (O0 : Old Z n0 h0) (NF : Nar Z w3 w0 w2 w1 w4 k_w3 k_w0 k_w1 z_cs w5) (E_al : Exa Z h0 al "java/util/ArrayList") (F_modCount_al : Fld Z h0 al "java/util/AbstractList" "modCount" "I" (.int mc)) (F_elementData_al : Fld Z h0 al "java/util/ArrayList" "elementData" "[Ljava/lang/Object;" (.ref ed)) (F_size_al : Fld Z h0 al "java/util/ArrayList" "size" "I" (.int (3 : Int32))) (V_ed : Arv Z h0 ed kd (.object "java/lang/Object") (10 : Int32) [(.ref x0_), (.ref x1_), (.ref x2_), .null, .null, .null, .null, .null, .null, .null] .null) (E_ed : Exa Z h0 ed "[Ljava/lang/Object;") (E_x0_ : Exa Z h0 x0_ "java/lang/String") (E_x1_ : Exa Z h0 x1_ "java/lang/String") (E_x2_ : Exa Z h0 x2_ "java/lang/String") :
    Con l Z (⟨"com/example/nightcrawler/nightcrawler/engine/CommittedBatches", "none", "(Ljava/util/List;)Lcom/example/nightcrawler/nightcrawler/engine/CommittedBatches;"⟩ : MethodName) prog_3_method_3_code 1 (some (.object "com/example/nightcrawler/nightcrawler/engine/CommittedBatches")) ws ({ frames := 11, cells := 4, slots := 13, locals := 190 } : Room) #[(.ref al)] h0 (Q_rmNo3 Z x0_ x1_ x2_ h0 n0) := by
  refine Con.body (own := "com/example/nightcrawler/nightcrawler/engine/CommittedBatches") rfl (plainFor_of_name pn_8) (fun m => ef_rmAC m _) ?_
  intro p e s m below meth c s₁ Bd hx hby hml hZ hown X0 e0 Qf hQf
  have N0 := Fr.nil n0
  have K0 := Keep.refl h0 []
  obtain ⟨S_w3, E_w3, S_w0, E_w0, S_w2, E_w2, F_elements_w2, E_w1, S_w4, E_w4, F_allowNulls_w2, S_w_ImmutableCollections__assertionsDisabled, V_w3, V_w0, V_w1, S_cs, nz_cs, M_OA⟩ := id NF
  obtain ⟨T1, h1, X1, e1, E1, A1, D1, -, st1⟩ := newO X0 hx hZ hown (wi hw 54 rfl) (wi hw 55 rfl) (wi hw 52 rfl) e0 (g := (mkF m 0 #[.val (.ref al)] [])) rfl (hb hby d8_0) (by decide) (by decide)
  obtain ⟨b1, g1⟩ : ∃ z, z = h0.size := ⟨_, rfl⟩
  rw [← g1] at A1 D1 st1
  have g_b1 : n0 ≤ b1 := Nat.le_trans (own_old O0) (Nat.le_of_eq g1.symm)
  have sz_b1 : h0.size ≤ b1 := Nat.le_trans K0.1 (Nat.le_of_eq g1.symm)
  have ne_al_b1 : al ≠ b1 := Nat.ne_of_lt (Nat.lt_of_lt_of_le E_al.lt (Nat.le_of_eq g1.symm))
  have ne_b1_al := Ne.symm ne_al_b1
  have ne_ed_b1 : ed ≠ b1 := Nat.ne_of_lt (Nat.lt_of_lt_of_le V_ed.lt (Nat.le_of_eq g1.symm))
  have ne_b1_ed := Ne.symm ne_ed_b1
  have ne_x0__b1 : x0_ ≠ b1 := Nat.ne_of_lt (Nat.lt_of_lt_of_le E_x0_.lt (Nat.le_of_eq g1.symm))
  have ne_b1_x0_ := Ne.symm ne_x0__b1
  have ne_x1__b1 : x1_ ≠ b1 := Nat.ne_of_lt (Nat.lt_of_lt_of_le E_x1_.lt (Nat.le_of_eq g1.symm))
  have ne_b1_x1_ := Ne.symm ne_x1__b1
  have ne_x2__b1 : x2_ ≠ b1 := Nat.ne_of_lt (Nat.lt_of_lt_of_le E_x2_.lt (Nat.le_of_eq g1.symm))
  have ne_b1_x2_ := Ne.symm ne_x2__b1
  have E_al := E_al.ext E1
  have F_modCount_al := F_modCount_al.ext E1
  have F_elementData_al := F_elementData_al.ext E1
  have F_size_al := F_size_al.ext E1
  have V_ed := V_ed.ext E1
  have E_ed := E_ed.ext E1
  have E_x0_ := E_x0_.ext E1
  have E_x1_ := E_x1_.ext E1
  have E_x2_ := E_x2_.ext E1
  have O0 := O0.ext E1
  have K0 := K0.ext E1
  have E_b1 := A1
  have F_batches_b1 : Fld Z h1 b1 "com/example/nightcrawler/nightcrawler/engine/CommittedBatches" "batches" "J" (.long (0 : Int64)) := D1 (Or.inr (wi hw 61 rfl)) (ty := .long) (by decide)
  have F_deleted_b1 : Fld Z h1 b1 "com/example/nightcrawler/nightcrawler/engine/CommittedBatches" "deleted" "J" (.long (0 : Int64)) := D1 (Or.inr (wi hw 63 rfl)) (ty := .long) (by decide)
  have F_lost_b1 : Fld Z h1 b1 "com/example/nightcrawler/nightcrawler/engine/CommittedBatches" "lost" "J" (.long (0 : Int64)) := D1 (Or.inr (wi hw 65 rfl)) (ty := .long) (by decide)
  have F_usedUp_b1 : Fld Z h1 b1 "com/example/nightcrawler/nightcrawler/engine/CommittedBatches" "usedUp" "Z" (.int (0 : Int32)) := D1 (Or.inr (wi hw 67 rfl)) (ty := .boolean) (by decide)
  have F_last_b1 : Fld Z h1 b1 "com/example/nightcrawler/nightcrawler/engine/CommittedBatches" "last" "Ljava/util/List;" .null := D1 (Or.inr (wi hw 98 rfl)) (ty := (.object "java/util/List")) (by decide)
  refine Goes.to (T' := T1.setTop (mkF m 3 #[.val (.ref al)] [(.ref b1)])) st1 ?_
  refine Goes.to (T' := T1.setTop (mkF m 4 #[.val (.ref al)] [(.ref b1), (.ref b1)])) (fun t k => XS.dup X1.here hx rfl (hb hby d8_3) rfl rfl k) ?_
  refine Goes.to (T' := T1.setTop (mkF m 5 #[.val (.ref al)] [(.long (0 : Int64)), (.ref b1), (.ref b1)])) (fun t k => XS.lconst X1.here hx rfl (hb hby d8_4) k) ?_
  refine Goes.to (T' := T1.setTop (mkF m 6 #[.val (.ref al)] [(.long (0 : Int64)), (.long (0 : Int64)), (.ref b1), (.ref b1)])) (fun t k => XS.lconst X1.here hx rfl (hb hby d8_5) k) ?_
  refine Goes.to (T' := T1.setTop (mkF m 7 #[.val (.ref al)] [(.long (0 : Int64)), (.long (0 : Int64)), (.long (0 : Int64)), (.ref b1), (.ref b1)])) (fun t k => XS.lconst X1.here hx rfl (hb hby d8_6) k) ?_
  refine Goes.to (T' := T1.setTop (mkF m 8 #[.val (.ref al)] [(.int (1 : Int32)), (.long (0 : Int64)), (.long (0 : Int64)), (.long (0 : Int64)), (.ref b1), (.ref b1)])) (fun t k => XS.iconst X1.here hx rfl (hb hby d8_7) k) ?_
  refine Goes.to (T' := T1.setTop (mkF m 9 #[.val (.ref al)] [(.ref al), (.int (1 : Int32)), (.long (0 : Int64)), (.long (0 : Int64)), (.long (0 : Int64)), (.ref b1), (.ref b1)])) (fun t k => XS.aloadN X1.here hx rfl (hb hby d8_8) rfl rfl k) ?_
  obtain ⟨_, _, ⟨T2, L2, k2, n2⟩, -, X2, ⟨Lc2, hQ2, l2, y2, z2⟩, st2⟩ := X1.specialBack hx (y := (⟨"com/example/nightcrawler/nightcrawler/engine/CommittedBatches", "<init>", "(JJJZLjava/util/List;)V"⟩ : MethodName)) rfl hown (mvT hZ (wi hw 56 rfl)) (mvT hZ (wi hw 57 rfl)) (mvT hZ (wi hw 58 rfl)) (by decide) (backOf (W := 1) (rmCI_3 hw b1 al mc ed kd x0_ x1_ x2_ h1 n0 O0 NF E_b1 F_batches_b1 F_deleted_b1 F_lost_b1 F_usedUp_b1 F_last_b1 E_al F_modCount_al F_elementData_al F_size_al V_ed E_ed E_x0_ E_x1_ E_x2_ g_b1 ne_al_b1 ne_ed_b1) hZ (wi hw 58 rfl) (wi hw 52 rfl) (by decide) (by decide)) (g := (mkF m 9 #[.val (.ref al)] [(.ref al), (.int (1 : Int32)), (.long (0 : Int64)), (.long (0 : Int64)), (.long (0 : Int64)), (.ref b1), (.ref b1)])) rfl (by rw [hml]; rfl) (Steps.refl _) (a := b1) (argsL := [(.long (0 : Int64)), (.long (0 : Int64)), (.long (0 : Int64)), (.int (1 : Int32)), (.ref al)]) (rest := [(.ref b1)]) (lenOf pd_441 rfl) rfl (by show 2 * 0 + _ ≤ _; exact Nat.le_of_eq rfl) (hb hby d8_9) (fun _ _ => ⟨rfl, e1, (by decide : 1 + 3 ≤ _), (by decide : 5 + 8 ≤ _)⟩)
  dsimp only [Pt.U, Pt.locs, Pt.cells, Pt.slots] at X2 l2 y2 z2 st2 hQ2
  subst l2 y2 z2
  obtain ⟨⟨rfl, lb, tb, kt, gl2, sl2, gt2, zt2, r0_2, r1_2, r2_2, r3_2, r4_2, r5_2, r6_2, r7_2, r8_2⟩, Nq2, K2⟩ := hQ2
  have N2 := Fr.app N0 Nq2
  have g_lb : n0 ≤ lb := gl2
  have sz_lb : h0.size ≤ lb := Nat.le_trans K0.1 sl2
  have ne_al_lb : al ≠ lb := Nat.ne_of_lt (Nat.lt_of_lt_of_le E_al.lt sl2)
  have ne_lb_al := Ne.symm ne_al_lb
  have ne_ed_lb : ed ≠ lb := Nat.ne_of_lt (Nat.lt_of_lt_of_le V_ed.lt sl2)
  have ne_lb_ed := Ne.symm ne_ed_lb
  have ne_x0__lb : x0_ ≠ lb := Nat.ne_of_lt (Nat.lt_of_lt_of_le E_x0_.lt sl2)
  have ne_lb_x0_ := Ne.symm ne_x0__lb
  have ne_x1__lb : x1_ ≠ lb := Nat.ne_of_lt (Nat.lt_of_lt_of_le E_x1_.lt sl2)
  have ne_lb_x1_ := Ne.symm ne_x1__lb
  have ne_x2__lb : x2_ ≠ lb := Nat.ne_of_lt (Nat.lt_of_lt_of_le E_x2_.lt sl2)
  have ne_lb_x2_ := Ne.symm ne_x2__lb
  have ne_b1_lb : b1 ≠ lb := Nat.ne_of_lt (Nat.lt_of_lt_of_le E_b1.lt sl2)
  have ne_lb_b1 := Ne.symm ne_b1_lb
  have g_tb : n0 ≤ tb := gt2
  have sz_tb : h0.size ≤ tb := Nat.le_trans K0.1 zt2
  have ne_al_tb : al ≠ tb := Nat.ne_of_lt (Nat.lt_of_lt_of_le E_al.lt zt2)
  have ne_tb_al := Ne.symm ne_al_tb
  have ne_ed_tb : ed ≠ tb := Nat.ne_of_lt (Nat.lt_of_lt_of_le V_ed.lt zt2)
  have ne_tb_ed := Ne.symm ne_ed_tb
  have ne_x0__tb : x0_ ≠ tb := Nat.ne_of_lt (Nat.lt_of_lt_of_le E_x0_.lt zt2)
  have ne_tb_x0_ := Ne.symm ne_x0__tb
  have ne_x1__tb : x1_ ≠ tb := Nat.ne_of_lt (Nat.lt_of_lt_of_le E_x1_.lt zt2)
  have ne_tb_x1_ := Ne.symm ne_x1__tb
  have ne_x2__tb : x2_ ≠ tb := Nat.ne_of_lt (Nat.lt_of_lt_of_le E_x2_.lt zt2)
  have ne_tb_x2_ := Ne.symm ne_x2__tb
  have ne_b1_tb : b1 ≠ tb := Nat.ne_of_lt (Nat.lt_of_lt_of_le E_b1.lt zt2)
  have ne_tb_b1 := Ne.symm ne_b1_tb
  have E_al := E_al.keep K2
  have F_modCount_al := F_modCount_al.keep K2 (ninS (ne_al_b1) nin0)
  have F_elementData_al := F_elementData_al.keep K2 (ninS (ne_al_b1) nin0)
  have F_size_al := F_size_al.keep K2 (ninS (ne_al_b1) nin0)
  have V_ed := V_ed.keep K2 (ninS (ne_ed_b1) nin0)
  have E_ed := E_ed.keep K2
  have E_x0_ := E_x0_.keep K2
  have E_x1_ := E_x1_.keep K2
  have E_x2_ := E_x2_.keep K2
  have E_b1 := E_b1.keep K2
  have O0 := O0.keep K2 (allS g_b1 all0)
  have K0 := K0.trans K2 (allS (Or.inr sz_b1) all0)
  have E_b1 := r0_2
  have F_batches_b1 := r1_2
  have F_deleted_b1 := r2_2
  have F_lost_b1 := r3_2
  have F_usedUp_b1 := r4_2
  have F_last_b1 := r5_2
  have E_lb := r6_2
  have F_elements_lb := r7_2
  have V_tb := r8_2
  refine Goes.thru (T' := T2.setTop (mkF m 12 #[.val (.ref al)] [(.ref b1)])) st2 ?_
  obtain ⟨fs, hrL, hrun, hended, hW, hsame⟩ := X2.leave (v := some (.ref b1)) (fun h => by rw [Bd.returns] at h; cases h)
  subst hQf
  refine ⟨_, _, retOut X2 hx Bd.returns rfl (Or.inr (Or.inr (Or.inr (Or.inr ⟨rfl, rfl, rfl⟩)))) (hb hby d8_12) hrL, hrun, hended, _, _, rfl, ?_, ⟨_, rfl⟩, hW, hsame.mono (by decide) (by decide)⟩
  show Q_rmNo3 Z x0_ x1_ x2_ h0 n0 (some (.ref b1)) T2.heap _
  exact ⟨⟨b1, lb, tb, kt, rfl, g_b1, sz_b1, g_lb, sz_lb, g_tb, sz_tb, E_b1, F_batches_b1, F_deleted_b1, F_lost_b1, F_usedUp_b1, F_last_b1, E_lb, F_elements_lb, V_tb⟩, N2, own_ext_keep K0⟩
theorem d20_0 : decode prog_3_method_4_code 0 = .ok (.aload_n 0, 1) := by decide +kernel
theorem d20_1 : decode prog_3_method_4_code 1 = .ok (.getfield 7, 3) := by decide +kernel
theorem d20_4 : decode prog_3_method_4_code 4 = .ok (.lreturn, 1) := by decide +kernel
theorem pn_20 : plainName "com/example/nightcrawler/nightcrawler/engine/CommittedBatches" = true := by first | (simp [plainName, overriddenIn]; done) | decide +kernel
def Q_rm_batches  (h0 : Heap) (n0 : Nat) (v : Option Value) (h : Heap) (L : List Loc) : Prop := v = some (.long (0 : Int64)) ∧ Fr n0 L ∧ h = h0
theorem rm_batches (hw : HW a0 Z) (xa : Addr) (h0 : Heap) (n0 : Nat) (O0 : Old Z n0 h0) (NF : Nar Z w3 w0 w2 w1 w4 k_w3 k_w0 k_w1 z_cs w5) (F_batches_xa : Fld Z h0 xa "com/example/nightcrawler/nightcrawler/engine/CommittedBatches" "batches" "J" (.long (0 : Int64))) :
    Con l Z (⟨"com/example/nightcrawler/nightcrawler/engine/CommittedBatches", "batches", "()J"⟩ : MethodName) prog_3_method_4_code 1 (some .long) ws ({ frames := 0, cells := 0, slots := 0, locals := 0 } : Room) #[(.ref xa)] h0 (Q_rm_batches  h0 n0) := by
  refine Con.body (own := "com/example/nightcrawler/nightcrawler/engine/CommittedBatches") rfl (plainFor_of_name pn_20) (fun m => ef_rmAC m _) ?_
  intro p e s m below meth c s₁ Bd hx hby hml hZ hown X0 e0 Qf hQf
  have N0 := Fr.nil n0
  obtain ⟨S_w3, E_w3, S_w0, E_w0, S_w2, E_w2, F_elements_w2, E_w1, S_w4, E_w4, F_allowNulls_w2, S_w_ImmutableCollections__assertionsDisabled, V_w3, V_w0, V_w1, S_cs, nz_cs, M_OA⟩ := id NF
  refine Goes.to (T' := s₁.setTop (mkF m 1 #[.val (.ref xa)] [(.ref xa)])) (fun t k => XS.aloadN X0.here hx rfl (hb hby d20_0) rfl rfl k) ?_
  obtain ⟨T1, X1, e1, st1⟩ := getF X0 hx hZ hown (host := "") (Or.inl (wi hw 60 rfl)) Via.refl e0 F_batches_xa (g := (mkF m 1 #[.val (.ref xa)] [(.ref xa)])) rfl rfl (hb hby d20_1)
  refine Goes.to (T' := T1.setTop (mkF m 4 #[.val (.ref xa)] [(.long (0 : Int64))])) st1 ?_
  obtain ⟨fs, hrL, hrun, hended, hW, hsame⟩ := X1.leave (v := some (.long (0 : Int64))) (fun h => by rw [Bd.returns] at h; cases h)
  subst hQf
  refine ⟨_, _, retOut X1 hx Bd.returns rfl (Or.inr (Or.inl ⟨rfl, rfl, _, rfl⟩)) (hb hby d20_4) hrL, hrun, hended, _, _, rfl, ?_, ⟨_, rfl⟩, hW, hsame.mono (by decide) (by decide)⟩
  show Q_rm_batches  h0 n0 (some (.long (0 : Int64))) T1.heap _
  rw [e1]
  exact ⟨rfl, N0, rfl⟩
theorem d21_0 : decode prog_3_method_5_code 0 = .ok (.aload_n 0, 1) := by decide +kernel
theorem d21_1 : decode prog_3_method_5_code 1 = .ok (.getfield 13, 3) := by decide +kernel
theorem d21_4 : decode prog_3_method_5_code 4 = .ok (.lreturn, 1) := by decide +kernel
theorem pn_21 : plainName "com/example/nightcrawler/nightcrawler/engine/CommittedBatches" = true := by first | (simp [plainName, overriddenIn]; done) | decide +kernel
def Q_rm_deleted  (h0 : Heap) (n0 : Nat) (v : Option Value) (h : Heap) (L : List Loc) : Prop := v = some (.long (0 : Int64)) ∧ Fr n0 L ∧ h = h0
theorem rm_deleted (hw : HW a0 Z) (xa : Addr) (h0 : Heap) (n0 : Nat) (O0 : Old Z n0 h0) (NF : Nar Z w3 w0 w2 w1 w4 k_w3 k_w0 k_w1 z_cs w5) (F_deleted_xa : Fld Z h0 xa "com/example/nightcrawler/nightcrawler/engine/CommittedBatches" "deleted" "J" (.long (0 : Int64))) :
    Con l Z (⟨"com/example/nightcrawler/nightcrawler/engine/CommittedBatches", "deleted", "()J"⟩ : MethodName) prog_3_method_5_code 1 (some .long) ws ({ frames := 0, cells := 0, slots := 0, locals := 0 } : Room) #[(.ref xa)] h0 (Q_rm_deleted  h0 n0) := by
  refine Con.body (own := "com/example/nightcrawler/nightcrawler/engine/CommittedBatches") rfl (plainFor_of_name pn_21) (fun m => ef_rmAC m _) ?_
  intro p e s m below meth c s₁ Bd hx hby hml hZ hown X0 e0 Qf hQf
  have N0 := Fr.nil n0
  obtain ⟨S_w3, E_w3, S_w0, E_w0, S_w2, E_w2, F_elements_w2, E_w1, S_w4, E_w4, F_allowNulls_w2, S_w_ImmutableCollections__assertionsDisabled, V_w3, V_w0, V_w1, S_cs, nz_cs, M_OA⟩ := id NF
  refine Goes.to (T' := s₁.setTop (mkF m 1 #[.val (.ref xa)] [(.ref xa)])) (fun t k => XS.aloadN X0.here hx rfl (hb hby d21_0) rfl rfl k) ?_
  obtain ⟨T1, X1, e1, st1⟩ := getF X0 hx hZ hown (host := "") (Or.inl (wi hw 62 rfl)) Via.refl e0 F_deleted_xa (g := (mkF m 1 #[.val (.ref xa)] [(.ref xa)])) rfl rfl (hb hby d21_1)
  refine Goes.to (T' := T1.setTop (mkF m 4 #[.val (.ref xa)] [(.long (0 : Int64))])) st1 ?_
  obtain ⟨fs, hrL, hrun, hended, hW, hsame⟩ := X1.leave (v := some (.long (0 : Int64))) (fun h => by rw [Bd.returns] at h; cases h)
  subst hQf
  refine ⟨_, _, retOut X1 hx Bd.returns rfl (Or.inr (Or.inl ⟨rfl, rfl, _, rfl⟩)) (hb hby d21_4) hrL, hrun, hended, _, _, rfl, ?_, ⟨_, rfl⟩, hW, hsame.mono (by decide) (by decide)⟩
  show Q_rm_deleted  h0 n0 (some (.long (0 : Int64))) T1.heap _
  rw [e1]
  exact ⟨rfl, N0, rfl⟩
theorem d22_0 : decode prog_3_method_6_code 0 = .ok (.aload_n 0, 1) := by decide +kernel
theorem d22_1 : decode prog_3_method_6_code 1 = .ok (.getfield 16, 3) := by decide +kernel
theorem d22_4 : decode prog_3_method_6_code 4 = .ok (.lreturn, 1) := by decide +kernel
theorem pn_22 : plainName "com/example/nightcrawler/nightcrawler/engine/CommittedBatches" = true := by first | (simp [plainName, overriddenIn]; done) | decide +kernel
def Q_rm_lost  (h0 : Heap) (n0 : Nat) (v : Option Value) (h : Heap) (L : List Loc) : Prop := v = some (.long (0 : Int64)) ∧ Fr n0 L ∧ h = h0
theorem rm_lost (hw : HW a0 Z) (xa : Addr) (h0 : Heap) (n0 : Nat) (O0 : Old Z n0 h0) (NF : Nar Z w3 w0 w2 w1 w4 k_w3 k_w0 k_w1 z_cs w5) (F_lost_xa : Fld Z h0 xa "com/example/nightcrawler/nightcrawler/engine/CommittedBatches" "lost" "J" (.long (0 : Int64))) :
    Con l Z (⟨"com/example/nightcrawler/nightcrawler/engine/CommittedBatches", "lost", "()J"⟩ : MethodName) prog_3_method_6_code 1 (some .long) ws ({ frames := 0, cells := 0, slots := 0, locals := 0 } : Room) #[(.ref xa)] h0 (Q_rm_lost  h0 n0) := by
  refine Con.body (own := "com/example/nightcrawler/nightcrawler/engine/CommittedBatches") rfl (plainFor_of_name pn_22) (fun m => ef_rmAC m _) ?_
  intro p e s m below meth c s₁ Bd hx hby hml hZ hown X0 e0 Qf hQf
  have N0 := Fr.nil n0
  obtain ⟨S_w3, E_w3, S_w0, E_w0, S_w2, E_w2, F_elements_w2, E_w1, S_w4, E_w4, F_allowNulls_w2, S_w_ImmutableCollections__assertionsDisabled, V_w3, V_w0, V_w1, S_cs, nz_cs, M_OA⟩ := id NF
  refine Goes.to (T' := s₁.setTop (mkF m 1 #[.val (.ref xa)] [(.ref xa)])) (fun t k => XS.aloadN X0.here hx rfl (hb hby d22_0) rfl rfl k) ?_
  obtain ⟨T1, X1, e1, st1⟩ := getF X0 hx hZ hown (host := "") (Or.inl (wi hw 64 rfl)) Via.refl e0 F_lost_xa (g := (mkF m 1 #[.val (.ref xa)] [(.ref xa)])) rfl rfl (hb hby d22_1)
  refine Goes.to (T' := T1.setTop (mkF m 4 #[.val (.ref xa)] [(.long (0 : Int64))])) st1 ?_
  obtain ⟨fs, hrL, hrun, hended, hW, hsame⟩ := X1.leave (v := some (.long (0 : Int64))) (fun h => by rw [Bd.returns] at h; cases h)
  subst hQf
  refine ⟨_, _, retOut X1 hx Bd.returns rfl (Or.inr (Or.inl ⟨rfl, rfl, _, rfl⟩)) (hb hby d22_4) hrL, hrun, hended, _, _, rfl, ?_, ⟨_, rfl⟩, hW, hsame.mono (by decide) (by decide)⟩
  show Q_rm_lost  h0 n0 (some (.long (0 : Int64))) T1.heap _
  rw [e1]
  exact ⟨rfl, N0, rfl⟩
theorem d23_0 : decode prog_3_method_7_code 0 = .ok (.aload_n 0, 1) := by decide +kernel
theorem d23_1 : decode prog_3_method_7_code 1 = .ok (.getfield 19, 3) := by decide +kernel
theorem d23_4 : decode prog_3_method_7_code 4 = .ok (.ireturn, 1) := by decide +kernel
theorem pn_23 : plainName "com/example/nightcrawler/nightcrawler/engine/CommittedBatches" = true := by first | (simp [plainName, overriddenIn]; done) | decide +kernel
def Q_rm_usedUp  (h0 : Heap) (n0 : Nat) (v : Option Value) (h : Heap) (L : List Loc) : Prop := v = some (.int (1 : Int32)) ∧ Fr n0 L ∧ h = h0
theorem rm_usedUp (hw : HW a0 Z) (xa : Addr) (h0 : Heap) (n0 : Nat) (O0 : Old Z n0 h0) (NF : Nar Z w3 w0 w2 w1 w4 k_w3 k_w0 k_w1 z_cs w5) (F_usedUp_xa : Fld Z h0 xa "com/example/nightcrawler/nightcrawler/engine/CommittedBatches" "usedUp" "Z" (.int (1 : Int32))) :
    Con l Z (⟨"com/example/nightcrawler/nightcrawler/engine/CommittedBatches", "usedUp", "()Z"⟩ : MethodName) prog_3_method_7_code 1 (some .boolean) ws ({ frames := 0, cells := 0, slots := 0, locals := 0 } : Room) #[(.ref xa)] h0 (Q_rm_usedUp  h0 n0) := by
  refine Con.body (own := "com/example/nightcrawler/nightcrawler/engine/CommittedBatches") rfl (plainFor_of_name pn_23) (fun m => ef_rmAC m _) ?_
  intro p e s m below meth c s₁ Bd hx hby hml hZ hown X0 e0 Qf hQf
  have N0 := Fr.nil n0
  obtain ⟨S_w3, E_w3, S_w0, E_w0, S_w2, E_w2, F_elements_w2, E_w1, S_w4, E_w4, F_allowNulls_w2, S_w_ImmutableCollections__assertionsDisabled, V_w3, V_w0, V_w1, S_cs, nz_cs, M_OA⟩ := id NF
  refine Goes.to (T' := s₁.setTop (mkF m 1 #[.val (.ref xa)] [(.ref xa)])) (fun t k => XS.aloadN X0.here hx rfl (hb hby d23_0) rfl rfl k) ?_
  obtain ⟨T1, X1, e1, st1⟩ := getF X0 hx hZ hown (host := "") (Or.inl (wi hw 66 rfl)) Via.refl e0 F_usedUp_xa (g := (mkF m 1 #[.val (.ref xa)] [(.ref xa)])) rfl rfl (hb hby d23_1)
  refine Goes.to (T' := T1.setTop (mkF m 4 #[.val (.ref xa)] [(.int (1 : Int32))])) st1 ?_
  obtain ⟨fs, hrL, hrun, hended, hW, hsame⟩ := X1.leave (v := some (.int (1 : Int32))) (fun h => by rw [Bd.returns] at h; cases h)
  subst hQf
  refine ⟨_, _, retN X1 hx (t := .boolean) Bd.returns (by simp) (hb hby d23_4) hrL, hrun, hended, _, _, rfl, ?_, ⟨_, rfl⟩, hW, hsame.mono (by decide) (by decide)⟩
  show Q_rm_usedUp  h0 n0 (some (.int (1 : Int32))) T1.heap _
  rw [e1]
  exact ⟨rfl, N0, rfl⟩
theorem d19_0 : decode prog_3_method_8_code 0 = .ok (.aload_n 0, 1) := by decide +kernel
theorem d19_1 : decode prog_3_method_8_code 1 = .ok (.getfield 29, 3) := by decide +kernel
theorem d19_4 : decode prog_3_method_8_code 4 = .ok (.areturn, 1) := by decide +kernel
theorem pn_19 : plainName "com/example/nightcrawler/nightcrawler/engine/CommittedBatches" = true := by first | (simp [plainName, overriddenIn]; done) | decide +kernel
def Q_rm_last (rv : Addr) (h0 : Heap) (n0 : Nat) (v : Option Value) (h : Heap) (L : List Loc) : Prop := v = some (.ref rv) ∧ Fr n0 L ∧ h = h0
theorem rm_last (hw : HW a0 Z) (xa : Addr) (rv : Addr) (h0 : Heap) (n0 : Nat) (O0 : Old Z n0 h0) (NF : Nar Z w3 w0 w2 w1 w4 k_w3 k_w0 k_w1 z_cs w5) (F_last_xa : Fld Z h0 xa "com/example/nightcrawler/nightcrawler/engine/CommittedBatches" "last" "Ljava/util/List;" (.ref rv)) :
    Con l Z (⟨"com/example/nightcrawler/nightcrawler/engine/CommittedBatches", "last", "()Ljava/util/List;"⟩ : MethodName) prog_3_method_8_code 1 (some (.object "java/util/List")) ws ({ frames := 0, cells := 0, slots := 0, locals := 0 } : Room) #[(.ref xa)] h0 (Q_rm_last rv h0 n0) := by
  refine Con.body (own := "com/example/nightcrawler/nightcrawler/engine/CommittedBatches") rfl (plainFor_of_name pn_19) (fun m => ef_rmAC m _) ?_
  intro p e s m below meth c s₁ Bd hx hby hml hZ hown X0 e0 Qf hQf
  have N0 := Fr.nil n0
  obtain ⟨S_w3, E_w3, S_w0, E_w0, S_w2, E_w2, F_elements_w2, E_w1, S_w4, E_w4, F_allowNulls_w2, S_w_ImmutableCollections__assertionsDisabled, V_w3, V_w0, V_w1, S_cs, nz_cs, M_OA⟩ := id NF
  refine Goes.to (T' := s₁.setTop (mkF m 1 #[.val (.ref xa)] [(.ref xa)])) (fun t k => XS.aloadN X0.here hx rfl (hb hby d19_0) rfl rfl k) ?_
  obtain ⟨T1, X1, e1, st1⟩ := getF X0 hx hZ hown (host := "") (Or.inl (wi hw 97 rfl)) Via.refl e0 F_last_xa (g := (mkF m 1 #[.val (.ref xa)] [(.ref xa)])) rfl rfl (hb hby d19_1)
  refine Goes.to (T' := T1.setTop (mkF m 4 #[.val (.ref xa)] [(.ref rv)])) st1 ?_
  obtain ⟨fs, hrL, hrun, hended, hW, hsame⟩ := X1.leave (v := some (.ref rv)) (fun h => by rw [Bd.returns] at h; cases h)
  subst hQf
  refine ⟨_, _, retOut X1 hx Bd.returns rfl (Or.inr (Or.inr (Or.inr (Or.inr ⟨rfl, rfl, rfl⟩)))) (hb hby d19_4) hrL, hrun, hended, _, _, rfl, ?_, ⟨_, rfl⟩, hW, hsame.mono (by decide) (by decide)⟩
  show Q_rm_last rv h0 n0 (some (.ref rv)) T1.heap _
  rw [e1]
  exact ⟨rfl, N0, rfl⟩
theorem d24_0 : decode jdk_45_method_3_code 0 = .ok (.aload_n 0, 1) := by decide +kernel
theorem d24_1 : decode jdk_45_method_3_code 1 = .ok (.getfield 7, 3) := by decide +kernel
theorem d24_4 : decode jdk_45_method_3_code 4 = .ok (.arraylength, 1) := by decide +kernel
theorem d24_5 : decode jdk_45_method_3_code 5 = .ok (.ireturn, 1) := by decide +kernel
theorem pn_24 : plainName "java/util/ImmutableCollections$ListN" = true := by first | (simp [plainName, overriddenIn]; done) | decide +kernel
def Q_rmN0  (h0 : Heap) (n0 : Nat) (v : Option Value) (h : Heap) (L : List Loc) : Prop := v = some (.int 0) ∧ Fr n0 L ∧ h = h0
theorem rmN0 (hw : HW a0 Z)  (h0 : Heap) (n0 : Nat) (O0 : Old Z n0 h0) (NF : Nar Z w3 w0 w2 w1 w4 k_w3 k_w0 k_w1 z_cs w5) :
    Con l Z (⟨"java/util/ImmutableCollections$ListN", "size", "()I"⟩ : MethodName) jdk_45_method_3_code 1 (some .int) ws ({ frames := 0, cells := 0, slots := 0, locals := 0 } : Room) #[(.ref w2)] h0 (Q_rmN0  h0 n0) := by
  refine Con.body (own := "java/util/ImmutableCollections$ListN") rfl (plainFor_of_name pn_24) (fun m => ef_rmAC m _) ?_
  intro p e s m below meth c s₁ Bd hx hby hml hZ hown X0 e0 Qf hQf
  have N0 := Fr.nil n0
  obtain ⟨S_w3, E_w3, S_w0, E_w0, S_w2, E_w2, F_elements_w2, E_w1, S_w4, E_w4, F_allowNulls_w2, S_w_ImmutableCollections__assertionsDisabled, V_w3, V_w0, V_w1, S_cs, nz_cs, M_OA⟩ := id NF
  refine Goes.to (T' := s₁.setTop (mkF m 1 #[.val (.ref w2)] [(.ref w2)])) (fun t k => XS.aloadN X0.here hx rfl (hb hby d24_0) rfl rfl k) ?_
  obtain ⟨T1, X1, e1, st1⟩ := getF X0 hx hZ hown (host := "") (Or.inl (wi hw 163 rfl)) Via.refl e0 (F_elements_w2.ext O0.2) (g := (mkF m 1 #[.val (.ref w2)] [(.ref w2)])) rfl rfl (hb hby d24_1)
  refine Goes.to (T' := T1.setTop (mkF m 4 #[.val (.ref w2)] [(.ref w1)])) st1 ?_
  obtain ⟨cl2, Ar2, q2, S2, Ng2, H2, G2⟩ := id (V_w1.ext O0.2)
  refine Goes.to (T' := T1.setTop (mkF m 5 #[.val (.ref w2)] [(.int (0 : Int32))])) (fun t k => X1.arraylength hx (by rw [e1]; exact Ar2.1) (State.isArrayOf_alike hZ.alike Ar2.2.1) (g := (mkF m 4 #[.val (.ref w2)] [(.ref w1)])) rfl rfl (hb hby d24_4) _ (by rw [len_of S2 Ng2]; exact k)) ?_
  obtain ⟨fs, hrL, hrun, hended, hW, hsame⟩ := X1.leave (v := some (.int (0 : Int32))) (fun h => by rw [Bd.returns] at h; cases h)
  subst hQf
  refine ⟨_, _, retOut X1 hx Bd.returns rfl (Or.inl ⟨rfl, Or.inl rfl, _, rfl⟩) (hb hby d24_5) hrL, hrun, hended, _, _, rfl, ?_, ⟨_, rfl⟩, hW, hsame.mono (by decide) (by decide)⟩
  show Q_rmN0  h0 n0 (some (.int (0 : Int32))) T1.heap _
  rw [e1]
  exact ⟨rfl, N0, rfl⟩
theorem d45_0 : decode jdk_44_method_3_code 0 = .ok (.aload_n 0, 1) := by decide +kernel
theorem d45_1 : decode jdk_44_method_3_code 1 = .ok (.getfield 24, 3) := by decide +kernel
theorem d45_4 : decode jdk_44_method_3_code 4 = .ok (.getstatic 19, 3) := by decide +kernel
theorem d45_7 : decode jdk_44_method_3_code 7 = .ok (.if_acmp .eq 7, 3) := by decide +kernel
theorem d45_14 : decode jdk_44_method_3_code 14 = .ok (.iconst 1, 1) := by decide +kernel
theorem d45_15 : decode jdk_44_method_3_code 15 = .ok (.ireturn, 1) := by decide +kernel
theorem pn_45 : plainName "java/util/ImmutableCollections$List12" = true := by first | (simp [plainName, overriddenIn]; done) | decide +kernel
def Q_rmN1  (h0 : Heap) (n0 : Nat) (v : Option Value) (h : Heap) (L : List Loc) : Prop := v = some (.int 1) ∧ Fr n0 L ∧ h = h0
theorem rmN1 (hw : HW a0 Z) (xa : Addr) (h0 : Heap) (n0 : Nat) (O0 : Old Z n0 h0) (NF : Nar Z w3 w0 w2 w1 w4 k_w3 k_w0 k_w1 z_cs w5) (F_e1_xa : Fld Z h0 xa "java/util/ImmutableCollections$List12" "e1" "Ljava/lang/Object;" (.ref w4)) :
    Con l Z (⟨"java/util/ImmutableCollections$List12", "size", "()I"⟩ : MethodName) jdk_44_method_3_code 1 (some .int) ws ({ frames := 0, cells := 0, slots := 0, locals := 0 } : Room) #[(.ref xa)] h0 (Q_rmN1  h0 n0) := by
  refine Con.body (own := "java/util/ImmutableCollections$List12") rfl (plainFor_of_name pn_45) (fun m => ef_rmAC m _) ?_
  intro p e s m below meth c s₁ Bd hx hby hml hZ hown X0 e0 Qf hQf
  have N0 := Fr.nil n0
  obtain ⟨S_w3, E_w3, S_w0, E_w0, S_w2, E_w2, F_elements_w2, E_w1, S_w4, E_w4, F_allowNulls_w2, S_w_ImmutableCollections__assertionsDisabled, V_w3, V_w0, V_w1, S_cs, nz_cs, M_OA⟩ := id NF
  refine Goes.to (T' := s₁.setTop (mkF m 1 #[.val (.ref xa)] [(.ref xa)])) (fun t k => XS.aloadN X0.here hx rfl (hb hby d45_0) rfl rfl k) ?_
  obtain ⟨T1, X1, e1, st1⟩ := getF X0 hx hZ hown (host := "") (Or.inl (wi hw 279 rfl)) Via.refl e0 F_e1_xa (g := (mkF m 1 #[.val (.ref xa)] [(.ref xa)])) rfl rfl (hb hby d45_1)
  refine Goes.to (T' := T1.setTop (mkF m 4 #[.val (.ref xa)] [(.ref w4)])) st1 ?_
  obtain ⟨T2, X2, e2, st2⟩ := getS2 X1 hx hZ hown (Or.inr (wi hw 287 rfl)) Via.refl e1 (S_w4.ext O0.2) (g := (mkF m 4 #[.val (.ref xa)] [(.ref w4)])) rfl (hb hby d45_4)
  refine Goes.to (T' := T2.setTop (mkF m 7 #[.val (.ref xa)] [(.ref w4), (.ref w4)])) st2 ?_
  refine Goes.to (T' := T2.setTop (mkF m 14 #[.val (.ref xa)] [])) (fun t k => Jvm.RoadKit.acmp (g := (mkF m 7 #[.val (.ref xa)] [(.ref w4), (.ref w4)])) X2 hx rfl rfl rfl (pc0 := 7) (pc' := 14) (same := true) rfl (hb hby d45_7) rfl (decide_eq_true rfl) (by decide) (by decide) k) ?_
  refine Goes.to (T' := T2.setTop (mkF m 15 #[.val (.ref xa)] [(.int (1 : Int32))])) (fun t k => XS.iconst X2.here hx rfl (hb hby d45_14) k) ?_
  obtain ⟨fs, hrL, hrun, hended, hW, hsame⟩ := X2.leave (v := some (.int (1 : Int32))) (fun h => by rw [Bd.returns] at h; cases h)
  subst hQf
  refine ⟨_, _, retOut X2 hx Bd.returns rfl (Or.inl ⟨rfl, Or.inl rfl, _, rfl⟩) (hb hby d45_15) hrL, hrun, hended, _, _, rfl, ?_, ⟨_, rfl⟩, hW, hsame.mono (by decide) (by decide)⟩
  show Q_rmN1  h0 n0 (some (.int (1 : Int32))) T2.heap _
  rw [e2]
  exact ⟨rfl, N0, rfl⟩
theorem d45_10 : decode jdk_44_method_3_code 10 = .ok (.iconst 2, 1) := by decide +kernel
theorem d45_11 : decode jdk_44_method_3_code 11 = .ok (.goto 4, 3) := by decide +kernel
def Q_rmN2  (h0 : Heap) (n0 : Nat) (v : Option Value) (h : Heap) (L : List Loc) : Prop := v = some (.int 2) ∧ Fr n0 L ∧ h = h0
theorem rmN2 (hw : HW a0 Z) (xa : Addr) (x1_ : Addr) (h0 : Heap) (n0 : Nat) (O0 : Old Z n0 h0) (NF : Nar Z w3 w0 w2 w1 w4 k_w3 k_w0 k_w1 z_cs w5) (F_e1_xa : Fld Z h0 xa "java/util/ImmutableCollections$List12" "e1" "Ljava/lang/Object;" (.ref x1_)) (hne : ¬ x1_ = w4) :
    Con l Z (⟨"java/util/ImmutableCollections$List12", "size", "()I"⟩ : MethodName) jdk_44_method_3_code 1 (some .int) ws ({ frames := 0, cells := 0, slots := 0, locals := 0 } : Room) #[(.ref xa)] h0 (Q_rmN2  h0 n0) := by
  refine Con.body (own := "java/util/ImmutableCollections$List12") rfl (plainFor_of_name pn_45) (fun m => ef_rmAC m _) ?_
  intro p e s m below meth c s₁ Bd hx hby hml hZ hown X0 e0 Qf hQf
  have N0 := Fr.nil n0
  obtain ⟨S_w3, E_w3, S_w0, E_w0, S_w2, E_w2, F_elements_w2, E_w1, S_w4, E_w4, F_allowNulls_w2, S_w_ImmutableCollections__assertionsDisabled, V_w3, V_w0, V_w1, S_cs, nz_cs, M_OA⟩ := id NF
  refine Goes.to (T' := s₁.setTop (mkF m 1 #[.val (.ref xa)] [(.ref xa)])) (fun t k => XS.aloadN X0.here hx rfl (hb hby d45_0) rfl rfl k) ?_
  obtain ⟨T1, X1, e1, st1⟩ := getF X0 hx hZ hown (host := "") (Or.inl (wi hw 279 rfl)) Via.refl e0 F_e1_xa (g := (mkF m 1 #[.val (.ref xa)] [(.ref xa)])) rfl rfl (hb hby d45_1)
  refine Goes.to (T' := T1.setTop (mkF m 4 #[.val (.ref xa)] [(.ref x1_)])) st1 ?_
  obtain ⟨T2, X2, e2, st2⟩ := getS2 X1 hx hZ hown (Or.inr (wi hw 287 rfl)) Via.refl e1 (S_w4.ext O0.2) (g := (mkF m 4 #[.val (.ref xa)] [(.ref x1_)])) rfl (hb hby d45_4)
  refine Goes.to (T' := T2.setTop (mkF m 7 #[.val (.ref xa)] [(.ref w4), (.ref x1_)])) st2 ?_
  refine Goes.to (T' := T2.setTop (mkF m 10 #[.val (.ref xa)] [])) (fun t k => Jvm.RoadKit.acmp (g := (mkF m 7 #[.val (.ref xa)] [(.ref w4), (.ref x1_)])) X2 hx rfl rfl rfl (pc0 := 7) (pc' := 10) (same := false) rfl (hb hby d45_7) rfl (decide_eq_false fun q => hne (Value.ref.inj q)) (by decide) (by decide) k) ?_
  refine Goes.to (T' := T2.setTop (mkF m 11 #[.val (.ref xa)] [(.int (2 : Int32))])) (fun t k => XS.iconst X2.here hx rfl (hb hby d45_10) k) ?_
  refine Goes.to (T' := T2.setTop (mkF m 15 #[.val (.ref xa)] [(.int (2 : Int32))])) (fun t k => XS.goto X2.here hx rfl (pc0 := 11) (pc' := 15) rfl (hb hby d45_11) (by decide) (by decide) k) ?_
  obtain ⟨fs, hrL, hrun, hended, hW, hsame⟩ := X2.leave (v := some (.int (2 : Int32))) (fun h => by rw [Bd.returns] at h; cases h)
  subst hQf
  refine ⟨_, _, retOut X2 hx Bd.returns rfl (Or.inl ⟨rfl, Or.inl rfl, _, rfl⟩) (hb hby d45_15) hrL, hrun, hended, _, _, rfl, ?_, ⟨_, rfl⟩, hW, hsame.mono (by decide) (by decide)⟩
  show Q_rmN2  h0 n0 (some (.int (2 : Int32))) T2.heap _
  rw [e2]
  exact ⟨rfl, N0, rfl⟩
theorem d46_0 : decode jdk_44_method_5_code 0 = .ok (.iload_n 1, 1) := by decide +kernel
theorem d46_1 : decode jdk_44_method_5_code 1 = .ok (.ifCond .ne 8, 3) := by decide +kernel
theorem d46_4 : decode jdk_44_method_5_code 4 = .ok (.aload_n 0, 1) := by decide +kernel
theorem d46_5 : decode jdk_44_method_5_code 5 = .ok (.getfield 13, 3) := by decide +kernel
theorem d46_8 : decode jdk_44_method_5_code 8 = .ok (.areturn, 1) := by decide +kernel
theorem pn_46 : plainName "java/util/ImmutableCollections$List12" = true := by first | (simp [plainName, overriddenIn]; done) | decide +kernel
def Q_rmG0 (x0_ : Addr) (h0 : Heap) (n0 : Nat) (v : Option Value) (h : Heap) (L : List Loc) : Prop := v = some (.ref x0_) ∧ Fr n0 L ∧ h = h0
theorem rmG0 (hw : HW a0 Z) (xa : Addr) (x0_ : Addr) (h0 : Heap) (n0 : Nat) (O0 : Old Z n0 h0) (NF : Nar Z w3 w0 w2 w1 w4 k_w3 k_w0 k_w1 z_cs w5) (F_e0_xa : Fld Z h0 xa "java/util/ImmutableCollections$List12" "e0" "Ljava/lang/Object;" (.ref x0_)) :
    Con l Z (⟨"java/util/ImmutableCollections$List12", "get", "(I)Ljava/lang/Object;"⟩ : MethodName) jdk_44_method_5_code 2 (some (.object "java/lang/Object")) ws ({ frames := 0, cells := 0, slots := 0, locals := 0 } : Room) #[(.ref xa), (.int (0 : Int32))] h0 (Q_rmG0 x0_ h0 n0) := by
  refine Con.body (own := "java/util/ImmutableCollections$List12") rfl (plainFor_of_name pn_46) (fun m => ef_rmC2_1 m _ _) ?_
  intro p e s m below meth c s₁ Bd hx hby hml hZ hown X0 e0 Qf hQf
  have N0 := Fr.nil n0
  obtain ⟨S_w3, E_w3, S_w0, E_w0, S_w2, E_w2, F_elements_w2, E_w1, S_w4, E_w4, F_allowNulls_w2, S_w_ImmutableCollections__assertionsDisabled, V_w3, V_w0, V_w1, S_cs, nz_cs, M_OA⟩ := id NF
  refine Goes.to (T' := s₁.setTop (mkF m 1 #[.val (.ref xa), .val (.int (0 : Int32))] [(.int (0 : Int32))])) (fun t k => XS.iloadN X0.here hx rfl (hb hby d46_0) rfl k) ?_
  refine Goes.to (T' := s₁.setTop (mkF m 4 #[.val (.ref xa), .val (.int (0 : Int32))] [])) (fun t k => XS.ifNo X0.here hx rfl (hb hby d46_1) rfl ((if0 _ _).trans (teq (by decide)).2) k) ?_
  refine Goes.to (T' := s₁.setTop (mkF m 5 #[.val (.ref xa), .val (.int (0 : Int32))] [(.ref xa)])) (fun t k => XS.aloadN X0.here hx rfl (hb hby d46_4) rfl rfl k) ?_
  obtain ⟨T1, X1, e1, st1⟩ := getF X0 hx hZ hown (host := "") (Or.inl (wi hw 277 rfl)) Via.refl e0 F_e0_xa (g := (mkF m 5 #[.val (.ref xa), .val (.int (0 : Int32))] [(.ref xa)])) rfl rfl (hb hby d46_5)
  refine Goes.to (T' := T1.setTop (mkF m 8 #[.val (.ref xa), .val (.int (0 : Int32))] [(.ref x0_)])) st1 ?_
  obtain ⟨fs, hrL, hrun, hended, hW, hsame⟩ := X1.leave (v := some (.ref x0_)) (fun h => by rw [Bd.returns] at h; cases h)
  subst hQf
  refine ⟨_, _, retOut X1 hx Bd.returns rfl (Or.inr (Or.inr (Or.inr (Or.inr ⟨rfl, rfl, rfl⟩)))) (hb hby d46_8) hrL, hrun, hended, _, _, rfl, ?_, ⟨_, rfl⟩, hW, hsame.mono (by decide) (by decide)⟩
  show Q_rmG0 x0_ h0 n0 (some (.ref x0_)) T1.heap _
  rw [e1]
  exact ⟨rfl, N0, rfl⟩
theorem d46_9 : decode jdk_44_method_5_code 9 = .ok (.iload_n 1, 1) := by decide +kernel
theorem d46_10 : decode jdk_44_method_5_code 10 = .ok (.iconst 1, 1) := by decide +kernel
theorem d46_11 : decode jdk_44_method_5_code 11 = .ok (.if_icmp .ne 18, 3) := by decide +kernel
theorem d46_14 : decode jdk_44_method_5_code 14 = .ok (.aload_n 0, 1) := by decide +kernel
theorem d46_15 : decode jdk_44_method_5_code 15 = .ok (.getfield 24, 3) := by decide +kernel
theorem d46_18 : decode jdk_44_method_5_code 18 = .ok (.getstatic 19, 3) := by decide +kernel
theorem d46_21 : decode jdk_44_method_5_code 21 = .ok (.if_acmp .eq 8, 3) := by decide +kernel
theorem d46_24 : decode jdk_44_method_5_code 24 = .ok (.aload_n 0, 1) := by decide +kernel
theorem d46_25 : decode jdk_44_method_5_code 25 = .ok (.getfield 24, 3) := by decide +kernel
theorem d46_28 : decode jdk_44_method_5_code 28 = .ok (.areturn, 1) := by decide +kernel
def Q_rmG1 (x1_ : Addr) (h0 : Heap) (n0 : Nat) (v : Option Value) (h : Heap) (L : List Loc) : Prop := v = some (.ref x1_) ∧ Fr n0 L ∧ h = h0
theorem rmG1 (hw : HW a0 Z) (xa : Addr) (x1_ : Addr) (h0 : Heap) (n0 : Nat) (O0 : Old Z n0 h0) (NF : Nar Z w3 w0 w2 w1 w4 k_w3 k_w0 k_w1 z_cs w5) (F_e1_xa : Fld Z h0 xa "java/util/ImmutableCollections$List12" "e1" "Ljava/lang/Object;" (.ref x1_)) (hne : ¬ x1_ = w4) :
    Con l Z (⟨"java/util/ImmutableCollections$List12", "get", "(I)Ljava/lang/Object;"⟩ : MethodName) jdk_44_method_5_code 2 (some (.object "java/lang/Object")) ws ({ frames := 0, cells := 0, slots := 0, locals := 0 } : Room) #[(.ref xa), (.int (1 : Int32))] h0 (Q_rmG1 x1_ h0 n0) := by
  refine Con.body (own := "java/util/ImmutableCollections$List12") rfl (plainFor_of_name pn_46) (fun m => ef_rmC2_1 m _ _) ?_
  intro p e s m below meth c s₁ Bd hx hby hml hZ hown X0 e0 Qf hQf
  have N0 := Fr.nil n0
  obtain ⟨S_w3, E_w3, S_w0, E_w0, S_w2, E_w2, F_elements_w2, E_w1, S_w4, E_w4, F_allowNulls_w2, S_w_ImmutableCollections__assertionsDisabled, V_w3, V_w0, V_w1, S_cs, nz_cs, M_OA⟩ := id NF
  refine Goes.to (T' := s₁.setTop (mkF m 1 #[.val (.ref xa), .val (.int (1 : Int32))] [(.int (1 : Int32))])) (fun t k => XS.iloadN X0.here hx rfl (hb hby d46_0) rfl k) ?_
  refine Goes.to (T' := s₁.setTop (mkF m 9 #[.val (.ref xa), .val (.int (1 : Int32))] [])) (fun t k => XS.ifYes X0.here hx rfl (pc0 := 1) (pc' := 9) rfl (hb hby d46_1) rfl ((if0 _ _).trans (feq (by decide)).2) (by decide) (by decide) k) ?_
  refine Goes.to (T' := s₁.setTop (mkF m 10 #[.val (.ref xa), .val (.int (1 : Int32))] [(.int (1 : Int32))])) (fun t k => XS.iloadN X0.here hx rfl (hb hby d46_9) rfl k) ?_
  refine Goes.to (T' := s₁.setTop (mkF m 11 #[.val (.ref xa), .val (.int (1 : Int32))] [(.int (1 : Int32)), (.int (1 : Int32))])) (fun t k => XS.iconst X0.here hx rfl (hb hby d46_10) k) ?_
  refine Goes.to (T' := s₁.setTop (mkF m 14 #[.val (.ref xa), .val (.int (1 : Int32))] [])) (fun t k => XS.icmpNo X0.here hx rfl (hb hby d46_11) rfl (teq (by decide)).2 k) ?_
  refine Goes.to (T' := s₁.setTop (mkF m 15 #[.val (.ref xa), .val (.int (1 : Int32))] [(.ref xa)])) (fun t k => XS.aloadN X0.here hx rfl (hb hby d46_14) rfl rfl k) ?_
  obtain ⟨T1, X1, e1, st1⟩ := getF X0 hx hZ hown (host := "") (Or.inl (wi hw 279 rfl)) Via.refl e0 F_e1_xa (g := (mkF m 15 #[.val (.ref xa), .val (.int (1 : Int32))] [(.ref xa)])) rfl rfl (hb hby d46_15)
  refine Goes.to (T' := T1.setTop (mkF m 18 #[.val (.ref xa), .val (.int (1 : Int32))] [(.ref x1_)])) st1 ?_
  obtain ⟨T2, X2, e2, st2⟩ := getS2 X1 hx hZ hown (Or.inr (wi hw 287 rfl)) Via.refl e1 (S_w4.ext O0.2) (g := (mkF m 18 #[.val (.ref xa), .val (.int (1 : Int32))] [(.ref x1_)])) rfl (hb hby d46_18)
  refine Goes.to (T' := T2.setTop (mkF m 21 #[.val (.ref xa), .val (.int (1 : Int32))] [(.ref w4), (.ref x1_)])) st2 ?_
  refine Goes.to (T' := T2.setTop (mkF m 24 #[.val (.ref xa), .val (.int (1 : Int32))] [])) (fun t k => Jvm.RoadKit.acmp (g := (mkF m 21 #[.val (.ref xa), .val (.int (1 : Int32))] [(.ref w4), (.ref x1_)])) X2 hx rfl rfl rfl (pc0 := 21) (pc' := 24) (same := false) rfl (hb hby d46_21) rfl (decide_eq_false fun q => hne (Value.ref.inj q)) (by decide) (by decide) k) ?_
  refine Goes.to (T' := T2.setTop (mkF m 25 #[.val (.ref xa), .val (.int (1 : Int32))] [(.ref xa)])) (fun t k => XS.aloadN X2.here hx rfl (hb hby d46_24) rfl rfl k) ?_
  obtain ⟨T3, X3, e3, st3⟩ := getF X2 hx hZ hown (host := "") (Or.inl (wi hw 279 rfl)) Via.refl e2 F_e1_xa (g := (mkF m 25 #[.val (.ref xa), .val (.int (1 : Int32))] [(.ref xa)])) rfl rfl (hb hby d46_25)
  refine Goes.to (T' := T3.setTop (mkF m 28 #[.val (.ref xa), .val (.int (1 : Int32))] [(.ref x1_)])) st3 ?_
  obtain ⟨fs, hrL, hrun, hended, hW, hsame⟩ := X3.leave (v := some (.ref x1_)) (fun h => by rw [Bd.returns] at h; cases h)
  subst hQf
  refine ⟨_, _, retOut X3 hx Bd.returns rfl (Or.inr (Or.inr (Or.inr (Or.inr ⟨rfl, rfl, rfl⟩)))) (hb hby d46_28) hrL, hrun, hended, _, _, rfl, ?_, ⟨_, rfl⟩, hW, hsame.mono (by decide) (by decide)⟩
  show Q_rmG1 x1_ h0 n0 (some (.ref x1_)) T3.heap _
  rw [e3]
  exact ⟨rfl, N0, rfl⟩
def Q_rmN3  (h0 : Heap) (n0 : Nat) (v : Option Value) (h : Heap) (L : List Loc) : Prop := v = some (.int 3) ∧ Fr n0 L ∧ h = h0
theorem rmN3 (hw : HW a0 Z) (xa : Addr) (tb : Addr) (kt : ClassId) (x0_ : Addr) (x1_ : Addr) (x2_ : Addr) (h0 : Heap) (n0 : Nat) (O0 : Old Z n0 h0) (NF : Nar Z w3 w0 w2 w1 w4 k_w3 k_w0 k_w1 z_cs w5) (F_elements_xa : Fld Z h0 xa "java/util/ImmutableCollections$ListN" "elements" "[Ljava/lang/Object;" (.ref tb)) (V_tb : Arv Z h0 tb kt (.object "java/lang/Object") (3 : Int32) [(.ref x0_), (.ref x1_), (.ref x2_)] .null) :
    Con l Z (⟨"java/util/ImmutableCollections$ListN", "size", "()I"⟩ : MethodName) jdk_45_method_3_code 1 (some .int) ws ({ frames := 0, cells := 0, slots := 0, locals := 0 } : Room) #[(.ref xa)] h0 (Q_rmN3  h0 n0) := by
  refine Con.body (own := "java/util/ImmutableCollections$ListN") rfl (plainFor_of_name pn_24) (fun m => ef_rmAC m _) ?_
  intro p e s m below meth c s₁ Bd hx hby hml hZ hown X0 e0 Qf hQf
  have N0 := Fr.nil n0
  obtain ⟨S_w3, E_w3, S_w0, E_w0, S_w2, E_w2, F_elements_w2, E_w1, S_w4, E_w4, F_allowNulls_w2, S_w_ImmutableCollections__assertionsDisabled, V_w3, V_w0, V_w1, S_cs, nz_cs, M_OA⟩ := id NF
  refine Goes.to (T' := s₁.setTop (mkF m 1 #[.val (.ref xa)] [(.ref xa)])) (fun t k => XS.aloadN X0.here hx rfl (hb hby d24_0) rfl rfl k) ?_
  obtain ⟨T1, X1, e1, st1⟩ := getF X0 hx hZ hown (host := "") (Or.inl (wi hw 163 rfl)) Via.refl e0 F_elements_xa (g := (mkF m 1 #[.val (.ref xa)] [(.ref xa)])) rfl rfl (hb hby d24_1)
  refine Goes.to (T' := T1.setTop (mkF m 4 #[.val (.ref xa)] [(.ref tb)])) st1 ?_
  obtain ⟨cl2, Ar2, q2, S2, Ng2, H2, G2⟩ := id V_tb
  refine Goes.to (T' := T1.setTop (mkF m 5 #[.val (.ref xa)] [(.int (3 : Int32))])) (fun t k => X1.arraylength hx (by rw [e1]; exact Ar2.1) (State.isArrayOf_alike hZ.alike Ar2.2.1) (g := (mkF m 4 #[.val (.ref xa)] [(.ref tb)])) rfl rfl (hb hby d24_4) _ (by rw [len_of S2 Ng2]; exact k)) ?_
  obtain ⟨fs, hrL, hrun, hended, hW, hsame⟩ := X1.leave (v := some (.int (3 : Int32))) (fun h => by rw [Bd.returns] at h; cases h)
  subst hQf
  refine ⟨_, _, retOut X1 hx Bd.returns rfl (Or.inl ⟨rfl, Or.inl rfl, _, rfl⟩) (hb hby d24_5) hrL, hrun, hended, _, _, rfl, ?_, ⟨_, rfl⟩, hW, hsame.mono (by decide) (by decide)⟩
  show Q_rmN3  h0 n0 (some (.int (3 : Int32))) T1.heap _
  rw [e1]
  exact ⟨rfl, N0, rfl⟩
theorem d35_0 : decode jdk_45_method_4_code 0 = .ok (.aload_n 0, 1) := by decide +kernel
theorem d35_1 : decode jdk_45_method_4_code 1 = .ok (.getfield 7, 3) := by decide +kernel
theorem d35_4 : decode jdk_45_method_4_code 4 = .ok (.iload_n 1, 1) := by decide +kernel
theorem d35_5 : decode jdk_45_method_4_code 5 = .ok (.aaload, 1) := by decide +kernel
theorem d35_6 : decode jdk_45_method_4_code 6 = .ok (.areturn, 1) := by decide +kernel
theorem pn_35 : plainName "java/util/ImmutableCollections$ListN" = true := by first | (simp [plainName, overriddenIn]; done) | decide +kernel
def Q_rmH0 (x0_ : Addr) (h0 : Heap) (n0 : Nat) (v : Option Value) (h : Heap) (L : List Loc) : Prop := v = some (.ref x0_) ∧ Fr n0 L ∧ h = h0
theorem rmH0 (hw : HW a0 Z) (xa : Addr) (tb : Addr) (kt : ClassId) (x0_ : Addr) (x1_ : Addr) (x2_ : Addr) (h0 : Heap) (n0 : Nat) (O0 : Old Z n0 h0) (NF : Nar Z w3 w0 w2 w1 w4 k_w3 k_w0 k_w1 z_cs w5) (F_elements_xa : Fld Z h0 xa "java/util/ImmutableCollections$ListN" "elements" "[Ljava/lang/Object;" (.ref tb)) (V_tb : Arv Z h0 tb kt (.object "java/lang/Object") (3 : Int32) [(.ref x0_), (.ref x1_), (.ref x2_)] .null) :
    Con l Z (⟨"java/util/ImmutableCollections$ListN", "get", "(I)Ljava/lang/Object;"⟩ : MethodName) jdk_45_method_4_code 2 (some (.object "java/lang/Object")) ws ({ frames := 0, cells := 0, slots := 0, locals := 0 } : Room) #[(.ref xa), (.int (0 : Int32))] h0 (Q_rmH0 x0_ h0 n0) := by
  refine Con.body (own := "java/util/ImmutableCollections$ListN") rfl (plainFor_of_name pn_35) (fun m => ef_rmC2_1 m _ _) ?_
  intro p e s m below meth c s₁ Bd hx hby hml hZ hown X0 e0 Qf hQf
  have N0 := Fr.nil n0
  obtain ⟨S_w3, E_w3, S_w0, E_w0, S_w2, E_w2, F_elements_w2, E_w1, S_w4, E_w4, F_allowNulls_w2, S_w_ImmutableCollections__assertionsDisabled, V_w3, V_w0, V_w1, S_cs, nz_cs, M_OA⟩ := id NF
  refine Goes.to (T' := s₁.setTop (mkF m 1 #[.val (.ref xa), .val (.int (0 : Int32))] [(.ref xa)])) (fun t k => XS.aloadN X0.here hx rfl (hb hby d35_0) rfl rfl k) ?_
  obtain ⟨T1, X1, e1, st1⟩ := getF X0 hx hZ hown (host := "") (Or.inl (wi hw 163 rfl)) Via.refl e0 F_elements_xa (g := (mkF m 1 #[.val (.ref xa), .val (.int (0 : Int32))] [(.ref xa)])) rfl rfl (hb hby d35_1)
  refine Goes.to (T' := T1.setTop (mkF m 4 #[.val (.ref xa), .val (.int (0 : Int32))] [(.ref tb)])) st1 ?_
  refine Goes.to (T' := T1.setTop (mkF m 5 #[.val (.ref xa), .val (.int (0 : Int32))] [(.int (0 : Int32)), (.ref tb)])) (fun t k => XS.iloadN X1.here hx rfl (hb hby d35_4) rfl k) ?_
  obtain ⟨cl2, Ar2, q2, S2, Ng2, H2, G2⟩ := id V_tb
  have hin2 : ¬ ((0 : Int32) < 0 ∨ cl2.slots.size ≤ ((0 : Int32)).toNatClampNeg) := inb_of S2 ⟨by decide, by decide⟩
  refine Goes.to (T' := T1.setTop (mkF m 6 #[.val (.ref xa), .val (.int (0 : Int32))] [(.ref x0_)])) (X1.aaload hx (j := (0 : Int32)) (v := (.ref x0_)) (by rw [e1]; exact Ar2.1) (State.isArrayOf_alike hZ.alike Ar2.2.1) rfl Ar2.2.2 hin2 (H2.at hin2 rfl) (g := (mkF m 5 #[.val (.ref xa), .val (.int (0 : Int32))] [(.int (0 : Int32)), (.ref tb)])) rfl rfl (hb hby d35_5)) ?_
  obtain ⟨fs, hrL, hrun, hended, hW, hsame⟩ := X1.leave (v := some (.ref x0_)) (fun h => by rw [Bd.returns] at h; cases h)
  subst hQf
  refine ⟨_, _, retOut X1 hx Bd.returns rfl (Or.inr (Or.inr (Or.inr (Or.inr ⟨rfl, rfl, rfl⟩)))) (hb hby d35_6) hrL, hrun, hended, _, _, rfl, ?_, ⟨_, rfl⟩, hW, hsame.mono (by decide) (by decide)⟩
  show Q_rmH0 x0_ h0 n0 (some (.ref x0_)) T1.heap _
  rw [e1]
  exact ⟨rfl, N0, rfl⟩
def Q_rmH1 (x1_ : Addr) (h0 : Heap) (n0 : Nat) (v : Option Value) (h : Heap) (L : List Loc) : Prop := v = some (.ref x1_) ∧ Fr n0 L ∧ h = h0
theorem rmH1 (hw : HW a0 Z) (xa : Addr) (tb : Addr) (kt : ClassId) (x0_ : Addr) (x1_ : Addr) (x2_ : Addr) (h0 : Heap) (n0 : Nat) (O0 : Old Z n0 h0) (NF : Nar Z w3 w0 w2 w1 w4 k_w3 k_w0 k_w1 z_cs w5) (F_elements_xa : Fld Z h0 xa "java/util/ImmutableCollections$ListN" "elements" "[Ljava/lang/Object;" (.ref tb)) (V_tb : Arv Z h0 tb kt (.object "java/lang/Object") (3 : Int32) [(.ref x0_), (.ref x1_), (.ref x2_)] .null) :
    Con l Z (⟨"java/util/ImmutableCollections$ListN", "get", "(I)Ljava/lang/Object;"⟩ : MethodName) jdk_45_method_4_code 2 (some (.object "java/lang/Object")) ws ({ frames := 0, cells := 0, slots := 0, locals := 0 } : Room) #[(.ref xa), (.int (1 : Int32))] h0 (Q_rmH1 x1_ h0 n0) := by
  refine Con.body (own := "java/util/ImmutableCollections$ListN") rfl (plainFor_of_name pn_35) (fun m => ef_rmC2_1 m _ _) ?_
  intro p e s m below meth c s₁ Bd hx hby hml hZ hown X0 e0 Qf hQf
  have N0 := Fr.nil n0
  obtain ⟨S_w3, E_w3, S_w0, E_w0, S_w2, E_w2, F_elements_w2, E_w1, S_w4, E_w4, F_allowNulls_w2, S_w_ImmutableCollections__assertionsDisabled, V_w3, V_w0, V_w1, S_cs, nz_cs, M_OA⟩ := id NF
  refine Goes.to (T' := s₁.setTop (mkF m 1 #[.val (.ref xa), .val (.int (1 : Int32))] [(.ref xa)])) (fun t k => XS.aloadN X0.here hx rfl (hb hby d35_0) rfl rfl k) ?_
  obtain ⟨T1, X1, e1, st1⟩ := getF X0 hx hZ hown (host := "") (Or.inl (wi hw 163 rfl)) Via.refl e0 F_elements_xa (g := (mkF m 1 #[.val (.ref xa), .val (.int (1 : Int32))] [(.ref xa)])) rfl rfl (hb hby d35_1)
  refine Goes.to (T' := T1.setTop (mkF m 4 #[.val (.ref xa), .val (.int (1 : Int32))] [(.ref tb)])) st1 ?_
  refine Goes.to (T' := T1.setTop (mkF m 5 #[.val (.ref xa), .val (.int (1 : Int32))] [(.int (1 : Int32)), (.ref tb)])) (fun t k => XS.iloadN X1.here hx rfl (hb hby d35_4) rfl k) ?_
  obtain ⟨cl2, Ar2, q2, S2, Ng2, H2, G2⟩ := id V_tb
  have hin2 : ¬ ((1 : Int32) < 0 ∨ cl2.slots.size ≤ ((1 : Int32)).toNatClampNeg) := inb_of S2 ⟨by decide, by decide⟩
  refine Goes.to (T' := T1.setTop (mkF m 6 #[.val (.ref xa), .val (.int (1 : Int32))] [(.ref x1_)])) (X1.aaload hx (j := (1 : Int32)) (v := (.ref x1_)) (by rw [e1]; exact Ar2.1) (State.isArrayOf_alike hZ.alike Ar2.2.1) rfl Ar2.2.2 hin2 (H2.at hin2 rfl) (g := (mkF m 5 #[.val (.ref xa), .val (.int (1 : Int32))] [(.int (1 : Int32)), (.ref tb)])) rfl rfl (hb hby d35_5)) ?_
  obtain ⟨fs, hrL, hrun, hended, hW, hsame⟩ := X1.leave (v := some (.ref x1_)) (fun h => by rw [Bd.returns] at h; cases h)
  subst hQf
  refine ⟨_, _, retOut X1 hx Bd.returns rfl (Or.inr (Or.inr (Or.inr (Or.inr ⟨rfl, rfl, rfl⟩)))) (hb hby d35_6) hrL, hrun, hended, _, _, rfl, ?_, ⟨_, rfl⟩, hW, hsame.mono (by decide) (by decide)⟩
  show Q_rmH1 x1_ h0 n0 (some (.ref x1_)) T1.heap _
  rw [e1]
  exact ⟨rfl, N0, rfl⟩
def Q_rmH2 (x2_ : Addr) (h0 : Heap) (n0 : Nat) (v : Option Value) (h : Heap) (L : List Loc) : Prop := v = some (.ref x2_) ∧ Fr n0 L ∧ h = h0
theorem rmH2 (hw : HW a0 Z) (xa : Addr) (tb : Addr) (kt : ClassId) (x0_ : Addr) (x1_ : Addr) (x2_ : Addr) (h0 : Heap) (n0 : Nat) (O0 : Old Z n0 h0) (NF : Nar Z w3 w0 w2 w1 w4 k_w3 k_w0 k_w1 z_cs w5) (F_elements_xa : Fld Z h0 xa "java/util/ImmutableCollections$ListN" "elements" "[Ljava/lang/Object;" (.ref tb)) (V_tb : Arv Z h0 tb kt (.object "java/lang/Object") (3 : Int32) [(.ref x0_), (.ref x1_), (.ref x2_)] .null) :
    Con l Z (⟨"java/util/ImmutableCollections$ListN", "get", "(I)Ljava/lang/Object;"⟩ : MethodName) jdk_45_method_4_code 2 (some (.object "java/lang/Object")) ws ({ frames := 0, cells := 0, slots := 0, locals := 0 } : Room) #[(.ref xa), (.int (2 : Int32))] h0 (Q_rmH2 x2_ h0 n0) := by
  refine Con.body (own := "java/util/ImmutableCollections$ListN") rfl (plainFor_of_name pn_35) (fun m => ef_rmC2_1 m _ _) ?_
  intro p e s m below meth c s₁ Bd hx hby hml hZ hown X0 e0 Qf hQf
  have N0 := Fr.nil n0
  obtain ⟨S_w3, E_w3, S_w0, E_w0, S_w2, E_w2, F_elements_w2, E_w1, S_w4, E_w4, F_allowNulls_w2, S_w_ImmutableCollections__assertionsDisabled, V_w3, V_w0, V_w1, S_cs, nz_cs, M_OA⟩ := id NF
  refine Goes.to (T' := s₁.setTop (mkF m 1 #[.val (.ref xa), .val (.int (2 : Int32))] [(.ref xa)])) (fun t k => XS.aloadN X0.here hx rfl (hb hby d35_0) rfl rfl k) ?_
  obtain ⟨T1, X1, e1, st1⟩ := getF X0 hx hZ hown (host := "") (Or.inl (wi hw 163 rfl)) Via.refl e0 F_elements_xa (g := (mkF m 1 #[.val (.ref xa), .val (.int (2 : Int32))] [(.ref xa)])) rfl rfl (hb hby d35_1)
  refine Goes.to (T' := T1.setTop (mkF m 4 #[.val (.ref xa), .val (.int (2 : Int32))] [(.ref tb)])) st1 ?_
  refine Goes.to (T' := T1.setTop (mkF m 5 #[.val (.ref xa), .val (.int (2 : Int32))] [(.int (2 : Int32)), (.ref tb)])) (fun t k => XS.iloadN X1.here hx rfl (hb hby d35_4) rfl k) ?_
  obtain ⟨cl2, Ar2, q2, S2, Ng2, H2, G2⟩ := id V_tb
  have hin2 : ¬ ((2 : Int32) < 0 ∨ cl2.slots.size ≤ ((2 : Int32)).toNatClampNeg) := inb_of S2 ⟨by decide, by decide⟩
  refine Goes.to (T' := T1.setTop (mkF m 6 #[.val (.ref xa), .val (.int (2 : Int32))] [(.ref x2_)])) (X1.aaload hx (j := (2 : Int32)) (v := (.ref x2_)) (by rw [e1]; exact Ar2.1) (State.isArrayOf_alike hZ.alike Ar2.2.1) rfl Ar2.2.2 hin2 (H2.at hin2 rfl) (g := (mkF m 5 #[.val (.ref xa), .val (.int (2 : Int32))] [(.int (2 : Int32)), (.ref tb)])) rfl rfl (hb hby d35_5)) ?_
  obtain ⟨fs, hrL, hrun, hended, hW, hsame⟩ := X1.leave (v := some (.ref x2_)) (fun h => by rw [Bd.returns] at h; cases h)
  subst hQf
  refine ⟨_, _, retOut X1 hx Bd.returns rfl (Or.inr (Or.inr (Or.inr (Or.inr ⟨rfl, rfl, rfl⟩)))) (hb hby d35_6) hrL, hrun, hended, _, _, rfl, ?_, ⟨_, rfl⟩, hW, hsame.mono (by decide) (by decide)⟩
  show Q_rmH2 x2_ h0 n0 (some (.ref x2_)) T1.heap _
  rw [e1]
  exact ⟨rfl, N0, rfl⟩
theorem d36_0 : decode jdk_42_method_66_code 0 = .ok (.aload_n 0, 1) := by decide +kernel
theorem d36_1 : decode jdk_42_method_66_code 1 = .ok (.aload_n 1, 1) := by decide +kernel
theorem d36_2 : decode jdk_42_method_66_code 2 = .ok (.if_acmp .ne 5, 3) := by decide +kernel
theorem d36_5 : decode jdk_42_method_66_code 5 = .ok (.iconst 1, 1) := by decide +kernel
theorem d36_6 : decode jdk_42_method_66_code 6 = .ok (.ireturn, 1) := by decide +kernel
theorem pn_36 : plainName "java/lang/String" = true := by first | (simp [plainName, overriddenIn]; done) | decide +kernel
theorem ef_rmSS (m : MethodId) (x0 : Addr) (x1 : Addr) : entryFrame m #[(.ref x0), (.ref x1)] 3 = mkF m 0 #[.val (.ref x0), .val (.ref x1), .unset] [] := by first | (simp [entryFrame, mkF, argsToLocals, Value.category]; done) | rfl
def Q_rmSS  (h0 : Heap) (n0 : Nat) (v : Option Value) (h : Heap) (L : List Loc) : Prop := v = some (.int 1) ∧ Fr n0 L ∧ h = h0
theorem rmSS (hw : HW a0 Z) (xa : Addr) (h0 : Heap) (n0 : Nat) (O0 : Old Z n0 h0) (NF : Nar Z w3 w0 w2 w1 w4 k_w3 k_w0 k_w1 z_cs w5) :
    Con l Z (⟨"java/lang/String", "equals", "(Ljava/lang/Object;)Z"⟩ : MethodName) jdk_42_method_66_code 3 (some .boolean) ws ({ frames := 0, cells := 0, slots := 0, locals := 0 } : Room) #[(.ref xa), (.ref xa)] h0 (Q_rmSS  h0 n0) := by
  refine Con.body (own := "java/lang/String") rfl (plainFor_of_name pn_36) (fun m => ef_rmSS m _ _) ?_
  intro p e s m below meth c s₁ Bd hx hby hml hZ hown X0 e0 Qf hQf
  have N0 := Fr.nil n0
  obtain ⟨S_w3, E_w3, S_w0, E_w0, S_w2, E_w2, F_elements_w2, E_w1, S_w4, E_w4, F_allowNulls_w2, S_w_ImmutableCollections__assertionsDisabled, V_w3, V_w0, V_w1, S_cs, nz_cs, M_OA⟩ := id NF
  refine Goes.to (T' := s₁.setTop (mkF m 1 #[.val (.ref xa), .val (.ref xa), .unset] [(.ref xa)])) (fun t k => XS.aloadN X0.here hx rfl (hb hby d36_0) rfl rfl k) ?_
  refine Goes.to (T' := s₁.setTop (mkF m 2 #[.val (.ref xa), .val (.ref xa), .unset] [(.ref xa), (.ref xa)])) (fun t k => XS.aloadN X0.here hx rfl (hb hby d36_1) rfl rfl k) ?_
  refine Goes.to (T' := s₁.setTop (mkF m 5 #[.val (.ref xa), .val (.ref xa), .unset] [])) (fun t k => Jvm.RoadKit.acmp (g := (mkF m 2 #[.val (.ref xa), .val (.ref xa), .unset] [(.ref xa), (.ref xa)])) X0 hx rfl rfl rfl (pc0 := 2) (pc' := 5) (same := true) rfl (hb hby d36_2) rfl (decide_eq_true rfl) (by decide) (by decide) k) ?_
  refine Goes.to (T' := s₁.setTop (mkF m 6 #[.val (.ref xa), .val (.ref xa), .unset] [(.int (1 : Int32))])) (fun t k => XS.iconst X0.here hx rfl (hb hby d36_5) k) ?_
  obtain ⟨fs, hrL, hrun, hended, hW, hsame⟩ := X0.leave (v := some (.int (1 : Int32))) (fun h => by rw [Bd.returns] at h; cases h)
  subst hQf
  refine ⟨_, _, retN X0 hx (t := .boolean) Bd.returns (by simp) (hb hby d36_6) hrL, hrun, hended, _, _, rfl, ?_, ⟨_, rfl⟩, hW, hsame.mono (by decide) (by decide)⟩
  show Q_rmSS  h0 n0 (some (.int (1 : Int32))) s₁.heap _
  rw [e0]
  exact ⟨rfl, N0, rfl⟩
def LA2 (v0 : Int32) (v1 : Int32) (v2 : Int32) (v3 : Int32) (v4 : Int32) : Array Slot := #[.val (.int v0), .val (.int v1), .val (.int v2), .val (.int v3), .val (.int v4), .unset, .unset, .unset, .unset, .unset, .unset, .unset, .unset, .unset]
theorem pd_516 : parseMethodDescriptor "(I)Ljava/lang/String;" = some ⟨[.int], some (.object "java/lang/String")⟩ := by decide +kernel
def LA3 (v0 : Int32) (v1 : Int32) (v2 : Int32) (v3 : Int32) (v4 : Int32) (v5 : Addr) (v6 : Addr) (v7 : Addr) (v8 : Addr) (v9 : Addr) : Array Slot := #[.val (.int v0), .val (.int v1), .val (.int v2), .val (.int v3), .val (.int v4), .val (.int (0 : Int32)), .val (.ref v5), .val (.ref v6), .val (.ref v7), .val (.ref v8), .val (.ref v9), .unset, .unset, .unset]
theorem pd_518 : parseMethodDescriptor "(Ljava/util/List;)Lcom/example/nightcrawler/nightcrawler/engine/CommittedBatches;" = some ⟨[(.object "java/util/List")], some (.object "com/example/nightcrawler/nightcrawler/engine/CommittedBatches")⟩ := by decide +kernel
def LA4 (v0 : Int32) (v1 : Int32) (v2 : Int32) (v3 : Int32) (v4 : Int32) (v5 : Addr) (v6 : Addr) (v7 : Addr) (v8 : Addr) (v9 : Addr) (v10 : Addr) : Array Slot := #[.val (.int v0), .val (.int v1), .val (.int v2), .val (.int v3), .val (.int v4), .val (.int (0 : Int32)), .val (.ref v5), .val (.ref v6), .val (.ref v7), .val (.ref v8), .val (.ref v9), .val (.ref v10), .unset, .unset]
theorem pd_520 : parseMethodDescriptor "(Ljava/lang/Object;)Z" = some ⟨[(.object "java/lang/Object")], some .boolean⟩ := by decide +kernel
def LA5 (v0 : Int32) (v1 : Int32) (v2 : Int32) (v3 : Int32) (v4 : Int32) (v5 : Addr) (v6 : Addr) (v7 : Addr) (v8 : Addr) (v9 : Addr) (v10 : Addr) (v11 : Addr) : Array Slot := #[.val (.int v0), .val (.int v1), .val (.int v2), .val (.int v3), .val (.int v4), .val (.int (0 : Int32)), .val (.ref v5), .val (.ref v6), .val (.ref v7), .val (.ref v8), .val (.ref v9), .val (.ref v10), .val (.ref v11), .unset]
theorem pd_522 : parseMethodDescriptor "()J" = some ⟨[], some .long⟩ := by decide +kernel
theorem pd_523 : parseMethodDescriptor "()I" = some ⟨[], some .int⟩ := by decide +kernel
def LA6 (v0 : Int32) (v1 : Int32) (v2 : Int32) (v3 : Int32) (v4 : Int32) (v5 : Addr) (v6 : Addr) (v7 : Addr) (v8 : Addr) (v9 : Addr) (v10 : Addr) (v11 : Addr) : Array Slot := #[.val (.int v0), .val (.int v1), .val (.int v2), .val (.int v3), .val (.int v4), .val (.int (0 : Int32)), .val (.ref v5), .val (.ref v6), .val (.ref v7), .val (.ref v8), .val (.ref v9), .val (.ref v10), .val (.ref v11), .val (.int (1 : Int32))]
def Q_rm0  (h0 : Heap) (n0 : Nat) (v : Option Value) (h : Heap) (L : List Loc) : Prop := v = some (.int 1) ∧ Fr n0 L
theorem rm0_n0 (hw : HW a0 Z) (p0 : Int32) (p1 : Int32) (p2 : Int32) (p3 : Int32) (p4 : Int32) (vmC : Vm) (h0 : Heap) (n0 : Nat) (NF : Nar Z w3 w0 w2 w1 w4 k_w3 k_w0 k_w1 z_cs w5) (p : Program) (e : Env) (s : State) (m : MethodId) (below : List Frame) (meth : _) (c : _) (s₁ : State) (Bd : BodyLoose p l x (head1 (Jvm.Cond.code x code maxLocals ret :: ws) room_1) code maxLocals ret e s m #[(.int p0), (.int p1), (.int p2), (.int p3), (.int p4)] below meth c s₁) (hml : c.maxLocals = 14) (vmB : Vm) (kS : Nat) (hS : s.Since vmB kS) (hZ : Z.Warmed39 (s.setVm vmB).vm) (hown : (s.setVm vmB).vm.findClass "com/example/nightcrawler/nightcrawler/engine/CommittedBatchesNonePinLaw" = some m.cls) (Qf : Outcome → State → Prop) (hQf : Qf = (fun (_ : Array Value) (U : State) (o : Outcome) (U' : State) => ∃ v L, o = .returned v ∧ Q_rm0  h0 n0 v U'.heap L ∧ ReturnedEndW U o U' L room_1.cells room_1.slots) #[] s) (s6a : Addr) (s7a : Addr) (s8a : Addr) (s9a : Addr) (b5 : Addr) (g_b5 : n0 ≤ b5) (g_s6a : n0 ≤ s6a) (g_s7a : n0 ≤ s7a) (g_s8a : n0 ≤ s8a) (g_s9a : n0 ≤ s9a) (ne_b5_s6a : b5 ≠ s6a) (ne_b5_s7a : b5 ≠ s7a) (ne_b5_s8a : b5 ≠ s8a) (ne_b5_s9a : b5 ≠ s9a) (ne_s6a_b5 : s6a ≠ b5) (ne_s7a_b5 : s7a ≠ b5) (ne_s8a_b5 : s8a ≠ b5) (ne_s9a_b5 : s9a ≠ b5) (TC : State) (locsC : List Loc) (hC : Heap) (XC : Stand p l e room_1 (s.setVm vmB) m #[(.int p0), (.int p1), (.int p2), (.int p3), (.int p4)] below meth c TC locsC 33 99) (eC : TC.heap = hC) (hk : kS ≤ hC.size) (OC : Old Z n0 hC) (E_s6a : Exa Z hC s6a "java/lang/String") (E_s7a : Exa Z hC s7a "java/lang/String") (E_s8a : Exa Z hC s8a "java/lang/String") (E_s9a : Exa Z hC s9a "java/lang/String") (E_b5 : Exa Z hC b5 "java/util/ArrayList") (F_modCount_b5 : Fld Z hC b5 "java/util/AbstractList" "modCount" "I" (.int (0 : Int32))) (F_elementData_b5 : Fld Z hC b5 "java/util/ArrayList" "elementData" "[Ljava/lang/Object;" (.ref w0)) (F_size_b5 : Fld Z hC b5 "java/util/ArrayList" "size" "I" (.int (0 : Int32))) (NC : Fr n0 locsC) : Goes p.tables e below Qf (TC.setTop (mkF m 39 (LA3 p0 p1 p2 p3 p4 s6a s7a s8a s9a b5) [])) := by
  have hx := Bd.exec
  have hby := Bd.bytes
  have hnm := (name_of_methodNamed Bd.named Bd.method).1
  obtain ⟨S_w3, E_w3, S_w0, E_w0, S_w2, E_w2, F_elements_w2, E_w1, S_w4, E_w4, F_allowNulls_w2, S_w_ImmutableCollections__assertionsDisabled, V_w3, V_w0, V_w1, S_cs, nz_cs, M_OA⟩ := id NF
  refine Goes.to (T' := TC.setTop (mkF m 41 (LA3 p0 p1 p2 p3 p4 s6a s7a s8a s9a b5) [(.int (0 : Int32))])) (fun t k => XS.iload XC.here hx rfl (hb hby at_39) rfl k) ?_
  refine Goes.to (T' := TC.setTop (mkF m 52 (LA3 p0 p1 p2 p3 p4 s6a s7a s8a s9a b5) [])) (fun t k => XS.ifYes XC.here hx rfl (pc0 := 41) (pc' := 52) rfl (hb hby at_41) rfl ((if0 _ _).trans (flt (by decide)).2.2.2) (by decide) (by decide) k) ?_
  refine Goes.to (T' := TC.setTop (mkF m 54 (LA3 p0 p1 p2 p3 p4 s6a s7a s8a s9a b5) [(.int (0 : Int32))])) (fun t k => XS.iload XC.here hx rfl (hb hby at_52) rfl k) ?_
  refine Goes.to (T' := TC.setTop (mkF m 55 (LA3 p0 p1 p2 p3 p4 s6a s7a s8a s9a b5) [(.int (1 : Int32)), (.int (0 : Int32))])) (fun t k => XS.iconst XC.here hx rfl (hb hby at_54) k) ?_
  refine Goes.to (T' := TC.setTop (mkF m 66 (LA3 p0 p1 p2 p3 p4 s6a s7a s8a s9a b5) [])) (fun t k => XS.icmpYes XC.here hx rfl (pc0 := 55) (pc' := 66) rfl (hb hby at_55) rfl (flt (by decide)).2.2.2 (by decide) (by decide) k) ?_
  refine Goes.to (T' := TC.setTop (mkF m 68 (LA3 p0 p1 p2 p3 p4 s6a s7a s8a s9a b5) [(.int (0 : Int32))])) (fun t k => XS.iload XC.here hx rfl (hb hby at_66) rfl k) ?_
  refine Goes.to (T' := TC.setTop (mkF m 69 (LA3 p0 p1 p2 p3 p4 s6a s7a s8a s9a b5) [(.int (2 : Int32)), (.int (0 : Int32))])) (fun t k => XS.iconst XC.here hx rfl (hb hby at_68) k) ?_
  refine Goes.to (T' := TC.setTop (mkF m 80 (LA3 p0 p1 p2 p3 p4 s6a s7a s8a s9a b5) [])) (fun t k => XS.icmpYes XC.here hx rfl (pc0 := 69) (pc' := 80) rfl (hb hby at_69) rfl (flt (by decide)).2.2.2 (by decide) (by decide) k) ?_
  refine Goes.to (T' := TC.setTop (mkF m 82 (LA3 p0 p1 p2 p3 p4 s6a s7a s8a s9a b5) [(.ref b5)])) (fun t k => XS.aload XC.here hx rfl (hb hby at_80) rfl rfl k) ?_
  obtain ⟨_, _, ⟨T8, L8, k8, n8⟩, -, X8, ⟨Lc8, hQ8, l8, y8, z8⟩, st8⟩ := Jvm.LawKit.callS XC hx (y := (⟨"com/example/nightcrawler/nightcrawler/engine/CommittedBatches", "none", "(Ljava/util/List;)Lcom/example/nightcrawler/nightcrawler/engine/CommittedBatches;"⟩ : MethodName)) hown (mvT hZ (wi hw 50 rfl)) (mvT hZ (wi hw 51 rfl)) (mvT hZ (wi hw 52 rfl)) (mvT hZ (wi hw 53 rfl)) (by decide) (backOf (W := 0) (rmNo0 hw b5 ((0 : Int32)) hC n0 OC NF E_b5 F_modCount_b5 F_elementData_b5 F_size_b5) hZ (wi hw 53 rfl) (wi hw 52 rfl) (by decide) (by decide)) (g := (mkF m 82 (LA3 p0 p1 p2 p3 p4 s6a s7a s8a s9a b5) [(.ref b5)])) rfl (by rw [hml]; rfl) (argsL := [(.ref b5)]) (rest := []) (lenOf pd_518 rfl) rfl (by show 2 * 0 + _ ≤ _; exact Nat.le_of_eq rfl) (hb hby at_82) (fun _ _ => ⟨rfl, eC, (by decide : 33 + 1 ≤ _), (by decide : 99 + 5 ≤ _)⟩)
  dsimp only [Pt.U, Pt.locs, Pt.cells, Pt.slots] at X8 l8 y8 z8 st8 hQ8
  subst l8 y8 z8
  obtain ⟨⟨cb, rfl, gc8, sc8, r0_8, r1_8, r2_8, r3_8, r4_8, r5_8⟩, Nq8, Ex8⟩ := hQ8
  have N8 := Fr.app NC Nq8
  have g_cb : n0 ≤ cb := gc8
  have ne_s6a_cb : s6a ≠ cb := Nat.ne_of_lt (Nat.lt_of_lt_of_le E_s6a.lt sc8)
  have ne_cb_s6a := Ne.symm ne_s6a_cb
  have ne_s7a_cb : s7a ≠ cb := Nat.ne_of_lt (Nat.lt_of_lt_of_le E_s7a.lt sc8)
  have ne_cb_s7a := Ne.symm ne_s7a_cb
  have ne_s8a_cb : s8a ≠ cb := Nat.ne_of_lt (Nat.lt_of_lt_of_le E_s8a.lt sc8)
  have ne_cb_s8a := Ne.symm ne_s8a_cb
  have ne_s9a_cb : s9a ≠ cb := Nat.ne_of_lt (Nat.lt_of_lt_of_le E_s9a.lt sc8)
  have ne_cb_s9a := Ne.symm ne_s9a_cb
  have ne_b5_cb : b5 ≠ cb := Nat.ne_of_lt (Nat.lt_of_lt_of_le E_b5.lt sc8)
  have ne_cb_b5 := Ne.symm ne_b5_cb
  have E_s6a := E_s6a.ext Ex8
  have E_s7a := E_s7a.ext Ex8
  have E_s8a := E_s8a.ext Ex8
  have E_s9a := E_s9a.ext Ex8
  have E_b5 := E_b5.ext Ex8
  have F_modCount_b5 := F_modCount_b5.ext Ex8
  have F_elementData_b5 := F_elementData_b5.ext Ex8
  have F_size_b5 := F_size_b5.ext Ex8
  have OC := OC.ext Ex8
  have hk := Nat.le_trans hk Ex8.1
  have E_cb := r0_8
  have F_batches_cb := r1_8
  have F_deleted_cb := r2_8
  have F_lost_cb := r3_8
  have F_usedUp_cb := r4_8
  have F_last_cb := r5_8
  refine Goes.to (T' := T8.setTop (mkF m 85 (LA3 p0 p1 p2 p3 p4 s6a s7a s8a s9a b5) [(.ref cb)])) st8 ?_
  refine Goes.to (T' := T8.setTop (mkF m 87 (LA4 p0 p1 p2 p3 p4 s6a s7a s8a s9a b5 cb) [])) (fun t k => XS.astore X8.here hx rfl (hb hby at_85) rfl rfl (l' := (LA4 p0 p1 p2 p3 p4 s6a s7a s8a s9a b5 cb)) rfl k) ?_
  refine Goes.to (T' := T8.setTop (mkF m 89 (LA4 p0 p1 p2 p3 p4 s6a s7a s8a s9a b5 cb) [(.ref b5)])) (fun t k => XS.aload X8.here hx rfl (hb hby at_87) rfl rfl k) ?_
  refine Goes.to (T' := T8.setTop (mkF m 91 (LA4 p0 p1 p2 p3 p4 s6a s7a s8a s9a b5 cb) [(.ref s9a), (.ref b5)])) (fun t k => XS.aload X8.here hx rfl (hb hby at_89) rfl rfl k) ?_
  obtain ⟨cq9, kq9, q9a, q9b, q9c⟩ := isOf hZ rfl E_b5
  obtain ⟨_, _, ⟨T9, L9, k9, n9⟩, -, X9, ⟨Lc9, hQ9, l9, y9, z9⟩, st9⟩ := X8.virtualBack hx (y := (⟨"java/util/ArrayList", "add", "(Ljava/lang/Object;)Z"⟩ : MethodName)) (z := (⟨"java/util/ArrayList", "add", "(Ljava/lang/Object;)Z"⟩ : MethodName)) hown (mvT hZ (wi hw 99 rfl)) (mvT hZ (wi hw 100 rfl)) (notFace_of_selects (args := #[]) (mvT hZ (wi hw 102 rfl))) (mvT hZ (wi hw 102 rfl)) (mvT hZ (wi hw 101 rfl)) (by decide) (backOf (W := 0) (rmA0 hw b5 s9a ((0 : Int32)) T8.heap n0 OC NF E_b5 F_modCount_b5 F_elementData_b5 F_size_b5 E_s9a g_b5) hZ (wi hw 103 rfl) (wi hw 28 rfl) (by decide) (by decide)) q9a q9c (g := (mkF m 91 (LA4 p0 p1 p2 p3 p4 s6a s7a s8a s9a b5 cb) [(.ref s9a), (.ref b5)])) rfl (by rw [hml]; rfl) (Steps.refl _) (argsL := [(.ref s9a)]) (rest := []) (lenOf pd_520 rfl) rfl (by show 2 * 0 + _ ≤ _; exact Nat.le_of_eq rfl) (hb hby at_91) (fun _ _ => ⟨rfl, rfl, (by decide : 34 + 1 ≤ _), (by decide : 104 + 10 ≤ _)⟩)
  dsimp only [Pt.U, Pt.locs, Pt.cells, Pt.slots] at X9 l9 y9 z9 st9 hQ9
  subst l9 y9 z9
  obtain ⟨⟨rfl, ed, kd, ge9, se9, Ov9, r0_9, r1_9, r2_9, r3_9, r4_9, r5_9⟩, Nq9, K9⟩ := hQ9
  have N9 := Fr.app N8 Nq9
  have g_ed : n0 ≤ ed := ge9
  have ne_s6a_ed : s6a ≠ ed := Nat.ne_of_lt (Nat.lt_of_lt_of_le E_s6a.lt se9)
  have ne_ed_s6a := Ne.symm ne_s6a_ed
  have ne_s7a_ed : s7a ≠ ed := Nat.ne_of_lt (Nat.lt_of_lt_of_le E_s7a.lt se9)
  have ne_ed_s7a := Ne.symm ne_s7a_ed
  have ne_s8a_ed : s8a ≠ ed := Nat.ne_of_lt (Nat.lt_of_lt_of_le E_s8a.lt se9)
  have ne_ed_s8a := Ne.symm ne_s8a_ed
  have ne_s9a_ed : s9a ≠ ed := Nat.ne_of_lt (Nat.lt_of_lt_of_le E_s9a.lt se9)
  have ne_ed_s9a := Ne.symm ne_s9a_ed
  have ne_b5_ed : b5 ≠ ed := Nat.ne_of_lt (Nat.lt_of_lt_of_le E_b5.lt se9)
  have ne_ed_b5 := Ne.symm ne_b5_ed
  have ne_cb_ed : cb ≠ ed := Nat.ne_of_lt (Nat.lt_of_lt_of_le E_cb.lt se9)
  have ne_ed_cb := Ne.symm ne_cb_ed
  have E_s6a := E_s6a.keep K9
  have E_s7a := E_s7a.keep K9
  have E_s8a := E_s8a.keep K9
  have E_s9a := E_s9a.keep K9
  have E_b5 := E_b5.keep K9
  have E_cb := E_cb.keep K9
  have F_batches_cb := F_batches_cb.keep K9 (ninS (ne_cb_b5) nin0)
  have F_deleted_cb := F_deleted_cb.keep K9 (ninS (ne_cb_b5) nin0)
  have F_lost_cb := F_lost_cb.keep K9 (ninS (ne_cb_b5) nin0)
  have F_usedUp_cb := F_usedUp_cb.keep K9 (ninS (ne_cb_b5) nin0)
  have F_last_cb := F_last_cb.keep K9 (ninS (ne_cb_b5) nin0)
  have OC := OC.keep K9 (allS g_b5 all0)
  have hk := Nat.le_trans hk K9.1
  have E_b5 := r0_9
  have F_modCount_b5 := r1_9
  have F_elementData_b5 := r2_9
  have F_size_b5 := r3_9
  have V_ed := r4_9
  have E_ed := r5_9
  have Ov_ed := Ov9
  refine Goes.thru (T' := T9.setTop (mkF m 94 (LA4 p0 p1 p2 p3 p4 s6a s7a s8a s9a b5 cb) [(.int (1 : Int32))])) st9 ?_
  refine Goes.to (T' := T9.setTop (mkF m 95 (LA4 p0 p1 p2 p3 p4 s6a s7a s8a s9a b5 cb) [])) (fun t k => XS.pop X9.here hx rfl (hb hby at_94) rfl rfl k) ?_
  refine Goes.to (T' := T9.setTop (mkF m 97 (LA4 p0 p1 p2 p3 p4 s6a s7a s8a s9a b5 cb) [(.ref cb)])) (fun t k => XS.aload X9.here hx rfl (hb hby at_95) rfl rfl k) ?_
  obtain ⟨cq10, kq10, q10a, q10b, q10c⟩ := isOf hZ rfl E_cb
  obtain ⟨_, _, ⟨T10, L10, k10, n10⟩, -, X10, ⟨Lc10, hQ10, l10, y10, z10⟩, st10⟩ := X9.virtualBack hx (y := (⟨"com/example/nightcrawler/nightcrawler/engine/CommittedBatches", "last", "()Ljava/util/List;"⟩ : MethodName)) (z := (⟨"com/example/nightcrawler/nightcrawler/engine/CommittedBatches", "last", "()Ljava/util/List;"⟩ : MethodName)) hown (mvT hZ (wi hw 128 rfl)) (mvT hZ (wi hw 129 rfl)) (notFace_of_selects (args := #[]) (mvT hZ (wi hw 131 rfl))) (mvT hZ (wi hw 131 rfl)) (mvT hZ (wi hw 130 rfl)) (by decide) (backOf (W := 0) (rm_last hw cb w2 T9.heap n0 OC NF F_last_cb) hZ (wi hw 132 rfl) (wi hw 52 rfl) (by decide) (by decide)) q10a q10c (g := (mkF m 97 (LA4 p0 p1 p2 p3 p4 s6a s7a s8a s9a b5 cb) [(.ref cb)])) rfl (by rw [hml]; rfl) (Steps.refl _) (argsL := []) (rest := []) (lenOf pd_277 rfl) rfl (by show 2 * 0 + _ ≤ _; exact Nat.le_of_eq rfl) (hb hby at_97) (fun _ _ => ⟨rfl, rfl, (by decide : 35 + 0 ≤ _), (by decide : 114 + 0 ≤ _)⟩)
  dsimp only [Pt.U, Pt.locs, Pt.cells, Pt.slots] at X10 l10 y10 z10 st10 hQ10
  subst l10 y10 z10
  obtain ⟨rfl, Nq10, e10⟩ := hQ10
  have N10 := Fr.app N9 Nq10
  refine Goes.thru (T' := T10.setTop (mkF m 100 (LA4 p0 p1 p2 p3 p4 s6a s7a s8a s9a b5 cb) [(.ref w2)])) st10 ?_
  refine Goes.to (T' := T10.setTop (mkF m 102 (LA5 p0 p1 p2 p3 p4 s6a s7a s8a s9a b5 cb w2) [])) (fun t k => XS.astore X10.here hx rfl (hb hby at_100) rfl rfl (l' := (LA5 p0 p1 p2 p3 p4 s6a s7a s8a s9a b5 cb w2)) rfl k) ?_
  refine Goes.to (T' := T10.setTop (mkF m 104 (LA5 p0 p1 p2 p3 p4 s6a s7a s8a s9a b5 cb w2) [(.ref cb)])) (fun t k => XS.aload X10.here hx rfl (hb hby at_102) rfl rfl k) ?_
  obtain ⟨cq11, kq11, q11a, q11b, q11c⟩ := isOf hZ e10 E_cb
  obtain ⟨_, _, ⟨T11, L11, k11, n11⟩, -, X11, ⟨Lc11, hQ11, l11, y11, z11⟩, st11⟩ := X10.virtualBack hx (y := (⟨"com/example/nightcrawler/nightcrawler/engine/CommittedBatches", "batches", "()J"⟩ : MethodName)) (z := (⟨"com/example/nightcrawler/nightcrawler/engine/CommittedBatches", "batches", "()J"⟩ : MethodName)) hown (mvT hZ (wi hw 133 rfl)) (mvT hZ (wi hw 134 rfl)) (notFace_of_selects (args := #[]) (mvT hZ (wi hw 136 rfl))) (mvT hZ (wi hw 136 rfl)) (mvT hZ (wi hw 135 rfl)) (by decide) (backOf (W := 0) (rm_batches hw cb  T9.heap n0 OC NF F_batches_cb) hZ (wi hw 137 rfl) (wi hw 52 rfl) (by decide) (by decide)) q11a q11c (g := (mkF m 104 (LA5 p0 p1 p2 p3 p4 s6a s7a s8a s9a b5 cb w2) [(.ref cb)])) rfl (by rw [hml]; rfl) (Steps.refl _) (argsL := []) (rest := []) (lenOf pd_522 rfl) rfl (by show 2 * 0 + _ ≤ _; exact Nat.le_of_eq rfl) (hb hby at_104) (fun _ _ => ⟨rfl, e10, (by decide : 35 + 0 ≤ _), (by decide : 114 + 0 ≤ _)⟩)
  dsimp only [Pt.U, Pt.locs, Pt.cells, Pt.slots] at X11 l11 y11 z11 st11 hQ11
  subst l11 y11 z11
  obtain ⟨rfl, Nq11, e11⟩ := hQ11
  have N11 := Fr.app N10 Nq11
  refine Goes.thru (T' := T11.setTop (mkF m 107 (LA5 p0 p1 p2 p3 p4 s6a s7a s8a s9a b5 cb w2) [(.long (0 : Int64))])) st11 ?_
  refine Goes.to (T' := T11.setTop (mkF m 108 (LA5 p0 p1 p2 p3 p4 s6a s7a s8a s9a b5 cb w2) [(.long (0 : Int64)), (.long (0 : Int64))])) (fun t k => XS.lconst X11.here hx rfl (hb hby at_107) k) ?_
  refine Goes.to (T' := T11.setTop (mkF m 109 (LA5 p0 p1 p2 p3 p4 s6a s7a s8a s9a b5 cb w2) [(.int (lcmpW (0 : Int64) (0 : Int64)))])) (fun t k => XS.lcmp X11.here hx rfl (hb hby at_108) rfl k) ?_
  refine Goes.to (T' := T11.setTop (mkF m 112 (LA5 p0 p1 p2 p3 p4 s6a s7a s8a s9a b5 cb w2) [])) (fun t k => XS.ifNo X11.here hx rfl (hb hby at_109) rfl ((if0 _ _).trans (teq (by decide)).2) k) ?_
  refine Goes.to (T' := T11.setTop (mkF m 114 (LA5 p0 p1 p2 p3 p4 s6a s7a s8a s9a b5 cb w2) [(.ref cb)])) (fun t k => XS.aload X11.here hx rfl (hb hby at_112) rfl rfl k) ?_
  obtain ⟨cq12, kq12, q12a, q12b, q12c⟩ := isOf hZ e11 E_cb
  obtain ⟨_, _, ⟨T12, L12, k12, n12⟩, -, X12, ⟨Lc12, hQ12, l12, y12, z12⟩, st12⟩ := X11.virtualBack hx (y := (⟨"com/example/nightcrawler/nightcrawler/engine/CommittedBatches", "deleted", "()J"⟩ : MethodName)) (z := (⟨"com/example/nightcrawler/nightcrawler/engine/CommittedBatches", "deleted", "()J"⟩ : MethodName)) hown (mvT hZ (wi hw 138 rfl)) (mvT hZ (wi hw 139 rfl)) (notFace_of_selects (args := #[]) (mvT hZ (wi hw 141 rfl))) (mvT hZ (wi hw 141 rfl)) (mvT hZ (wi hw 140 rfl)) (by decide) (backOf (W := 0) (rm_deleted hw cb  T9.heap n0 OC NF F_deleted_cb) hZ (wi hw 142 rfl) (wi hw 52 rfl) (by decide) (by decide)) q12a q12c (g := (mkF m 114 (LA5 p0 p1 p2 p3 p4 s6a s7a s8a s9a b5 cb w2) [(.ref cb)])) rfl (by rw [hml]; rfl) (Steps.refl _) (argsL := []) (rest := []) (lenOf pd_522 rfl) rfl (by show 2 * 0 + _ ≤ _; exact Nat.le_of_eq rfl) (hb hby at_114) (fun _ _ => ⟨rfl, e11, (by decide : 35 + 0 ≤ _), (by decide : 114 + 0 ≤ _)⟩)
  dsimp only [Pt.U, Pt.locs, Pt.cells, Pt.slots] at X12 l12 y12 z12 st12 hQ12
  subst l12 y12 z12
  obtain ⟨rfl, Nq12, e12⟩ := hQ12
  have N12 := Fr.app N11 Nq12
  refine Goes.thru (T' := T12.setTop (mkF m 117 (LA5 p0 p1 p2 p3 p4 s6a s7a s8a s9a b5 cb w2) [(.long (0 : Int64))])) st12 ?_
  refine Goes.to (T' := T12.setTop (mkF m 118 (LA5 p0 p1 p2 p3 p4 s6a s7a s8a s9a b5 cb w2) [(.long (0 : Int64)), (.long (0 : Int64))])) (fun t k => XS.lconst X12.here hx rfl (hb hby at_117) k) ?_
  refine Goes.to (T' := T12.setTop (mkF m 119 (LA5 p0 p1 p2 p3 p4 s6a s7a s8a s9a b5 cb w2) [(.int (lcmpW (0 : Int64) (0 : Int64)))])) (fun t k => XS.lcmp X12.here hx rfl (hb hby at_118) rfl k) ?_
  refine Goes.to (T' := T12.setTop (mkF m 122 (LA5 p0 p1 p2 p3 p4 s6a s7a s8a s9a b5 cb w2) [])) (fun t k => XS.ifNo X12.here hx rfl (hb hby at_119) rfl ((if0 _ _).trans (teq (by decide)).2) k) ?_
  refine Goes.to (T' := T12.setTop (mkF m 124 (LA5 p0 p1 p2 p3 p4 s6a s7a s8a s9a b5 cb w2) [(.ref cb)])) (fun t k => XS.aload X12.here hx rfl (hb hby at_122) rfl rfl k) ?_
  obtain ⟨cq13, kq13, q13a, q13b, q13c⟩ := isOf hZ e12 E_cb
  obtain ⟨_, _, ⟨T13, L13, k13, n13⟩, -, X13, ⟨Lc13, hQ13, l13, y13, z13⟩, st13⟩ := X12.virtualBack hx (y := (⟨"com/example/nightcrawler/nightcrawler/engine/CommittedBatches", "lost", "()J"⟩ : MethodName)) (z := (⟨"com/example/nightcrawler/nightcrawler/engine/CommittedBatches", "lost", "()J"⟩ : MethodName)) hown (mvT hZ (wi hw 143 rfl)) (mvT hZ (wi hw 144 rfl)) (notFace_of_selects (args := #[]) (mvT hZ (wi hw 146 rfl))) (mvT hZ (wi hw 146 rfl)) (mvT hZ (wi hw 145 rfl)) (by decide) (backOf (W := 0) (rm_lost hw cb  T9.heap n0 OC NF F_lost_cb) hZ (wi hw 147 rfl) (wi hw 52 rfl) (by decide) (by decide)) q13a q13c (g := (mkF m 124 (LA5 p0 p1 p2 p3 p4 s6a s7a s8a s9a b5 cb w2) [(.ref cb)])) rfl (by rw [hml]; rfl) (Steps.refl _) (argsL := []) (rest := []) (lenOf pd_522 rfl) rfl (by show 2 * 0 + _ ≤ _; exact Nat.le_of_eq rfl) (hb hby at_124) (fun _ _ => ⟨rfl, e12, (by decide : 35 + 0 ≤ _), (by decide : 114 + 0 ≤ _)⟩)
  dsimp only [Pt.U, Pt.locs, Pt.cells, Pt.slots] at X13 l13 y13 z13 st13 hQ13
  subst l13 y13 z13
  obtain ⟨rfl, Nq13, e13⟩ := hQ13
  have N13 := Fr.app N12 Nq13
  refine Goes.thru (T' := T13.setTop (mkF m 127 (LA5 p0 p1 p2 p3 p4 s6a s7a s8a s9a b5 cb w2) [(.long (0 : Int64))])) st13 ?_
  refine Goes.to (T' := T13.setTop (mkF m 128 (LA5 p0 p1 p2 p3 p4 s6a s7a s8a s9a b5 cb w2) [(.long (0 : Int64)), (.long (0 : Int64))])) (fun t k => XS.lconst X13.here hx rfl (hb hby at_127) k) ?_
  refine Goes.to (T' := T13.setTop (mkF m 129 (LA5 p0 p1 p2 p3 p4 s6a s7a s8a s9a b5 cb w2) [(.int (lcmpW (0 : Int64) (0 : Int64)))])) (fun t k => XS.lcmp X13.here hx rfl (hb hby at_128) rfl k) ?_
  refine Goes.to (T' := T13.setTop (mkF m 132 (LA5 p0 p1 p2 p3 p4 s6a s7a s8a s9a b5 cb w2) [])) (fun t k => XS.ifNo X13.here hx rfl (hb hby at_129) rfl ((if0 _ _).trans (teq (by decide)).2) k) ?_
  refine Goes.to (T' := T13.setTop (mkF m 134 (LA5 p0 p1 p2 p3 p4 s6a s7a s8a s9a b5 cb w2) [(.ref cb)])) (fun t k => XS.aload X13.here hx rfl (hb hby at_132) rfl rfl k) ?_
  obtain ⟨cq14, kq14, q14a, q14b, q14c⟩ := isOf hZ e13 E_cb
  obtain ⟨_, _, ⟨T14, L14, k14, n14⟩, -, X14, ⟨Lc14, hQ14, l14, y14, z14⟩, st14⟩ := X13.virtualBack hx (y := (⟨"com/example/nightcrawler/nightcrawler/engine/CommittedBatches", "usedUp", "()Z"⟩ : MethodName)) (z := (⟨"com/example/nightcrawler/nightcrawler/engine/CommittedBatches", "usedUp", "()Z"⟩ : MethodName)) hown (mvT hZ (wi hw 148 rfl)) (mvT hZ (wi hw 149 rfl)) (notFace_of_selects (args := #[]) (mvT hZ (wi hw 151 rfl))) (mvT hZ (wi hw 151 rfl)) (mvT hZ (wi hw 150 rfl)) (by decide) (backOf (W := 0) (rm_usedUp hw cb  T9.heap n0 OC NF F_usedUp_cb) hZ (wi hw 152 rfl) (wi hw 52 rfl) (by decide) (by decide)) q14a q14c (g := (mkF m 134 (LA5 p0 p1 p2 p3 p4 s6a s7a s8a s9a b5 cb w2) [(.ref cb)])) rfl (by rw [hml]; rfl) (Steps.refl _) (argsL := []) (rest := []) (lenOf pd_186 rfl) rfl (by show 2 * 0 + _ ≤ _; exact Nat.le_of_eq rfl) (hb hby at_134) (fun _ _ => ⟨rfl, e13, (by decide : 35 + 0 ≤ _), (by decide : 114 + 0 ≤ _)⟩)
  dsimp only [Pt.U, Pt.locs, Pt.cells, Pt.slots] at X14 l14 y14 z14 st14 hQ14
  subst l14 y14 z14
  obtain ⟨rfl, Nq14, e14⟩ := hQ14
  have N14 := Fr.app N13 Nq14
  refine Goes.thru (T' := T14.setTop (mkF m 137 (LA5 p0 p1 p2 p3 p4 s6a s7a s8a s9a b5 cb w2) [(.int (1 : Int32))])) st14 ?_
  refine Goes.to (T' := T14.setTop (mkF m 140 (LA5 p0 p1 p2 p3 p4 s6a s7a s8a s9a b5 cb w2) [])) (fun t k => XS.ifNo X14.here hx rfl (hb hby at_137) rfl ((if0 _ _).trans (feq (by decide)).1) k) ?_
  refine Goes.to (T' := T14.setTop (mkF m 142 (LA5 p0 p1 p2 p3 p4 s6a s7a s8a s9a b5 cb w2) [(.ref w2)])) (fun t k => XS.aload X14.here hx rfl (hb hby at_140) rfl rfl k) ?_
  obtain ⟨cq15, kq15, q15a, q15b, q15c⟩ := isOf hZ e14 (E_w2.ext OC.2)
  obtain ⟨_, _, ⟨T15, L15, k15, n15⟩, -, X15, ⟨Lc15, hQ15, l15, y15, z15⟩, st15⟩ := X14.interfaceBack hx (xi := (⟨"java/util/List", "size", "()I"⟩ : MethodName)) (y := (⟨"java/util/ImmutableCollections$ListN", "size", "()I"⟩ : MethodName)) hown (mvT hZ (wi hw 153 rfl)) (mvT hZ (wi hw 154 rfl)) (mvT hZ (wi hw 155 rfl)) (mvT hZ (wi hw 156 rfl)) (mvT hZ (wi hw 157 rfl)) (mvT hZ (wi hw 158 rfl)) (mvT hZ (wi hw 159 rfl)) (mvT hZ (wi hw 160 rfl)) (by decide) (backOf (W := 0) (rmN0 hw   T9.heap n0 OC NF ) hZ (wi hw 162 rfl) (wi hw 161 rfl) (by decide) (by decide)) q15a q15b q15c (g := (mkF m 142 (LA5 p0 p1 p2 p3 p4 s6a s7a s8a s9a b5 cb w2) [(.ref w2)])) rfl (by rw [hml]; rfl) (Steps.refl _) (argsL := []) (rest := []) (lenOf pd_523 rfl) rfl (by show 2 * 0 + _ ≤ _; exact Nat.le_of_eq rfl) (hb hby at_142) (fun _ _ => ⟨rfl, e14, (by decide : 35 + 0 ≤ _), (by decide : 114 + 0 ≤ _)⟩)
  dsimp only [Pt.U, Pt.locs, Pt.cells, Pt.slots] at X15 l15 y15 z15 st15 hQ15
  subst l15 y15 z15
  obtain ⟨rfl, Nq15, e15⟩ := hQ15
  have N15 := Fr.app N14 Nq15
  refine Goes.thru (T' := T15.setTop (mkF m 147 (LA5 p0 p1 p2 p3 p4 s6a s7a s8a s9a b5 cb w2) [(.int (0 : Int32))])) st15 ?_
  refine Goes.to (T' := T15.setTop (mkF m 149 (LA5 p0 p1 p2 p3 p4 s6a s7a s8a s9a b5 cb w2) [(.int (0 : Int32)), (.int (0 : Int32))])) (fun t k => XS.iload X15.here hx rfl (hb hby at_147) rfl k) ?_
  refine Goes.to (T' := T15.setTop (mkF m 152 (LA5 p0 p1 p2 p3 p4 s6a s7a s8a s9a b5 cb w2) [])) (fun t k => XS.icmpNo X15.here hx rfl (hb hby at_149) rfl (teq (by decide)).2 k) ?_
  refine Goes.to (T' := T15.setTop (mkF m 153 (LA5 p0 p1 p2 p3 p4 s6a s7a s8a s9a b5 cb w2) [(.int (1 : Int32))])) (fun t k => XS.iconst X15.here hx rfl (hb hby at_152) k) ?_
  refine Goes.to (T' := T15.setTop (mkF m 157 (LA5 p0 p1 p2 p3 p4 s6a s7a s8a s9a b5 cb w2) [(.int (1 : Int32))])) (fun t k => XS.goto X15.here hx rfl (pc0 := 153) (pc' := 157) rfl (hb hby at_153) (by decide) (by decide) k) ?_
  refine Goes.to (T' := T15.setTop (mkF m 159 (LA6 p0 p1 p2 p3 p4 s6a s7a s8a s9a b5 cb w2) [])) (fun t k => XS.istore X15.here hx rfl (hb hby at_157) rfl (l' := (LA6 p0 p1 p2 p3 p4 s6a s7a s8a s9a b5 cb w2)) rfl k) ?_
  refine Goes.to (T' := T15.setTop (mkF m 161 (LA6 p0 p1 p2 p3 p4 s6a s7a s8a s9a b5 cb w2) [(.int (1 : Int32))])) (fun t k => XS.iload X15.here hx rfl (hb hby at_159) rfl k) ?_
  refine Goes.to (T' := T15.setTop (mkF m 164 (LA6 p0 p1 p2 p3 p4 s6a s7a s8a s9a b5 cb w2) [])) (fun t k => XS.ifNo X15.here hx rfl (hb hby at_161) rfl ((if0 _ _).trans (feq (by decide)).1) k) ?_
  refine Goes.to (T' := T15.setTop (mkF m 166 (LA6 p0 p1 p2 p3 p4 s6a s7a s8a s9a b5 cb w2) [(.int (0 : Int32))])) (fun t k => XS.iload X15.here hx rfl (hb hby at_164) rfl k) ?_
  refine Goes.to (T' := T15.setTop (mkF m 187 (LA6 p0 p1 p2 p3 p4 s6a s7a s8a s9a b5 cb w2) [])) (fun t k => XS.ifYes X15.here hx rfl (pc0 := 166) (pc' := 187) rfl (hb hby at_166) rfl ((if0 _ _).trans (flt (by decide)).2.2.2) (by decide) (by decide) k) ?_
  refine Goes.to (T' := T15.setTop (mkF m 189 (LA6 p0 p1 p2 p3 p4 s6a s7a s8a s9a b5 cb w2) [(.int (1 : Int32))])) (fun t k => XS.iload X15.here hx rfl (hb hby at_187) rfl k) ?_
  refine Goes.to (T' := T15.setTop (mkF m 192 (LA6 p0 p1 p2 p3 p4 s6a s7a s8a s9a b5 cb w2) [])) (fun t k => XS.ifNo X15.here hx rfl (hb hby at_189) rfl ((if0 _ _).trans (feq (by decide)).1) k) ?_
  refine Goes.to (T' := T15.setTop (mkF m 194 (LA6 p0 p1 p2 p3 p4 s6a s7a s8a s9a b5 cb w2) [(.int (0 : Int32))])) (fun t k => XS.iload X15.here hx rfl (hb hby at_192) rfl k) ?_
  refine Goes.to (T' := T15.setTop (mkF m 195 (LA6 p0 p1 p2 p3 p4 s6a s7a s8a s9a b5 cb w2) [(.int (1 : Int32)), (.int (0 : Int32))])) (fun t k => XS.iconst X15.here hx rfl (hb hby at_194) k) ?_
  refine Goes.to (T' := T15.setTop (mkF m 216 (LA6 p0 p1 p2 p3 p4 s6a s7a s8a s9a b5 cb w2) [])) (fun t k => XS.icmpYes X15.here hx rfl (pc0 := 195) (pc' := 216) rfl (hb hby at_195) rfl (flt (by decide)).2.2.2 (by decide) (by decide) k) ?_
  refine Goes.to (T' := T15.setTop (mkF m 218 (LA6 p0 p1 p2 p3 p4 s6a s7a s8a s9a b5 cb w2) [(.int (1 : Int32))])) (fun t k => XS.iload X15.here hx rfl (hb hby at_216) rfl k) ?_
  refine Goes.to (T' := T15.setTop (mkF m 221 (LA6 p0 p1 p2 p3 p4 s6a s7a s8a s9a b5 cb w2) [])) (fun t k => XS.ifNo X15.here hx rfl (hb hby at_218) rfl ((if0 _ _).trans (feq (by decide)).1) k) ?_
  refine Goes.to (T' := T15.setTop (mkF m 223 (LA6 p0 p1 p2 p3 p4 s6a s7a s8a s9a b5 cb w2) [(.int (0 : Int32))])) (fun t k => XS.iload X15.here hx rfl (hb hby at_221) rfl k) ?_
  refine Goes.to (T' := T15.setTop (mkF m 224 (LA6 p0 p1 p2 p3 p4 s6a s7a s8a s9a b5 cb w2) [(.int (2 : Int32)), (.int (0 : Int32))])) (fun t k => XS.iconst X15.here hx rfl (hb hby at_223) k) ?_
  refine Goes.to (T' := T15.setTop (mkF m 245 (LA6 p0 p1 p2 p3 p4 s6a s7a s8a s9a b5 cb w2) [])) (fun t k => XS.icmpYes X15.here hx rfl (pc0 := 224) (pc' := 245) rfl (hb hby at_224) rfl (flt (by decide)).2.2.2 (by decide) (by decide) k) ?_
  refine Goes.to (T' := T15.setTop (mkF m 247 (LA6 p0 p1 p2 p3 p4 s6a s7a s8a s9a b5 cb w2) [(.int (1 : Int32))])) (fun t k => XS.iload X15.here hx rfl (hb hby at_245) rfl k) ?_
  obtain ⟨fs, hrL, hrun, hended, hRW⟩ := X15.leaveW hS (by rw [e15]; exact hk) (v := some (.int (1 : Int32))) (fun h => by rw [Bd.returns] at h; cases h)
  subst hQf
  refine ⟨_, _, retN X15 hx (t := .boolean) Bd.returns (by simp) (hb hby at_247) hrL, hrun, hended, _, _, rfl, ?_, hRW.1, hRW.2.1, hRW.2.2.1, hRW.2.2.2.mono (by decide) (by decide)⟩
  show Q_rm0  h0 n0 (some (.int (1 : Int32))) T15.heap _
  rw [e15]
  exact ⟨rfl, N15⟩
def LA7 (v0 : Int32) (v1 : Int32) (v2 : Int32) (v3 : Int32) (v4 : Int32) (v5 : Addr) (v6 : Addr) (v7 : Addr) (v8 : Addr) (v9 : Addr) : Array Slot := #[.val (.int v0), .val (.int v1), .val (.int v2), .val (.int v3), .val (.int v4), .val (.int (1 : Int32)), .val (.ref v5), .val (.ref v6), .val (.ref v7), .val (.ref v8), .val (.ref v9), .unset, .unset, .unset]
def LA8 (v0 : Int32) (v1 : Int32) (v2 : Int32) (v3 : Int32) (v4 : Int32) (v5 : Addr) (v6 : Addr) (v7 : Addr) (v8 : Addr) (v9 : Addr) (v10 : Addr) : Array Slot := #[.val (.int v0), .val (.int v1), .val (.int v2), .val (.int v3), .val (.int v4), .val (.int (1 : Int32)), .val (.ref v5), .val (.ref v6), .val (.ref v7), .val (.ref v8), .val (.ref v9), .val (.ref v10), .unset, .unset]
def LA9 (v0 : Int32) (v1 : Int32) (v2 : Int32) (v3 : Int32) (v4 : Int32) (v5 : Addr) (v6 : Addr) (v7 : Addr) (v8 : Addr) (v9 : Addr) (v10 : Addr) (v11 : Addr) : Array Slot := #[.val (.int v0), .val (.int v1), .val (.int v2), .val (.int v3), .val (.int v4), .val (.int (1 : Int32)), .val (.ref v5), .val (.ref v6), .val (.ref v7), .val (.ref v8), .val (.ref v9), .val (.ref v10), .val (.ref v11), .unset]
def LA10 (v0 : Int32) (v1 : Int32) (v2 : Int32) (v3 : Int32) (v4 : Int32) (v5 : Addr) (v6 : Addr) (v7 : Addr) (v8 : Addr) (v9 : Addr) (v10 : Addr) (v11 : Addr) : Array Slot := #[.val (.int v0), .val (.int v1), .val (.int v2), .val (.int v3), .val (.int v4), .val (.int (1 : Int32)), .val (.ref v5), .val (.ref v6), .val (.ref v7), .val (.ref v8), .val (.ref v9), .val (.ref v10), .val (.ref v11), .val (.int (1 : Int32))]
theorem pd_529 : parseMethodDescriptor "(I)Ljava/lang/Object;" = some ⟨[.int], some (.object "java/lang/Object")⟩ := by decide +kernel
theorem rm0_n1 (hw : HW a0 Z) (p0 : Int32) (p1 : Int32) (p2 : Int32) (p3 : Int32) (p4 : Int32) (vmC : Vm) (h0 : Heap) (n0 : Nat) (NF : Nar Z w3 w0 w2 w1 w4 k_w3 k_w0 k_w1 z_cs w5) (p : Program) (e : Env) (s : State) (m : MethodId) (below : List Frame) (meth : _) (c : _) (s₁ : State) (Bd : BodyLoose p l x (head1 (Jvm.Cond.code x code maxLocals ret :: ws) room_1) code maxLocals ret e s m #[(.int p0), (.int p1), (.int p2), (.int p3), (.int p4)] below meth c s₁) (hml : c.maxLocals = 14) (vmB : Vm) (kS : Nat) (hS : s.Since vmB kS) (hZ : Z.Warmed39 (s.setVm vmB).vm) (hown : (s.setVm vmB).vm.findClass "com/example/nightcrawler/nightcrawler/engine/CommittedBatchesNonePinLaw" = some m.cls) (Qf : Outcome → State → Prop) (hQf : Qf = (fun (_ : Array Value) (U : State) (o : Outcome) (U' : State) => ∃ v L, o = .returned v ∧ Q_rm0  h0 n0 v U'.heap L ∧ ReturnedEndW U o U' L room_1.cells room_1.slots) #[] s) (s6a : Addr) (s7a : Addr) (s8a : Addr) (s9a : Addr) (b5 : Addr) (g_b5 : n0 ≤ b5) (g_s6a : n0 ≤ s6a) (g_s7a : n0 ≤ s7a) (g_s8a : n0 ≤ s8a) (g_s9a : n0 ≤ s9a) (ne_b5_s6a : b5 ≠ s6a) (ne_b5_s7a : b5 ≠ s7a) (ne_b5_s8a : b5 ≠ s8a) (ne_b5_s9a : b5 ≠ s9a) (ne_s6a_b5 : s6a ≠ b5) (ne_s7a_b5 : s7a ≠ b5) (ne_s8a_b5 : s8a ≠ b5) (ne_s9a_b5 : s9a ≠ b5) (TC : State) (locsC : List Loc) (hC : Heap) (XC : Stand p l e room_1 (s.setVm vmB) m #[(.int p0), (.int p1), (.int p2), (.int p3), (.int p4)] below meth c TC locsC 33 99) (eC : TC.heap = hC) (hk : kS ≤ hC.size) (OC : Old Z n0 hC) (E_s6a : Exa Z hC s6a "java/lang/String") (E_s7a : Exa Z hC s7a "java/lang/String") (E_s8a : Exa Z hC s8a "java/lang/String") (E_s9a : Exa Z hC s9a "java/lang/String") (E_b5 : Exa Z hC b5 "java/util/ArrayList") (F_modCount_b5 : Fld Z hC b5 "java/util/AbstractList" "modCount" "I" (.int (0 : Int32))) (F_elementData_b5 : Fld Z hC b5 "java/util/ArrayList" "elementData" "[Ljava/lang/Object;" (.ref w0)) (F_size_b5 : Fld Z hC b5 "java/util/ArrayList" "size" "I" (.int (0 : Int32))) (NC : Fr n0 locsC) : Goes p.tables e below Qf (TC.setTop (mkF m 39 (LA7 p0 p1 p2 p3 p4 s6a s7a s8a s9a b5) [])) := by
  have hx := Bd.exec
  have hby := Bd.bytes
  have hnm := (name_of_methodNamed Bd.named Bd.method).1
  obtain ⟨S_w3, E_w3, S_w0, E_w0, S_w2, E_w2, F_elements_w2, E_w1, S_w4, E_w4, F_allowNulls_w2, S_w_ImmutableCollections__assertionsDisabled, V_w3, V_w0, V_w1, S_cs, nz_cs, M_OA⟩ := id NF
  refine Goes.to (T' := TC.setTop (mkF m 41 (LA7 p0 p1 p2 p3 p4 s6a s7a s8a s9a b5) [(.int (1 : Int32))])) (fun t k => XS.iload XC.here hx rfl (hb hby at_39) rfl k) ?_
  refine Goes.to (T' := TC.setTop (mkF m 44 (LA7 p0 p1 p2 p3 p4 s6a s7a s8a s9a b5) [])) (fun t k => XS.ifNo XC.here hx rfl (hb hby at_41) rfl ((if0 _ _).trans (tlt (by decide)).2.2.2) k) ?_
  refine Goes.to (T' := TC.setTop (mkF m 46 (LA7 p0 p1 p2 p3 p4 s6a s7a s8a s9a b5) [(.ref b5)])) (fun t k => XS.aload XC.here hx rfl (hb hby at_44) rfl rfl k) ?_
  refine Goes.to (T' := TC.setTop (mkF m 48 (LA7 p0 p1 p2 p3 p4 s6a s7a s8a s9a b5) [(.ref s6a), (.ref b5)])) (fun t k => XS.aload XC.here hx rfl (hb hby at_46) rfl rfl k) ?_
  obtain ⟨cq16, kq16, q16a, q16b, q16c⟩ := isOf hZ eC E_b5
  obtain ⟨_, _, ⟨T16, L16, k16, n16⟩, -, X16, ⟨Lc16, hQ16, l16, y16, z16⟩, st16⟩ := XC.virtualBack hx (y := (⟨"java/util/ArrayList", "add", "(Ljava/lang/Object;)Z"⟩ : MethodName)) (z := (⟨"java/util/ArrayList", "add", "(Ljava/lang/Object;)Z"⟩ : MethodName)) hown (mvT hZ (wi hw 99 rfl)) (mvT hZ (wi hw 100 rfl)) (notFace_of_selects (args := #[]) (mvT hZ (wi hw 102 rfl))) (mvT hZ (wi hw 102 rfl)) (mvT hZ (wi hw 101 rfl)) (by decide) (backOf (W := 0) (rmA0 hw b5 s6a ((0 : Int32)) hC n0 OC NF E_b5 F_modCount_b5 F_elementData_b5 F_size_b5 E_s6a g_b5) hZ (wi hw 103 rfl) (wi hw 28 rfl) (by decide) (by decide)) q16a q16c (g := (mkF m 48 (LA7 p0 p1 p2 p3 p4 s6a s7a s8a s9a b5) [(.ref s6a), (.ref b5)])) rfl (by rw [hml]; rfl) (Steps.refl _) (argsL := [(.ref s6a)]) (rest := []) (lenOf pd_520 rfl) rfl (by show 2 * 0 + _ ≤ _; exact Nat.le_of_eq rfl) (hb hby at_48) (fun _ _ => ⟨rfl, eC, (by decide : 33 + 1 ≤ _), (by decide : 99 + 10 ≤ _)⟩)
  dsimp only [Pt.U, Pt.locs, Pt.cells, Pt.slots] at X16 l16 y16 z16 st16 hQ16
  subst l16 y16 z16
  obtain ⟨⟨rfl, ed, kd, ge16, se16, Ov16, r0_16, r1_16, r2_16, r3_16, r4_16, r5_16⟩, Nq16, K16⟩ := hQ16
  have N16 := Fr.app NC Nq16
  have g_ed : n0 ≤ ed := ge16
  have ne_s6a_ed : s6a ≠ ed := Nat.ne_of_lt (Nat.lt_of_lt_of_le E_s6a.lt se16)
  have ne_ed_s6a := Ne.symm ne_s6a_ed
  have ne_s7a_ed : s7a ≠ ed := Nat.ne_of_lt (Nat.lt_of_lt_of_le E_s7a.lt se16)
  have ne_ed_s7a := Ne.symm ne_s7a_ed
  have ne_s8a_ed : s8a ≠ ed := Nat.ne_of_lt (Nat.lt_of_lt_of_le E_s8a.lt se16)
  have ne_ed_s8a := Ne.symm ne_s8a_ed
  have ne_s9a_ed : s9a ≠ ed := Nat.ne_of_lt (Nat.lt_of_lt_of_le E_s9a.lt se16)
  have ne_ed_s9a := Ne.symm ne_s9a_ed
  have ne_b5_ed : b5 ≠ ed := Nat.ne_of_lt (Nat.lt_of_lt_of_le E_b5.lt se16)
  have ne_ed_b5 := Ne.symm ne_b5_ed
  have E_s6a := E_s6a.keep K16
  have E_s7a := E_s7a.keep K16
  have E_s8a := E_s8a.keep K16
  have E_s9a := E_s9a.keep K16
  have E_b5 := E_b5.keep K16
  have OC := OC.keep K16 (allS g_b5 all0)
  have hk := Nat.le_trans hk K16.1
  have E_b5 := r0_16
  have F_modCount_b5 := r1_16
  have F_elementData_b5 := r2_16
  have F_size_b5 := r3_16
  have V_ed := r4_16
  have E_ed := r5_16
  have Ov_ed := Ov16
  refine Goes.thru (T' := T16.setTop (mkF m 51 (LA7 p0 p1 p2 p3 p4 s6a s7a s8a s9a b5) [(.int (1 : Int32))])) st16 ?_
  refine Goes.to (T' := T16.setTop (mkF m 52 (LA7 p0 p1 p2 p3 p4 s6a s7a s8a s9a b5) [])) (fun t k => XS.pop X16.here hx rfl (hb hby at_51) rfl rfl k) ?_
  refine Goes.to (T' := T16.setTop (mkF m 54 (LA7 p0 p1 p2 p3 p4 s6a s7a s8a s9a b5) [(.int (1 : Int32))])) (fun t k => XS.iload X16.here hx rfl (hb hby at_52) rfl k) ?_
  refine Goes.to (T' := T16.setTop (mkF m 55 (LA7 p0 p1 p2 p3 p4 s6a s7a s8a s9a b5) [(.int (1 : Int32)), (.int (1 : Int32))])) (fun t k => XS.iconst X16.here hx rfl (hb hby at_54) k) ?_
  refine Goes.to (T' := T16.setTop (mkF m 66 (LA7 p0 p1 p2 p3 p4 s6a s7a s8a s9a b5) [])) (fun t k => XS.icmpYes X16.here hx rfl (pc0 := 55) (pc' := 66) rfl (hb hby at_55) rfl (flt (by decide)).2.2.2 (by decide) (by decide) k) ?_
  refine Goes.to (T' := T16.setTop (mkF m 68 (LA7 p0 p1 p2 p3 p4 s6a s7a s8a s9a b5) [(.int (1 : Int32))])) (fun t k => XS.iload X16.here hx rfl (hb hby at_66) rfl k) ?_
  refine Goes.to (T' := T16.setTop (mkF m 69 (LA7 p0 p1 p2 p3 p4 s6a s7a s8a s9a b5) [(.int (2 : Int32)), (.int (1 : Int32))])) (fun t k => XS.iconst X16.here hx rfl (hb hby at_68) k) ?_
  refine Goes.to (T' := T16.setTop (mkF m 80 (LA7 p0 p1 p2 p3 p4 s6a s7a s8a s9a b5) [])) (fun t k => XS.icmpYes X16.here hx rfl (pc0 := 69) (pc' := 80) rfl (hb hby at_69) rfl (flt (by decide)).2.2.2 (by decide) (by decide) k) ?_
  refine Goes.to (T' := T16.setTop (mkF m 82 (LA7 p0 p1 p2 p3 p4 s6a s7a s8a s9a b5) [(.ref b5)])) (fun t k => XS.aload X16.here hx rfl (hb hby at_80) rfl rfl k) ?_
  obtain ⟨_, _, ⟨T17, L17, k17, n17⟩, -, X17, ⟨Lc17, hQ17, l17, y17, z17⟩, st17⟩ := Jvm.LawKit.callS X16 hx (y := (⟨"com/example/nightcrawler/nightcrawler/engine/CommittedBatches", "none", "(Ljava/util/List;)Lcom/example/nightcrawler/nightcrawler/engine/CommittedBatches;"⟩ : MethodName)) hown (mvT hZ (wi hw 50 rfl)) (mvT hZ (wi hw 51 rfl)) (mvT hZ (wi hw 52 rfl)) (mvT hZ (wi hw 53 rfl)) (by decide) (backOf (W := 0) (rmNo1 hw b5 (((0 : Int32) + (1 : Int32))) ed kd s6a T16.heap n0 OC NF E_b5 F_modCount_b5 F_elementData_b5 F_size_b5 V_ed E_ed E_s6a) hZ (wi hw 53 rfl) (wi hw 52 rfl) (by decide) (by decide)) (g := (mkF m 82 (LA7 p0 p1 p2 p3 p4 s6a s7a s8a s9a b5) [(.ref b5)])) rfl (by rw [hml]; rfl) (argsL := [(.ref b5)]) (rest := []) (lenOf pd_518 rfl) rfl (by show 2 * 0 + _ ≤ _; exact Nat.le_of_eq rfl) (hb hby at_82) (fun _ _ => ⟨rfl, rfl, (by decide : 34 + 3 ≤ _), (by decide : 109 + 9 ≤ _)⟩)
  dsimp only [Pt.U, Pt.locs, Pt.cells, Pt.slots] at X17 l17 y17 z17 st17 hQ17
  subst l17 y17 z17
  obtain ⟨⟨cb, lb, rfl, gc17, sc17, gl17, sl17, r0_17, r1_17, r2_17, r3_17, r4_17, r5_17, r6_17, r7_17, r8_17⟩, Nq17, Ex17⟩ := hQ17
  have N17 := Fr.app N16 Nq17
  have g_cb : n0 ≤ cb := gc17
  have ne_s6a_cb : s6a ≠ cb := Nat.ne_of_lt (Nat.lt_of_lt_of_le E_s6a.lt sc17)
  have ne_cb_s6a := Ne.symm ne_s6a_cb
  have ne_s7a_cb : s7a ≠ cb := Nat.ne_of_lt (Nat.lt_of_lt_of_le E_s7a.lt sc17)
  have ne_cb_s7a := Ne.symm ne_s7a_cb
  have ne_s8a_cb : s8a ≠ cb := Nat.ne_of_lt (Nat.lt_of_lt_of_le E_s8a.lt sc17)
  have ne_cb_s8a := Ne.symm ne_s8a_cb
  have ne_s9a_cb : s9a ≠ cb := Nat.ne_of_lt (Nat.lt_of_lt_of_le E_s9a.lt sc17)
  have ne_cb_s9a := Ne.symm ne_s9a_cb
  have ne_b5_cb : b5 ≠ cb := Nat.ne_of_lt (Nat.lt_of_lt_of_le E_b5.lt sc17)
  have ne_cb_b5 := Ne.symm ne_b5_cb
  have ne_ed_cb : ed ≠ cb := Nat.ne_of_lt (Nat.lt_of_lt_of_le V_ed.lt sc17)
  have ne_cb_ed := Ne.symm ne_ed_cb
  have g_lb : n0 ≤ lb := gl17
  have ne_s6a_lb : s6a ≠ lb := Nat.ne_of_lt (Nat.lt_of_lt_of_le E_s6a.lt sl17)
  have ne_lb_s6a := Ne.symm ne_s6a_lb
  have ne_s7a_lb : s7a ≠ lb := Nat.ne_of_lt (Nat.lt_of_lt_of_le E_s7a.lt sl17)
  have ne_lb_s7a := Ne.symm ne_s7a_lb
  have ne_s8a_lb : s8a ≠ lb := Nat.ne_of_lt (Nat.lt_of_lt_of_le E_s8a.lt sl17)
  have ne_lb_s8a := Ne.symm ne_s8a_lb
  have ne_s9a_lb : s9a ≠ lb := Nat.ne_of_lt (Nat.lt_of_lt_of_le E_s9a.lt sl17)
  have ne_lb_s9a := Ne.symm ne_s9a_lb
  have ne_b5_lb : b5 ≠ lb := Nat.ne_of_lt (Nat.lt_of_lt_of_le E_b5.lt sl17)
  have ne_lb_b5 := Ne.symm ne_b5_lb
  have ne_ed_lb : ed ≠ lb := Nat.ne_of_lt (Nat.lt_of_lt_of_le V_ed.lt sl17)
  have ne_lb_ed := Ne.symm ne_ed_lb
  have E_s6a := E_s6a.ext Ex17
  have E_s7a := E_s7a.ext Ex17
  have E_s8a := E_s8a.ext Ex17
  have E_s9a := E_s9a.ext Ex17
  have E_b5 := E_b5.ext Ex17
  have F_modCount_b5 := F_modCount_b5.ext Ex17
  have F_elementData_b5 := F_elementData_b5.ext Ex17
  have F_size_b5 := F_size_b5.ext Ex17
  have V_ed := V_ed.ext Ex17
  have E_ed := E_ed.ext Ex17
  have OC := OC.ext Ex17
  have hk := Nat.le_trans hk Ex17.1
  have E_cb := r0_17
  have F_batches_cb := r1_17
  have F_deleted_cb := r2_17
  have F_lost_cb := r3_17
  have F_usedUp_cb := r4_17
  have F_last_cb := r5_17
  have E_lb := r6_17
  have F_e0_lb := r7_17
  have F_e1_lb := r8_17
  refine Goes.to (T' := T17.setTop (mkF m 85 (LA7 p0 p1 p2 p3 p4 s6a s7a s8a s9a b5) [(.ref cb)])) st17 ?_
  refine Goes.to (T' := T17.setTop (mkF m 87 (LA8 p0 p1 p2 p3 p4 s6a s7a s8a s9a b5 cb) [])) (fun t k => XS.astore X17.here hx rfl (hb hby at_85) rfl rfl (l' := (LA8 p0 p1 p2 p3 p4 s6a s7a s8a s9a b5 cb)) rfl k) ?_
  refine Goes.to (T' := T17.setTop (mkF m 89 (LA8 p0 p1 p2 p3 p4 s6a s7a s8a s9a b5 cb) [(.ref b5)])) (fun t k => XS.aload X17.here hx rfl (hb hby at_87) rfl rfl k) ?_
  refine Goes.to (T' := T17.setTop (mkF m 91 (LA8 p0 p1 p2 p3 p4 s6a s7a s8a s9a b5 cb) [(.ref s9a), (.ref b5)])) (fun t k => XS.aload X17.here hx rfl (hb hby at_89) rfl rfl k) ?_
  obtain ⟨cq18, kq18, q18a, q18b, q18c⟩ := isOf hZ rfl E_b5
  obtain ⟨_, _, ⟨T18, L18, k18, n18⟩, -, X18, ⟨Lc18, hQ18, l18, y18, z18⟩, st18⟩ := X17.virtualBack hx (y := (⟨"java/util/ArrayList", "add", "(Ljava/lang/Object;)Z"⟩ : MethodName)) (z := (⟨"java/util/ArrayList", "add", "(Ljava/lang/Object;)Z"⟩ : MethodName)) hown (mvT hZ (wi hw 99 rfl)) (mvT hZ (wi hw 100 rfl)) (notFace_of_selects (args := #[]) (mvT hZ (wi hw 102 rfl))) (mvT hZ (wi hw 102 rfl)) (mvT hZ (wi hw 101 rfl)) (by decide) (backOf (W := 0) (rmA1 hw b5 s9a (((0 : Int32) + (1 : Int32))) ed kd s6a T17.heap n0 OC NF E_b5 F_modCount_b5 F_elementData_b5 F_size_b5 V_ed E_ed E_s9a g_b5 g_ed ne_ed_b5 Ov_ed) hZ (wi hw 103 rfl) (wi hw 28 rfl) (by decide) (by decide)) q18a q18c (g := (mkF m 91 (LA8 p0 p1 p2 p3 p4 s6a s7a s8a s9a b5 cb) [(.ref s9a), (.ref b5)])) rfl (by rw [hml]; rfl) (Steps.refl _) (argsL := [(.ref s9a)]) (rest := []) (lenOf pd_520 rfl) rfl (by show 2 * 0 + _ ≤ _; exact Nat.le_of_eq rfl) (hb hby at_91) (fun _ _ => ⟨rfl, rfl, (by decide : 37 + 0 ≤ _), (by decide : 118 + 0 ≤ _)⟩)
  dsimp only [Pt.U, Pt.locs, Pt.cells, Pt.slots] at X18 l18 y18 z18 st18 hQ18
  subst l18 y18 z18
  obtain ⟨rfl, Nq18, K18, r0_18, r1_18, r2_18, r3_18, r4_18, r5_18⟩ := hQ18
  have N18 := Fr.app N17 Nq18
  have E_s6a := E_s6a.keep K18
  have E_s7a := E_s7a.keep K18
  have E_s8a := E_s8a.keep K18
  have E_s9a := E_s9a.keep K18
  have E_b5 := E_b5.keep K18
  have E_ed := E_ed.keep K18
  have E_cb := E_cb.keep K18
  have F_batches_cb := F_batches_cb.keep K18 (ninS (ne_cb_b5) (ninS (ne_cb_ed) nin0))
  have F_deleted_cb := F_deleted_cb.keep K18 (ninS (ne_cb_b5) (ninS (ne_cb_ed) nin0))
  have F_lost_cb := F_lost_cb.keep K18 (ninS (ne_cb_b5) (ninS (ne_cb_ed) nin0))
  have F_usedUp_cb := F_usedUp_cb.keep K18 (ninS (ne_cb_b5) (ninS (ne_cb_ed) nin0))
  have F_last_cb := F_last_cb.keep K18 (ninS (ne_cb_b5) (ninS (ne_cb_ed) nin0))
  have E_lb := E_lb.keep K18
  have F_e0_lb := F_e0_lb.keep K18 (ninS (ne_lb_b5) (ninS (ne_lb_ed) nin0))
  have F_e1_lb := F_e1_lb.keep K18 (ninS (ne_lb_b5) (ninS (ne_lb_ed) nin0))
  have OC := OC.keep K18 (allS g_b5 (allS g_ed all0))
  have hk := Nat.le_trans hk K18.1
  have E_b5 := r0_18
  have F_modCount_b5 := r1_18
  have F_elementData_b5 := r2_18
  have F_size_b5 := r3_18
  have V_ed := r4_18
  have E_ed := r5_18
  refine Goes.thru (T' := T18.setTop (mkF m 94 (LA8 p0 p1 p2 p3 p4 s6a s7a s8a s9a b5 cb) [(.int (1 : Int32))])) st18 ?_
  refine Goes.to (T' := T18.setTop (mkF m 95 (LA8 p0 p1 p2 p3 p4 s6a s7a s8a s9a b5 cb) [])) (fun t k => XS.pop X18.here hx rfl (hb hby at_94) rfl rfl k) ?_
  refine Goes.to (T' := T18.setTop (mkF m 97 (LA8 p0 p1 p2 p3 p4 s6a s7a s8a s9a b5 cb) [(.ref cb)])) (fun t k => XS.aload X18.here hx rfl (hb hby at_95) rfl rfl k) ?_
  obtain ⟨cq19, kq19, q19a, q19b, q19c⟩ := isOf hZ rfl E_cb
  obtain ⟨_, _, ⟨T19, L19, k19, n19⟩, -, X19, ⟨Lc19, hQ19, l19, y19, z19⟩, st19⟩ := X18.virtualBack hx (y := (⟨"com/example/nightcrawler/nightcrawler/engine/CommittedBatches", "last", "()Ljava/util/List;"⟩ : MethodName)) (z := (⟨"com/example/nightcrawler/nightcrawler/engine/CommittedBatches", "last", "()Ljava/util/List;"⟩ : MethodName)) hown (mvT hZ (wi hw 128 rfl)) (mvT hZ (wi hw 129 rfl)) (notFace_of_selects (args := #[]) (mvT hZ (wi hw 131 rfl))) (mvT hZ (wi hw 131 rfl)) (mvT hZ (wi hw 130 rfl)) (by decide) (backOf (W := 0) (rm_last hw cb lb T18.heap n0 OC NF F_last_cb) hZ (wi hw 132 rfl) (wi hw 52 rfl) (by decide) (by decide)) q19a q19c (g := (mkF m 97 (LA8 p0 p1 p2 p3 p4 s6a s7a s8a s9a b5 cb) [(.ref cb)])) rfl (by rw [hml]; rfl) (Steps.refl _) (argsL := []) (rest := []) (lenOf pd_277 rfl) rfl (by show 2 * 0 + _ ≤ _; exact Nat.le_of_eq rfl) (hb hby at_97) (fun _ _ => ⟨rfl, rfl, (by decide : 37 + 0 ≤ _), (by decide : 118 + 0 ≤ _)⟩)
  dsimp only [Pt.U, Pt.locs, Pt.cells, Pt.slots] at X19 l19 y19 z19 st19 hQ19
  subst l19 y19 z19
  obtain ⟨rfl, Nq19, e19⟩ := hQ19
  have N19 := Fr.app N18 Nq19
  refine Goes.thru (T' := T19.setTop (mkF m 100 (LA8 p0 p1 p2 p3 p4 s6a s7a s8a s9a b5 cb) [(.ref lb)])) st19 ?_
  refine Goes.to (T' := T19.setTop (mkF m 102 (LA9 p0 p1 p2 p3 p4 s6a s7a s8a s9a b5 cb lb) [])) (fun t k => XS.astore X19.here hx rfl (hb hby at_100) rfl rfl (l' := (LA9 p0 p1 p2 p3 p4 s6a s7a s8a s9a b5 cb lb)) rfl k) ?_
  refine Goes.to (T' := T19.setTop (mkF m 104 (LA9 p0 p1 p2 p3 p4 s6a s7a s8a s9a b5 cb lb) [(.ref cb)])) (fun t k => XS.aload X19.here hx rfl (hb hby at_102) rfl rfl k) ?_
  obtain ⟨cq20, kq20, q20a, q20b, q20c⟩ := isOf hZ e19 E_cb
  obtain ⟨_, _, ⟨T20, L20, k20, n20⟩, -, X20, ⟨Lc20, hQ20, l20, y20, z20⟩, st20⟩ := X19.virtualBack hx (y := (⟨"com/example/nightcrawler/nightcrawler/engine/CommittedBatches", "batches", "()J"⟩ : MethodName)) (z := (⟨"com/example/nightcrawler/nightcrawler/engine/CommittedBatches", "batches", "()J"⟩ : MethodName)) hown (mvT hZ (wi hw 133 rfl)) (mvT hZ (wi hw 134 rfl)) (notFace_of_selects (args := #[]) (mvT hZ (wi hw 136 rfl))) (mvT hZ (wi hw 136 rfl)) (mvT hZ (wi hw 135 rfl)) (by decide) (backOf (W := 0) (rm_batches hw cb  T18.heap n0 OC NF F_batches_cb) hZ (wi hw 137 rfl) (wi hw 52 rfl) (by decide) (by decide)) q20a q20c (g := (mkF m 104 (LA9 p0 p1 p2 p3 p4 s6a s7a s8a s9a b5 cb lb) [(.ref cb)])) rfl (by rw [hml]; rfl) (Steps.refl _) (argsL := []) (rest := []) (lenOf pd_522 rfl) rfl (by show 2 * 0 + _ ≤ _; exact Nat.le_of_eq rfl) (hb hby at_104) (fun _ _ => ⟨rfl, e19, (by decide : 37 + 0 ≤ _), (by decide : 118 + 0 ≤ _)⟩)
  dsimp only [Pt.U, Pt.locs, Pt.cells, Pt.slots] at X20 l20 y20 z20 st20 hQ20
  subst l20 y20 z20
  obtain ⟨rfl, Nq20, e20⟩ := hQ20
  have N20 := Fr.app N19 Nq20
  refine Goes.thru (T' := T20.setTop (mkF m 107 (LA9 p0 p1 p2 p3 p4 s6a s7a s8a s9a b5 cb lb) [(.long (0 : Int64))])) st20 ?_
  refine Goes.to (T' := T20.setTop (mkF m 108 (LA9 p0 p1 p2 p3 p4 s6a s7a s8a s9a b5 cb lb) [(.long (0 : Int64)), (.long (0 : Int64))])) (fun t k => XS.lconst X20.here hx rfl (hb hby at_107) k) ?_
  refine Goes.to (T' := T20.setTop (mkF m 109 (LA9 p0 p1 p2 p3 p4 s6a s7a s8a s9a b5 cb lb) [(.int (lcmpW (0 : Int64) (0 : Int64)))])) (fun t k => XS.lcmp X20.here hx rfl (hb hby at_108) rfl k) ?_
  refine Goes.to (T' := T20.setTop (mkF m 112 (LA9 p0 p1 p2 p3 p4 s6a s7a s8a s9a b5 cb lb) [])) (fun t k => XS.ifNo X20.here hx rfl (hb hby at_109) rfl ((if0 _ _).trans (teq (by decide)).2) k) ?_
  refine Goes.to (T' := T20.setTop (mkF m 114 (LA9 p0 p1 p2 p3 p4 s6a s7a s8a s9a b5 cb lb) [(.ref cb)])) (fun t k => XS.aload X20.here hx rfl (hb hby at_112) rfl rfl k) ?_
  obtain ⟨cq21, kq21, q21a, q21b, q21c⟩ := isOf hZ e20 E_cb
  obtain ⟨_, _, ⟨T21, L21, k21, n21⟩, -, X21, ⟨Lc21, hQ21, l21, y21, z21⟩, st21⟩ := X20.virtualBack hx (y := (⟨"com/example/nightcrawler/nightcrawler/engine/CommittedBatches", "deleted", "()J"⟩ : MethodName)) (z := (⟨"com/example/nightcrawler/nightcrawler/engine/CommittedBatches", "deleted", "()J"⟩ : MethodName)) hown (mvT hZ (wi hw 138 rfl)) (mvT hZ (wi hw 139 rfl)) (notFace_of_selects (args := #[]) (mvT hZ (wi hw 141 rfl))) (mvT hZ (wi hw 141 rfl)) (mvT hZ (wi hw 140 rfl)) (by decide) (backOf (W := 0) (rm_deleted hw cb  T18.heap n0 OC NF F_deleted_cb) hZ (wi hw 142 rfl) (wi hw 52 rfl) (by decide) (by decide)) q21a q21c (g := (mkF m 114 (LA9 p0 p1 p2 p3 p4 s6a s7a s8a s9a b5 cb lb) [(.ref cb)])) rfl (by rw [hml]; rfl) (Steps.refl _) (argsL := []) (rest := []) (lenOf pd_522 rfl) rfl (by show 2 * 0 + _ ≤ _; exact Nat.le_of_eq rfl) (hb hby at_114) (fun _ _ => ⟨rfl, e20, (by decide : 37 + 0 ≤ _), (by decide : 118 + 0 ≤ _)⟩)
  dsimp only [Pt.U, Pt.locs, Pt.cells, Pt.slots] at X21 l21 y21 z21 st21 hQ21
  subst l21 y21 z21
  obtain ⟨rfl, Nq21, e21⟩ := hQ21
  have N21 := Fr.app N20 Nq21
  refine Goes.thru (T' := T21.setTop (mkF m 117 (LA9 p0 p1 p2 p3 p4 s6a s7a s8a s9a b5 cb lb) [(.long (0 : Int64))])) st21 ?_
  refine Goes.to (T' := T21.setTop (mkF m 118 (LA9 p0 p1 p2 p3 p4 s6a s7a s8a s9a b5 cb lb) [(.long (0 : Int64)), (.long (0 : Int64))])) (fun t k => XS.lconst X21.here hx rfl (hb hby at_117) k) ?_
  refine Goes.to (T' := T21.setTop (mkF m 119 (LA9 p0 p1 p2 p3 p4 s6a s7a s8a s9a b5 cb lb) [(.int (lcmpW (0 : Int64) (0 : Int64)))])) (fun t k => XS.lcmp X21.here hx rfl (hb hby at_118) rfl k) ?_
  refine Goes.to (T' := T21.setTop (mkF m 122 (LA9 p0 p1 p2 p3 p4 s6a s7a s8a s9a b5 cb lb) [])) (fun t k => XS.ifNo X21.here hx rfl (hb hby at_119) rfl ((if0 _ _).trans (teq (by decide)).2) k) ?_
  refine Goes.to (T' := T21.setTop (mkF m 124 (LA9 p0 p1 p2 p3 p4 s6a s7a s8a s9a b5 cb lb) [(.ref cb)])) (fun t k => XS.aload X21.here hx rfl (hb hby at_122) rfl rfl k) ?_
  obtain ⟨cq22, kq22, q22a, q22b, q22c⟩ := isOf hZ e21 E_cb
  obtain ⟨_, _, ⟨T22, L22, k22, n22⟩, -, X22, ⟨Lc22, hQ22, l22, y22, z22⟩, st22⟩ := X21.virtualBack hx (y := (⟨"com/example/nightcrawler/nightcrawler/engine/CommittedBatches", "lost", "()J"⟩ : MethodName)) (z := (⟨"com/example/nightcrawler/nightcrawler/engine/CommittedBatches", "lost", "()J"⟩ : MethodName)) hown (mvT hZ (wi hw 143 rfl)) (mvT hZ (wi hw 144 rfl)) (notFace_of_selects (args := #[]) (mvT hZ (wi hw 146 rfl))) (mvT hZ (wi hw 146 rfl)) (mvT hZ (wi hw 145 rfl)) (by decide) (backOf (W := 0) (rm_lost hw cb  T18.heap n0 OC NF F_lost_cb) hZ (wi hw 147 rfl) (wi hw 52 rfl) (by decide) (by decide)) q22a q22c (g := (mkF m 124 (LA9 p0 p1 p2 p3 p4 s6a s7a s8a s9a b5 cb lb) [(.ref cb)])) rfl (by rw [hml]; rfl) (Steps.refl _) (argsL := []) (rest := []) (lenOf pd_522 rfl) rfl (by show 2 * 0 + _ ≤ _; exact Nat.le_of_eq rfl) (hb hby at_124) (fun _ _ => ⟨rfl, e21, (by decide : 37 + 0 ≤ _), (by decide : 118 + 0 ≤ _)⟩)
  dsimp only [Pt.U, Pt.locs, Pt.cells, Pt.slots] at X22 l22 y22 z22 st22 hQ22
  subst l22 y22 z22
  obtain ⟨rfl, Nq22, e22⟩ := hQ22
  have N22 := Fr.app N21 Nq22
  refine Goes.thru (T' := T22.setTop (mkF m 127 (LA9 p0 p1 p2 p3 p4 s6a s7a s8a s9a b5 cb lb) [(.long (0 : Int64))])) st22 ?_
  refine Goes.to (T' := T22.setTop (mkF m 128 (LA9 p0 p1 p2 p3 p4 s6a s7a s8a s9a b5 cb lb) [(.long (0 : Int64)), (.long (0 : Int64))])) (fun t k => XS.lconst X22.here hx rfl (hb hby at_127) k) ?_
  refine Goes.to (T' := T22.setTop (mkF m 129 (LA9 p0 p1 p2 p3 p4 s6a s7a s8a s9a b5 cb lb) [(.int (lcmpW (0 : Int64) (0 : Int64)))])) (fun t k => XS.lcmp X22.here hx rfl (hb hby at_128) rfl k) ?_
  refine Goes.to (T' := T22.setTop (mkF m 132 (LA9 p0 p1 p2 p3 p4 s6a s7a s8a s9a b5 cb lb) [])) (fun t k => XS.ifNo X22.here hx rfl (hb hby at_129) rfl ((if0 _ _).trans (teq (by decide)).2) k) ?_
  refine Goes.to (T' := T22.setTop (mkF m 134 (LA9 p0 p1 p2 p3 p4 s6a s7a s8a s9a b5 cb lb) [(.ref cb)])) (fun t k => XS.aload X22.here hx rfl (hb hby at_132) rfl rfl k) ?_
  obtain ⟨cq23, kq23, q23a, q23b, q23c⟩ := isOf hZ e22 E_cb
  obtain ⟨_, _, ⟨T23, L23, k23, n23⟩, -, X23, ⟨Lc23, hQ23, l23, y23, z23⟩, st23⟩ := X22.virtualBack hx (y := (⟨"com/example/nightcrawler/nightcrawler/engine/CommittedBatches", "usedUp", "()Z"⟩ : MethodName)) (z := (⟨"com/example/nightcrawler/nightcrawler/engine/CommittedBatches", "usedUp", "()Z"⟩ : MethodName)) hown (mvT hZ (wi hw 148 rfl)) (mvT hZ (wi hw 149 rfl)) (notFace_of_selects (args := #[]) (mvT hZ (wi hw 151 rfl))) (mvT hZ (wi hw 151 rfl)) (mvT hZ (wi hw 150 rfl)) (by decide) (backOf (W := 0) (rm_usedUp hw cb  T18.heap n0 OC NF F_usedUp_cb) hZ (wi hw 152 rfl) (wi hw 52 rfl) (by decide) (by decide)) q23a q23c (g := (mkF m 134 (LA9 p0 p1 p2 p3 p4 s6a s7a s8a s9a b5 cb lb) [(.ref cb)])) rfl (by rw [hml]; rfl) (Steps.refl _) (argsL := []) (rest := []) (lenOf pd_186 rfl) rfl (by show 2 * 0 + _ ≤ _; exact Nat.le_of_eq rfl) (hb hby at_134) (fun _ _ => ⟨rfl, e22, (by decide : 37 + 0 ≤ _), (by decide : 118 + 0 ≤ _)⟩)
  dsimp only [Pt.U, Pt.locs, Pt.cells, Pt.slots] at X23 l23 y23 z23 st23 hQ23
  subst l23 y23 z23
  obtain ⟨rfl, Nq23, e23⟩ := hQ23
  have N23 := Fr.app N22 Nq23
  refine Goes.thru (T' := T23.setTop (mkF m 137 (LA9 p0 p1 p2 p3 p4 s6a s7a s8a s9a b5 cb lb) [(.int (1 : Int32))])) st23 ?_
  refine Goes.to (T' := T23.setTop (mkF m 140 (LA9 p0 p1 p2 p3 p4 s6a s7a s8a s9a b5 cb lb) [])) (fun t k => XS.ifNo X23.here hx rfl (hb hby at_137) rfl ((if0 _ _).trans (feq (by decide)).1) k) ?_
  refine Goes.to (T' := T23.setTop (mkF m 142 (LA9 p0 p1 p2 p3 p4 s6a s7a s8a s9a b5 cb lb) [(.ref lb)])) (fun t k => XS.aload X23.here hx rfl (hb hby at_140) rfl rfl k) ?_
  obtain ⟨cq24, kq24, q24a, q24b, q24c⟩ := isOf hZ e23 E_lb
  obtain ⟨_, _, ⟨T24, L24, k24, n24⟩, -, X24, ⟨Lc24, hQ24, l24, y24, z24⟩, st24⟩ := X23.interfaceBack hx (xi := (⟨"java/util/List", "size", "()I"⟩ : MethodName)) (y := (⟨"java/util/ImmutableCollections$List12", "size", "()I"⟩ : MethodName)) hown (mvT hZ (wi hw 153 rfl)) (mvT hZ (wi hw 154 rfl)) (mvT hZ (wi hw 155 rfl)) (mvT hZ (wi hw 281 rfl)) (mvT hZ (wi hw 282 rfl)) (mvT hZ (wi hw 283 rfl)) (mvT hZ (wi hw 284 rfl)) (mvT hZ (wi hw 285 rfl)) (by decide) (backOf (W := 0) (rmN1 hw lb  T18.heap n0 OC NF F_e1_lb) hZ (wi hw 286 rfl) (wi hw 267 rfl) (by decide) (by decide)) q24a q24b q24c (g := (mkF m 142 (LA9 p0 p1 p2 p3 p4 s6a s7a s8a s9a b5 cb lb) [(.ref lb)])) rfl (by rw [hml]; rfl) (Steps.refl _) (argsL := []) (rest := []) (lenOf pd_523 rfl) rfl (by show 2 * 0 + _ ≤ _; exact Nat.le_of_eq rfl) (hb hby at_142) (fun _ _ => ⟨rfl, e23, (by decide : 37 + 0 ≤ _), (by decide : 118 + 0 ≤ _)⟩)
  dsimp only [Pt.U, Pt.locs, Pt.cells, Pt.slots] at X24 l24 y24 z24 st24 hQ24
  subst l24 y24 z24
  obtain ⟨rfl, Nq24, e24⟩ := hQ24
  have N24 := Fr.app N23 Nq24
  refine Goes.thru (T' := T24.setTop (mkF m 147 (LA9 p0 p1 p2 p3 p4 s6a s7a s8a s9a b5 cb lb) [(.int (1 : Int32))])) st24 ?_
  refine Goes.to (T' := T24.setTop (mkF m 149 (LA9 p0 p1 p2 p3 p4 s6a s7a s8a s9a b5 cb lb) [(.int (1 : Int32)), (.int (1 : Int32))])) (fun t k => XS.iload X24.here hx rfl (hb hby at_147) rfl k) ?_
  refine Goes.to (T' := T24.setTop (mkF m 152 (LA9 p0 p1 p2 p3 p4 s6a s7a s8a s9a b5 cb lb) [])) (fun t k => XS.icmpNo X24.here hx rfl (hb hby at_149) rfl (teq (by decide)).2 k) ?_
  refine Goes.to (T' := T24.setTop (mkF m 153 (LA9 p0 p1 p2 p3 p4 s6a s7a s8a s9a b5 cb lb) [(.int (1 : Int32))])) (fun t k => XS.iconst X24.here hx rfl (hb hby at_152) k) ?_
  refine Goes.to (T' := T24.setTop (mkF m 157 (LA9 p0 p1 p2 p3 p4 s6a s7a s8a s9a b5 cb lb) [(.int (1 : Int32))])) (fun t k => XS.goto X24.here hx rfl (pc0 := 153) (pc' := 157) rfl (hb hby at_153) (by decide) (by decide) k) ?_
  refine Goes.to (T' := T24.setTop (mkF m 159 (LA10 p0 p1 p2 p3 p4 s6a s7a s8a s9a b5 cb lb) [])) (fun t k => XS.istore X24.here hx rfl (hb hby at_157) rfl (l' := (LA10 p0 p1 p2 p3 p4 s6a s7a s8a s9a b5 cb lb)) rfl k) ?_
  refine Goes.to (T' := T24.setTop (mkF m 161 (LA10 p0 p1 p2 p3 p4 s6a s7a s8a s9a b5 cb lb) [(.int (1 : Int32))])) (fun t k => XS.iload X24.here hx rfl (hb hby at_159) rfl k) ?_
  refine Goes.to (T' := T24.setTop (mkF m 164 (LA10 p0 p1 p2 p3 p4 s6a s7a s8a s9a b5 cb lb) [])) (fun t k => XS.ifNo X24.here hx rfl (hb hby at_161) rfl ((if0 _ _).trans (feq (by decide)).1) k) ?_
  refine Goes.to (T' := T24.setTop (mkF m 166 (LA10 p0 p1 p2 p3 p4 s6a s7a s8a s9a b5 cb lb) [(.int (1 : Int32))])) (fun t k => XS.iload X24.here hx rfl (hb hby at_164) rfl k) ?_
  refine Goes.to (T' := T24.setTop (mkF m 169 (LA10 p0 p1 p2 p3 p4 s6a s7a s8a s9a b5 cb lb) [])) (fun t k => XS.ifNo X24.here hx rfl (hb hby at_166) rfl ((if0 _ _).trans (tlt (by decide)).2.2.2) k) ?_
  refine Goes.to (T' := T24.setTop (mkF m 171 (LA10 p0 p1 p2 p3 p4 s6a s7a s8a s9a b5 cb lb) [(.ref lb)])) (fun t k => XS.aload X24.here hx rfl (hb hby at_169) rfl rfl k) ?_
  refine Goes.to (T' := T24.setTop (mkF m 172 (LA10 p0 p1 p2 p3 p4 s6a s7a s8a s9a b5 cb lb) [(.int (0 : Int32)), (.ref lb)])) (fun t k => XS.iconst X24.here hx rfl (hb hby at_171) k) ?_
  obtain ⟨cq25, kq25, q25a, q25b, q25c⟩ := isOf hZ e24 E_lb
  obtain ⟨_, _, ⟨T25, L25, k25, n25⟩, -, X25, ⟨Lc25, hQ25, l25, y25, z25⟩, st25⟩ := X24.interfaceBack hx (xi := (⟨"java/util/List", "get", "(I)Ljava/lang/Object;"⟩ : MethodName)) (y := (⟨"java/util/ImmutableCollections$List12", "get", "(I)Ljava/lang/Object;"⟩ : MethodName)) hown (mvT hZ (wi hw 227 rfl)) (mvT hZ (wi hw 228 rfl)) (mvT hZ (wi hw 229 rfl)) (mvT hZ (wi hw 288 rfl)) (mvT hZ (wi hw 289 rfl)) (mvT hZ (wi hw 290 rfl)) (mvT hZ (wi hw 291 rfl)) (mvT hZ (wi hw 285 rfl)) (by decide) (backOf (W := 0) (rmG0 hw lb s6a T18.heap n0 OC NF F_e0_lb) hZ (wi hw 292 rfl) (wi hw 267 rfl) (by decide) (by decide)) q25a q25b q25c (g := (mkF m 172 (LA10 p0 p1 p2 p3 p4 s6a s7a s8a s9a b5 cb lb) [(.int (0 : Int32)), (.ref lb)])) rfl (by rw [hml]; rfl) (Steps.refl _) (argsL := [(.int (0 : Int32))]) (rest := []) (lenOf pd_529 rfl) rfl (by show 2 * 0 + _ ≤ _; exact Nat.le_of_eq rfl) (hb hby at_172) (fun _ _ => ⟨rfl, e24, (by decide : 37 + 0 ≤ _), (by decide : 118 + 0 ≤ _)⟩)
  dsimp only [Pt.U, Pt.locs, Pt.cells, Pt.slots] at X25 l25 y25 z25 st25 hQ25
  subst l25 y25 z25
  obtain ⟨rfl, Nq25, e25⟩ := hQ25
  have N25 := Fr.app N24 Nq25
  refine Goes.thru (T' := T25.setTop (mkF m 177 (LA10 p0 p1 p2 p3 p4 s6a s7a s8a s9a b5 cb lb) [(.ref s6a)])) st25 ?_
  obtain ⟨T26, X26, e26, st26⟩ := castY X25 hx hZ hown (wi hw 4 rfl) e25 (Ins.self E_s6a) (g := (mkF m 177 (LA10 p0 p1 p2 p3 p4 s6a s7a s8a s9a b5 cb lb) [(.ref s6a)])) rfl rfl (hb hby at_177)
  refine Goes.to (T' := T26.setTop (mkF m 180 (LA10 p0 p1 p2 p3 p4 s6a s7a s8a s9a b5 cb lb) [(.ref s6a)])) st26 ?_
  refine Goes.to (T' := T26.setTop (mkF m 182 (LA10 p0 p1 p2 p3 p4 s6a s7a s8a s9a b5 cb lb) [(.ref s6a), (.ref s6a)])) (fun t k => XS.aload X26.here hx rfl (hb hby at_180) rfl rfl k) ?_
  obtain ⟨cq27, kq27, q27a, q27b, q27c⟩ := isOf hZ e26 E_s6a
  obtain ⟨_, _, ⟨T27, L27, k27, n27⟩, -, X27, ⟨Lc27, hQ27, l27, y27, z27⟩, st27⟩ := X26.virtualBack hx (y := (⟨"java/lang/String", "equals", "(Ljava/lang/Object;)Z"⟩ : MethodName)) (z := (⟨"java/lang/String", "equals", "(Ljava/lang/Object;)Z"⟩ : MethodName)) hown (mvT hZ (wi hw 235 rfl)) (mvT hZ (wi hw 236 rfl)) (notFace_of_selects (args := #[]) (mvT hZ (wi hw 238 rfl))) (mvT hZ (wi hw 238 rfl)) (mvT hZ (wi hw 237 rfl)) (by decide) (backOf (W := 0) (rmSS hw s6a  T18.heap n0 OC NF ) hZ (wi hw 239 rfl) (wi hw 6 rfl) (by decide) (by decide)) q27a q27c (g := (mkF m 182 (LA10 p0 p1 p2 p3 p4 s6a s7a s8a s9a b5 cb lb) [(.ref s6a), (.ref s6a)])) rfl (by rw [hml]; rfl) (Steps.refl _) (argsL := [(.ref s6a)]) (rest := []) (lenOf pd_520 rfl) rfl (by show 2 * 0 + _ ≤ _; exact Nat.le_of_eq rfl) (hb hby at_182) (fun _ _ => ⟨rfl, e26, (by decide : 37 + 0 ≤ _), (by decide : 118 + 0 ≤ _)⟩)
  dsimp only [Pt.U, Pt.locs, Pt.cells, Pt.slots] at X27 l27 y27 z27 st27 hQ27
  subst l27 y27 z27
  obtain ⟨rfl, Nq27, e27⟩ := hQ27
  have N27 := Fr.app N25 Nq27
  refine Goes.thru (T' := T27.setTop (mkF m 185 (LA10 p0 p1 p2 p3 p4 s6a s7a s8a s9a b5 cb lb) [(.int (1 : Int32))])) st27 ?_
  refine Goes.to (T' := T27.setTop (mkF m 187 (LA10 p0 p1 p2 p3 p4 s6a s7a s8a s9a b5 cb lb) [])) (fun t k => XS.istore X27.here hx rfl (hb hby at_185) rfl (l' := (LA10 p0 p1 p2 p3 p4 s6a s7a s8a s9a b5 cb lb)) rfl k) ?_
  refine Goes.to (T' := T27.setTop (mkF m 189 (LA10 p0 p1 p2 p3 p4 s6a s7a s8a s9a b5 cb lb) [(.int (1 : Int32))])) (fun t k => XS.iload X27.here hx rfl (hb hby at_187) rfl k) ?_
  refine Goes.to (T' := T27.setTop (mkF m 192 (LA10 p0 p1 p2 p3 p4 s6a s7a s8a s9a b5 cb lb) [])) (fun t k => XS.ifNo X27.here hx rfl (hb hby at_189) rfl ((if0 _ _).trans (feq (by decide)).1) k) ?_
  refine Goes.to (T' := T27.setTop (mkF m 194 (LA10 p0 p1 p2 p3 p4 s6a s7a s8a s9a b5 cb lb) [(.int (1 : Int32))])) (fun t k => XS.iload X27.here hx rfl (hb hby at_192) rfl k) ?_
  refine Goes.to (T' := T27.setTop (mkF m 195 (LA10 p0 p1 p2 p3 p4 s6a s7a s8a s9a b5 cb lb) [(.int (1 : Int32)), (.int (1 : Int32))])) (fun t k => XS.iconst X27.here hx rfl (hb hby at_194) k) ?_
  refine Goes.to (T' := T27.setTop (mkF m 216 (LA10 p0 p1 p2 p3 p4 s6a s7a s8a s9a b5 cb lb) [])) (fun t k => XS.icmpYes X27.here hx rfl (pc0 := 195) (pc' := 216) rfl (hb hby at_195) rfl (flt (by decide)).2.2.2 (by decide) (by decide) k) ?_
  refine Goes.to (T' := T27.setTop (mkF m 218 (LA10 p0 p1 p2 p3 p4 s6a s7a s8a s9a b5 cb lb) [(.int (1 : Int32))])) (fun t k => XS.iload X27.here hx rfl (hb hby at_216) rfl k) ?_
  refine Goes.to (T' := T27.setTop (mkF m 221 (LA10 p0 p1 p2 p3 p4 s6a s7a s8a s9a b5 cb lb) [])) (fun t k => XS.ifNo X27.here hx rfl (hb hby at_218) rfl ((if0 _ _).trans (feq (by decide)).1) k) ?_
  refine Goes.to (T' := T27.setTop (mkF m 223 (LA10 p0 p1 p2 p3 p4 s6a s7a s8a s9a b5 cb lb) [(.int (1 : Int32))])) (fun t k => XS.iload X27.here hx rfl (hb hby at_221) rfl k) ?_
  refine Goes.to (T' := T27.setTop (mkF m 224 (LA10 p0 p1 p2 p3 p4 s6a s7a s8a s9a b5 cb lb) [(.int (2 : Int32)), (.int (1 : Int32))])) (fun t k => XS.iconst X27.here hx rfl (hb hby at_223) k) ?_
  refine Goes.to (T' := T27.setTop (mkF m 245 (LA10 p0 p1 p2 p3 p4 s6a s7a s8a s9a b5 cb lb) [])) (fun t k => XS.icmpYes X27.here hx rfl (pc0 := 224) (pc' := 245) rfl (hb hby at_224) rfl (flt (by decide)).2.2.2 (by decide) (by decide) k) ?_
  refine Goes.to (T' := T27.setTop (mkF m 247 (LA10 p0 p1 p2 p3 p4 s6a s7a s8a s9a b5 cb lb) [(.int (1 : Int32))])) (fun t k => XS.iload X27.here hx rfl (hb hby at_245) rfl k) ?_
  obtain ⟨fs, hrL, hrun, hended, hRW⟩ := X27.leaveW hS (by rw [e27]; exact hk) (v := some (.int (1 : Int32))) (fun h => by rw [Bd.returns] at h; cases h)
  subst hQf
  refine ⟨_, _, retN X27 hx (t := .boolean) Bd.returns (by simp) (hb hby at_247) hrL, hrun, hended, _, _, rfl, ?_, hRW.1, hRW.2.1, hRW.2.2.1, hRW.2.2.2.mono (by decide) (by decide)⟩
  show Q_rm0  h0 n0 (some (.int (1 : Int32))) T27.heap _
  rw [e27]
  exact ⟨rfl, N27⟩
def LA11 (v0 : Int32) (v1 : Int32) (v2 : Int32) (v3 : Int32) (v4 : Int32) (v5 : Addr) (v6 : Addr) (v7 : Addr) (v8 : Addr) (v9 : Addr) : Array Slot := #[.val (.int v0), .val (.int v1), .val (.int v2), .val (.int v3), .val (.int v4), .val (.int (2 : Int32)), .val (.ref v5), .val (.ref v6), .val (.ref v7), .val (.ref v8), .val (.ref v9), .unset, .unset, .unset]
def LA12 (v0 : Int32) (v1 : Int32) (v2 : Int32) (v3 : Int32) (v4 : Int32) (v5 : Addr) (v6 : Addr) (v7 : Addr) (v8 : Addr) (v9 : Addr) (v10 : Addr) : Array Slot := #[.val (.int v0), .val (.int v1), .val (.int v2), .val (.int v3), .val (.int v4), .val (.int (2 : Int32)), .val (.ref v5), .val (.ref v6), .val (.ref v7), .val (.ref v8), .val (.ref v9), .val (.ref v10), .unset, .unset]
def LA13 (v0 : Int32) (v1 : Int32) (v2 : Int32) (v3 : Int32) (v4 : Int32) (v5 : Addr) (v6 : Addr) (v7 : Addr) (v8 : Addr) (v9 : Addr) (v10 : Addr) (v11 : Addr) : Array Slot := #[.val (.int v0), .val (.int v1), .val (.int v2), .val (.int v3), .val (.int v4), .val (.int (2 : Int32)), .val (.ref v5), .val (.ref v6), .val (.ref v7), .val (.ref v8), .val (.ref v9), .val (.ref v10), .val (.ref v11), .unset]
def LA14 (v0 : Int32) (v1 : Int32) (v2 : Int32) (v3 : Int32) (v4 : Int32) (v5 : Addr) (v6 : Addr) (v7 : Addr) (v8 : Addr) (v9 : Addr) (v10 : Addr) (v11 : Addr) : Array Slot := #[.val (.int v0), .val (.int v1), .val (.int v2), .val (.int v3), .val (.int v4), .val (.int (2 : Int32)), .val (.ref v5), .val (.ref v6), .val (.ref v7), .val (.ref v8), .val (.ref v9), .val (.ref v10), .val (.ref v11), .val (.int (1 : Int32))]
theorem rm0_n2 (hw : HW a0 Z) (p0 : Int32) (p1 : Int32) (p2 : Int32) (p3 : Int32) (p4 : Int32) (vmC : Vm) (h0 : Heap) (n0 : Nat) (NF : Nar Z w3 w0 w2 w1 w4 k_w3 k_w0 k_w1 z_cs w5) (p : Program) (e : Env) (s : State) (m : MethodId) (below : List Frame) (meth : _) (c : _) (s₁ : State) (Bd : BodyLoose p l x (head1 (Jvm.Cond.code x code maxLocals ret :: ws) room_1) code maxLocals ret e s m #[(.int p0), (.int p1), (.int p2), (.int p3), (.int p4)] below meth c s₁) (hml : c.maxLocals = 14) (vmB : Vm) (kS : Nat) (hS : s.Since vmB kS) (hZ : Z.Warmed39 (s.setVm vmB).vm) (hown : (s.setVm vmB).vm.findClass "com/example/nightcrawler/nightcrawler/engine/CommittedBatchesNonePinLaw" = some m.cls) (Qf : Outcome → State → Prop) (hQf : Qf = (fun (_ : Array Value) (U : State) (o : Outcome) (U' : State) => ∃ v L, o = .returned v ∧ Q_rm0  h0 n0 v U'.heap L ∧ ReturnedEndW U o U' L room_1.cells room_1.slots) #[] s) (s6a : Addr) (s7a : Addr) (s8a : Addr) (s9a : Addr) (b5 : Addr) (g_b5 : n0 ≤ b5) (g_s6a : n0 ≤ s6a) (g_s7a : n0 ≤ s7a) (g_s8a : n0 ≤ s8a) (g_s9a : n0 ≤ s9a) (ne_b5_s6a : b5 ≠ s6a) (ne_b5_s7a : b5 ≠ s7a) (ne_b5_s8a : b5 ≠ s8a) (ne_b5_s9a : b5 ≠ s9a) (ne_s6a_b5 : s6a ≠ b5) (ne_s7a_b5 : s7a ≠ b5) (ne_s8a_b5 : s8a ≠ b5) (ne_s9a_b5 : s9a ≠ b5) (TC : State) (locsC : List Loc) (hC : Heap) (XC : Stand p l e room_1 (s.setVm vmB) m #[(.int p0), (.int p1), (.int p2), (.int p3), (.int p4)] below meth c TC locsC 33 99) (eC : TC.heap = hC) (hk : kS ≤ hC.size) (OC : Old Z n0 hC) (E_s6a : Exa Z hC s6a "java/lang/String") (E_s7a : Exa Z hC s7a "java/lang/String") (E_s8a : Exa Z hC s8a "java/lang/String") (E_s9a : Exa Z hC s9a "java/lang/String") (E_b5 : Exa Z hC b5 "java/util/ArrayList") (F_modCount_b5 : Fld Z hC b5 "java/util/AbstractList" "modCount" "I" (.int (0 : Int32))) (F_elementData_b5 : Fld Z hC b5 "java/util/ArrayList" "elementData" "[Ljava/lang/Object;" (.ref w0)) (F_size_b5 : Fld Z hC b5 "java/util/ArrayList" "size" "I" (.int (0 : Int32))) (NC : Fr n0 locsC) : Goes p.tables e below Qf (TC.setTop (mkF m 39 (LA11 p0 p1 p2 p3 p4 s6a s7a s8a s9a b5) [])) := by
  have hx := Bd.exec
  have hby := Bd.bytes
  have hnm := (name_of_methodNamed Bd.named Bd.method).1
  obtain ⟨S_w3, E_w3, S_w0, E_w0, S_w2, E_w2, F_elements_w2, E_w1, S_w4, E_w4, F_allowNulls_w2, S_w_ImmutableCollections__assertionsDisabled, V_w3, V_w0, V_w1, S_cs, nz_cs, M_OA⟩ := id NF
  refine Goes.to (T' := TC.setTop (mkF m 41 (LA11 p0 p1 p2 p3 p4 s6a s7a s8a s9a b5) [(.int (2 : Int32))])) (fun t k => XS.iload XC.here hx rfl (hb hby at_39) rfl k) ?_
  refine Goes.to (T' := TC.setTop (mkF m 44 (LA11 p0 p1 p2 p3 p4 s6a s7a s8a s9a b5) [])) (fun t k => XS.ifNo XC.here hx rfl (hb hby at_41) rfl ((if0 _ _).trans (tlt (by decide)).2.2.2) k) ?_
  refine Goes.to (T' := TC.setTop (mkF m 46 (LA11 p0 p1 p2 p3 p4 s6a s7a s8a s9a b5) [(.ref b5)])) (fun t k => XS.aload XC.here hx rfl (hb hby at_44) rfl rfl k) ?_
  refine Goes.to (T' := TC.setTop (mkF m 48 (LA11 p0 p1 p2 p3 p4 s6a s7a s8a s9a b5) [(.ref s6a), (.ref b5)])) (fun t k => XS.aload XC.here hx rfl (hb hby at_46) rfl rfl k) ?_
  obtain ⟨cq28, kq28, q28a, q28b, q28c⟩ := isOf hZ eC E_b5
  obtain ⟨_, _, ⟨T28, L28, k28, n28⟩, -, X28, ⟨Lc28, hQ28, l28, y28, z28⟩, st28⟩ := XC.virtualBack hx (y := (⟨"java/util/ArrayList", "add", "(Ljava/lang/Object;)Z"⟩ : MethodName)) (z := (⟨"java/util/ArrayList", "add", "(Ljava/lang/Object;)Z"⟩ : MethodName)) hown (mvT hZ (wi hw 99 rfl)) (mvT hZ (wi hw 100 rfl)) (notFace_of_selects (args := #[]) (mvT hZ (wi hw 102 rfl))) (mvT hZ (wi hw 102 rfl)) (mvT hZ (wi hw 101 rfl)) (by decide) (backOf (W := 0) (rmA0 hw b5 s6a ((0 : Int32)) hC n0 OC NF E_b5 F_modCount_b5 F_elementData_b5 F_size_b5 E_s6a g_b5) hZ (wi hw 103 rfl) (wi hw 28 rfl) (by decide) (by decide)) q28a q28c (g := (mkF m 48 (LA11 p0 p1 p2 p3 p4 s6a s7a s8a s9a b5) [(.ref s6a), (.ref b5)])) rfl (by rw [hml]; rfl) (Steps.refl _) (argsL := [(.ref s6a)]) (rest := []) (lenOf pd_520 rfl) rfl (by show 2 * 0 + _ ≤ _; exact Nat.le_of_eq rfl) (hb hby at_48) (fun _ _ => ⟨rfl, eC, (by decide : 33 + 1 ≤ _), (by decide : 99 + 10 ≤ _)⟩)
  dsimp only [Pt.U, Pt.locs, Pt.cells, Pt.slots] at X28 l28 y28 z28 st28 hQ28
  subst l28 y28 z28
  obtain ⟨⟨rfl, ed, kd, ge28, se28, Ov28, r0_28, r1_28, r2_28, r3_28, r4_28, r5_28⟩, Nq28, K28⟩ := hQ28
  have N28 := Fr.app NC Nq28
  have g_ed : n0 ≤ ed := ge28
  have ne_s6a_ed : s6a ≠ ed := Nat.ne_of_lt (Nat.lt_of_lt_of_le E_s6a.lt se28)
  have ne_ed_s6a := Ne.symm ne_s6a_ed
  have ne_s7a_ed : s7a ≠ ed := Nat.ne_of_lt (Nat.lt_of_lt_of_le E_s7a.lt se28)
  have ne_ed_s7a := Ne.symm ne_s7a_ed
  have ne_s8a_ed : s8a ≠ ed := Nat.ne_of_lt (Nat.lt_of_lt_of_le E_s8a.lt se28)
  have ne_ed_s8a := Ne.symm ne_s8a_ed
  have ne_s9a_ed : s9a ≠ ed := Nat.ne_of_lt (Nat.lt_of_lt_of_le E_s9a.lt se28)
  have ne_ed_s9a := Ne.symm ne_s9a_ed
  have ne_b5_ed : b5 ≠ ed := Nat.ne_of_lt (Nat.lt_of_lt_of_le E_b5.lt se28)
  have ne_ed_b5 := Ne.symm ne_b5_ed
  have E_s6a := E_s6a.keep K28
  have E_s7a := E_s7a.keep K28
  have E_s8a := E_s8a.keep K28
  have E_s9a := E_s9a.keep K28
  have E_b5 := E_b5.keep K28
  have OC := OC.keep K28 (allS g_b5 all0)
  have hk := Nat.le_trans hk K28.1
  have E_b5 := r0_28
  have F_modCount_b5 := r1_28
  have F_elementData_b5 := r2_28
  have F_size_b5 := r3_28
  have V_ed := r4_28
  have E_ed := r5_28
  have Ov_ed := Ov28
  refine Goes.thru (T' := T28.setTop (mkF m 51 (LA11 p0 p1 p2 p3 p4 s6a s7a s8a s9a b5) [(.int (1 : Int32))])) st28 ?_
  refine Goes.to (T' := T28.setTop (mkF m 52 (LA11 p0 p1 p2 p3 p4 s6a s7a s8a s9a b5) [])) (fun t k => XS.pop X28.here hx rfl (hb hby at_51) rfl rfl k) ?_
  refine Goes.to (T' := T28.setTop (mkF m 54 (LA11 p0 p1 p2 p3 p4 s6a s7a s8a s9a b5) [(.int (2 : Int32))])) (fun t k => XS.iload X28.here hx rfl (hb hby at_52) rfl k) ?_
  refine Goes.to (T' := T28.setTop (mkF m 55 (LA11 p0 p1 p2 p3 p4 s6a s7a s8a s9a b5) [(.int (1 : Int32)), (.int (2 : Int32))])) (fun t k => XS.iconst X28.here hx rfl (hb hby at_54) k) ?_
  refine Goes.to (T' := T28.setTop (mkF m 58 (LA11 p0 p1 p2 p3 p4 s6a s7a s8a s9a b5) [])) (fun t k => XS.icmpNo X28.here hx rfl (hb hby at_55) rfl (tlt (by decide)).2.2.2 k) ?_
  refine Goes.to (T' := T28.setTop (mkF m 60 (LA11 p0 p1 p2 p3 p4 s6a s7a s8a s9a b5) [(.ref b5)])) (fun t k => XS.aload X28.here hx rfl (hb hby at_58) rfl rfl k) ?_
  refine Goes.to (T' := T28.setTop (mkF m 62 (LA11 p0 p1 p2 p3 p4 s6a s7a s8a s9a b5) [(.ref s7a), (.ref b5)])) (fun t k => XS.aload X28.here hx rfl (hb hby at_60) rfl rfl k) ?_
  obtain ⟨cq29, kq29, q29a, q29b, q29c⟩ := isOf hZ rfl E_b5
  obtain ⟨_, _, ⟨T29, L29, k29, n29⟩, -, X29, ⟨Lc29, hQ29, l29, y29, z29⟩, st29⟩ := X28.virtualBack hx (y := (⟨"java/util/ArrayList", "add", "(Ljava/lang/Object;)Z"⟩ : MethodName)) (z := (⟨"java/util/ArrayList", "add", "(Ljava/lang/Object;)Z"⟩ : MethodName)) hown (mvT hZ (wi hw 99 rfl)) (mvT hZ (wi hw 100 rfl)) (notFace_of_selects (args := #[]) (mvT hZ (wi hw 102 rfl))) (mvT hZ (wi hw 102 rfl)) (mvT hZ (wi hw 101 rfl)) (by decide) (backOf (W := 0) (rmA1 hw b5 s7a (((0 : Int32) + (1 : Int32))) ed kd s6a T28.heap n0 OC NF E_b5 F_modCount_b5 F_elementData_b5 F_size_b5 V_ed E_ed E_s7a g_b5 g_ed ne_ed_b5 Ov_ed) hZ (wi hw 103 rfl) (wi hw 28 rfl) (by decide) (by decide)) q29a q29c (g := (mkF m 62 (LA11 p0 p1 p2 p3 p4 s6a s7a s8a s9a b5) [(.ref s7a), (.ref b5)])) rfl (by rw [hml]; rfl) (Steps.refl _) (argsL := [(.ref s7a)]) (rest := []) (lenOf pd_520 rfl) rfl (by show 2 * 0 + _ ≤ _; exact Nat.le_of_eq rfl) (hb hby at_62) (fun _ _ => ⟨rfl, rfl, (by decide : 34 + 0 ≤ _), (by decide : 109 + 0 ≤ _)⟩)
  dsimp only [Pt.U, Pt.locs, Pt.cells, Pt.slots] at X29 l29 y29 z29 st29 hQ29
  subst l29 y29 z29
  obtain ⟨rfl, Nq29, K29, r0_29, r1_29, r2_29, r3_29, r4_29, r5_29⟩ := hQ29
  have N29 := Fr.app N28 Nq29
  have E_s6a := E_s6a.keep K29
  have E_s7a := E_s7a.keep K29
  have E_s8a := E_s8a.keep K29
  have E_s9a := E_s9a.keep K29
  have E_b5 := E_b5.keep K29
  have E_ed := E_ed.keep K29
  have OC := OC.keep K29 (allS g_b5 (allS g_ed all0))
  have hk := Nat.le_trans hk K29.1
  have E_b5 := r0_29
  have F_modCount_b5 := r1_29
  have F_elementData_b5 := r2_29
  have F_size_b5 := r3_29
  have V_ed := r4_29
  have E_ed := r5_29
  refine Goes.thru (T' := T29.setTop (mkF m 65 (LA11 p0 p1 p2 p3 p4 s6a s7a s8a s9a b5) [(.int (1 : Int32))])) st29 ?_
  refine Goes.to (T' := T29.setTop (mkF m 66 (LA11 p0 p1 p2 p3 p4 s6a s7a s8a s9a b5) [])) (fun t k => XS.pop X29.here hx rfl (hb hby at_65) rfl rfl k) ?_
  refine Goes.to (T' := T29.setTop (mkF m 68 (LA11 p0 p1 p2 p3 p4 s6a s7a s8a s9a b5) [(.int (2 : Int32))])) (fun t k => XS.iload X29.here hx rfl (hb hby at_66) rfl k) ?_
  refine Goes.to (T' := T29.setTop (mkF m 69 (LA11 p0 p1 p2 p3 p4 s6a s7a s8a s9a b5) [(.int (2 : Int32)), (.int (2 : Int32))])) (fun t k => XS.iconst X29.here hx rfl (hb hby at_68) k) ?_
  refine Goes.to (T' := T29.setTop (mkF m 80 (LA11 p0 p1 p2 p3 p4 s6a s7a s8a s9a b5) [])) (fun t k => XS.icmpYes X29.here hx rfl (pc0 := 69) (pc' := 80) rfl (hb hby at_69) rfl (flt (by decide)).2.2.2 (by decide) (by decide) k) ?_
  refine Goes.to (T' := T29.setTop (mkF m 82 (LA11 p0 p1 p2 p3 p4 s6a s7a s8a s9a b5) [(.ref b5)])) (fun t k => XS.aload X29.here hx rfl (hb hby at_80) rfl rfl k) ?_
  obtain ⟨_, _, ⟨T30, L30, k30, n30⟩, -, X30, ⟨Lc30, hQ30, l30, y30, z30⟩, st30⟩ := Jvm.LawKit.callS X29 hx (y := (⟨"com/example/nightcrawler/nightcrawler/engine/CommittedBatches", "none", "(Ljava/util/List;)Lcom/example/nightcrawler/nightcrawler/engine/CommittedBatches;"⟩ : MethodName)) hown (mvT hZ (wi hw 50 rfl)) (mvT hZ (wi hw 51 rfl)) (mvT hZ (wi hw 52 rfl)) (mvT hZ (wi hw 53 rfl)) (by decide) (backOf (W := 0) (rmNo2 hw b5 ((((0 : Int32) + (1 : Int32)) + (1 : Int32))) ed kd s6a s7a T29.heap n0 OC NF E_b5 F_modCount_b5 F_elementData_b5 F_size_b5 V_ed E_ed E_s6a E_s7a) hZ (wi hw 53 rfl) (wi hw 52 rfl) (by decide) (by decide)) (g := (mkF m 82 (LA11 p0 p1 p2 p3 p4 s6a s7a s8a s9a b5) [(.ref b5)])) rfl (by rw [hml]; rfl) (argsL := [(.ref b5)]) (rest := []) (lenOf pd_518 rfl) rfl (by show 2 * 0 + _ ≤ _; exact Nat.le_of_eq rfl) (hb hby at_82) (fun _ _ => ⟨rfl, rfl, (by decide : 34 + 3 ≤ _), (by decide : 109 + 10 ≤ _)⟩)
  dsimp only [Pt.U, Pt.locs, Pt.cells, Pt.slots] at X30 l30 y30 z30 st30 hQ30
  subst l30 y30 z30
  obtain ⟨⟨cb, lb, rfl, gc30, sc30, gl30, sl30, r0_30, r1_30, r2_30, r3_30, r4_30, r5_30, r6_30, r7_30, r8_30⟩, Nq30, Ex30⟩ := hQ30
  have N30 := Fr.app N29 Nq30
  have g_cb : n0 ≤ cb := gc30
  have ne_s6a_cb : s6a ≠ cb := Nat.ne_of_lt (Nat.lt_of_lt_of_le E_s6a.lt sc30)
  have ne_cb_s6a := Ne.symm ne_s6a_cb
  have ne_s7a_cb : s7a ≠ cb := Nat.ne_of_lt (Nat.lt_of_lt_of_le E_s7a.lt sc30)
  have ne_cb_s7a := Ne.symm ne_s7a_cb
  have ne_s8a_cb : s8a ≠ cb := Nat.ne_of_lt (Nat.lt_of_lt_of_le E_s8a.lt sc30)
  have ne_cb_s8a := Ne.symm ne_s8a_cb
  have ne_s9a_cb : s9a ≠ cb := Nat.ne_of_lt (Nat.lt_of_lt_of_le E_s9a.lt sc30)
  have ne_cb_s9a := Ne.symm ne_s9a_cb
  have ne_b5_cb : b5 ≠ cb := Nat.ne_of_lt (Nat.lt_of_lt_of_le E_b5.lt sc30)
  have ne_cb_b5 := Ne.symm ne_b5_cb
  have ne_ed_cb : ed ≠ cb := Nat.ne_of_lt (Nat.lt_of_lt_of_le E_ed.lt sc30)
  have ne_cb_ed := Ne.symm ne_ed_cb
  have g_lb : n0 ≤ lb := gl30
  have ne_s6a_lb : s6a ≠ lb := Nat.ne_of_lt (Nat.lt_of_lt_of_le E_s6a.lt sl30)
  have ne_lb_s6a := Ne.symm ne_s6a_lb
  have ne_s7a_lb : s7a ≠ lb := Nat.ne_of_lt (Nat.lt_of_lt_of_le E_s7a.lt sl30)
  have ne_lb_s7a := Ne.symm ne_s7a_lb
  have ne_s8a_lb : s8a ≠ lb := Nat.ne_of_lt (Nat.lt_of_lt_of_le E_s8a.lt sl30)
  have ne_lb_s8a := Ne.symm ne_s8a_lb
  have ne_s9a_lb : s9a ≠ lb := Nat.ne_of_lt (Nat.lt_of_lt_of_le E_s9a.lt sl30)
  have ne_lb_s9a := Ne.symm ne_s9a_lb
  have ne_b5_lb : b5 ≠ lb := Nat.ne_of_lt (Nat.lt_of_lt_of_le E_b5.lt sl30)
  have ne_lb_b5 := Ne.symm ne_b5_lb
  have ne_ed_lb : ed ≠ lb := Nat.ne_of_lt (Nat.lt_of_lt_of_le E_ed.lt sl30)
  have ne_lb_ed := Ne.symm ne_ed_lb
  have E_s6a := E_s6a.ext Ex30
  have E_s7a := E_s7a.ext Ex30
  have E_s8a := E_s8a.ext Ex30
  have E_s9a := E_s9a.ext Ex30
  have E_b5 := E_b5.ext Ex30
  have E_ed := E_ed.ext Ex30
  have F_modCount_b5 := F_modCount_b5.ext Ex30
  have F_elementData_b5 := F_elementData_b5.ext Ex30
  have F_size_b5 := F_size_b5.ext Ex30
  have V_ed := V_ed.ext Ex30
  have OC := OC.ext Ex30
  have hk := Nat.le_trans hk Ex30.1
  have E_cb := r0_30
  have F_batches_cb := r1_30
  have F_deleted_cb := r2_30
  have F_lost_cb := r3_30
  have F_usedUp_cb := r4_30
  have F_last_cb := r5_30
  have E_lb := r6_30
  have F_e0_lb := r7_30
  have F_e1_lb := r8_30
  have hneE : ¬ s7a = w4 := fun q => OC.ne E_w4.lt g_s7a q.symm
  refine Goes.to (T' := T30.setTop (mkF m 85 (LA11 p0 p1 p2 p3 p4 s6a s7a s8a s9a b5) [(.ref cb)])) st30 ?_
  refine Goes.to (T' := T30.setTop (mkF m 87 (LA12 p0 p1 p2 p3 p4 s6a s7a s8a s9a b5 cb) [])) (fun t k => XS.astore X30.here hx rfl (hb hby at_85) rfl rfl (l' := (LA12 p0 p1 p2 p3 p4 s6a s7a s8a s9a b5 cb)) rfl k) ?_
  refine Goes.to (T' := T30.setTop (mkF m 89 (LA12 p0 p1 p2 p3 p4 s6a s7a s8a s9a b5 cb) [(.ref b5)])) (fun t k => XS.aload X30.here hx rfl (hb hby at_87) rfl rfl k) ?_
  refine Goes.to (T' := T30.setTop (mkF m 91 (LA12 p0 p1 p2 p3 p4 s6a s7a s8a s9a b5 cb) [(.ref s9a), (.ref b5)])) (fun t k => XS.aload X30.here hx rfl (hb hby at_89) rfl rfl k) ?_
  obtain ⟨cq31, kq31, q31a, q31b, q31c⟩ := isOf hZ rfl E_b5
  obtain ⟨_, _, ⟨T31, L31, k31, n31⟩, -, X31, ⟨Lc31, hQ31, l31, y31, z31⟩, st31⟩ := X30.virtualBack hx (y := (⟨"java/util/ArrayList", "add", "(Ljava/lang/Object;)Z"⟩ : MethodName)) (z := (⟨"java/util/ArrayList", "add", "(Ljava/lang/Object;)Z"⟩ : MethodName)) hown (mvT hZ (wi hw 99 rfl)) (mvT hZ (wi hw 100 rfl)) (notFace_of_selects (args := #[]) (mvT hZ (wi hw 102 rfl))) (mvT hZ (wi hw 102 rfl)) (mvT hZ (wi hw 101 rfl)) (by decide) (backOf (W := 0) (rmA2 hw b5 s9a ((((0 : Int32) + (1 : Int32)) + (1 : Int32))) ed kd s6a s7a T30.heap n0 OC NF E_b5 F_modCount_b5 F_elementData_b5 F_size_b5 V_ed E_ed E_s9a g_b5 g_ed ne_ed_b5 Ov_ed) hZ (wi hw 103 rfl) (wi hw 28 rfl) (by decide) (by decide)) q31a q31c (g := (mkF m 91 (LA12 p0 p1 p2 p3 p4 s6a s7a s8a s9a b5 cb) [(.ref s9a), (.ref b5)])) rfl (by rw [hml]; rfl) (Steps.refl _) (argsL := [(.ref s9a)]) (rest := []) (lenOf pd_520 rfl) rfl (by show 2 * 0 + _ ≤ _; exact Nat.le_of_eq rfl) (hb hby at_91) (fun _ _ => ⟨rfl, rfl, (by decide : 37 + 0 ≤ _), (by decide : 119 + 0 ≤ _)⟩)
  dsimp only [Pt.U, Pt.locs, Pt.cells, Pt.slots] at X31 l31 y31 z31 st31 hQ31
  subst l31 y31 z31
  obtain ⟨rfl, Nq31, K31, r0_31, r1_31, r2_31, r3_31, r4_31, r5_31⟩ := hQ31
  have N31 := Fr.app N30 Nq31
  have E_s6a := E_s6a.keep K31
  have E_s7a := E_s7a.keep K31
  have E_s8a := E_s8a.keep K31
  have E_s9a := E_s9a.keep K31
  have E_b5 := E_b5.keep K31
  have E_ed := E_ed.keep K31
  have E_cb := E_cb.keep K31
  have F_batches_cb := F_batches_cb.keep K31 (ninS (ne_cb_b5) (ninS (ne_cb_ed) nin0))
  have F_deleted_cb := F_deleted_cb.keep K31 (ninS (ne_cb_b5) (ninS (ne_cb_ed) nin0))
  have F_lost_cb := F_lost_cb.keep K31 (ninS (ne_cb_b5) (ninS (ne_cb_ed) nin0))
  have F_usedUp_cb := F_usedUp_cb.keep K31 (ninS (ne_cb_b5) (ninS (ne_cb_ed) nin0))
  have F_last_cb := F_last_cb.keep K31 (ninS (ne_cb_b5) (ninS (ne_cb_ed) nin0))
  have E_lb := E_lb.keep K31
  have F_e0_lb := F_e0_lb.keep K31 (ninS (ne_lb_b5) (ninS (ne_lb_ed) nin0))
  have F_e1_lb := F_e1_lb.keep K31 (ninS (ne_lb_b5) (ninS (ne_lb_ed) nin0))
  have OC := OC.keep K31 (allS g_b5 (allS g_ed all0))
  have hk := Nat.le_trans hk K31.1
  have E_b5 := r0_31
  have F_modCount_b5 := r1_31
  have F_elementData_b5 := r2_31
  have F_size_b5 := r3_31
  have V_ed := r4_31
  have E_ed := r5_31
  refine Goes.thru (T' := T31.setTop (mkF m 94 (LA12 p0 p1 p2 p3 p4 s6a s7a s8a s9a b5 cb) [(.int (1 : Int32))])) st31 ?_
  refine Goes.to (T' := T31.setTop (mkF m 95 (LA12 p0 p1 p2 p3 p4 s6a s7a s8a s9a b5 cb) [])) (fun t k => XS.pop X31.here hx rfl (hb hby at_94) rfl rfl k) ?_
  refine Goes.to (T' := T31.setTop (mkF m 97 (LA12 p0 p1 p2 p3 p4 s6a s7a s8a s9a b5 cb) [(.ref cb)])) (fun t k => XS.aload X31.here hx rfl (hb hby at_95) rfl rfl k) ?_
  obtain ⟨cq32, kq32, q32a, q32b, q32c⟩ := isOf hZ rfl E_cb
  obtain ⟨_, _, ⟨T32, L32, k32, n32⟩, -, X32, ⟨Lc32, hQ32, l32, y32, z32⟩, st32⟩ := X31.virtualBack hx (y := (⟨"com/example/nightcrawler/nightcrawler/engine/CommittedBatches", "last", "()Ljava/util/List;"⟩ : MethodName)) (z := (⟨"com/example/nightcrawler/nightcrawler/engine/CommittedBatches", "last", "()Ljava/util/List;"⟩ : MethodName)) hown (mvT hZ (wi hw 128 rfl)) (mvT hZ (wi hw 129 rfl)) (notFace_of_selects (args := #[]) (mvT hZ (wi hw 131 rfl))) (mvT hZ (wi hw 131 rfl)) (mvT hZ (wi hw 130 rfl)) (by decide) (backOf (W := 0) (rm_last hw cb lb T31.heap n0 OC NF F_last_cb) hZ (wi hw 132 rfl) (wi hw 52 rfl) (by decide) (by decide)) q32a q32c (g := (mkF m 97 (LA12 p0 p1 p2 p3 p4 s6a s7a s8a s9a b5 cb) [(.ref cb)])) rfl (by rw [hml]; rfl) (Steps.refl _) (argsL := []) (rest := []) (lenOf pd_277 rfl) rfl (by show 2 * 0 + _ ≤ _; exact Nat.le_of_eq rfl) (hb hby at_97) (fun _ _ => ⟨rfl, rfl, (by decide : 37 + 0 ≤ _), (by decide : 119 + 0 ≤ _)⟩)
  dsimp only [Pt.U, Pt.locs, Pt.cells, Pt.slots] at X32 l32 y32 z32 st32 hQ32
  subst l32 y32 z32
  obtain ⟨rfl, Nq32, e32⟩ := hQ32
  have N32 := Fr.app N31 Nq32
  refine Goes.thru (T' := T32.setTop (mkF m 100 (LA12 p0 p1 p2 p3 p4 s6a s7a s8a s9a b5 cb) [(.ref lb)])) st32 ?_
  refine Goes.to (T' := T32.setTop (mkF m 102 (LA13 p0 p1 p2 p3 p4 s6a s7a s8a s9a b5 cb lb) [])) (fun t k => XS.astore X32.here hx rfl (hb hby at_100) rfl rfl (l' := (LA13 p0 p1 p2 p3 p4 s6a s7a s8a s9a b5 cb lb)) rfl k) ?_
  refine Goes.to (T' := T32.setTop (mkF m 104 (LA13 p0 p1 p2 p3 p4 s6a s7a s8a s9a b5 cb lb) [(.ref cb)])) (fun t k => XS.aload X32.here hx rfl (hb hby at_102) rfl rfl k) ?_
  obtain ⟨cq33, kq33, q33a, q33b, q33c⟩ := isOf hZ e32 E_cb
  obtain ⟨_, _, ⟨T33, L33, k33, n33⟩, -, X33, ⟨Lc33, hQ33, l33, y33, z33⟩, st33⟩ := X32.virtualBack hx (y := (⟨"com/example/nightcrawler/nightcrawler/engine/CommittedBatches", "batches", "()J"⟩ : MethodName)) (z := (⟨"com/example/nightcrawler/nightcrawler/engine/CommittedBatches", "batches", "()J"⟩ : MethodName)) hown (mvT hZ (wi hw 133 rfl)) (mvT hZ (wi hw 134 rfl)) (notFace_of_selects (args := #[]) (mvT hZ (wi hw 136 rfl))) (mvT hZ (wi hw 136 rfl)) (mvT hZ (wi hw 135 rfl)) (by decide) (backOf (W := 0) (rm_batches hw cb  T31.heap n0 OC NF F_batches_cb) hZ (wi hw 137 rfl) (wi hw 52 rfl) (by decide) (by decide)) q33a q33c (g := (mkF m 104 (LA13 p0 p1 p2 p3 p4 s6a s7a s8a s9a b5 cb lb) [(.ref cb)])) rfl (by rw [hml]; rfl) (Steps.refl _) (argsL := []) (rest := []) (lenOf pd_522 rfl) rfl (by show 2 * 0 + _ ≤ _; exact Nat.le_of_eq rfl) (hb hby at_104) (fun _ _ => ⟨rfl, e32, (by decide : 37 + 0 ≤ _), (by decide : 119 + 0 ≤ _)⟩)
  dsimp only [Pt.U, Pt.locs, Pt.cells, Pt.slots] at X33 l33 y33 z33 st33 hQ33
  subst l33 y33 z33
  obtain ⟨rfl, Nq33, e33⟩ := hQ33
  have N33 := Fr.app N32 Nq33
  refine Goes.thru (T' := T33.setTop (mkF m 107 (LA13 p0 p1 p2 p3 p4 s6a s7a s8a s9a b5 cb lb) [(.long (0 : Int64))])) st33 ?_
  refine Goes.to (T' := T33.setTop (mkF m 108 (LA13 p0 p1 p2 p3 p4 s6a s7a s8a s9a b5 cb lb) [(.long (0 : Int64)), (.long (0 : Int64))])) (fun t k => XS.lconst X33.here hx rfl (hb hby at_107) k) ?_
  refine Goes.to (T' := T33.setTop (mkF m 109 (LA13 p0 p1 p2 p3 p4 s6a s7a s8a s9a b5 cb lb) [(.int (lcmpW (0 : Int64) (0 : Int64)))])) (fun t k => XS.lcmp X33.here hx rfl (hb hby at_108) rfl k) ?_
  refine Goes.to (T' := T33.setTop (mkF m 112 (LA13 p0 p1 p2 p3 p4 s6a s7a s8a s9a b5 cb lb) [])) (fun t k => XS.ifNo X33.here hx rfl (hb hby at_109) rfl ((if0 _ _).trans (teq (by decide)).2) k) ?_
  refine Goes.to (T' := T33.setTop (mkF m 114 (LA13 p0 p1 p2 p3 p4 s6a s7a s8a s9a b5 cb lb) [(.ref cb)])) (fun t k => XS.aload X33.here hx rfl (hb hby at_112) rfl rfl k) ?_
  obtain ⟨cq34, kq34, q34a, q34b, q34c⟩ := isOf hZ e33 E_cb
  obtain ⟨_, _, ⟨T34, L34, k34, n34⟩, -, X34, ⟨Lc34, hQ34, l34, y34, z34⟩, st34⟩ := X33.virtualBack hx (y := (⟨"com/example/nightcrawler/nightcrawler/engine/CommittedBatches", "deleted", "()J"⟩ : MethodName)) (z := (⟨"com/example/nightcrawler/nightcrawler/engine/CommittedBatches", "deleted", "()J"⟩ : MethodName)) hown (mvT hZ (wi hw 138 rfl)) (mvT hZ (wi hw 139 rfl)) (notFace_of_selects (args := #[]) (mvT hZ (wi hw 141 rfl))) (mvT hZ (wi hw 141 rfl)) (mvT hZ (wi hw 140 rfl)) (by decide) (backOf (W := 0) (rm_deleted hw cb  T31.heap n0 OC NF F_deleted_cb) hZ (wi hw 142 rfl) (wi hw 52 rfl) (by decide) (by decide)) q34a q34c (g := (mkF m 114 (LA13 p0 p1 p2 p3 p4 s6a s7a s8a s9a b5 cb lb) [(.ref cb)])) rfl (by rw [hml]; rfl) (Steps.refl _) (argsL := []) (rest := []) (lenOf pd_522 rfl) rfl (by show 2 * 0 + _ ≤ _; exact Nat.le_of_eq rfl) (hb hby at_114) (fun _ _ => ⟨rfl, e33, (by decide : 37 + 0 ≤ _), (by decide : 119 + 0 ≤ _)⟩)
  dsimp only [Pt.U, Pt.locs, Pt.cells, Pt.slots] at X34 l34 y34 z34 st34 hQ34
  subst l34 y34 z34
  obtain ⟨rfl, Nq34, e34⟩ := hQ34
  have N34 := Fr.app N33 Nq34
  refine Goes.thru (T' := T34.setTop (mkF m 117 (LA13 p0 p1 p2 p3 p4 s6a s7a s8a s9a b5 cb lb) [(.long (0 : Int64))])) st34 ?_
  refine Goes.to (T' := T34.setTop (mkF m 118 (LA13 p0 p1 p2 p3 p4 s6a s7a s8a s9a b5 cb lb) [(.long (0 : Int64)), (.long (0 : Int64))])) (fun t k => XS.lconst X34.here hx rfl (hb hby at_117) k) ?_
  refine Goes.to (T' := T34.setTop (mkF m 119 (LA13 p0 p1 p2 p3 p4 s6a s7a s8a s9a b5 cb lb) [(.int (lcmpW (0 : Int64) (0 : Int64)))])) (fun t k => XS.lcmp X34.here hx rfl (hb hby at_118) rfl k) ?_
  refine Goes.to (T' := T34.setTop (mkF m 122 (LA13 p0 p1 p2 p3 p4 s6a s7a s8a s9a b5 cb lb) [])) (fun t k => XS.ifNo X34.here hx rfl (hb hby at_119) rfl ((if0 _ _).trans (teq (by decide)).2) k) ?_
  refine Goes.to (T' := T34.setTop (mkF m 124 (LA13 p0 p1 p2 p3 p4 s6a s7a s8a s9a b5 cb lb) [(.ref cb)])) (fun t k => XS.aload X34.here hx rfl (hb hby at_122) rfl rfl k) ?_
  obtain ⟨cq35, kq35, q35a, q35b, q35c⟩ := isOf hZ e34 E_cb
  obtain ⟨_, _, ⟨T35, L35, k35, n35⟩, -, X35, ⟨Lc35, hQ35, l35, y35, z35⟩, st35⟩ := X34.virtualBack hx (y := (⟨"com/example/nightcrawler/nightcrawler/engine/CommittedBatches", "lost", "()J"⟩ : MethodName)) (z := (⟨"com/example/nightcrawler/nightcrawler/engine/CommittedBatches", "lost", "()J"⟩ : MethodName)) hown (mvT hZ (wi hw 143 rfl)) (mvT hZ (wi hw 144 rfl)) (notFace_of_selects (args := #[]) (mvT hZ (wi hw 146 rfl))) (mvT hZ (wi hw 146 rfl)) (mvT hZ (wi hw 145 rfl)) (by decide) (backOf (W := 0) (rm_lost hw cb  T31.heap n0 OC NF F_lost_cb) hZ (wi hw 147 rfl) (wi hw 52 rfl) (by decide) (by decide)) q35a q35c (g := (mkF m 124 (LA13 p0 p1 p2 p3 p4 s6a s7a s8a s9a b5 cb lb) [(.ref cb)])) rfl (by rw [hml]; rfl) (Steps.refl _) (argsL := []) (rest := []) (lenOf pd_522 rfl) rfl (by show 2 * 0 + _ ≤ _; exact Nat.le_of_eq rfl) (hb hby at_124) (fun _ _ => ⟨rfl, e34, (by decide : 37 + 0 ≤ _), (by decide : 119 + 0 ≤ _)⟩)
  dsimp only [Pt.U, Pt.locs, Pt.cells, Pt.slots] at X35 l35 y35 z35 st35 hQ35
  subst l35 y35 z35
  obtain ⟨rfl, Nq35, e35⟩ := hQ35
  have N35 := Fr.app N34 Nq35
  refine Goes.thru (T' := T35.setTop (mkF m 127 (LA13 p0 p1 p2 p3 p4 s6a s7a s8a s9a b5 cb lb) [(.long (0 : Int64))])) st35 ?_
  refine Goes.to (T' := T35.setTop (mkF m 128 (LA13 p0 p1 p2 p3 p4 s6a s7a s8a s9a b5 cb lb) [(.long (0 : Int64)), (.long (0 : Int64))])) (fun t k => XS.lconst X35.here hx rfl (hb hby at_127) k) ?_
  refine Goes.to (T' := T35.setTop (mkF m 129 (LA13 p0 p1 p2 p3 p4 s6a s7a s8a s9a b5 cb lb) [(.int (lcmpW (0 : Int64) (0 : Int64)))])) (fun t k => XS.lcmp X35.here hx rfl (hb hby at_128) rfl k) ?_
  refine Goes.to (T' := T35.setTop (mkF m 132 (LA13 p0 p1 p2 p3 p4 s6a s7a s8a s9a b5 cb lb) [])) (fun t k => XS.ifNo X35.here hx rfl (hb hby at_129) rfl ((if0 _ _).trans (teq (by decide)).2) k) ?_
  refine Goes.to (T' := T35.setTop (mkF m 134 (LA13 p0 p1 p2 p3 p4 s6a s7a s8a s9a b5 cb lb) [(.ref cb)])) (fun t k => XS.aload X35.here hx rfl (hb hby at_132) rfl rfl k) ?_
  obtain ⟨cq36, kq36, q36a, q36b, q36c⟩ := isOf hZ e35 E_cb
  obtain ⟨_, _, ⟨T36, L36, k36, n36⟩, -, X36, ⟨Lc36, hQ36, l36, y36, z36⟩, st36⟩ := X35.virtualBack hx (y := (⟨"com/example/nightcrawler/nightcrawler/engine/CommittedBatches", "usedUp", "()Z"⟩ : MethodName)) (z := (⟨"com/example/nightcrawler/nightcrawler/engine/CommittedBatches", "usedUp", "()Z"⟩ : MethodName)) hown (mvT hZ (wi hw 148 rfl)) (mvT hZ (wi hw 149 rfl)) (notFace_of_selects (args := #[]) (mvT hZ (wi hw 151 rfl))) (mvT hZ (wi hw 151 rfl)) (mvT hZ (wi hw 150 rfl)) (by decide) (backOf (W := 0) (rm_usedUp hw cb  T31.heap n0 OC NF F_usedUp_cb) hZ (wi hw 152 rfl) (wi hw 52 rfl) (by decide) (by decide)) q36a q36c (g := (mkF m 134 (LA13 p0 p1 p2 p3 p4 s6a s7a s8a s9a b5 cb lb) [(.ref cb)])) rfl (by rw [hml]; rfl) (Steps.refl _) (argsL := []) (rest := []) (lenOf pd_186 rfl) rfl (by show 2 * 0 + _ ≤ _; exact Nat.le_of_eq rfl) (hb hby at_134) (fun _ _ => ⟨rfl, e35, (by decide : 37 + 0 ≤ _), (by decide : 119 + 0 ≤ _)⟩)
  dsimp only [Pt.U, Pt.locs, Pt.cells, Pt.slots] at X36 l36 y36 z36 st36 hQ36
  subst l36 y36 z36
  obtain ⟨rfl, Nq36, e36⟩ := hQ36
  have N36 := Fr.app N35 Nq36
  refine Goes.thru (T' := T36.setTop (mkF m 137 (LA13 p0 p1 p2 p3 p4 s6a s7a s8a s9a b5 cb lb) [(.int (1 : Int32))])) st36 ?_
  refine Goes.to (T' := T36.setTop (mkF m 140 (LA13 p0 p1 p2 p3 p4 s6a s7a s8a s9a b5 cb lb) [])) (fun t k => XS.ifNo X36.here hx rfl (hb hby at_137) rfl ((if0 _ _).trans (feq (by decide)).1) k) ?_
  refine Goes.to (T' := T36.setTop (mkF m 142 (LA13 p0 p1 p2 p3 p4 s6a s7a s8a s9a b5 cb lb) [(.ref lb)])) (fun t k => XS.aload X36.here hx rfl (hb hby at_140) rfl rfl k) ?_
  obtain ⟨cq37, kq37, q37a, q37b, q37c⟩ := isOf hZ e36 E_lb
  obtain ⟨_, _, ⟨T37, L37, k37, n37⟩, -, X37, ⟨Lc37, hQ37, l37, y37, z37⟩, st37⟩ := X36.interfaceBack hx (xi := (⟨"java/util/List", "size", "()I"⟩ : MethodName)) (y := (⟨"java/util/ImmutableCollections$List12", "size", "()I"⟩ : MethodName)) hown (mvT hZ (wi hw 153 rfl)) (mvT hZ (wi hw 154 rfl)) (mvT hZ (wi hw 155 rfl)) (mvT hZ (wi hw 281 rfl)) (mvT hZ (wi hw 282 rfl)) (mvT hZ (wi hw 283 rfl)) (mvT hZ (wi hw 284 rfl)) (mvT hZ (wi hw 285 rfl)) (by decide) (backOf (W := 0) (rmN2 hw lb s7a T31.heap n0 OC NF F_e1_lb hneE) hZ (wi hw 286 rfl) (wi hw 267 rfl) (by decide) (by decide)) q37a q37b q37c (g := (mkF m 142 (LA13 p0 p1 p2 p3 p4 s6a s7a s8a s9a b5 cb lb) [(.ref lb)])) rfl (by rw [hml]; rfl) (Steps.refl _) (argsL := []) (rest := []) (lenOf pd_523 rfl) rfl (by show 2 * 0 + _ ≤ _; exact Nat.le_of_eq rfl) (hb hby at_142) (fun _ _ => ⟨rfl, e36, (by decide : 37 + 0 ≤ _), (by decide : 119 + 0 ≤ _)⟩)
  dsimp only [Pt.U, Pt.locs, Pt.cells, Pt.slots] at X37 l37 y37 z37 st37 hQ37
  subst l37 y37 z37
  obtain ⟨rfl, Nq37, e37⟩ := hQ37
  have N37 := Fr.app N36 Nq37
  refine Goes.thru (T' := T37.setTop (mkF m 147 (LA13 p0 p1 p2 p3 p4 s6a s7a s8a s9a b5 cb lb) [(.int (2 : Int32))])) st37 ?_
  refine Goes.to (T' := T37.setTop (mkF m 149 (LA13 p0 p1 p2 p3 p4 s6a s7a s8a s9a b5 cb lb) [(.int (2 : Int32)), (.int (2 : Int32))])) (fun t k => XS.iload X37.here hx rfl (hb hby at_147) rfl k) ?_
  refine Goes.to (T' := T37.setTop (mkF m 152 (LA13 p0 p1 p2 p3 p4 s6a s7a s8a s9a b5 cb lb) [])) (fun t k => XS.icmpNo X37.here hx rfl (hb hby at_149) rfl (teq (by decide)).2 k) ?_
  refine Goes.to (T' := T37.setTop (mkF m 153 (LA13 p0 p1 p2 p3 p4 s6a s7a s8a s9a b5 cb lb) [(.int (1 : Int32))])) (fun t k => XS.iconst X37.here hx rfl (hb hby at_152) k) ?_
  refine Goes.to (T' := T37.setTop (mkF m 157 (LA13 p0 p1 p2 p3 p4 s6a s7a s8a s9a b5 cb lb) [(.int (1 : Int32))])) (fun t k => XS.goto X37.here hx rfl (pc0 := 153) (pc' := 157) rfl (hb hby at_153) (by decide) (by decide) k) ?_
  refine Goes.to (T' := T37.setTop (mkF m 159 (LA14 p0 p1 p2 p3 p4 s6a s7a s8a s9a b5 cb lb) [])) (fun t k => XS.istore X37.here hx rfl (hb hby at_157) rfl (l' := (LA14 p0 p1 p2 p3 p4 s6a s7a s8a s9a b5 cb lb)) rfl k) ?_
  refine Goes.to (T' := T37.setTop (mkF m 161 (LA14 p0 p1 p2 p3 p4 s6a s7a s8a s9a b5 cb lb) [(.int (1 : Int32))])) (fun t k => XS.iload X37.here hx rfl (hb hby at_159) rfl k) ?_
  refine Goes.to (T' := T37.setTop (mkF m 164 (LA14 p0 p1 p2 p3 p4 s6a s7a s8a s9a b5 cb lb) [])) (fun t k => XS.ifNo X37.here hx rfl (hb hby at_161) rfl ((if0 _ _).trans (feq (by decide)).1) k) ?_
  refine Goes.to (T' := T37.setTop (mkF m 166 (LA14 p0 p1 p2 p3 p4 s6a s7a s8a s9a b5 cb lb) [(.int (2 : Int32))])) (fun t k => XS.iload X37.here hx rfl (hb hby at_164) rfl k) ?_
  refine Goes.to (T' := T37.setTop (mkF m 169 (LA14 p0 p1 p2 p3 p4 s6a s7a s8a s9a b5 cb lb) [])) (fun t k => XS.ifNo X37.here hx rfl (hb hby at_166) rfl ((if0 _ _).trans (tlt (by decide)).2.2.2) k) ?_
  refine Goes.to (T' := T37.setTop (mkF m 171 (LA14 p0 p1 p2 p3 p4 s6a s7a s8a s9a b5 cb lb) [(.ref lb)])) (fun t k => XS.aload X37.here hx rfl (hb hby at_169) rfl rfl k) ?_
  refine Goes.to (T' := T37.setTop (mkF m 172 (LA14 p0 p1 p2 p3 p4 s6a s7a s8a s9a b5 cb lb) [(.int (0 : Int32)), (.ref lb)])) (fun t k => XS.iconst X37.here hx rfl (hb hby at_171) k) ?_
  obtain ⟨cq38, kq38, q38a, q38b, q38c⟩ := isOf hZ e37 E_lb
  obtain ⟨_, _, ⟨T38, L38, k38, n38⟩, -, X38, ⟨Lc38, hQ38, l38, y38, z38⟩, st38⟩ := X37.interfaceBack hx (xi := (⟨"java/util/List", "get", "(I)Ljava/lang/Object;"⟩ : MethodName)) (y := (⟨"java/util/ImmutableCollections$List12", "get", "(I)Ljava/lang/Object;"⟩ : MethodName)) hown (mvT hZ (wi hw 227 rfl)) (mvT hZ (wi hw 228 rfl)) (mvT hZ (wi hw 229 rfl)) (mvT hZ (wi hw 288 rfl)) (mvT hZ (wi hw 289 rfl)) (mvT hZ (wi hw 290 rfl)) (mvT hZ (wi hw 291 rfl)) (mvT hZ (wi hw 285 rfl)) (by decide) (backOf (W := 0) (rmG0 hw lb s6a T31.heap n0 OC NF F_e0_lb) hZ (wi hw 292 rfl) (wi hw 267 rfl) (by decide) (by decide)) q38a q38b q38c (g := (mkF m 172 (LA14 p0 p1 p2 p3 p4 s6a s7a s8a s9a b5 cb lb) [(.int (0 : Int32)), (.ref lb)])) rfl (by rw [hml]; rfl) (Steps.refl _) (argsL := [(.int (0 : Int32))]) (rest := []) (lenOf pd_529 rfl) rfl (by show 2 * 0 + _ ≤ _; exact Nat.le_of_eq rfl) (hb hby at_172) (fun _ _ => ⟨rfl, e37, (by decide : 37 + 0 ≤ _), (by decide : 119 + 0 ≤ _)⟩)
  dsimp only [Pt.U, Pt.locs, Pt.cells, Pt.slots] at X38 l38 y38 z38 st38 hQ38
  subst l38 y38 z38
  obtain ⟨rfl, Nq38, e38⟩ := hQ38
  have N38 := Fr.app N37 Nq38
  refine Goes.thru (T' := T38.setTop (mkF m 177 (LA14 p0 p1 p2 p3 p4 s6a s7a s8a s9a b5 cb lb) [(.ref s6a)])) st38 ?_
  obtain ⟨T39, X39, e39, st39⟩ := castY X38 hx hZ hown (wi hw 4 rfl) e38 (Ins.self E_s6a) (g := (mkF m 177 (LA14 p0 p1 p2 p3 p4 s6a s7a s8a s9a b5 cb lb) [(.ref s6a)])) rfl rfl (hb hby at_177)
  refine Goes.to (T' := T39.setTop (mkF m 180 (LA14 p0 p1 p2 p3 p4 s6a s7a s8a s9a b5 cb lb) [(.ref s6a)])) st39 ?_
  refine Goes.to (T' := T39.setTop (mkF m 182 (LA14 p0 p1 p2 p3 p4 s6a s7a s8a s9a b5 cb lb) [(.ref s6a), (.ref s6a)])) (fun t k => XS.aload X39.here hx rfl (hb hby at_180) rfl rfl k) ?_
  obtain ⟨cq40, kq40, q40a, q40b, q40c⟩ := isOf hZ e39 E_s6a
  obtain ⟨_, _, ⟨T40, L40, k40, n40⟩, -, X40, ⟨Lc40, hQ40, l40, y40, z40⟩, st40⟩ := X39.virtualBack hx (y := (⟨"java/lang/String", "equals", "(Ljava/lang/Object;)Z"⟩ : MethodName)) (z := (⟨"java/lang/String", "equals", "(Ljava/lang/Object;)Z"⟩ : MethodName)) hown (mvT hZ (wi hw 235 rfl)) (mvT hZ (wi hw 236 rfl)) (notFace_of_selects (args := #[]) (mvT hZ (wi hw 238 rfl))) (mvT hZ (wi hw 238 rfl)) (mvT hZ (wi hw 237 rfl)) (by decide) (backOf (W := 0) (rmSS hw s6a  T31.heap n0 OC NF ) hZ (wi hw 239 rfl) (wi hw 6 rfl) (by decide) (by decide)) q40a q40c (g := (mkF m 182 (LA14 p0 p1 p2 p3 p4 s6a s7a s8a s9a b5 cb lb) [(.ref s6a), (.ref s6a)])) rfl (by rw [hml]; rfl) (Steps.refl _) (argsL := [(.ref s6a)]) (rest := []) (lenOf pd_520 rfl) rfl (by show 2 * 0 + _ ≤ _; exact Nat.le_of_eq rfl) (hb hby at_182) (fun _ _ => ⟨rfl, e39, (by decide : 37 + 0 ≤ _), (by decide : 119 + 0 ≤ _)⟩)
  dsimp only [Pt.U, Pt.locs, Pt.cells, Pt.slots] at X40 l40 y40 z40 st40 hQ40
  subst l40 y40 z40
  obtain ⟨rfl, Nq40, e40⟩ := hQ40
  have N40 := Fr.app N38 Nq40
  refine Goes.thru (T' := T40.setTop (mkF m 185 (LA14 p0 p1 p2 p3 p4 s6a s7a s8a s9a b5 cb lb) [(.int (1 : Int32))])) st40 ?_
  refine Goes.to (T' := T40.setTop (mkF m 187 (LA14 p0 p1 p2 p3 p4 s6a s7a s8a s9a b5 cb lb) [])) (fun t k => XS.istore X40.here hx rfl (hb hby at_185) rfl (l' := (LA14 p0 p1 p2 p3 p4 s6a s7a s8a s9a b5 cb lb)) rfl k) ?_
  refine Goes.to (T' := T40.setTop (mkF m 189 (LA14 p0 p1 p2 p3 p4 s6a s7a s8a s9a b5 cb lb) [(.int (1 : Int32))])) (fun t k => XS.iload X40.here hx rfl (hb hby at_187) rfl k) ?_
  refine Goes.to (T' := T40.setTop (mkF m 192 (LA14 p0 p1 p2 p3 p4 s6a s7a s8a s9a b5 cb lb) [])) (fun t k => XS.ifNo X40.here hx rfl (hb hby at_189) rfl ((if0 _ _).trans (feq (by decide)).1) k) ?_
  refine Goes.to (T' := T40.setTop (mkF m 194 (LA14 p0 p1 p2 p3 p4 s6a s7a s8a s9a b5 cb lb) [(.int (2 : Int32))])) (fun t k => XS.iload X40.here hx rfl (hb hby at_192) rfl k) ?_
  refine Goes.to (T' := T40.setTop (mkF m 195 (LA14 p0 p1 p2 p3 p4 s6a s7a s8a s9a b5 cb lb) [(.int (1 : Int32)), (.int (2 : Int32))])) (fun t k => XS.iconst X40.here hx rfl (hb hby at_194) k) ?_
  refine Goes.to (T' := T40.setTop (mkF m 198 (LA14 p0 p1 p2 p3 p4 s6a s7a s8a s9a b5 cb lb) [])) (fun t k => XS.icmpNo X40.here hx rfl (hb hby at_195) rfl (tlt (by decide)).2.2.2 k) ?_
  refine Goes.to (T' := T40.setTop (mkF m 200 (LA14 p0 p1 p2 p3 p4 s6a s7a s8a s9a b5 cb lb) [(.ref lb)])) (fun t k => XS.aload X40.here hx rfl (hb hby at_198) rfl rfl k) ?_
  refine Goes.to (T' := T40.setTop (mkF m 201 (LA14 p0 p1 p2 p3 p4 s6a s7a s8a s9a b5 cb lb) [(.int (1 : Int32)), (.ref lb)])) (fun t k => XS.iconst X40.here hx rfl (hb hby at_200) k) ?_
  obtain ⟨cq41, kq41, q41a, q41b, q41c⟩ := isOf hZ e40 E_lb
  obtain ⟨_, _, ⟨T41, L41, k41, n41⟩, -, X41, ⟨Lc41, hQ41, l41, y41, z41⟩, st41⟩ := X40.interfaceBack hx (xi := (⟨"java/util/List", "get", "(I)Ljava/lang/Object;"⟩ : MethodName)) (y := (⟨"java/util/ImmutableCollections$List12", "get", "(I)Ljava/lang/Object;"⟩ : MethodName)) hown (mvT hZ (wi hw 227 rfl)) (mvT hZ (wi hw 228 rfl)) (mvT hZ (wi hw 229 rfl)) (mvT hZ (wi hw 288 rfl)) (mvT hZ (wi hw 289 rfl)) (mvT hZ (wi hw 290 rfl)) (mvT hZ (wi hw 291 rfl)) (mvT hZ (wi hw 285 rfl)) (by decide) (backOf (W := 0) (rmG1 hw lb s7a T31.heap n0 OC NF F_e1_lb hneE) hZ (wi hw 292 rfl) (wi hw 267 rfl) (by decide) (by decide)) q41a q41b q41c (g := (mkF m 201 (LA14 p0 p1 p2 p3 p4 s6a s7a s8a s9a b5 cb lb) [(.int (1 : Int32)), (.ref lb)])) rfl (by rw [hml]; rfl) (Steps.refl _) (argsL := [(.int (1 : Int32))]) (rest := []) (lenOf pd_529 rfl) rfl (by show 2 * 0 + _ ≤ _; exact Nat.le_of_eq rfl) (hb hby at_201) (fun _ _ => ⟨rfl, e40, (by decide : 37 + 0 ≤ _), (by decide : 119 + 0 ≤ _)⟩)
  dsimp only [Pt.U, Pt.locs, Pt.cells, Pt.slots] at X41 l41 y41 z41 st41 hQ41
  subst l41 y41 z41
  obtain ⟨rfl, Nq41, e41⟩ := hQ41
  have N41 := Fr.app N40 Nq41
  refine Goes.thru (T' := T41.setTop (mkF m 206 (LA14 p0 p1 p2 p3 p4 s6a s7a s8a s9a b5 cb lb) [(.ref s7a)])) st41 ?_
  obtain ⟨T42, X42, e42, st42⟩ := castY X41 hx hZ hown (wi hw 4 rfl) e41 (Ins.self E_s7a) (g := (mkF m 206 (LA14 p0 p1 p2 p3 p4 s6a s7a s8a s9a b5 cb lb) [(.ref s7a)])) rfl rfl (hb hby at_206)
  refine Goes.to (T' := T42.setTop (mkF m 209 (LA14 p0 p1 p2 p3 p4 s6a s7a s8a s9a b5 cb lb) [(.ref s7a)])) st42 ?_
  refine Goes.to (T' := T42.setTop (mkF m 211 (LA14 p0 p1 p2 p3 p4 s6a s7a s8a s9a b5 cb lb) [(.ref s7a), (.ref s7a)])) (fun t k => XS.aload X42.here hx rfl (hb hby at_209) rfl rfl k) ?_
  obtain ⟨cq43, kq43, q43a, q43b, q43c⟩ := isOf hZ e42 E_s7a
  obtain ⟨_, _, ⟨T43, L43, k43, n43⟩, -, X43, ⟨Lc43, hQ43, l43, y43, z43⟩, st43⟩ := X42.virtualBack hx (y := (⟨"java/lang/String", "equals", "(Ljava/lang/Object;)Z"⟩ : MethodName)) (z := (⟨"java/lang/String", "equals", "(Ljava/lang/Object;)Z"⟩ : MethodName)) hown (mvT hZ (wi hw 235 rfl)) (mvT hZ (wi hw 236 rfl)) (notFace_of_selects (args := #[]) (mvT hZ (wi hw 238 rfl))) (mvT hZ (wi hw 238 rfl)) (mvT hZ (wi hw 237 rfl)) (by decide) (backOf (W := 0) (rmSS hw s7a  T31.heap n0 OC NF ) hZ (wi hw 239 rfl) (wi hw 6 rfl) (by decide) (by decide)) q43a q43c (g := (mkF m 211 (LA14 p0 p1 p2 p3 p4 s6a s7a s8a s9a b5 cb lb) [(.ref s7a), (.ref s7a)])) rfl (by rw [hml]; rfl) (Steps.refl _) (argsL := [(.ref s7a)]) (rest := []) (lenOf pd_520 rfl) rfl (by show 2 * 0 + _ ≤ _; exact Nat.le_of_eq rfl) (hb hby at_211) (fun _ _ => ⟨rfl, e42, (by decide : 37 + 0 ≤ _), (by decide : 119 + 0 ≤ _)⟩)
  dsimp only [Pt.U, Pt.locs, Pt.cells, Pt.slots] at X43 l43 y43 z43 st43 hQ43
  subst l43 y43 z43
  obtain ⟨rfl, Nq43, e43⟩ := hQ43
  have N43 := Fr.app N41 Nq43
  refine Goes.thru (T' := T43.setTop (mkF m 214 (LA14 p0 p1 p2 p3 p4 s6a s7a s8a s9a b5 cb lb) [(.int (1 : Int32))])) st43 ?_
  refine Goes.to (T' := T43.setTop (mkF m 216 (LA14 p0 p1 p2 p3 p4 s6a s7a s8a s9a b5 cb lb) [])) (fun t k => XS.istore X43.here hx rfl (hb hby at_214) rfl (l' := (LA14 p0 p1 p2 p3 p4 s6a s7a s8a s9a b5 cb lb)) rfl k) ?_
  refine Goes.to (T' := T43.setTop (mkF m 218 (LA14 p0 p1 p2 p3 p4 s6a s7a s8a s9a b5 cb lb) [(.int (1 : Int32))])) (fun t k => XS.iload X43.here hx rfl (hb hby at_216) rfl k) ?_
  refine Goes.to (T' := T43.setTop (mkF m 221 (LA14 p0 p1 p2 p3 p4 s6a s7a s8a s9a b5 cb lb) [])) (fun t k => XS.ifNo X43.here hx rfl (hb hby at_218) rfl ((if0 _ _).trans (feq (by decide)).1) k) ?_
  refine Goes.to (T' := T43.setTop (mkF m 223 (LA14 p0 p1 p2 p3 p4 s6a s7a s8a s9a b5 cb lb) [(.int (2 : Int32))])) (fun t k => XS.iload X43.here hx rfl (hb hby at_221) rfl k) ?_
  refine Goes.to (T' := T43.setTop (mkF m 224 (LA14 p0 p1 p2 p3 p4 s6a s7a s8a s9a b5 cb lb) [(.int (2 : Int32)), (.int (2 : Int32))])) (fun t k => XS.iconst X43.here hx rfl (hb hby at_223) k) ?_
  refine Goes.to (T' := T43.setTop (mkF m 245 (LA14 p0 p1 p2 p3 p4 s6a s7a s8a s9a b5 cb lb) [])) (fun t k => XS.icmpYes X43.here hx rfl (pc0 := 224) (pc' := 245) rfl (hb hby at_224) rfl (flt (by decide)).2.2.2 (by decide) (by decide) k) ?_
  refine Goes.to (T' := T43.setTop (mkF m 247 (LA14 p0 p1 p2 p3 p4 s6a s7a s8a s9a b5 cb lb) [(.int (1 : Int32))])) (fun t k => XS.iload X43.here hx rfl (hb hby at_245) rfl k) ?_
  obtain ⟨fs, hrL, hrun, hended, hRW⟩ := X43.leaveW hS (by rw [e43]; exact hk) (v := some (.int (1 : Int32))) (fun h => by rw [Bd.returns] at h; cases h)
  subst hQf
  refine ⟨_, _, retN X43 hx (t := .boolean) Bd.returns (by simp) (hb hby at_247) hrL, hrun, hended, _, _, rfl, ?_, hRW.1, hRW.2.1, hRW.2.2.1, hRW.2.2.2.mono (by decide) (by decide)⟩
  show Q_rm0  h0 n0 (some (.int (1 : Int32))) T43.heap _
  rw [e43]
  exact ⟨rfl, N43⟩
def LA15 (v0 : Int32) (v1 : Int32) (v2 : Int32) (v3 : Int32) (v4 : Int32) (v5 : Addr) (v6 : Addr) (v7 : Addr) (v8 : Addr) (v9 : Addr) : Array Slot := #[.val (.int v0), .val (.int v1), .val (.int v2), .val (.int v3), .val (.int v4), .val (.int (3 : Int32)), .val (.ref v5), .val (.ref v6), .val (.ref v7), .val (.ref v8), .val (.ref v9), .unset, .unset, .unset]
def LA16 (v0 : Int32) (v1 : Int32) (v2 : Int32) (v3 : Int32) (v4 : Int32) (v5 : Addr) (v6 : Addr) (v7 : Addr) (v8 : Addr) (v9 : Addr) (v10 : Addr) : Array Slot := #[.val (.int v0), .val (.int v1), .val (.int v2), .val (.int v3), .val (.int v4), .val (.int (3 : Int32)), .val (.ref v5), .val (.ref v6), .val (.ref v7), .val (.ref v8), .val (.ref v9), .val (.ref v10), .unset, .unset]
def LA17 (v0 : Int32) (v1 : Int32) (v2 : Int32) (v3 : Int32) (v4 : Int32) (v5 : Addr) (v6 : Addr) (v7 : Addr) (v8 : Addr) (v9 : Addr) (v10 : Addr) (v11 : Addr) : Array Slot := #[.val (.int v0), .val (.int v1), .val (.int v2), .val (.int v3), .val (.int v4), .val (.int (3 : Int32)), .val (.ref v5), .val (.ref v6), .val (.ref v7), .val (.ref v8), .val (.ref v9), .val (.ref v10), .val (.ref v11), .unset]
def LA18 (v0 : Int32) (v1 : Int32) (v2 : Int32) (v3 : Int32) (v4 : Int32) (v5 : Addr) (v6 : Addr) (v7 : Addr) (v8 : Addr) (v9 : Addr) (v10 : Addr) (v11 : Addr) : Array Slot := #[.val (.int v0), .val (.int v1), .val (.int v2), .val (.int v3), .val (.int v4), .val (.int (3 : Int32)), .val (.ref v5), .val (.ref v6), .val (.ref v7), .val (.ref v8), .val (.ref v9), .val (.ref v10), .val (.ref v11), .val (.int (1 : Int32))]
theorem rm0_n3 (hw : HW a0 Z) (p0 : Int32) (p1 : Int32) (p2 : Int32) (p3 : Int32) (p4 : Int32) (vmC : Vm) (h0 : Heap) (n0 : Nat) (NF : Nar Z w3 w0 w2 w1 w4 k_w3 k_w0 k_w1 z_cs w5) (p : Program) (e : Env) (s : State) (m : MethodId) (below : List Frame) (meth : _) (c : _) (s₁ : State) (Bd : BodyLoose p l x (head1 (Jvm.Cond.code x code maxLocals ret :: ws) room_1) code maxLocals ret e s m #[(.int p0), (.int p1), (.int p2), (.int p3), (.int p4)] below meth c s₁) (hml : c.maxLocals = 14) (vmB : Vm) (kS : Nat) (hS : s.Since vmB kS) (hZ : Z.Warmed39 (s.setVm vmB).vm) (hown : (s.setVm vmB).vm.findClass "com/example/nightcrawler/nightcrawler/engine/CommittedBatchesNonePinLaw" = some m.cls) (Qf : Outcome → State → Prop) (hQf : Qf = (fun (_ : Array Value) (U : State) (o : Outcome) (U' : State) => ∃ v L, o = .returned v ∧ Q_rm0  h0 n0 v U'.heap L ∧ ReturnedEndW U o U' L room_1.cells room_1.slots) #[] s) (s6a : Addr) (s7a : Addr) (s8a : Addr) (s9a : Addr) (b5 : Addr) (g_b5 : n0 ≤ b5) (g_s6a : n0 ≤ s6a) (g_s7a : n0 ≤ s7a) (g_s8a : n0 ≤ s8a) (g_s9a : n0 ≤ s9a) (ne_b5_s6a : b5 ≠ s6a) (ne_b5_s7a : b5 ≠ s7a) (ne_b5_s8a : b5 ≠ s8a) (ne_b5_s9a : b5 ≠ s9a) (ne_s6a_b5 : s6a ≠ b5) (ne_s7a_b5 : s7a ≠ b5) (ne_s8a_b5 : s8a ≠ b5) (ne_s9a_b5 : s9a ≠ b5) (TC : State) (locsC : List Loc) (hC : Heap) (XC : Stand p l e room_1 (s.setVm vmB) m #[(.int p0), (.int p1), (.int p2), (.int p3), (.int p4)] below meth c TC locsC 33 99) (eC : TC.heap = hC) (hk : kS ≤ hC.size) (OC : Old Z n0 hC) (E_s6a : Exa Z hC s6a "java/lang/String") (E_s7a : Exa Z hC s7a "java/lang/String") (E_s8a : Exa Z hC s8a "java/lang/String") (E_s9a : Exa Z hC s9a "java/lang/String") (E_b5 : Exa Z hC b5 "java/util/ArrayList") (F_modCount_b5 : Fld Z hC b5 "java/util/AbstractList" "modCount" "I" (.int (0 : Int32))) (F_elementData_b5 : Fld Z hC b5 "java/util/ArrayList" "elementData" "[Ljava/lang/Object;" (.ref w0)) (F_size_b5 : Fld Z hC b5 "java/util/ArrayList" "size" "I" (.int (0 : Int32))) (NC : Fr n0 locsC) : Goes p.tables e below Qf (TC.setTop (mkF m 39 (LA15 p0 p1 p2 p3 p4 s6a s7a s8a s9a b5) [])) := by
  have hx := Bd.exec
  have hby := Bd.bytes
  have hnm := (name_of_methodNamed Bd.named Bd.method).1
  obtain ⟨S_w3, E_w3, S_w0, E_w0, S_w2, E_w2, F_elements_w2, E_w1, S_w4, E_w4, F_allowNulls_w2, S_w_ImmutableCollections__assertionsDisabled, V_w3, V_w0, V_w1, S_cs, nz_cs, M_OA⟩ := id NF
  refine Goes.to (T' := TC.setTop (mkF m 41 (LA15 p0 p1 p2 p3 p4 s6a s7a s8a s9a b5) [(.int (3 : Int32))])) (fun t k => XS.iload XC.here hx rfl (hb hby at_39) rfl k) ?_
  refine Goes.to (T' := TC.setTop (mkF m 44 (LA15 p0 p1 p2 p3 p4 s6a s7a s8a s9a b5) [])) (fun t k => XS.ifNo XC.here hx rfl (hb hby at_41) rfl ((if0 _ _).trans (tlt (by decide)).2.2.2) k) ?_
  refine Goes.to (T' := TC.setTop (mkF m 46 (LA15 p0 p1 p2 p3 p4 s6a s7a s8a s9a b5) [(.ref b5)])) (fun t k => XS.aload XC.here hx rfl (hb hby at_44) rfl rfl k) ?_
  refine Goes.to (T' := TC.setTop (mkF m 48 (LA15 p0 p1 p2 p3 p4 s6a s7a s8a s9a b5) [(.ref s6a), (.ref b5)])) (fun t k => XS.aload XC.here hx rfl (hb hby at_46) rfl rfl k) ?_
  obtain ⟨cq44, kq44, q44a, q44b, q44c⟩ := isOf hZ eC E_b5
  obtain ⟨_, _, ⟨T44, L44, k44, n44⟩, -, X44, ⟨Lc44, hQ44, l44, y44, z44⟩, st44⟩ := XC.virtualBack hx (y := (⟨"java/util/ArrayList", "add", "(Ljava/lang/Object;)Z"⟩ : MethodName)) (z := (⟨"java/util/ArrayList", "add", "(Ljava/lang/Object;)Z"⟩ : MethodName)) hown (mvT hZ (wi hw 99 rfl)) (mvT hZ (wi hw 100 rfl)) (notFace_of_selects (args := #[]) (mvT hZ (wi hw 102 rfl))) (mvT hZ (wi hw 102 rfl)) (mvT hZ (wi hw 101 rfl)) (by decide) (backOf (W := 0) (rmA0 hw b5 s6a ((0 : Int32)) hC n0 OC NF E_b5 F_modCount_b5 F_elementData_b5 F_size_b5 E_s6a g_b5) hZ (wi hw 103 rfl) (wi hw 28 rfl) (by decide) (by decide)) q44a q44c (g := (mkF m 48 (LA15 p0 p1 p2 p3 p4 s6a s7a s8a s9a b5) [(.ref s6a), (.ref b5)])) rfl (by rw [hml]; rfl) (Steps.refl _) (argsL := [(.ref s6a)]) (rest := []) (lenOf pd_520 rfl) rfl (by show 2 * 0 + _ ≤ _; exact Nat.le_of_eq rfl) (hb hby at_48) (fun _ _ => ⟨rfl, eC, (by decide : 33 + 1 ≤ _), (by decide : 99 + 10 ≤ _)⟩)
  dsimp only [Pt.U, Pt.locs, Pt.cells, Pt.slots] at X44 l44 y44 z44 st44 hQ44
  subst l44 y44 z44
  obtain ⟨⟨rfl, ed, kd, ge44, se44, Ov44, r0_44, r1_44, r2_44, r3_44, r4_44, r5_44⟩, Nq44, K44⟩ := hQ44
  have N44 := Fr.app NC Nq44
  have g_ed : n0 ≤ ed := ge44
  have ne_s6a_ed : s6a ≠ ed := Nat.ne_of_lt (Nat.lt_of_lt_of_le E_s6a.lt se44)
  have ne_ed_s6a := Ne.symm ne_s6a_ed
  have ne_s7a_ed : s7a ≠ ed := Nat.ne_of_lt (Nat.lt_of_lt_of_le E_s7a.lt se44)
  have ne_ed_s7a := Ne.symm ne_s7a_ed
  have ne_s8a_ed : s8a ≠ ed := Nat.ne_of_lt (Nat.lt_of_lt_of_le E_s8a.lt se44)
  have ne_ed_s8a := Ne.symm ne_s8a_ed
  have ne_s9a_ed : s9a ≠ ed := Nat.ne_of_lt (Nat.lt_of_lt_of_le E_s9a.lt se44)
  have ne_ed_s9a := Ne.symm ne_s9a_ed
  have ne_b5_ed : b5 ≠ ed := Nat.ne_of_lt (Nat.lt_of_lt_of_le E_b5.lt se44)
  have ne_ed_b5 := Ne.symm ne_b5_ed
  have E_s6a := E_s6a.keep K44
  have E_s7a := E_s7a.keep K44
  have E_s8a := E_s8a.keep K44
  have E_s9a := E_s9a.keep K44
  have E_b5 := E_b5.keep K44
  have OC := OC.keep K44 (allS g_b5 all0)
  have hk := Nat.le_trans hk K44.1
  have E_b5 := r0_44
  have F_modCount_b5 := r1_44
  have F_elementData_b5 := r2_44
  have F_size_b5 := r3_44
  have V_ed := r4_44
  have E_ed := r5_44
  have Ov_ed := Ov44
  refine Goes.thru (T' := T44.setTop (mkF m 51 (LA15 p0 p1 p2 p3 p4 s6a s7a s8a s9a b5) [(.int (1 : Int32))])) st44 ?_
  refine Goes.to (T' := T44.setTop (mkF m 52 (LA15 p0 p1 p2 p3 p4 s6a s7a s8a s9a b5) [])) (fun t k => XS.pop X44.here hx rfl (hb hby at_51) rfl rfl k) ?_
  refine Goes.to (T' := T44.setTop (mkF m 54 (LA15 p0 p1 p2 p3 p4 s6a s7a s8a s9a b5) [(.int (3 : Int32))])) (fun t k => XS.iload X44.here hx rfl (hb hby at_52) rfl k) ?_
  refine Goes.to (T' := T44.setTop (mkF m 55 (LA15 p0 p1 p2 p3 p4 s6a s7a s8a s9a b5) [(.int (1 : Int32)), (.int (3 : Int32))])) (fun t k => XS.iconst X44.here hx rfl (hb hby at_54) k) ?_
  refine Goes.to (T' := T44.setTop (mkF m 58 (LA15 p0 p1 p2 p3 p4 s6a s7a s8a s9a b5) [])) (fun t k => XS.icmpNo X44.here hx rfl (hb hby at_55) rfl (tlt (by decide)).2.2.2 k) ?_
  refine Goes.to (T' := T44.setTop (mkF m 60 (LA15 p0 p1 p2 p3 p4 s6a s7a s8a s9a b5) [(.ref b5)])) (fun t k => XS.aload X44.here hx rfl (hb hby at_58) rfl rfl k) ?_
  refine Goes.to (T' := T44.setTop (mkF m 62 (LA15 p0 p1 p2 p3 p4 s6a s7a s8a s9a b5) [(.ref s7a), (.ref b5)])) (fun t k => XS.aload X44.here hx rfl (hb hby at_60) rfl rfl k) ?_
  obtain ⟨cq45, kq45, q45a, q45b, q45c⟩ := isOf hZ rfl E_b5
  obtain ⟨_, _, ⟨T45, L45, k45, n45⟩, -, X45, ⟨Lc45, hQ45, l45, y45, z45⟩, st45⟩ := X44.virtualBack hx (y := (⟨"java/util/ArrayList", "add", "(Ljava/lang/Object;)Z"⟩ : MethodName)) (z := (⟨"java/util/ArrayList", "add", "(Ljava/lang/Object;)Z"⟩ : MethodName)) hown (mvT hZ (wi hw 99 rfl)) (mvT hZ (wi hw 100 rfl)) (notFace_of_selects (args := #[]) (mvT hZ (wi hw 102 rfl))) (mvT hZ (wi hw 102 rfl)) (mvT hZ (wi hw 101 rfl)) (by decide) (backOf (W := 0) (rmA1 hw b5 s7a (((0 : Int32) + (1 : Int32))) ed kd s6a T44.heap n0 OC NF E_b5 F_modCount_b5 F_elementData_b5 F_size_b5 V_ed E_ed E_s7a g_b5 g_ed ne_ed_b5 Ov_ed) hZ (wi hw 103 rfl) (wi hw 28 rfl) (by decide) (by decide)) q45a q45c (g := (mkF m 62 (LA15 p0 p1 p2 p3 p4 s6a s7a s8a s9a b5) [(.ref s7a), (.ref b5)])) rfl (by rw [hml]; rfl) (Steps.refl _) (argsL := [(.ref s7a)]) (rest := []) (lenOf pd_520 rfl) rfl (by show 2 * 0 + _ ≤ _; exact Nat.le_of_eq rfl) (hb hby at_62) (fun _ _ => ⟨rfl, rfl, (by decide : 34 + 0 ≤ _), (by decide : 109 + 0 ≤ _)⟩)
  dsimp only [Pt.U, Pt.locs, Pt.cells, Pt.slots] at X45 l45 y45 z45 st45 hQ45
  subst l45 y45 z45
  obtain ⟨rfl, Nq45, K45, r0_45, r1_45, r2_45, r3_45, r4_45, r5_45⟩ := hQ45
  have N45 := Fr.app N44 Nq45
  have E_s6a := E_s6a.keep K45
  have E_s7a := E_s7a.keep K45
  have E_s8a := E_s8a.keep K45
  have E_s9a := E_s9a.keep K45
  have E_b5 := E_b5.keep K45
  have E_ed := E_ed.keep K45
  have OC := OC.keep K45 (allS g_b5 (allS g_ed all0))
  have hk := Nat.le_trans hk K45.1
  have E_b5 := r0_45
  have F_modCount_b5 := r1_45
  have F_elementData_b5 := r2_45
  have F_size_b5 := r3_45
  have V_ed := r4_45
  have E_ed := r5_45
  refine Goes.thru (T' := T45.setTop (mkF m 65 (LA15 p0 p1 p2 p3 p4 s6a s7a s8a s9a b5) [(.int (1 : Int32))])) st45 ?_
  refine Goes.to (T' := T45.setTop (mkF m 66 (LA15 p0 p1 p2 p3 p4 s6a s7a s8a s9a b5) [])) (fun t k => XS.pop X45.here hx rfl (hb hby at_65) rfl rfl k) ?_
  refine Goes.to (T' := T45.setTop (mkF m 68 (LA15 p0 p1 p2 p3 p4 s6a s7a s8a s9a b5) [(.int (3 : Int32))])) (fun t k => XS.iload X45.here hx rfl (hb hby at_66) rfl k) ?_
  refine Goes.to (T' := T45.setTop (mkF m 69 (LA15 p0 p1 p2 p3 p4 s6a s7a s8a s9a b5) [(.int (2 : Int32)), (.int (3 : Int32))])) (fun t k => XS.iconst X45.here hx rfl (hb hby at_68) k) ?_
  refine Goes.to (T' := T45.setTop (mkF m 72 (LA15 p0 p1 p2 p3 p4 s6a s7a s8a s9a b5) [])) (fun t k => XS.icmpNo X45.here hx rfl (hb hby at_69) rfl (tlt (by decide)).2.2.2 k) ?_
  refine Goes.to (T' := T45.setTop (mkF m 74 (LA15 p0 p1 p2 p3 p4 s6a s7a s8a s9a b5) [(.ref b5)])) (fun t k => XS.aload X45.here hx rfl (hb hby at_72) rfl rfl k) ?_
  refine Goes.to (T' := T45.setTop (mkF m 76 (LA15 p0 p1 p2 p3 p4 s6a s7a s8a s9a b5) [(.ref s8a), (.ref b5)])) (fun t k => XS.aload X45.here hx rfl (hb hby at_74) rfl rfl k) ?_
  obtain ⟨cq46, kq46, q46a, q46b, q46c⟩ := isOf hZ rfl E_b5
  obtain ⟨_, _, ⟨T46, L46, k46, n46⟩, -, X46, ⟨Lc46, hQ46, l46, y46, z46⟩, st46⟩ := X45.virtualBack hx (y := (⟨"java/util/ArrayList", "add", "(Ljava/lang/Object;)Z"⟩ : MethodName)) (z := (⟨"java/util/ArrayList", "add", "(Ljava/lang/Object;)Z"⟩ : MethodName)) hown (mvT hZ (wi hw 99 rfl)) (mvT hZ (wi hw 100 rfl)) (notFace_of_selects (args := #[]) (mvT hZ (wi hw 102 rfl))) (mvT hZ (wi hw 102 rfl)) (mvT hZ (wi hw 101 rfl)) (by decide) (backOf (W := 0) (rmA2 hw b5 s8a ((((0 : Int32) + (1 : Int32)) + (1 : Int32))) ed kd s6a s7a T45.heap n0 OC NF E_b5 F_modCount_b5 F_elementData_b5 F_size_b5 V_ed E_ed E_s8a g_b5 g_ed ne_ed_b5 Ov_ed) hZ (wi hw 103 rfl) (wi hw 28 rfl) (by decide) (by decide)) q46a q46c (g := (mkF m 76 (LA15 p0 p1 p2 p3 p4 s6a s7a s8a s9a b5) [(.ref s8a), (.ref b5)])) rfl (by rw [hml]; rfl) (Steps.refl _) (argsL := [(.ref s8a)]) (rest := []) (lenOf pd_520 rfl) rfl (by show 2 * 0 + _ ≤ _; exact Nat.le_of_eq rfl) (hb hby at_76) (fun _ _ => ⟨rfl, rfl, (by decide : 34 + 0 ≤ _), (by decide : 109 + 0 ≤ _)⟩)
  dsimp only [Pt.U, Pt.locs, Pt.cells, Pt.slots] at X46 l46 y46 z46 st46 hQ46
  subst l46 y46 z46
  obtain ⟨rfl, Nq46, K46, r0_46, r1_46, r2_46, r3_46, r4_46, r5_46⟩ := hQ46
  have N46 := Fr.app N45 Nq46
  have E_s6a := E_s6a.keep K46
  have E_s7a := E_s7a.keep K46
  have E_s8a := E_s8a.keep K46
  have E_s9a := E_s9a.keep K46
  have E_b5 := E_b5.keep K46
  have E_ed := E_ed.keep K46
  have OC := OC.keep K46 (allS g_b5 (allS g_ed all0))
  have hk := Nat.le_trans hk K46.1
  have E_b5 := r0_46
  have F_modCount_b5 := r1_46
  have F_elementData_b5 := r2_46
  have F_size_b5 := r3_46
  have V_ed := r4_46
  have E_ed := r5_46
  refine Goes.thru (T' := T46.setTop (mkF m 79 (LA15 p0 p1 p2 p3 p4 s6a s7a s8a s9a b5) [(.int (1 : Int32))])) st46 ?_
  refine Goes.to (T' := T46.setTop (mkF m 80 (LA15 p0 p1 p2 p3 p4 s6a s7a s8a s9a b5) [])) (fun t k => XS.pop X46.here hx rfl (hb hby at_79) rfl rfl k) ?_
  refine Goes.to (T' := T46.setTop (mkF m 82 (LA15 p0 p1 p2 p3 p4 s6a s7a s8a s9a b5) [(.ref b5)])) (fun t k => XS.aload X46.here hx rfl (hb hby at_80) rfl rfl k) ?_
  obtain ⟨_, _, ⟨T47, L47, k47, n47⟩, -, X47, ⟨Lc47, hQ47, l47, y47, z47⟩, st47⟩ := Jvm.LawKit.callS X46 hx (y := (⟨"com/example/nightcrawler/nightcrawler/engine/CommittedBatches", "none", "(Ljava/util/List;)Lcom/example/nightcrawler/nightcrawler/engine/CommittedBatches;"⟩ : MethodName)) hown (mvT hZ (wi hw 50 rfl)) (mvT hZ (wi hw 51 rfl)) (mvT hZ (wi hw 52 rfl)) (mvT hZ (wi hw 53 rfl)) (by decide) (backOf (W := 0) (rmNo3 hw b5 (((((0 : Int32) + (1 : Int32)) + (1 : Int32)) + (1 : Int32))) ed kd s6a s7a s8a T46.heap n0 OC NF E_b5 F_modCount_b5 F_elementData_b5 F_size_b5 V_ed E_ed E_s6a E_s7a E_s8a) hZ (wi hw 53 rfl) (wi hw 52 rfl) (by decide) (by decide)) (g := (mkF m 82 (LA15 p0 p1 p2 p3 p4 s6a s7a s8a s9a b5) [(.ref b5)])) rfl (by rw [hml]; rfl) (argsL := [(.ref b5)]) (rest := []) (lenOf pd_518 rfl) rfl (by show 2 * 0 + _ ≤ _; exact Nat.le_of_eq rfl) (hb hby at_82) (fun _ _ => ⟨rfl, rfl, (by decide : 34 + 4 ≤ _), (by decide : 109 + 13 ≤ _)⟩)
  dsimp only [Pt.U, Pt.locs, Pt.cells, Pt.slots] at X47 l47 y47 z47 st47 hQ47
  subst l47 y47 z47
  obtain ⟨⟨cb, lb, tb, kt, rfl, gc47, sc47, gl47, sl47, gt47, zt47, r0_47, r1_47, r2_47, r3_47, r4_47, r5_47, r6_47, r7_47, r8_47⟩, Nq47, Ex47⟩ := hQ47
  have N47 := Fr.app N46 Nq47
  have g_cb : n0 ≤ cb := gc47
  have ne_s6a_cb : s6a ≠ cb := Nat.ne_of_lt (Nat.lt_of_lt_of_le E_s6a.lt sc47)
  have ne_cb_s6a := Ne.symm ne_s6a_cb
  have ne_s7a_cb : s7a ≠ cb := Nat.ne_of_lt (Nat.lt_of_lt_of_le E_s7a.lt sc47)
  have ne_cb_s7a := Ne.symm ne_s7a_cb
  have ne_s8a_cb : s8a ≠ cb := Nat.ne_of_lt (Nat.lt_of_lt_of_le E_s8a.lt sc47)
  have ne_cb_s8a := Ne.symm ne_s8a_cb
  have ne_s9a_cb : s9a ≠ cb := Nat.ne_of_lt (Nat.lt_of_lt_of_le E_s9a.lt sc47)
  have ne_cb_s9a := Ne.symm ne_s9a_cb
  have ne_b5_cb : b5 ≠ cb := Nat.ne_of_lt (Nat.lt_of_lt_of_le E_b5.lt sc47)
  have ne_cb_b5 := Ne.symm ne_b5_cb
  have ne_ed_cb : ed ≠ cb := Nat.ne_of_lt (Nat.lt_of_lt_of_le E_ed.lt sc47)
  have ne_cb_ed := Ne.symm ne_ed_cb
  have g_lb : n0 ≤ lb := gl47
  have ne_s6a_lb : s6a ≠ lb := Nat.ne_of_lt (Nat.lt_of_lt_of_le E_s6a.lt sl47)
  have ne_lb_s6a := Ne.symm ne_s6a_lb
  have ne_s7a_lb : s7a ≠ lb := Nat.ne_of_lt (Nat.lt_of_lt_of_le E_s7a.lt sl47)
  have ne_lb_s7a := Ne.symm ne_s7a_lb
  have ne_s8a_lb : s8a ≠ lb := Nat.ne_of_lt (Nat.lt_of_lt_of_le E_s8a.lt sl47)
  have ne_lb_s8a := Ne.symm ne_s8a_lb
  have ne_s9a_lb : s9a ≠ lb := Nat.ne_of_lt (Nat.lt_of_lt_of_le E_s9a.lt sl47)
  have ne_lb_s9a := Ne.symm ne_s9a_lb
  have ne_b5_lb : b5 ≠ lb := Nat.ne_of_lt (Nat.lt_of_lt_of_le E_b5.lt sl47)
  have ne_lb_b5 := Ne.symm ne_b5_lb
  have ne_ed_lb : ed ≠ lb := Nat.ne_of_lt (Nat.lt_of_lt_of_le E_ed.lt sl47)
  have ne_lb_ed := Ne.symm ne_ed_lb
  have g_tb : n0 ≤ tb := gt47
  have ne_s6a_tb : s6a ≠ tb := Nat.ne_of_lt (Nat.lt_of_lt_of_le E_s6a.lt zt47)
  have ne_tb_s6a := Ne.symm ne_s6a_tb
  have ne_s7a_tb : s7a ≠ tb := Nat.ne_of_lt (Nat.lt_of_lt_of_le E_s7a.lt zt47)
  have ne_tb_s7a := Ne.symm ne_s7a_tb
  have ne_s8a_tb : s8a ≠ tb := Nat.ne_of_lt (Nat.lt_of_lt_of_le E_s8a.lt zt47)
  have ne_tb_s8a := Ne.symm ne_s8a_tb
  have ne_s9a_tb : s9a ≠ tb := Nat.ne_of_lt (Nat.lt_of_lt_of_le E_s9a.lt zt47)
  have ne_tb_s9a := Ne.symm ne_s9a_tb
  have ne_b5_tb : b5 ≠ tb := Nat.ne_of_lt (Nat.lt_of_lt_of_le E_b5.lt zt47)
  have ne_tb_b5 := Ne.symm ne_b5_tb
  have ne_ed_tb : ed ≠ tb := Nat.ne_of_lt (Nat.lt_of_lt_of_le E_ed.lt zt47)
  have ne_tb_ed := Ne.symm ne_ed_tb
  have E_s6a := E_s6a.ext Ex47
  have E_s7a := E_s7a.ext Ex47
  have E_s8a := E_s8a.ext Ex47
  have E_s9a := E_s9a.ext Ex47
  have E_b5 := E_b5.ext Ex47
  have E_ed := E_ed.ext Ex47
  have F_modCount_b5 := F_modCount_b5.ext Ex47
  have F_elementData_b5 := F_elementData_b5.ext Ex47
  have F_size_b5 := F_size_b5.ext Ex47
  have V_ed := V_ed.ext Ex47
  have OC := OC.ext Ex47
  have hk := Nat.le_trans hk Ex47.1
  have E_cb := r0_47
  have F_batches_cb := r1_47
  have F_deleted_cb := r2_47
  have F_lost_cb := r3_47
  have F_usedUp_cb := r4_47
  have F_last_cb := r5_47
  have E_lb := r6_47
  have F_elements_lb := r7_47
  have V_tb := r8_47
  refine Goes.to (T' := T47.setTop (mkF m 85 (LA15 p0 p1 p2 p3 p4 s6a s7a s8a s9a b5) [(.ref cb)])) st47 ?_
  refine Goes.to (T' := T47.setTop (mkF m 87 (LA16 p0 p1 p2 p3 p4 s6a s7a s8a s9a b5 cb) [])) (fun t k => XS.astore X47.here hx rfl (hb hby at_85) rfl rfl (l' := (LA16 p0 p1 p2 p3 p4 s6a s7a s8a s9a b5 cb)) rfl k) ?_
  refine Goes.to (T' := T47.setTop (mkF m 89 (LA16 p0 p1 p2 p3 p4 s6a s7a s8a s9a b5 cb) [(.ref b5)])) (fun t k => XS.aload X47.here hx rfl (hb hby at_87) rfl rfl k) ?_
  refine Goes.to (T' := T47.setTop (mkF m 91 (LA16 p0 p1 p2 p3 p4 s6a s7a s8a s9a b5 cb) [(.ref s9a), (.ref b5)])) (fun t k => XS.aload X47.here hx rfl (hb hby at_89) rfl rfl k) ?_
  obtain ⟨cq48, kq48, q48a, q48b, q48c⟩ := isOf hZ rfl E_b5
  obtain ⟨_, _, ⟨T48, L48, k48, n48⟩, -, X48, ⟨Lc48, hQ48, l48, y48, z48⟩, st48⟩ := X47.virtualBack hx (y := (⟨"java/util/ArrayList", "add", "(Ljava/lang/Object;)Z"⟩ : MethodName)) (z := (⟨"java/util/ArrayList", "add", "(Ljava/lang/Object;)Z"⟩ : MethodName)) hown (mvT hZ (wi hw 99 rfl)) (mvT hZ (wi hw 100 rfl)) (notFace_of_selects (args := #[]) (mvT hZ (wi hw 102 rfl))) (mvT hZ (wi hw 102 rfl)) (mvT hZ (wi hw 101 rfl)) (by decide) (backOf (W := 0) (rmA3 hw b5 s9a (((((0 : Int32) + (1 : Int32)) + (1 : Int32)) + (1 : Int32))) ed kd s6a s7a s8a T47.heap n0 OC NF E_b5 F_modCount_b5 F_elementData_b5 F_size_b5 V_ed E_ed E_s9a g_b5 g_ed ne_ed_b5 Ov_ed) hZ (wi hw 103 rfl) (wi hw 28 rfl) (by decide) (by decide)) q48a q48c (g := (mkF m 91 (LA16 p0 p1 p2 p3 p4 s6a s7a s8a s9a b5 cb) [(.ref s9a), (.ref b5)])) rfl (by rw [hml]; rfl) (Steps.refl _) (argsL := [(.ref s9a)]) (rest := []) (lenOf pd_520 rfl) rfl (by show 2 * 0 + _ ≤ _; exact Nat.le_of_eq rfl) (hb hby at_91) (fun _ _ => ⟨rfl, rfl, (by decide : 38 + 0 ≤ _), (by decide : 122 + 0 ≤ _)⟩)
  dsimp only [Pt.U, Pt.locs, Pt.cells, Pt.slots] at X48 l48 y48 z48 st48 hQ48
  subst l48 y48 z48
  obtain ⟨rfl, Nq48, K48, r0_48, r1_48, r2_48, r3_48, r4_48, r5_48⟩ := hQ48
  have N48 := Fr.app N47 Nq48
  have E_s6a := E_s6a.keep K48
  have E_s7a := E_s7a.keep K48
  have E_s8a := E_s8a.keep K48
  have E_s9a := E_s9a.keep K48
  have E_b5 := E_b5.keep K48
  have E_ed := E_ed.keep K48
  have E_cb := E_cb.keep K48
  have F_batches_cb := F_batches_cb.keep K48 (ninS (ne_cb_b5) (ninS (ne_cb_ed) nin0))
  have F_deleted_cb := F_deleted_cb.keep K48 (ninS (ne_cb_b5) (ninS (ne_cb_ed) nin0))
  have F_lost_cb := F_lost_cb.keep K48 (ninS (ne_cb_b5) (ninS (ne_cb_ed) nin0))
  have F_usedUp_cb := F_usedUp_cb.keep K48 (ninS (ne_cb_b5) (ninS (ne_cb_ed) nin0))
  have F_last_cb := F_last_cb.keep K48 (ninS (ne_cb_b5) (ninS (ne_cb_ed) nin0))
  have E_lb := E_lb.keep K48
  have F_elements_lb := F_elements_lb.keep K48 (ninS (ne_lb_b5) (ninS (ne_lb_ed) nin0))
  have V_tb := V_tb.keep K48 (ninS (ne_tb_b5) (ninS (ne_tb_ed) nin0))
  have OC := OC.keep K48 (allS g_b5 (allS g_ed all0))
  have hk := Nat.le_trans hk K48.1
  have E_b5 := r0_48
  have F_modCount_b5 := r1_48
  have F_elementData_b5 := r2_48
  have F_size_b5 := r3_48
  have V_ed := r4_48
  have E_ed := r5_48
  refine Goes.thru (T' := T48.setTop (mkF m 94 (LA16 p0 p1 p2 p3 p4 s6a s7a s8a s9a b5 cb) [(.int (1 : Int32))])) st48 ?_
  refine Goes.to (T' := T48.setTop (mkF m 95 (LA16 p0 p1 p2 p3 p4 s6a s7a s8a s9a b5 cb) [])) (fun t k => XS.pop X48.here hx rfl (hb hby at_94) rfl rfl k) ?_
  refine Goes.to (T' := T48.setTop (mkF m 97 (LA16 p0 p1 p2 p3 p4 s6a s7a s8a s9a b5 cb) [(.ref cb)])) (fun t k => XS.aload X48.here hx rfl (hb hby at_95) rfl rfl k) ?_
  obtain ⟨cq49, kq49, q49a, q49b, q49c⟩ := isOf hZ rfl E_cb
  obtain ⟨_, _, ⟨T49, L49, k49, n49⟩, -, X49, ⟨Lc49, hQ49, l49, y49, z49⟩, st49⟩ := X48.virtualBack hx (y := (⟨"com/example/nightcrawler/nightcrawler/engine/CommittedBatches", "last", "()Ljava/util/List;"⟩ : MethodName)) (z := (⟨"com/example/nightcrawler/nightcrawler/engine/CommittedBatches", "last", "()Ljava/util/List;"⟩ : MethodName)) hown (mvT hZ (wi hw 128 rfl)) (mvT hZ (wi hw 129 rfl)) (notFace_of_selects (args := #[]) (mvT hZ (wi hw 131 rfl))) (mvT hZ (wi hw 131 rfl)) (mvT hZ (wi hw 130 rfl)) (by decide) (backOf (W := 0) (rm_last hw cb lb T48.heap n0 OC NF F_last_cb) hZ (wi hw 132 rfl) (wi hw 52 rfl) (by decide) (by decide)) q49a q49c (g := (mkF m 97 (LA16 p0 p1 p2 p3 p4 s6a s7a s8a s9a b5 cb) [(.ref cb)])) rfl (by rw [hml]; rfl) (Steps.refl _) (argsL := []) (rest := []) (lenOf pd_277 rfl) rfl (by show 2 * 0 + _ ≤ _; exact Nat.le_of_eq rfl) (hb hby at_97) (fun _ _ => ⟨rfl, rfl, (by decide : 38 + 0 ≤ _), (by decide : 122 + 0 ≤ _)⟩)
  dsimp only [Pt.U, Pt.locs, Pt.cells, Pt.slots] at X49 l49 y49 z49 st49 hQ49
  subst l49 y49 z49
  obtain ⟨rfl, Nq49, e49⟩ := hQ49
  have N49 := Fr.app N48 Nq49
  refine Goes.thru (T' := T49.setTop (mkF m 100 (LA16 p0 p1 p2 p3 p4 s6a s7a s8a s9a b5 cb) [(.ref lb)])) st49 ?_
  refine Goes.to (T' := T49.setTop (mkF m 102 (LA17 p0 p1 p2 p3 p4 s6a s7a s8a s9a b5 cb lb) [])) (fun t k => XS.astore X49.here hx rfl (hb hby at_100) rfl rfl (l' := (LA17 p0 p1 p2 p3 p4 s6a s7a s8a s9a b5 cb lb)) rfl k) ?_
  refine Goes.to (T' := T49.setTop (mkF m 104 (LA17 p0 p1 p2 p3 p4 s6a s7a s8a s9a b5 cb lb) [(.ref cb)])) (fun t k => XS.aload X49.here hx rfl (hb hby at_102) rfl rfl k) ?_
  obtain ⟨cq50, kq50, q50a, q50b, q50c⟩ := isOf hZ e49 E_cb
  obtain ⟨_, _, ⟨T50, L50, k50, n50⟩, -, X50, ⟨Lc50, hQ50, l50, y50, z50⟩, st50⟩ := X49.virtualBack hx (y := (⟨"com/example/nightcrawler/nightcrawler/engine/CommittedBatches", "batches", "()J"⟩ : MethodName)) (z := (⟨"com/example/nightcrawler/nightcrawler/engine/CommittedBatches", "batches", "()J"⟩ : MethodName)) hown (mvT hZ (wi hw 133 rfl)) (mvT hZ (wi hw 134 rfl)) (notFace_of_selects (args := #[]) (mvT hZ (wi hw 136 rfl))) (mvT hZ (wi hw 136 rfl)) (mvT hZ (wi hw 135 rfl)) (by decide) (backOf (W := 0) (rm_batches hw cb  T48.heap n0 OC NF F_batches_cb) hZ (wi hw 137 rfl) (wi hw 52 rfl) (by decide) (by decide)) q50a q50c (g := (mkF m 104 (LA17 p0 p1 p2 p3 p4 s6a s7a s8a s9a b5 cb lb) [(.ref cb)])) rfl (by rw [hml]; rfl) (Steps.refl _) (argsL := []) (rest := []) (lenOf pd_522 rfl) rfl (by show 2 * 0 + _ ≤ _; exact Nat.le_of_eq rfl) (hb hby at_104) (fun _ _ => ⟨rfl, e49, (by decide : 38 + 0 ≤ _), (by decide : 122 + 0 ≤ _)⟩)
  dsimp only [Pt.U, Pt.locs, Pt.cells, Pt.slots] at X50 l50 y50 z50 st50 hQ50
  subst l50 y50 z50
  obtain ⟨rfl, Nq50, e50⟩ := hQ50
  have N50 := Fr.app N49 Nq50
  refine Goes.thru (T' := T50.setTop (mkF m 107 (LA17 p0 p1 p2 p3 p4 s6a s7a s8a s9a b5 cb lb) [(.long (0 : Int64))])) st50 ?_
  refine Goes.to (T' := T50.setTop (mkF m 108 (LA17 p0 p1 p2 p3 p4 s6a s7a s8a s9a b5 cb lb) [(.long (0 : Int64)), (.long (0 : Int64))])) (fun t k => XS.lconst X50.here hx rfl (hb hby at_107) k) ?_
  refine Goes.to (T' := T50.setTop (mkF m 109 (LA17 p0 p1 p2 p3 p4 s6a s7a s8a s9a b5 cb lb) [(.int (lcmpW (0 : Int64) (0 : Int64)))])) (fun t k => XS.lcmp X50.here hx rfl (hb hby at_108) rfl k) ?_
  refine Goes.to (T' := T50.setTop (mkF m 112 (LA17 p0 p1 p2 p3 p4 s6a s7a s8a s9a b5 cb lb) [])) (fun t k => XS.ifNo X50.here hx rfl (hb hby at_109) rfl ((if0 _ _).trans (teq (by decide)).2) k) ?_
  refine Goes.to (T' := T50.setTop (mkF m 114 (LA17 p0 p1 p2 p3 p4 s6a s7a s8a s9a b5 cb lb) [(.ref cb)])) (fun t k => XS.aload X50.here hx rfl (hb hby at_112) rfl rfl k) ?_
  obtain ⟨cq51, kq51, q51a, q51b, q51c⟩ := isOf hZ e50 E_cb
  obtain ⟨_, _, ⟨T51, L51, k51, n51⟩, -, X51, ⟨Lc51, hQ51, l51, y51, z51⟩, st51⟩ := X50.virtualBack hx (y := (⟨"com/example/nightcrawler/nightcrawler/engine/CommittedBatches", "deleted", "()J"⟩ : MethodName)) (z := (⟨"com/example/nightcrawler/nightcrawler/engine/CommittedBatches", "deleted", "()J"⟩ : MethodName)) hown (mvT hZ (wi hw 138 rfl)) (mvT hZ (wi hw 139 rfl)) (notFace_of_selects (args := #[]) (mvT hZ (wi hw 141 rfl))) (mvT hZ (wi hw 141 rfl)) (mvT hZ (wi hw 140 rfl)) (by decide) (backOf (W := 0) (rm_deleted hw cb  T48.heap n0 OC NF F_deleted_cb) hZ (wi hw 142 rfl) (wi hw 52 rfl) (by decide) (by decide)) q51a q51c (g := (mkF m 114 (LA17 p0 p1 p2 p3 p4 s6a s7a s8a s9a b5 cb lb) [(.ref cb)])) rfl (by rw [hml]; rfl) (Steps.refl _) (argsL := []) (rest := []) (lenOf pd_522 rfl) rfl (by show 2 * 0 + _ ≤ _; exact Nat.le_of_eq rfl) (hb hby at_114) (fun _ _ => ⟨rfl, e50, (by decide : 38 + 0 ≤ _), (by decide : 122 + 0 ≤ _)⟩)
  dsimp only [Pt.U, Pt.locs, Pt.cells, Pt.slots] at X51 l51 y51 z51 st51 hQ51
  subst l51 y51 z51
  obtain ⟨rfl, Nq51, e51⟩ := hQ51
  have N51 := Fr.app N50 Nq51
  refine Goes.thru (T' := T51.setTop (mkF m 117 (LA17 p0 p1 p2 p3 p4 s6a s7a s8a s9a b5 cb lb) [(.long (0 : Int64))])) st51 ?_
  refine Goes.to (T' := T51.setTop (mkF m 118 (LA17 p0 p1 p2 p3 p4 s6a s7a s8a s9a b5 cb lb) [(.long (0 : Int64)), (.long (0 : Int64))])) (fun t k => XS.lconst X51.here hx rfl (hb hby at_117) k) ?_
  refine Goes.to (T' := T51.setTop (mkF m 119 (LA17 p0 p1 p2 p3 p4 s6a s7a s8a s9a b5 cb lb) [(.int (lcmpW (0 : Int64) (0 : Int64)))])) (fun t k => XS.lcmp X51.here hx rfl (hb hby at_118) rfl k) ?_
  refine Goes.to (T' := T51.setTop (mkF m 122 (LA17 p0 p1 p2 p3 p4 s6a s7a s8a s9a b5 cb lb) [])) (fun t k => XS.ifNo X51.here hx rfl (hb hby at_119) rfl ((if0 _ _).trans (teq (by decide)).2) k) ?_
  refine Goes.to (T' := T51.setTop (mkF m 124 (LA17 p0 p1 p2 p3 p4 s6a s7a s8a s9a b5 cb lb) [(.ref cb)])) (fun t k => XS.aload X51.here hx rfl (hb hby at_122) rfl rfl k) ?_
  obtain ⟨cq52, kq52, q52a, q52b, q52c⟩ := isOf hZ e51 E_cb
  obtain ⟨_, _, ⟨T52, L52, k52, n52⟩, -, X52, ⟨Lc52, hQ52, l52, y52, z52⟩, st52⟩ := X51.virtualBack hx (y := (⟨"com/example/nightcrawler/nightcrawler/engine/CommittedBatches", "lost", "()J"⟩ : MethodName)) (z := (⟨"com/example/nightcrawler/nightcrawler/engine/CommittedBatches", "lost", "()J"⟩ : MethodName)) hown (mvT hZ (wi hw 143 rfl)) (mvT hZ (wi hw 144 rfl)) (notFace_of_selects (args := #[]) (mvT hZ (wi hw 146 rfl))) (mvT hZ (wi hw 146 rfl)) (mvT hZ (wi hw 145 rfl)) (by decide) (backOf (W := 0) (rm_lost hw cb  T48.heap n0 OC NF F_lost_cb) hZ (wi hw 147 rfl) (wi hw 52 rfl) (by decide) (by decide)) q52a q52c (g := (mkF m 124 (LA17 p0 p1 p2 p3 p4 s6a s7a s8a s9a b5 cb lb) [(.ref cb)])) rfl (by rw [hml]; rfl) (Steps.refl _) (argsL := []) (rest := []) (lenOf pd_522 rfl) rfl (by show 2 * 0 + _ ≤ _; exact Nat.le_of_eq rfl) (hb hby at_124) (fun _ _ => ⟨rfl, e51, (by decide : 38 + 0 ≤ _), (by decide : 122 + 0 ≤ _)⟩)
  dsimp only [Pt.U, Pt.locs, Pt.cells, Pt.slots] at X52 l52 y52 z52 st52 hQ52
  subst l52 y52 z52
  obtain ⟨rfl, Nq52, e52⟩ := hQ52
  have N52 := Fr.app N51 Nq52
  refine Goes.thru (T' := T52.setTop (mkF m 127 (LA17 p0 p1 p2 p3 p4 s6a s7a s8a s9a b5 cb lb) [(.long (0 : Int64))])) st52 ?_
  refine Goes.to (T' := T52.setTop (mkF m 128 (LA17 p0 p1 p2 p3 p4 s6a s7a s8a s9a b5 cb lb) [(.long (0 : Int64)), (.long (0 : Int64))])) (fun t k => XS.lconst X52.here hx rfl (hb hby at_127) k) ?_
  refine Goes.to (T' := T52.setTop (mkF m 129 (LA17 p0 p1 p2 p3 p4 s6a s7a s8a s9a b5 cb lb) [(.int (lcmpW (0 : Int64) (0 : Int64)))])) (fun t k => XS.lcmp X52.here hx rfl (hb hby at_128) rfl k) ?_
  refine Goes.to (T' := T52.setTop (mkF m 132 (LA17 p0 p1 p2 p3 p4 s6a s7a s8a s9a b5 cb lb) [])) (fun t k => XS.ifNo X52.here hx rfl (hb hby at_129) rfl ((if0 _ _).trans (teq (by decide)).2) k) ?_
  refine Goes.to (T' := T52.setTop (mkF m 134 (LA17 p0 p1 p2 p3 p4 s6a s7a s8a s9a b5 cb lb) [(.ref cb)])) (fun t k => XS.aload X52.here hx rfl (hb hby at_132) rfl rfl k) ?_
  obtain ⟨cq53, kq53, q53a, q53b, q53c⟩ := isOf hZ e52 E_cb
  obtain ⟨_, _, ⟨T53, L53, k53, n53⟩, -, X53, ⟨Lc53, hQ53, l53, y53, z53⟩, st53⟩ := X52.virtualBack hx (y := (⟨"com/example/nightcrawler/nightcrawler/engine/CommittedBatches", "usedUp", "()Z"⟩ : MethodName)) (z := (⟨"com/example/nightcrawler/nightcrawler/engine/CommittedBatches", "usedUp", "()Z"⟩ : MethodName)) hown (mvT hZ (wi hw 148 rfl)) (mvT hZ (wi hw 149 rfl)) (notFace_of_selects (args := #[]) (mvT hZ (wi hw 151 rfl))) (mvT hZ (wi hw 151 rfl)) (mvT hZ (wi hw 150 rfl)) (by decide) (backOf (W := 0) (rm_usedUp hw cb  T48.heap n0 OC NF F_usedUp_cb) hZ (wi hw 152 rfl) (wi hw 52 rfl) (by decide) (by decide)) q53a q53c (g := (mkF m 134 (LA17 p0 p1 p2 p3 p4 s6a s7a s8a s9a b5 cb lb) [(.ref cb)])) rfl (by rw [hml]; rfl) (Steps.refl _) (argsL := []) (rest := []) (lenOf pd_186 rfl) rfl (by show 2 * 0 + _ ≤ _; exact Nat.le_of_eq rfl) (hb hby at_134) (fun _ _ => ⟨rfl, e52, (by decide : 38 + 0 ≤ _), (by decide : 122 + 0 ≤ _)⟩)
  dsimp only [Pt.U, Pt.locs, Pt.cells, Pt.slots] at X53 l53 y53 z53 st53 hQ53
  subst l53 y53 z53
  obtain ⟨rfl, Nq53, e53⟩ := hQ53
  have N53 := Fr.app N52 Nq53
  refine Goes.thru (T' := T53.setTop (mkF m 137 (LA17 p0 p1 p2 p3 p4 s6a s7a s8a s9a b5 cb lb) [(.int (1 : Int32))])) st53 ?_
  refine Goes.to (T' := T53.setTop (mkF m 140 (LA17 p0 p1 p2 p3 p4 s6a s7a s8a s9a b5 cb lb) [])) (fun t k => XS.ifNo X53.here hx rfl (hb hby at_137) rfl ((if0 _ _).trans (feq (by decide)).1) k) ?_
  refine Goes.to (T' := T53.setTop (mkF m 142 (LA17 p0 p1 p2 p3 p4 s6a s7a s8a s9a b5 cb lb) [(.ref lb)])) (fun t k => XS.aload X53.here hx rfl (hb hby at_140) rfl rfl k) ?_
  obtain ⟨cq54, kq54, q54a, q54b, q54c⟩ := isOf hZ e53 E_lb
  obtain ⟨_, _, ⟨T54, L54, k54, n54⟩, -, X54, ⟨Lc54, hQ54, l54, y54, z54⟩, st54⟩ := X53.interfaceBack hx (xi := (⟨"java/util/List", "size", "()I"⟩ : MethodName)) (y := (⟨"java/util/ImmutableCollections$ListN", "size", "()I"⟩ : MethodName)) hown (mvT hZ (wi hw 153 rfl)) (mvT hZ (wi hw 154 rfl)) (mvT hZ (wi hw 155 rfl)) (mvT hZ (wi hw 156 rfl)) (mvT hZ (wi hw 157 rfl)) (mvT hZ (wi hw 158 rfl)) (mvT hZ (wi hw 159 rfl)) (mvT hZ (wi hw 160 rfl)) (by decide) (backOf (W := 0) (rmN3 hw lb tb kt s6a s7a s8a T48.heap n0 OC NF F_elements_lb V_tb) hZ (wi hw 162 rfl) (wi hw 161 rfl) (by decide) (by decide)) q54a q54b q54c (g := (mkF m 142 (LA17 p0 p1 p2 p3 p4 s6a s7a s8a s9a b5 cb lb) [(.ref lb)])) rfl (by rw [hml]; rfl) (Steps.refl _) (argsL := []) (rest := []) (lenOf pd_523 rfl) rfl (by show 2 * 0 + _ ≤ _; exact Nat.le_of_eq rfl) (hb hby at_142) (fun _ _ => ⟨rfl, e53, (by decide : 38 + 0 ≤ _), (by decide : 122 + 0 ≤ _)⟩)
  dsimp only [Pt.U, Pt.locs, Pt.cells, Pt.slots] at X54 l54 y54 z54 st54 hQ54
  subst l54 y54 z54
  obtain ⟨rfl, Nq54, e54⟩ := hQ54
  have N54 := Fr.app N53 Nq54
  refine Goes.thru (T' := T54.setTop (mkF m 147 (LA17 p0 p1 p2 p3 p4 s6a s7a s8a s9a b5 cb lb) [(.int (3 : Int32))])) st54 ?_
  refine Goes.to (T' := T54.setTop (mkF m 149 (LA17 p0 p1 p2 p3 p4 s6a s7a s8a s9a b5 cb lb) [(.int (3 : Int32)), (.int (3 : Int32))])) (fun t k => XS.iload X54.here hx rfl (hb hby at_147) rfl k) ?_
  refine Goes.to (T' := T54.setTop (mkF m 152 (LA17 p0 p1 p2 p3 p4 s6a s7a s8a s9a b5 cb lb) [])) (fun t k => XS.icmpNo X54.here hx rfl (hb hby at_149) rfl (teq (by decide)).2 k) ?_
  refine Goes.to (T' := T54.setTop (mkF m 153 (LA17 p0 p1 p2 p3 p4 s6a s7a s8a s9a b5 cb lb) [(.int (1 : Int32))])) (fun t k => XS.iconst X54.here hx rfl (hb hby at_152) k) ?_
  refine Goes.to (T' := T54.setTop (mkF m 157 (LA17 p0 p1 p2 p3 p4 s6a s7a s8a s9a b5 cb lb) [(.int (1 : Int32))])) (fun t k => XS.goto X54.here hx rfl (pc0 := 153) (pc' := 157) rfl (hb hby at_153) (by decide) (by decide) k) ?_
  refine Goes.to (T' := T54.setTop (mkF m 159 (LA18 p0 p1 p2 p3 p4 s6a s7a s8a s9a b5 cb lb) [])) (fun t k => XS.istore X54.here hx rfl (hb hby at_157) rfl (l' := (LA18 p0 p1 p2 p3 p4 s6a s7a s8a s9a b5 cb lb)) rfl k) ?_
  refine Goes.to (T' := T54.setTop (mkF m 161 (LA18 p0 p1 p2 p3 p4 s6a s7a s8a s9a b5 cb lb) [(.int (1 : Int32))])) (fun t k => XS.iload X54.here hx rfl (hb hby at_159) rfl k) ?_
  refine Goes.to (T' := T54.setTop (mkF m 164 (LA18 p0 p1 p2 p3 p4 s6a s7a s8a s9a b5 cb lb) [])) (fun t k => XS.ifNo X54.here hx rfl (hb hby at_161) rfl ((if0 _ _).trans (feq (by decide)).1) k) ?_
  refine Goes.to (T' := T54.setTop (mkF m 166 (LA18 p0 p1 p2 p3 p4 s6a s7a s8a s9a b5 cb lb) [(.int (3 : Int32))])) (fun t k => XS.iload X54.here hx rfl (hb hby at_164) rfl k) ?_
  refine Goes.to (T' := T54.setTop (mkF m 169 (LA18 p0 p1 p2 p3 p4 s6a s7a s8a s9a b5 cb lb) [])) (fun t k => XS.ifNo X54.here hx rfl (hb hby at_166) rfl ((if0 _ _).trans (tlt (by decide)).2.2.2) k) ?_
  refine Goes.to (T' := T54.setTop (mkF m 171 (LA18 p0 p1 p2 p3 p4 s6a s7a s8a s9a b5 cb lb) [(.ref lb)])) (fun t k => XS.aload X54.here hx rfl (hb hby at_169) rfl rfl k) ?_
  refine Goes.to (T' := T54.setTop (mkF m 172 (LA18 p0 p1 p2 p3 p4 s6a s7a s8a s9a b5 cb lb) [(.int (0 : Int32)), (.ref lb)])) (fun t k => XS.iconst X54.here hx rfl (hb hby at_171) k) ?_
  obtain ⟨cq55, kq55, q55a, q55b, q55c⟩ := isOf hZ e54 E_lb
  obtain ⟨_, _, ⟨T55, L55, k55, n55⟩, -, X55, ⟨Lc55, hQ55, l55, y55, z55⟩, st55⟩ := X54.interfaceBack hx (xi := (⟨"java/util/List", "get", "(I)Ljava/lang/Object;"⟩ : MethodName)) (y := (⟨"java/util/ImmutableCollections$ListN", "get", "(I)Ljava/lang/Object;"⟩ : MethodName)) hown (mvT hZ (wi hw 227 rfl)) (mvT hZ (wi hw 228 rfl)) (mvT hZ (wi hw 229 rfl)) (mvT hZ (wi hw 230 rfl)) (mvT hZ (wi hw 231 rfl)) (mvT hZ (wi hw 232 rfl)) (mvT hZ (wi hw 233 rfl)) (mvT hZ (wi hw 160 rfl)) (by decide) (backOf (W := 0) (rmH0 hw lb tb kt s6a s7a s8a T48.heap n0 OC NF F_elements_lb V_tb) hZ (wi hw 234 rfl) (wi hw 161 rfl) (by decide) (by decide)) q55a q55b q55c (g := (mkF m 172 (LA18 p0 p1 p2 p3 p4 s6a s7a s8a s9a b5 cb lb) [(.int (0 : Int32)), (.ref lb)])) rfl (by rw [hml]; rfl) (Steps.refl _) (argsL := [(.int (0 : Int32))]) (rest := []) (lenOf pd_529 rfl) rfl (by show 2 * 0 + _ ≤ _; exact Nat.le_of_eq rfl) (hb hby at_172) (fun _ _ => ⟨rfl, e54, (by decide : 38 + 0 ≤ _), (by decide : 122 + 0 ≤ _)⟩)
  dsimp only [Pt.U, Pt.locs, Pt.cells, Pt.slots] at X55 l55 y55 z55 st55 hQ55
  subst l55 y55 z55
  obtain ⟨rfl, Nq55, e55⟩ := hQ55
  have N55 := Fr.app N54 Nq55
  refine Goes.thru (T' := T55.setTop (mkF m 177 (LA18 p0 p1 p2 p3 p4 s6a s7a s8a s9a b5 cb lb) [(.ref s6a)])) st55 ?_
  obtain ⟨T56, X56, e56, st56⟩ := castY X55 hx hZ hown (wi hw 4 rfl) e55 (Ins.self E_s6a) (g := (mkF m 177 (LA18 p0 p1 p2 p3 p4 s6a s7a s8a s9a b5 cb lb) [(.ref s6a)])) rfl rfl (hb hby at_177)
  refine Goes.to (T' := T56.setTop (mkF m 180 (LA18 p0 p1 p2 p3 p4 s6a s7a s8a s9a b5 cb lb) [(.ref s6a)])) st56 ?_
  refine Goes.to (T' := T56.setTop (mkF m 182 (LA18 p0 p1 p2 p3 p4 s6a s7a s8a s9a b5 cb lb) [(.ref s6a), (.ref s6a)])) (fun t k => XS.aload X56.here hx rfl (hb hby at_180) rfl rfl k) ?_
  obtain ⟨cq57, kq57, q57a, q57b, q57c⟩ := isOf hZ e56 E_s6a
  obtain ⟨_, _, ⟨T57, L57, k57, n57⟩, -, X57, ⟨Lc57, hQ57, l57, y57, z57⟩, st57⟩ := X56.virtualBack hx (y := (⟨"java/lang/String", "equals", "(Ljava/lang/Object;)Z"⟩ : MethodName)) (z := (⟨"java/lang/String", "equals", "(Ljava/lang/Object;)Z"⟩ : MethodName)) hown (mvT hZ (wi hw 235 rfl)) (mvT hZ (wi hw 236 rfl)) (notFace_of_selects (args := #[]) (mvT hZ (wi hw 238 rfl))) (mvT hZ (wi hw 238 rfl)) (mvT hZ (wi hw 237 rfl)) (by decide) (backOf (W := 0) (rmSS hw s6a  T48.heap n0 OC NF ) hZ (wi hw 239 rfl) (wi hw 6 rfl) (by decide) (by decide)) q57a q57c (g := (mkF m 182 (LA18 p0 p1 p2 p3 p4 s6a s7a s8a s9a b5 cb lb) [(.ref s6a), (.ref s6a)])) rfl (by rw [hml]; rfl) (Steps.refl _) (argsL := [(.ref s6a)]) (rest := []) (lenOf pd_520 rfl) rfl (by show 2 * 0 + _ ≤ _; exact Nat.le_of_eq rfl) (hb hby at_182) (fun _ _ => ⟨rfl, e56, (by decide : 38 + 0 ≤ _), (by decide : 122 + 0 ≤ _)⟩)
  dsimp only [Pt.U, Pt.locs, Pt.cells, Pt.slots] at X57 l57 y57 z57 st57 hQ57
  subst l57 y57 z57
  obtain ⟨rfl, Nq57, e57⟩ := hQ57
  have N57 := Fr.app N55 Nq57
  refine Goes.thru (T' := T57.setTop (mkF m 185 (LA18 p0 p1 p2 p3 p4 s6a s7a s8a s9a b5 cb lb) [(.int (1 : Int32))])) st57 ?_
  refine Goes.to (T' := T57.setTop (mkF m 187 (LA18 p0 p1 p2 p3 p4 s6a s7a s8a s9a b5 cb lb) [])) (fun t k => XS.istore X57.here hx rfl (hb hby at_185) rfl (l' := (LA18 p0 p1 p2 p3 p4 s6a s7a s8a s9a b5 cb lb)) rfl k) ?_
  refine Goes.to (T' := T57.setTop (mkF m 189 (LA18 p0 p1 p2 p3 p4 s6a s7a s8a s9a b5 cb lb) [(.int (1 : Int32))])) (fun t k => XS.iload X57.here hx rfl (hb hby at_187) rfl k) ?_
  refine Goes.to (T' := T57.setTop (mkF m 192 (LA18 p0 p1 p2 p3 p4 s6a s7a s8a s9a b5 cb lb) [])) (fun t k => XS.ifNo X57.here hx rfl (hb hby at_189) rfl ((if0 _ _).trans (feq (by decide)).1) k) ?_
  refine Goes.to (T' := T57.setTop (mkF m 194 (LA18 p0 p1 p2 p3 p4 s6a s7a s8a s9a b5 cb lb) [(.int (3 : Int32))])) (fun t k => XS.iload X57.here hx rfl (hb hby at_192) rfl k) ?_
  refine Goes.to (T' := T57.setTop (mkF m 195 (LA18 p0 p1 p2 p3 p4 s6a s7a s8a s9a b5 cb lb) [(.int (1 : Int32)), (.int (3 : Int32))])) (fun t k => XS.iconst X57.here hx rfl (hb hby at_194) k) ?_
  refine Goes.to (T' := T57.setTop (mkF m 198 (LA18 p0 p1 p2 p3 p4 s6a s7a s8a s9a b5 cb lb) [])) (fun t k => XS.icmpNo X57.here hx rfl (hb hby at_195) rfl (tlt (by decide)).2.2.2 k) ?_
  refine Goes.to (T' := T57.setTop (mkF m 200 (LA18 p0 p1 p2 p3 p4 s6a s7a s8a s9a b5 cb lb) [(.ref lb)])) (fun t k => XS.aload X57.here hx rfl (hb hby at_198) rfl rfl k) ?_
  refine Goes.to (T' := T57.setTop (mkF m 201 (LA18 p0 p1 p2 p3 p4 s6a s7a s8a s9a b5 cb lb) [(.int (1 : Int32)), (.ref lb)])) (fun t k => XS.iconst X57.here hx rfl (hb hby at_200) k) ?_
  obtain ⟨cq58, kq58, q58a, q58b, q58c⟩ := isOf hZ e57 E_lb
  obtain ⟨_, _, ⟨T58, L58, k58, n58⟩, -, X58, ⟨Lc58, hQ58, l58, y58, z58⟩, st58⟩ := X57.interfaceBack hx (xi := (⟨"java/util/List", "get", "(I)Ljava/lang/Object;"⟩ : MethodName)) (y := (⟨"java/util/ImmutableCollections$ListN", "get", "(I)Ljava/lang/Object;"⟩ : MethodName)) hown (mvT hZ (wi hw 227 rfl)) (mvT hZ (wi hw 228 rfl)) (mvT hZ (wi hw 229 rfl)) (mvT hZ (wi hw 230 rfl)) (mvT hZ (wi hw 231 rfl)) (mvT hZ (wi hw 232 rfl)) (mvT hZ (wi hw 233 rfl)) (mvT hZ (wi hw 160 rfl)) (by decide) (backOf (W := 0) (rmH1 hw lb tb kt s6a s7a s8a T48.heap n0 OC NF F_elements_lb V_tb) hZ (wi hw 234 rfl) (wi hw 161 rfl) (by decide) (by decide)) q58a q58b q58c (g := (mkF m 201 (LA18 p0 p1 p2 p3 p4 s6a s7a s8a s9a b5 cb lb) [(.int (1 : Int32)), (.ref lb)])) rfl (by rw [hml]; rfl) (Steps.refl _) (argsL := [(.int (1 : Int32))]) (rest := []) (lenOf pd_529 rfl) rfl (by show 2 * 0 + _ ≤ _; exact Nat.le_of_eq rfl) (hb hby at_201) (fun _ _ => ⟨rfl, e57, (by decide : 38 + 0 ≤ _), (by decide : 122 + 0 ≤ _)⟩)
  dsimp only [Pt.U, Pt.locs, Pt.cells, Pt.slots] at X58 l58 y58 z58 st58 hQ58
  subst l58 y58 z58
  obtain ⟨rfl, Nq58, e58⟩ := hQ58
  have N58 := Fr.app N57 Nq58
  refine Goes.thru (T' := T58.setTop (mkF m 206 (LA18 p0 p1 p2 p3 p4 s6a s7a s8a s9a b5 cb lb) [(.ref s7a)])) st58 ?_
  obtain ⟨T59, X59, e59, st59⟩ := castY X58 hx hZ hown (wi hw 4 rfl) e58 (Ins.self E_s7a) (g := (mkF m 206 (LA18 p0 p1 p2 p3 p4 s6a s7a s8a s9a b5 cb lb) [(.ref s7a)])) rfl rfl (hb hby at_206)
  refine Goes.to (T' := T59.setTop (mkF m 209 (LA18 p0 p1 p2 p3 p4 s6a s7a s8a s9a b5 cb lb) [(.ref s7a)])) st59 ?_
  refine Goes.to (T' := T59.setTop (mkF m 211 (LA18 p0 p1 p2 p3 p4 s6a s7a s8a s9a b5 cb lb) [(.ref s7a), (.ref s7a)])) (fun t k => XS.aload X59.here hx rfl (hb hby at_209) rfl rfl k) ?_
  obtain ⟨cq60, kq60, q60a, q60b, q60c⟩ := isOf hZ e59 E_s7a
  obtain ⟨_, _, ⟨T60, L60, k60, n60⟩, -, X60, ⟨Lc60, hQ60, l60, y60, z60⟩, st60⟩ := X59.virtualBack hx (y := (⟨"java/lang/String", "equals", "(Ljava/lang/Object;)Z"⟩ : MethodName)) (z := (⟨"java/lang/String", "equals", "(Ljava/lang/Object;)Z"⟩ : MethodName)) hown (mvT hZ (wi hw 235 rfl)) (mvT hZ (wi hw 236 rfl)) (notFace_of_selects (args := #[]) (mvT hZ (wi hw 238 rfl))) (mvT hZ (wi hw 238 rfl)) (mvT hZ (wi hw 237 rfl)) (by decide) (backOf (W := 0) (rmSS hw s7a  T48.heap n0 OC NF ) hZ (wi hw 239 rfl) (wi hw 6 rfl) (by decide) (by decide)) q60a q60c (g := (mkF m 211 (LA18 p0 p1 p2 p3 p4 s6a s7a s8a s9a b5 cb lb) [(.ref s7a), (.ref s7a)])) rfl (by rw [hml]; rfl) (Steps.refl _) (argsL := [(.ref s7a)]) (rest := []) (lenOf pd_520 rfl) rfl (by show 2 * 0 + _ ≤ _; exact Nat.le_of_eq rfl) (hb hby at_211) (fun _ _ => ⟨rfl, e59, (by decide : 38 + 0 ≤ _), (by decide : 122 + 0 ≤ _)⟩)
  dsimp only [Pt.U, Pt.locs, Pt.cells, Pt.slots] at X60 l60 y60 z60 st60 hQ60
  subst l60 y60 z60
  obtain ⟨rfl, Nq60, e60⟩ := hQ60
  have N60 := Fr.app N58 Nq60
  refine Goes.thru (T' := T60.setTop (mkF m 214 (LA18 p0 p1 p2 p3 p4 s6a s7a s8a s9a b5 cb lb) [(.int (1 : Int32))])) st60 ?_
  refine Goes.to (T' := T60.setTop (mkF m 216 (LA18 p0 p1 p2 p3 p4 s6a s7a s8a s9a b5 cb lb) [])) (fun t k => XS.istore X60.here hx rfl (hb hby at_214) rfl (l' := (LA18 p0 p1 p2 p3 p4 s6a s7a s8a s9a b5 cb lb)) rfl k) ?_
  refine Goes.to (T' := T60.setTop (mkF m 218 (LA18 p0 p1 p2 p3 p4 s6a s7a s8a s9a b5 cb lb) [(.int (1 : Int32))])) (fun t k => XS.iload X60.here hx rfl (hb hby at_216) rfl k) ?_
  refine Goes.to (T' := T60.setTop (mkF m 221 (LA18 p0 p1 p2 p3 p4 s6a s7a s8a s9a b5 cb lb) [])) (fun t k => XS.ifNo X60.here hx rfl (hb hby at_218) rfl ((if0 _ _).trans (feq (by decide)).1) k) ?_
  refine Goes.to (T' := T60.setTop (mkF m 223 (LA18 p0 p1 p2 p3 p4 s6a s7a s8a s9a b5 cb lb) [(.int (3 : Int32))])) (fun t k => XS.iload X60.here hx rfl (hb hby at_221) rfl k) ?_
  refine Goes.to (T' := T60.setTop (mkF m 224 (LA18 p0 p1 p2 p3 p4 s6a s7a s8a s9a b5 cb lb) [(.int (2 : Int32)), (.int (3 : Int32))])) (fun t k => XS.iconst X60.here hx rfl (hb hby at_223) k) ?_
  refine Goes.to (T' := T60.setTop (mkF m 227 (LA18 p0 p1 p2 p3 p4 s6a s7a s8a s9a b5 cb lb) [])) (fun t k => XS.icmpNo X60.here hx rfl (hb hby at_224) rfl (tlt (by decide)).2.2.2 k) ?_
  refine Goes.to (T' := T60.setTop (mkF m 229 (LA18 p0 p1 p2 p3 p4 s6a s7a s8a s9a b5 cb lb) [(.ref lb)])) (fun t k => XS.aload X60.here hx rfl (hb hby at_227) rfl rfl k) ?_
  refine Goes.to (T' := T60.setTop (mkF m 230 (LA18 p0 p1 p2 p3 p4 s6a s7a s8a s9a b5 cb lb) [(.int (2 : Int32)), (.ref lb)])) (fun t k => XS.iconst X60.here hx rfl (hb hby at_229) k) ?_
  obtain ⟨cq61, kq61, q61a, q61b, q61c⟩ := isOf hZ e60 E_lb
  obtain ⟨_, _, ⟨T61, L61, k61, n61⟩, -, X61, ⟨Lc61, hQ61, l61, y61, z61⟩, st61⟩ := X60.interfaceBack hx (xi := (⟨"java/util/List", "get", "(I)Ljava/lang/Object;"⟩ : MethodName)) (y := (⟨"java/util/ImmutableCollections$ListN", "get", "(I)Ljava/lang/Object;"⟩ : MethodName)) hown (mvT hZ (wi hw 227 rfl)) (mvT hZ (wi hw 228 rfl)) (mvT hZ (wi hw 229 rfl)) (mvT hZ (wi hw 230 rfl)) (mvT hZ (wi hw 231 rfl)) (mvT hZ (wi hw 232 rfl)) (mvT hZ (wi hw 233 rfl)) (mvT hZ (wi hw 160 rfl)) (by decide) (backOf (W := 0) (rmH2 hw lb tb kt s6a s7a s8a T48.heap n0 OC NF F_elements_lb V_tb) hZ (wi hw 234 rfl) (wi hw 161 rfl) (by decide) (by decide)) q61a q61b q61c (g := (mkF m 230 (LA18 p0 p1 p2 p3 p4 s6a s7a s8a s9a b5 cb lb) [(.int (2 : Int32)), (.ref lb)])) rfl (by rw [hml]; rfl) (Steps.refl _) (argsL := [(.int (2 : Int32))]) (rest := []) (lenOf pd_529 rfl) rfl (by show 2 * 0 + _ ≤ _; exact Nat.le_of_eq rfl) (hb hby at_230) (fun _ _ => ⟨rfl, e60, (by decide : 38 + 0 ≤ _), (by decide : 122 + 0 ≤ _)⟩)
  dsimp only [Pt.U, Pt.locs, Pt.cells, Pt.slots] at X61 l61 y61 z61 st61 hQ61
  subst l61 y61 z61
  obtain ⟨rfl, Nq61, e61⟩ := hQ61
  have N61 := Fr.app N60 Nq61
  refine Goes.thru (T' := T61.setTop (mkF m 235 (LA18 p0 p1 p2 p3 p4 s6a s7a s8a s9a b5 cb lb) [(.ref s8a)])) st61 ?_
  obtain ⟨T62, X62, e62, st62⟩ := castY X61 hx hZ hown (wi hw 4 rfl) e61 (Ins.self E_s8a) (g := (mkF m 235 (LA18 p0 p1 p2 p3 p4 s6a s7a s8a s9a b5 cb lb) [(.ref s8a)])) rfl rfl (hb hby at_235)
  refine Goes.to (T' := T62.setTop (mkF m 238 (LA18 p0 p1 p2 p3 p4 s6a s7a s8a s9a b5 cb lb) [(.ref s8a)])) st62 ?_
  refine Goes.to (T' := T62.setTop (mkF m 240 (LA18 p0 p1 p2 p3 p4 s6a s7a s8a s9a b5 cb lb) [(.ref s8a), (.ref s8a)])) (fun t k => XS.aload X62.here hx rfl (hb hby at_238) rfl rfl k) ?_
  obtain ⟨cq63, kq63, q63a, q63b, q63c⟩ := isOf hZ e62 E_s8a
  obtain ⟨_, _, ⟨T63, L63, k63, n63⟩, -, X63, ⟨Lc63, hQ63, l63, y63, z63⟩, st63⟩ := X62.virtualBack hx (y := (⟨"java/lang/String", "equals", "(Ljava/lang/Object;)Z"⟩ : MethodName)) (z := (⟨"java/lang/String", "equals", "(Ljava/lang/Object;)Z"⟩ : MethodName)) hown (mvT hZ (wi hw 235 rfl)) (mvT hZ (wi hw 236 rfl)) (notFace_of_selects (args := #[]) (mvT hZ (wi hw 238 rfl))) (mvT hZ (wi hw 238 rfl)) (mvT hZ (wi hw 237 rfl)) (by decide) (backOf (W := 0) (rmSS hw s8a  T48.heap n0 OC NF ) hZ (wi hw 239 rfl) (wi hw 6 rfl) (by decide) (by decide)) q63a q63c (g := (mkF m 240 (LA18 p0 p1 p2 p3 p4 s6a s7a s8a s9a b5 cb lb) [(.ref s8a), (.ref s8a)])) rfl (by rw [hml]; rfl) (Steps.refl _) (argsL := [(.ref s8a)]) (rest := []) (lenOf pd_520 rfl) rfl (by show 2 * 0 + _ ≤ _; exact Nat.le_of_eq rfl) (hb hby at_240) (fun _ _ => ⟨rfl, e62, (by decide : 38 + 0 ≤ _), (by decide : 122 + 0 ≤ _)⟩)
  dsimp only [Pt.U, Pt.locs, Pt.cells, Pt.slots] at X63 l63 y63 z63 st63 hQ63
  subst l63 y63 z63
  obtain ⟨rfl, Nq63, e63⟩ := hQ63
  have N63 := Fr.app N61 Nq63
  refine Goes.thru (T' := T63.setTop (mkF m 243 (LA18 p0 p1 p2 p3 p4 s6a s7a s8a s9a b5 cb lb) [(.int (1 : Int32))])) st63 ?_
  refine Goes.to (T' := T63.setTop (mkF m 245 (LA18 p0 p1 p2 p3 p4 s6a s7a s8a s9a b5 cb lb) [])) (fun t k => XS.istore X63.here hx rfl (hb hby at_243) rfl (l' := (LA18 p0 p1 p2 p3 p4 s6a s7a s8a s9a b5 cb lb)) rfl k) ?_
  refine Goes.to (T' := T63.setTop (mkF m 247 (LA18 p0 p1 p2 p3 p4 s6a s7a s8a s9a b5 cb lb) [(.int (1 : Int32))])) (fun t k => XS.iload X63.here hx rfl (hb hby at_245) rfl k) ?_
  obtain ⟨fs, hrL, hrun, hended, hRW⟩ := X63.leaveW hS (by rw [e63]; exact hk) (v := some (.int (1 : Int32))) (fun h => by rw [Bd.returns] at h; cases h)
  subst hQf
  refine ⟨_, _, retN X63 hx (t := .boolean) Bd.returns (by simp) (hb hby at_247) hrL, hrun, hended, _, _, rfl, ?_, hRW.1, hRW.2.1, hRW.2.2.1, hRW.2.2.2.mono (by decide) (by decide)⟩
  show Q_rm0  h0 n0 (some (.int (1 : Int32))) T63.heap _
  rw [e63]
  exact ⟨rfl, N63⟩
theorem pn_0 : plainName "com/example/nightcrawler/nightcrawler/engine/CommittedBatchesNonePinLaw" = true := by first | (simp [plainName, overriddenIn]; done) | decide +kernel
theorem ef_rm0 (m : MethodId) (x0 : Int32) (x1 : Int32) (x2 : Int32) (x3 : Int32) (x4 : Int32) : entryFrame m #[(.int x0), (.int x1), (.int x2), (.int x3), (.int x4)] maxLocals = mkF m 0 #[.val (.int x0), .val (.int x1), .val (.int x2), .val (.int x3), .val (.int x4), .unset, .unset, .unset, .unset, .unset, .unset, .unset, .unset, .unset] [] := by first | (simp [entryFrame, mkF, argsToLocals, Value.category, maxLocals]; done) | rfl
theorem rm0 (hw : HW a0 Z) (p0 : Int32) (p1 : Int32) (p2 : Int32) (p3 : Int32) (p4 : Int32) (vmC : Vm) (h0 : Heap) (n0 : Nat) (O0 : Old Z n0 h0) (NF : Nar Z w3 w0 w2 w1 w4 k_w3 k_w0 k_w1 z_cs w5) :
    MetFree l x (head1 (Jvm.Cond.code x code maxLocals ret :: ws) room_1) (fun a U => a = #[(.int p0), (.int p1), (.int p2), (.int p3), (.int p4)] ∧ Z.Warmed39 U.vm ∧ U.heap = h0 ∧ CHr Z consts_1 vmC h0 U.vm h0) (fun _ _ _ _ _ => True) (fun _ U o U' => ∃ v L, o = .returned v ∧ Q_rm0  h0 n0 v U'.heap L ∧ ReturnedEndW U o U' L room_1.cells room_1.slots) := by
  refine MetFree.of_bodySF (plainFor_of_name pn_0) hisR ?_
  intro p e s m args below meth c s₁ Bd hml0 hP hK
  obtain ⟨rfl, hZ, hh, hCR⟩ := hP
  have hx := Bd.exec
  have hby := Bd.bytes
  have hml : c.maxLocals = 14 := hml0
  have hown : s.vm.findClass "com/example/nightcrawler/nightcrawler/engine/CommittedBatchesNonePinLaw" = some m.cls := findClass_of_methodNamed Bd.named
  have hnm := (name_of_methodNamed Bd.named Bd.method).1
  have X0 : Stand p l e room_1 (s.setVm s.vm) m #[(.int p0), (.int p1), (.int p2), (.int p3), (.int p4)] below meth c s₁ [] 0 0 := Stand.of_body Bd
  have e0 : s₁.heap = h0 := by rw [← hh, Bd.state]; rfl
  have N0 := Fr.nil n0
  have hZ : Z.Warmed39 (s.setVm s.vm).vm := hZ
  have hown : (s.setVm s.vm).vm.findClass "com/example/nightcrawler/nightcrawler/engine/CommittedBatchesNonePinLaw" = some m.cls := hown
  have hS : s.Since s.vm h0.size := (State.WarmedH.refl s).since _
  have hk : h0.size ≤ h0.size := Nat.le_refl _
  have own_strw : ∀ a ∈ Bundle.stringAtoms, a.before a0 Z = true := fun d hd => hw d ((by decide +kernel : ∀ d ∈ Bundle.stringAtoms, d ∈ tables_1) d hd)
  have hEL : EW Z a0 consts_1 := (EW.cons (wi hw 18 rfl) (by decide) EW.nil)
  have CR : CHr Z consts_1 s.vm h0 s.vm h0 := CHr.refl hCR.1
  suffices G : ∀ (Qf : Outcome → State → Prop), Qf = (fun (_ : Array Value) (U : State) (o : Outcome) (U' : State) => ∃ v L, o = .returned v ∧ Q_rm0  h0 n0 v U'.heap L ∧ ReturnedEndW U o U' L room_1.cells room_1.slots) #[] s → Goes p.tables e below Qf (s₁.setTop (mkF m 0 #[.val (.int p0), .val (.int p1), .val (.int p2), .val (.int p3), .val (.int p4), .unset, .unset, .unset, .unset, .unset, .unset, .unset, .unset, .unset] [])) by
    obtain ⟨s₂, o, g1, g2, g3, g4⟩ := G _ rfl
    exact ⟨s₂, o, castTop (ef_rm0 m _ _ _ _ _) g1, g2, g3, g4⟩
  intro Qf hQf
  obtain ⟨S_w3, E_w3, S_w0, E_w0, S_w2, E_w2, F_elements_w2, E_w1, S_w4, E_w4, F_allowNulls_w2, S_w_ImmutableCollections__assertionsDisabled, V_w3, V_w0, V_w1, S_cs, nz_cs, M_OA⟩ := id NF
  refine Goes.to (T' := s₁.setTop (mkF m 1 (LA2 p0 p1 p2 p3 p4) [(.int p0)])) (fun t k => XS.iloadN X0.here hx rfl (hb hby at_0) rfl k) ?_
  refine Goes.to (T' := s₁.setTop (mkF m 2 (LA2 p0 p1 p2 p3 p4) [(.int (3 : Int32)), (.int p0)])) (fun t k => XS.iconst X0.here hx rfl (hb hby at_1) k) ?_
  refine Goes.to (T' := s₁.setTop (mkF m 3 (LA2 p0 p1 p2 p3 p4) [(.int (p0 &&& (3 : Int32)))])) (fun t k => XS.iand X0.here hx rfl (hb hby at_2) rfl k) ?_
  refine Goes.to (T' := s₁.setTop (mkF m 5 #[.val (.int p0), .val (.int p1), .val (.int p2), .val (.int p3), .val (.int p4), .val (.int (p0 &&& (3 : Int32))), .unset, .unset, .unset, .unset, .unset, .unset, .unset, .unset] [])) (fun t k => XS.istore X0.here hx rfl (hb hby at_3) rfl (l' := #[.val (.int p0), .val (.int p1), .val (.int p2), .val (.int p3), .val (.int p4), .val (.int (p0 &&& (3 : Int32))), .unset, .unset, .unset, .unset, .unset, .unset, .unset, .unset]) rfl k) ?_
  refine Goes.to (T' := s₁.setTop (mkF m 6 #[.val (.int p0), .val (.int p1), .val (.int p2), .val (.int p3), .val (.int p4), .val (.int (p0 &&& (3 : Int32))), .unset, .unset, .unset, .unset, .unset, .unset, .unset, .unset] [(.int p1)])) (fun t k => XS.iloadN X0.here hx rfl (hb hby at_5) rfl k) ?_
  obtain ⟨_, _, ⟨T1, L1, k1, n1⟩, -, X1, hS1, hg1, ⟨Lc1, hQ1, l1, y1, z1, hC1⟩, st1⟩ := callSS X0 hx (y := (⟨"com/example/nightcrawler/nightcrawler/engine/CommittedBatchesNonePinLaw", "mk", "(I)Ljava/lang/String;"⟩ : MethodName)) hown (mvT hZ (wi hw 0 rfl)) (mvT hZ (wi hw 1 rfl)) (mvT hZ (wi hw 2 rfl)) (mvT hZ (wi hw 3 rfl)) (by decide) (own_backSH (W := 0) (rmMk hw p1 s.vm h0 n0 O0 NF ) hZ (wi hw 3 rfl) (wi hw 2 rfl) (by decide) (by decide) hEL CR.1) (g := (mkF m 6 #[.val (.int p0), .val (.int p1), .val (.int p2), .val (.int p3), .val (.int p4), .val (.int (p0 &&& (3 : Int32))), .unset, .unset, .unset, .unset, .unset, .unset, .unset, .unset] [(.int p1)])) rfl (by rw [hml]; rfl) (argsL := [(.int p1)]) (rest := []) (lenOf pd_516 rfl) rfl (by show 2 * 0 + _ ≤ _; exact Nat.le_of_eq rfl) (hb hby at_6) (fun _ _ => ⟨rfl, e0, (by decide : 0 + 8 ≤ _), (by decide : 0 + 24 ≤ _)⟩)
  dsimp only [Pt.U, Pt.locs, Pt.cells, Pt.slots] at X1 l1 y1 z1 st1 hQ1 hS1 hg1 hC1
  subst l1 y1 z1
  obtain ⟨⟨s6a, rfl, gs1, ss1, Es1⟩, Nq1, Ex1⟩ := hQ1
  have N1 := Fr.app N0 Nq1
  have hS := hS.trans hS1 (Nat.le_trans hk (by rw [← e0]; exact hg1))
  have hk : T1.heap.size ≤ T1.heap.size := Nat.le_refl _
  have hZ : Z.Warmed39 (s.setVm T1.vm).vm := State.Warmed39.trans (t := (s.setVm s.vm)) hZ hS1.1
  have hown : (s.setVm T1.vm).vm.findClass "com/example/nightcrawler/nightcrawler/engine/CommittedBatchesNonePinLaw" = some m.cls := by rw [show (s.setVm T1.vm).vm = T1.vm from rfl, hS1.1.alike.findClass]; exact hown
  have hC1 : CHr Z consts_1 s.vm h0 T1.vm T1.heap := hC1
  have CR := CR.trans hC1
  have g_s6a : n0 ≤ s6a := gs1
  have O0 := O0.ext Ex1
  have E_s6a := Es1
  refine Goes.thru (T' := T1.setTop (mkF m 9 #[.val (.int p0), .val (.int p1), .val (.int p2), .val (.int p3), .val (.int p4), .val (.int (p0 &&& (3 : Int32))), .unset, .unset, .unset, .unset, .unset, .unset, .unset, .unset] [(.ref s6a)])) st1 ?_
  refine Goes.to (T' := T1.setTop (mkF m 11 #[.val (.int p0), .val (.int p1), .val (.int p2), .val (.int p3), .val (.int p4), .val (.int (p0 &&& (3 : Int32))), .val (.ref s6a), .unset, .unset, .unset, .unset, .unset, .unset, .unset] [])) (fun t k => XS.astore X1.here hx rfl (hb hby at_9) rfl rfl (l' := #[.val (.int p0), .val (.int p1), .val (.int p2), .val (.int p3), .val (.int p4), .val (.int (p0 &&& (3 : Int32))), .val (.ref s6a), .unset, .unset, .unset, .unset, .unset, .unset, .unset]) rfl k) ?_
  refine Goes.to (T' := T1.setTop (mkF m 12 #[.val (.int p0), .val (.int p1), .val (.int p2), .val (.int p3), .val (.int p4), .val (.int (p0 &&& (3 : Int32))), .val (.ref s6a), .unset, .unset, .unset, .unset, .unset, .unset, .unset] [(.int p2)])) (fun t k => XS.iloadN X1.here hx rfl (hb hby at_11) rfl k) ?_
  obtain ⟨_, _, ⟨T2, L2, k2, n2⟩, -, X2, hS2, hg2, ⟨Lc2, hQ2, l2, y2, z2, hC2⟩, st2⟩ := callSS X1 hx (y := (⟨"com/example/nightcrawler/nightcrawler/engine/CommittedBatchesNonePinLaw", "mk", "(I)Ljava/lang/String;"⟩ : MethodName)) hown (mvT hZ (wi hw 0 rfl)) (mvT hZ (wi hw 1 rfl)) (mvT hZ (wi hw 2 rfl)) (mvT hZ (wi hw 3 rfl)) (by decide) (own_backSH (W := 0) (rmMk hw p2 T1.vm T1.heap n0 O0 NF ) hZ (wi hw 3 rfl) (wi hw 2 rfl) (by decide) (by decide) hEL CR.1) (g := (mkF m 12 #[.val (.int p0), .val (.int p1), .val (.int p2), .val (.int p3), .val (.int p4), .val (.int (p0 &&& (3 : Int32))), .val (.ref s6a), .unset, .unset, .unset, .unset, .unset, .unset, .unset] [(.int p2)])) rfl (by rw [hml]; rfl) (argsL := [(.int p2)]) (rest := []) (lenOf pd_516 rfl) rfl (by show 2 * 0 + _ ≤ _; exact Nat.le_of_eq rfl) (hb hby at_12) (fun _ _ => ⟨rfl, rfl, (by decide : 8 + 8 ≤ _), (by decide : 24 + 24 ≤ _)⟩)
  dsimp only [Pt.U, Pt.locs, Pt.cells, Pt.slots] at X2 l2 y2 z2 st2 hQ2 hS2 hg2 hC2
  subst l2 y2 z2
  obtain ⟨⟨s7a, rfl, gs2, ss2, Es2⟩, Nq2, Ex2⟩ := hQ2
  have N2 := Fr.app N1 Nq2
  have hS := hS.trans hS2 (Nat.le_trans hk hg2)
  have hk : T2.heap.size ≤ T2.heap.size := Nat.le_refl _
  have hZ : Z.Warmed39 (s.setVm T2.vm).vm := State.Warmed39.trans (t := (s.setVm T1.vm)) hZ hS2.1
  have hown : (s.setVm T2.vm).vm.findClass "com/example/nightcrawler/nightcrawler/engine/CommittedBatchesNonePinLaw" = some m.cls := by rw [show (s.setVm T2.vm).vm = T2.vm from rfl, hS2.1.alike.findClass]; exact hown
  have hC2 : CHr Z consts_1 T1.vm T1.heap T2.vm T2.heap := hC2
  have CR := CR.trans hC2
  have g_s7a : n0 ≤ s7a := gs2
  have ne_s6a_s7a : s6a ≠ s7a := Nat.ne_of_lt (Nat.lt_of_lt_of_le E_s6a.lt ss2)
  have ne_s7a_s6a := Ne.symm ne_s6a_s7a
  have E_s6a := E_s6a.ext Ex2
  have O0 := O0.ext Ex2
  have E_s7a := Es2
  refine Goes.thru (T' := T2.setTop (mkF m 15 #[.val (.int p0), .val (.int p1), .val (.int p2), .val (.int p3), .val (.int p4), .val (.int (p0 &&& (3 : Int32))), .val (.ref s6a), .unset, .unset, .unset, .unset, .unset, .unset, .unset] [(.ref s7a)])) st2 ?_
  refine Goes.to (T' := T2.setTop (mkF m 17 #[.val (.int p0), .val (.int p1), .val (.int p2), .val (.int p3), .val (.int p4), .val (.int (p0 &&& (3 : Int32))), .val (.ref s6a), .val (.ref s7a), .unset, .unset, .unset, .unset, .unset, .unset] [])) (fun t k => XS.astore X2.here hx rfl (hb hby at_15) rfl rfl (l' := #[.val (.int p0), .val (.int p1), .val (.int p2), .val (.int p3), .val (.int p4), .val (.int (p0 &&& (3 : Int32))), .val (.ref s6a), .val (.ref s7a), .unset, .unset, .unset, .unset, .unset, .unset]) rfl k) ?_
  refine Goes.to (T' := T2.setTop (mkF m 18 #[.val (.int p0), .val (.int p1), .val (.int p2), .val (.int p3), .val (.int p4), .val (.int (p0 &&& (3 : Int32))), .val (.ref s6a), .val (.ref s7a), .unset, .unset, .unset, .unset, .unset, .unset] [(.int p3)])) (fun t k => XS.iloadN X2.here hx rfl (hb hby at_17) rfl k) ?_
  obtain ⟨_, _, ⟨T3, L3, k3, n3⟩, -, X3, hS3, hg3, ⟨Lc3, hQ3, l3, y3, z3, hC3⟩, st3⟩ := callSS X2 hx (y := (⟨"com/example/nightcrawler/nightcrawler/engine/CommittedBatchesNonePinLaw", "mk", "(I)Ljava/lang/String;"⟩ : MethodName)) hown (mvT hZ (wi hw 0 rfl)) (mvT hZ (wi hw 1 rfl)) (mvT hZ (wi hw 2 rfl)) (mvT hZ (wi hw 3 rfl)) (by decide) (own_backSH (W := 0) (rmMk hw p3 T2.vm T2.heap n0 O0 NF ) hZ (wi hw 3 rfl) (wi hw 2 rfl) (by decide) (by decide) hEL CR.1) (g := (mkF m 18 #[.val (.int p0), .val (.int p1), .val (.int p2), .val (.int p3), .val (.int p4), .val (.int (p0 &&& (3 : Int32))), .val (.ref s6a), .val (.ref s7a), .unset, .unset, .unset, .unset, .unset, .unset] [(.int p3)])) rfl (by rw [hml]; rfl) (argsL := [(.int p3)]) (rest := []) (lenOf pd_516 rfl) rfl (by show 2 * 0 + _ ≤ _; exact Nat.le_of_eq rfl) (hb hby at_18) (fun _ _ => ⟨rfl, rfl, (by decide : 16 + 8 ≤ _), (by decide : 48 + 24 ≤ _)⟩)
  dsimp only [Pt.U, Pt.locs, Pt.cells, Pt.slots] at X3 l3 y3 z3 st3 hQ3 hS3 hg3 hC3
  subst l3 y3 z3
  obtain ⟨⟨s8a, rfl, gs3, ss3, Es3⟩, Nq3, Ex3⟩ := hQ3
  have N3 := Fr.app N2 Nq3
  have hS := hS.trans hS3 (Nat.le_trans hk hg3)
  have hk : T3.heap.size ≤ T3.heap.size := Nat.le_refl _
  have hZ : Z.Warmed39 (s.setVm T3.vm).vm := State.Warmed39.trans (t := (s.setVm T2.vm)) hZ hS3.1
  have hown : (s.setVm T3.vm).vm.findClass "com/example/nightcrawler/nightcrawler/engine/CommittedBatchesNonePinLaw" = some m.cls := by rw [show (s.setVm T3.vm).vm = T3.vm from rfl, hS3.1.alike.findClass]; exact hown
  have hC3 : CHr Z consts_1 T2.vm T2.heap T3.vm T3.heap := hC3
  have CR := CR.trans hC3
  have g_s8a : n0 ≤ s8a := gs3
  have ne_s6a_s8a : s6a ≠ s8a := Nat.ne_of_lt (Nat.lt_of_lt_of_le E_s6a.lt ss3)
  have ne_s8a_s6a := Ne.symm ne_s6a_s8a
  have ne_s7a_s8a : s7a ≠ s8a := Nat.ne_of_lt (Nat.lt_of_lt_of_le E_s7a.lt ss3)
  have ne_s8a_s7a := Ne.symm ne_s7a_s8a
  have E_s6a := E_s6a.ext Ex3
  have E_s7a := E_s7a.ext Ex3
  have O0 := O0.ext Ex3
  have E_s8a := Es3
  refine Goes.thru (T' := T3.setTop (mkF m 21 #[.val (.int p0), .val (.int p1), .val (.int p2), .val (.int p3), .val (.int p4), .val (.int (p0 &&& (3 : Int32))), .val (.ref s6a), .val (.ref s7a), .unset, .unset, .unset, .unset, .unset, .unset] [(.ref s8a)])) st3 ?_
  refine Goes.to (T' := T3.setTop (mkF m 23 #[.val (.int p0), .val (.int p1), .val (.int p2), .val (.int p3), .val (.int p4), .val (.int (p0 &&& (3 : Int32))), .val (.ref s6a), .val (.ref s7a), .val (.ref s8a), .unset, .unset, .unset, .unset, .unset] [])) (fun t k => XS.astore X3.here hx rfl (hb hby at_21) rfl rfl (l' := #[.val (.int p0), .val (.int p1), .val (.int p2), .val (.int p3), .val (.int p4), .val (.int (p0 &&& (3 : Int32))), .val (.ref s6a), .val (.ref s7a), .val (.ref s8a), .unset, .unset, .unset, .unset, .unset]) rfl k) ?_
  refine Goes.to (T' := T3.setTop (mkF m 25 #[.val (.int p0), .val (.int p1), .val (.int p2), .val (.int p3), .val (.int p4), .val (.int (p0 &&& (3 : Int32))), .val (.ref s6a), .val (.ref s7a), .val (.ref s8a), .unset, .unset, .unset, .unset, .unset] [(.int p4)])) (fun t k => XS.iload X3.here hx rfl (hb hby at_23) rfl k) ?_
  obtain ⟨_, _, ⟨T4, L4, k4, n4⟩, -, X4, hS4, hg4, ⟨Lc4, hQ4, l4, y4, z4, hC4⟩, st4⟩ := callSS X3 hx (y := (⟨"com/example/nightcrawler/nightcrawler/engine/CommittedBatchesNonePinLaw", "mk", "(I)Ljava/lang/String;"⟩ : MethodName)) hown (mvT hZ (wi hw 0 rfl)) (mvT hZ (wi hw 1 rfl)) (mvT hZ (wi hw 2 rfl)) (mvT hZ (wi hw 3 rfl)) (by decide) (own_backSH (W := 0) (rmMk hw p4 T3.vm T3.heap n0 O0 NF ) hZ (wi hw 3 rfl) (wi hw 2 rfl) (by decide) (by decide) hEL CR.1) (g := (mkF m 25 #[.val (.int p0), .val (.int p1), .val (.int p2), .val (.int p3), .val (.int p4), .val (.int (p0 &&& (3 : Int32))), .val (.ref s6a), .val (.ref s7a), .val (.ref s8a), .unset, .unset, .unset, .unset, .unset] [(.int p4)])) rfl (by rw [hml]; rfl) (argsL := [(.int p4)]) (rest := []) (lenOf pd_516 rfl) rfl (by show 2 * 0 + _ ≤ _; exact Nat.le_of_eq rfl) (hb hby at_25) (fun _ _ => ⟨rfl, rfl, (by decide : 24 + 8 ≤ _), (by decide : 72 + 24 ≤ _)⟩)
  dsimp only [Pt.U, Pt.locs, Pt.cells, Pt.slots] at X4 l4 y4 z4 st4 hQ4 hS4 hg4 hC4
  subst l4 y4 z4
  obtain ⟨⟨s9a, rfl, gs4, ss4, Es4⟩, Nq4, Ex4⟩ := hQ4
  have N4 := Fr.app N3 Nq4
  have hS := hS.trans hS4 (Nat.le_trans hk hg4)
  have hk : T4.heap.size ≤ T4.heap.size := Nat.le_refl _
  have hZ : Z.Warmed39 (s.setVm T4.vm).vm := State.Warmed39.trans (t := (s.setVm T3.vm)) hZ hS4.1
  have hown : (s.setVm T4.vm).vm.findClass "com/example/nightcrawler/nightcrawler/engine/CommittedBatchesNonePinLaw" = some m.cls := by rw [show (s.setVm T4.vm).vm = T4.vm from rfl, hS4.1.alike.findClass]; exact hown
  have hC4 : CHr Z consts_1 T3.vm T3.heap T4.vm T4.heap := hC4
  have CR := CR.trans hC4
  have g_s9a : n0 ≤ s9a := gs4
  have ne_s6a_s9a : s6a ≠ s9a := Nat.ne_of_lt (Nat.lt_of_lt_of_le E_s6a.lt ss4)
  have ne_s9a_s6a := Ne.symm ne_s6a_s9a
  have ne_s7a_s9a : s7a ≠ s9a := Nat.ne_of_lt (Nat.lt_of_lt_of_le E_s7a.lt ss4)
  have ne_s9a_s7a := Ne.symm ne_s7a_s9a
  have ne_s8a_s9a : s8a ≠ s9a := Nat.ne_of_lt (Nat.lt_of_lt_of_le E_s8a.lt ss4)
  have ne_s9a_s8a := Ne.symm ne_s8a_s9a
  have E_s6a := E_s6a.ext Ex4
  have E_s7a := E_s7a.ext Ex4
  have E_s8a := E_s8a.ext Ex4
  have O0 := O0.ext Ex4
  have E_s9a := Es4
  refine Goes.thru (T' := T4.setTop (mkF m 28 #[.val (.int p0), .val (.int p1), .val (.int p2), .val (.int p3), .val (.int p4), .val (.int (p0 &&& (3 : Int32))), .val (.ref s6a), .val (.ref s7a), .val (.ref s8a), .unset, .unset, .unset, .unset, .unset] [(.ref s9a)])) st4 ?_
  refine Goes.to (T' := T4.setTop (mkF m 30 #[.val (.int p0), .val (.int p1), .val (.int p2), .val (.int p3), .val (.int p4), .val (.int (p0 &&& (3 : Int32))), .val (.ref s6a), .val (.ref s7a), .val (.ref s8a), .val (.ref s9a), .unset, .unset, .unset, .unset] [])) (fun t k => XS.astore X4.here hx rfl (hb hby at_28) rfl rfl (l' := #[.val (.int p0), .val (.int p1), .val (.int p2), .val (.int p3), .val (.int p4), .val (.int (p0 &&& (3 : Int32))), .val (.ref s6a), .val (.ref s7a), .val (.ref s8a), .val (.ref s9a), .unset, .unset, .unset, .unset]) rfl k) ?_
  obtain ⟨T5, h5, X5, e5, E5, A5, D5, -, st5⟩ := newO X4 hx hZ hown (wi hw 26 rfl) (wi hw 27 rfl) (wi hw 28 rfl) rfl (g := (mkF m 30 #[.val (.int p0), .val (.int p1), .val (.int p2), .val (.int p3), .val (.int p4), .val (.int (p0 &&& (3 : Int32))), .val (.ref s6a), .val (.ref s7a), .val (.ref s8a), .val (.ref s9a), .unset, .unset, .unset, .unset] [])) rfl (hb hby at_30) (by decide) (by decide)
  obtain ⟨b5, g5⟩ : ∃ z, z = T4.heap.size := ⟨_, rfl⟩
  rw [← g5] at A5 D5 st5
  have g_b5 : n0 ≤ b5 := Nat.le_trans (own_old O0) (Nat.le_of_eq g5.symm)
  have ne_s6a_b5 : s6a ≠ b5 := Nat.ne_of_lt (Nat.lt_of_lt_of_le E_s6a.lt (Nat.le_of_eq g5.symm))
  have ne_b5_s6a := Ne.symm ne_s6a_b5
  have ne_s7a_b5 : s7a ≠ b5 := Nat.ne_of_lt (Nat.lt_of_lt_of_le E_s7a.lt (Nat.le_of_eq g5.symm))
  have ne_b5_s7a := Ne.symm ne_s7a_b5
  have ne_s8a_b5 : s8a ≠ b5 := Nat.ne_of_lt (Nat.lt_of_lt_of_le E_s8a.lt (Nat.le_of_eq g5.symm))
  have ne_b5_s8a := Ne.symm ne_s8a_b5
  have ne_s9a_b5 : s9a ≠ b5 := Nat.ne_of_lt (Nat.lt_of_lt_of_le E_s9a.lt (Nat.le_of_eq g5.symm))
  have ne_b5_s9a := Ne.symm ne_s9a_b5
  have E_s6a := E_s6a.ext E5
  have E_s7a := E_s7a.ext E5
  have E_s8a := E_s8a.ext E5
  have E_s9a := E_s9a.ext E5
  have O0 := O0.ext E5
  have hk := Nat.le_trans hk E5.1
  have E_b5 := A5
  have F_modCount_b5 : Fld Z h5 b5 "java/util/AbstractList" "modCount" "I" (.int (0 : Int32)) := D5 (Or.inl (wi hw 46 rfl)) (ty := .int) (by decide)
  have F_elementData_b5 : Fld Z h5 b5 "java/util/ArrayList" "elementData" "[Ljava/lang/Object;" .null := D5 (Or.inl (wi hw 49 rfl)) (ty := (.array (.object "java/lang/Object"))) (by decide)
  have F_size_b5 : Fld Z h5 b5 "java/util/ArrayList" "size" "I" (.int (0 : Int32)) := D5 (Or.inl (wi hw 92 rfl)) (ty := .int) (by decide)
  refine Goes.to (T' := T5.setTop (mkF m 33 #[.val (.int p0), .val (.int p1), .val (.int p2), .val (.int p3), .val (.int p4), .val (.int (p0 &&& (3 : Int32))), .val (.ref s6a), .val (.ref s7a), .val (.ref s8a), .val (.ref s9a), .unset, .unset, .unset, .unset] [(.ref b5)])) st5 ?_
  refine Goes.to (T' := T5.setTop (mkF m 34 #[.val (.int p0), .val (.int p1), .val (.int p2), .val (.int p3), .val (.int p4), .val (.int (p0 &&& (3 : Int32))), .val (.ref s6a), .val (.ref s7a), .val (.ref s8a), .val (.ref s9a), .unset, .unset, .unset, .unset] [(.ref b5), (.ref b5)])) (fun t k => XS.dup X5.here hx rfl (hb hby at_33) rfl rfl k) ?_
  obtain ⟨_, _, ⟨T6, L6, k6, n6⟩, -, X6, ⟨Lc6, hQ6, l6, y6, z6⟩, st6⟩ := X5.specialBack hx (y := (⟨"java/util/ArrayList", "<init>", "()V"⟩ : MethodName)) rfl hown (mvT hZ (wi hw 29 rfl)) (mvT hZ (wi hw 30 rfl)) (mvT hZ (wi hw 31 rfl)) (by decide) (backOf (W := 1) (rmALI hw b5  h5 n0 O0 NF E_b5 F_modCount_b5 F_elementData_b5 F_size_b5 g_b5) hZ (wi hw 31 rfl) (wi hw 28 rfl) (by decide) (by decide)) (g := (mkF m 34 #[.val (.int p0), .val (.int p1), .val (.int p2), .val (.int p3), .val (.int p4), .val (.int (p0 &&& (3 : Int32))), .val (.ref s6a), .val (.ref s7a), .val (.ref s8a), .val (.ref s9a), .unset, .unset, .unset, .unset] [(.ref b5), (.ref b5)])) rfl (by rw [hml]; rfl) (Steps.refl _) (a := b5) (argsL := []) (rest := [(.ref b5)]) (lenOf pd_5 rfl) rfl (by show 2 * 0 + _ ≤ _; exact Nat.le_of_eq rfl) (hb hby at_34) (fun _ _ => ⟨rfl, e5, (by decide : 33 + 0 ≤ _), (by decide : 99 + 0 ≤ _)⟩)
  dsimp only [Pt.U, Pt.locs, Pt.cells, Pt.slots] at X6 l6 y6 z6 st6 hQ6
  subst l6 y6 z6
  obtain ⟨rfl, Nq6, K6, r0_6, r1_6, r2_6, r3_6⟩ := hQ6
  have N6 := Fr.app N4 Nq6
  have E_s6a := E_s6a.keep K6
  have E_s7a := E_s7a.keep K6
  have E_s8a := E_s8a.keep K6
  have E_s9a := E_s9a.keep K6
  have E_b5 := E_b5.keep K6
  have O0 := O0.keep K6 (allS g_b5 all0)
  have hk := Nat.le_trans hk K6.1
  have E_b5 := r0_6
  have F_modCount_b5 := r1_6
  have F_elementData_b5 := r2_6
  have F_size_b5 := r3_6
  refine Goes.thru (T' := T6.setTop (mkF m 37 #[.val (.int p0), .val (.int p1), .val (.int p2), .val (.int p3), .val (.int p4), .val (.int (p0 &&& (3 : Int32))), .val (.ref s6a), .val (.ref s7a), .val (.ref s8a), .val (.ref s9a), .unset, .unset, .unset, .unset] [(.ref b5)])) st6 ?_
  refine Goes.to (T' := T6.setTop (mkF m 39 #[.val (.int p0), .val (.int p1), .val (.int p2), .val (.int p3), .val (.int p4), .val (.int (p0 &&& (3 : Int32))), .val (.ref s6a), .val (.ref s7a), .val (.ref s8a), .val (.ref s9a), .val (.ref b5), .unset, .unset, .unset] [])) (fun t k => XS.astore X6.here hx rfl (hb hby at_37) rfl rfl (l' := #[.val (.int p0), .val (.int p1), .val (.int p2), .val (.int p3), .val (.int p4), .val (.int (p0 &&& (3 : Int32))), .val (.ref s6a), .val (.ref s7a), .val (.ref s8a), .val (.ref s9a), .val (.ref b5), .unset, .unset, .unset]) rfl k) ?_
  rcases own_and3 p0 with hv_7 | hv_7 | hv_7 | hv_7
  · rw [hv_7]
    exact rm0_n0 hw p0 p1 p2 p3 p4 vmC h0 n0 NF  p e s m below meth c s₁ Bd hml _ _ hS hZ hown Qf hQf s6a s7a s8a s9a b5 g_b5 g_s6a g_s7a g_s8a g_s9a ne_b5_s6a ne_b5_s7a ne_b5_s8a ne_b5_s9a ne_s6a_b5 ne_s7a_b5 ne_s8a_b5 ne_s9a_b5 _ _ _  X6 rfl hk O0 E_s6a E_s7a E_s8a E_s9a E_b5 F_modCount_b5 F_elementData_b5 F_size_b5 N6  
  · rw [hv_7]
    exact rm0_n1 hw p0 p1 p2 p3 p4 vmC h0 n0 NF  p e s m below meth c s₁ Bd hml _ _ hS hZ hown Qf hQf s6a s7a s8a s9a b5 g_b5 g_s6a g_s7a g_s8a g_s9a ne_b5_s6a ne_b5_s7a ne_b5_s8a ne_b5_s9a ne_s6a_b5 ne_s7a_b5 ne_s8a_b5 ne_s9a_b5 _ _ _  X6 rfl hk O0 E_s6a E_s7a E_s8a E_s9a E_b5 F_modCount_b5 F_elementData_b5 F_size_b5 N6  
  · rw [hv_7]
    exact rm0_n2 hw p0 p1 p2 p3 p4 vmC h0 n0 NF  p e s m below meth c s₁ Bd hml _ _ hS hZ hown Qf hQf s6a s7a s8a s9a b5 g_b5 g_s6a g_s7a g_s8a g_s9a ne_b5_s6a ne_b5_s7a ne_b5_s8a ne_b5_s9a ne_s6a_b5 ne_s7a_b5 ne_s8a_b5 ne_s9a_b5 _ _ _  X6 rfl hk O0 E_s6a E_s7a E_s8a E_s9a E_b5 F_modCount_b5 F_elementData_b5 F_size_b5 N6  
  · rw [hv_7]
    exact rm0_n3 hw p0 p1 p2 p3 p4 vmC h0 n0 NF  p e s m below meth c s₁ Bd hml _ _ hS hZ hown Qf hQf s6a s7a s8a s9a b5 g_b5 g_s6a g_s7a g_s8a g_s9a ne_b5_s6a ne_b5_s7a ne_b5_s8a ne_b5_s9a ne_s6a_b5 ne_s7a_b5 ne_s8a_b5 ne_s9a_b5 _ _ _  X6 rfl hk O0 E_s6a E_s7a E_s8a E_s9a E_b5 F_modCount_b5 F_elementData_b5 F_size_b5 N6  
set_option maxRecDepth 65536 in
set_option maxHeartbeats 40000000 in
theorem comes_1 {Post : Tables → Env → Array Value → State → Outcome → State → Prop} (hpost : ∀ tb e args s v u, (limb_1_1.after args s (.returned v) u = true ∧ limb_1_2.after args s (.returned v) u = true ∧ True) → ReturnedEndW s (.returned v) u (Jvm.fieldLocs frame_1_writes args s ++ Jvm.arrayLocs frame_1_arrays args s ++ Jvm.staticLocs frame_1_statics s) 48 1280 → Post tb e args s (.returned v) u) :
    ArmFor flags0 classFile x code maxLocals ret World_1 tables_1 room_1 Calls_1 rest_1 Pre_1 Post := by
  intro l hfl _ _ p e ha hc hk s m args below hf hA hF happ hP
  obtain ⟨hcalls, hrest, hpre⟩ := hP
  obtain ⟨-, -, -, hnamed, -, -, -, hat⟩ := (Spec.applies_iff hf).mp happ
  obtain ⟨hg, hn⟩ := and_e (Cond.before_iff.mp (show (Jvm.Cond.and given_1 narrow_1).before args s = true from hpre))
  obtain ⟨gc, gr0⟩ := and_e hg
  obtain ⟨w0, w1, w2, w3, w4, rfl⟩ : ∃ w0 w1 w2 w3 w4 : Value, args = #[w0, w1, w2, w3, w4] := by
    have hs : args.size = 5 := by simpa [Cond.value, given_1] using gc
    obtain ⟨L⟩ := args
    match L, hs with
    | [w0, w1, w2, w3, w4], _ => exact ⟨w0, w1, w2, w3, w4, rfl⟩
  have hw := fun d (hd : d ∈ tables_1) => atoms_spec (ws := Jvm.Cond.code x code maxLocals ret :: tables_1) hat d (List.mem_cons_of_mem _ hd)
  have hfit : Fit s := fun {y c} hc i hi => by
    obtain ⟨ha, rfl⟩ := Array.getElem?_eq_some_iff.mp hc
    have q := List.all_eq_true.mp ((Array.all_eq_true_iff_forall_mem.mp hF) _ (Array.getElem_mem ha)) i (List.mem_range.mpr hi)
    simpa [Array.getElem?_eq_getElem hi] using q
  obtain ⟨gv0, gr1⟩ := and_e gr0
  obtain ⟨i0, ei0⟩ := is_v gv0
  obtain rfl : w0 = (.int i0) := Option.some.inj ei0
  obtain ⟨gv1, gr2⟩ := and_e gr1
  obtain ⟨i1, ei1⟩ := is_v gv1
  obtain rfl : w1 = (.int i1) := Option.some.inj ei1
  obtain ⟨gv2, gr3⟩ := and_e gr2
  obtain ⟨i2, ei2⟩ := is_v gv2
  obtain rfl : w2 = (.int i2) := Option.some.inj ei2
  obtain ⟨gv3, gr4⟩ := and_e gr3
  obtain ⟨i3, ei3⟩ := is_v gv3
  obtain rfl : w3 = (.int i3) := Option.some.inj ei3
  obtain ⟨i4, ei4⟩ := is_v gr4
  obtain rfl : w4 = (.int i4) := Option.some.inj ei4
  have hsets := (atoms_of jdkStatics_1 (show (jdkStatics_1.foldr Cond.and restOwn_1).before _ s = true from by rw [← rest_1_c_eq]; exact hrest)).1
  obtain ⟨w3, ev_w3⟩ := arr_v (Cond.before_iff.mp (hsets _ (List.mem_of_getElem? (i := 3) rfl)))
  have S_w3 : Sta s s.heap "java/util/ArrayList" "EMPTY_ELEMENTDATA" "[Ljava/lang/Object;" (.ref w3) := Sta.start ev_w3 (Or.inl (hsets _ (List.mem_of_getElem? (i := 1) rfl)))
  have E_w3 : Exa s s.heap w3 "[Ljava/lang/Object;" := Exa.start ev_w3 (Cond.before_iff.mp (hsets _ (List.mem_of_getElem? (i := 4) rfl)))
  obtain ⟨w0, ev_w0⟩ := arr_v (Cond.before_iff.mp (hsets _ (List.mem_of_getElem? (i := 6) rfl)))
  have S_w0 : Sta s s.heap "java/util/ArrayList" "DEFAULTCAPACITY_EMPTY_ELEMENTDATA" "[Ljava/lang/Object;" (.ref w0) := Sta.start ev_w0 (Or.inr ⟨(wi hw 28 rfl), (hsets _ (List.mem_of_getElem? (i := 2) rfl))⟩)
  have E_w0 : Exa s s.heap w0 "[Ljava/lang/Object;" := Exa.start ev_w0 (Cond.before_iff.mp (hsets _ (List.mem_of_getElem? (i := 7) rfl)))
  obtain ⟨w2, ev_w2⟩ := exa_v (Cond.before_iff.mp (hsets _ (List.mem_of_getElem? (i := 11) rfl)))
  have S_w2 : Sta s s.heap "java/util/ImmutableCollections" "EMPTY_LIST" "Ljava/util/ImmutableCollections$ListN;" (.ref w2) := Sta.start ev_w2 (Or.inl (hsets _ (List.mem_of_getElem? (i := 10) rfl)))
  have E_w2 : Exa s s.heap w2 "java/util/ImmutableCollections$ListN" := Exa.start ev_w2 (Cond.before_iff.mp (hsets _ (List.mem_of_getElem? (i := 11) rfl)))
  obtain ⟨w1, ev_w1⟩ := arr_v (Cond.before_iff.mp (hsets _ (List.mem_of_getElem? (i := 12) rfl)))
  have F_elements_w2 : Fld s s.heap w2 "java/util/ImmutableCollections$ListN" "elements" "[Ljava/lang/Object;" (.ref w1) := own_fldR ev_w2 ev_w1
  have E_w1 : Exa s s.heap w1 "[Ljava/lang/Object;" := Exa.start ev_w1 (Cond.before_iff.mp (hsets _ (List.mem_of_getElem? (i := 13) rfl)))
  obtain ⟨w4, ev_w4⟩ := exa_v (Cond.before_iff.mp (hsets _ (List.mem_of_getElem? (i := 27) rfl)))
  have S_w4 : Sta s s.heap "java/util/ImmutableCollections" "EMPTY" "Ljava/lang/Object;" (.ref w4) := Sta.start ev_w4 (Or.inl (hsets _ (List.mem_of_getElem? (i := 26) rfl)))
  have E_w4 : Exa s s.heap w4 "java/lang/Object" := Exa.start ev_w4 (Cond.before_iff.mp (hsets _ (List.mem_of_getElem? (i := 27) rfl)))
  have F_allowNulls_w2 : Fld s s.heap w2 "java/util/ImmutableCollections$ListN" "allowNulls" "Z" (.int (0 : Int32)) := own_fldI ev_w2 (Cond.before_iff.mp (hsets _ (List.mem_of_getElem? (i := 15) rfl)))
  have S_w_ImmutableCollections__assertionsDisabled : Sta s s.heap "java/util/ImmutableCollections" "$assertionsDisabled" "Z" (.int (1 : Int32)) := Sta.start (own_stI (Cond.before_iff.mp (hsets _ (List.mem_of_getElem? (i := 30) rfl)))) (Or.inl (hsets _ (List.mem_of_getElem? (i := 29) rfl)))
  obtain ⟨cl_w3, A_w3⟩ := Arr.start ev_w3 (Cond.before_iff.mp (hsets _ (List.mem_of_getElem? (i := 3) rfl)))
  have len_w3 := own_len ev_w3 A_w3 (Cond.before_iff.mp (hsets _ (List.mem_of_getElem? (i := 5) rfl)))
  obtain ⟨k_w3, ek_w3⟩ : ∃ z, z = cl_w3.cls := ⟨_, rfl⟩
  have V_w3 : Arv s s.heap w3 k_w3 (.object "java/lang/Object") (0 : Int32) [] .null := ek_w3 ▸ Arv.start hfit A_w3 len_w3.1 len_w3.2 (by decide) rfl trivial
  obtain ⟨cl_w0, A_w0⟩ := Arr.start ev_w0 (Cond.before_iff.mp (hsets _ (List.mem_of_getElem? (i := 6) rfl)))
  have len_w0 := own_len ev_w0 A_w0 (Cond.before_iff.mp (hsets _ (List.mem_of_getElem? (i := 8) rfl)))
  obtain ⟨k_w0, ek_w0⟩ : ∃ z, z = cl_w0.cls := ⟨_, rfl⟩
  have V_w0 : Arv s s.heap w0 k_w0 (.object "java/lang/Object") (0 : Int32) [] .null := ek_w0 ▸ Arv.start hfit A_w0 len_w0.1 len_w0.2 (by decide) rfl trivial
  obtain ⟨cl_w1, A_w1⟩ := Arr.start ev_w1 (Cond.before_iff.mp (hsets _ (List.mem_of_getElem? (i := 12) rfl)))
  have len_w1 := own_len ev_w1 A_w1 (Cond.before_iff.mp (hsets _ (List.mem_of_getElem? (i := 14) rfl)))
  obtain ⟨k_w1, ek_w1⟩ : ∃ z, z = cl_w1.cls := ⟨_, rfl⟩
  have V_w1 : Arv s s.heap w1 k_w1 (.object "java/lang/Object") (0 : Int32) [] .null := ek_w1 ▸ Arv.start hfit A_w1 len_w1.1 len_w1.2 (by decide) rfl trivial
  obtain ⟨z_cs, ev_cs⟩ := is_v (Cond.before_iff.mp (hsets _ (List.mem_of_getElem? (i := 17) rfl)))
  have S_cs : Sta s s.heap "java/lang/String" "COMPACT_STRINGS" "Z" (.int z_cs) := Sta.start ev_cs (Or.inl (hsets _ (List.mem_of_getElem? (i := 16) rfl)))
  have nz_cs : ¬ z_cs = 0 := own_nz ev_cs (Cond.before_iff.mp (hsets _ (List.mem_of_getElem? (i := 18) rfl)))
  obtain ⟨w_mc, w_mk, w5, m1, m2, m3, -⟩ := hcalls.1
  have M_OA : Mr s "[Ljava/lang/Object;" w5 := ⟨w_mc, w_mk, m1, m2, m3⟩
  have HC : CHv s consts_1 s.vm s.heap := CHv.start (EW.cons (wi hw 18 rfl) (by decide) EW.nil) (fun p hp c k cf i units a h1 h2 h3 h4 h5 h6 h7 h8 => hcalls.2.1 p hp c k cf i units a h1 h2 h3 h4 h5 h6 h7 h8) (hsets _ (List.mem_of_getElem? (i := 18) rfl)) (wi hw 19 rfl) (wi hw 5 rfl)
  obtain ⟨n, o, h1, h2, h3, _, L, rfl, ⟨rfl, N⟩, hq⟩ := rm0 (l := l) (Z := s) (ws := tables_1) hw i0 i1 i2 i3 i4 s.vm s.heap s.heap.size (Old.start s) ⟨S_w3, E_w3, S_w0, E_w0, S_w2, E_w2, F_elements_w2, E_w1, S_w4, E_w4, F_allowNulls_w2, S_w_ImmutableCollections__assertionsDisabled, V_w3, V_w0, V_w1, S_cs, nz_cs, M_OA⟩ p e ha hc hk s m _ below hf ((Spec.applies_iff_loose hf).mp happ).1 ⟨rfl, State.Warmed39.refl s, rfl, CHr.refl HC⟩ trivial
  refine ⟨n, _, h1, h2, h3, hpost _ _ _ _ _ _ ⟨Cond.after_iff.mpr rfl, Cond.after_iff.mpr (eq_i res_at (Term.int_eval (1)) rfl), trivial⟩ ⟨hq.1, hq.2.1, hq.2.2.1, (hq.2.2.2.sift fun y hy => Or.inr (N y hy)).mono (by decide) (by decide)⟩⟩
theorem main_1_1 : Claimed_1_1 := comes_1 fun _ _ _ _ _ _ h hF => ⟨h.1, hF⟩
theorem main_1_2 : Claimed_1_2 := comes_1 fun _ _ _ _ _ _ h hF => ⟨h.2.1, hF⟩
end Jvm.Pilot.@@N@@
namespace Jvm.Pilot.@@N@@
open Jvm Jvm.ClassFile Sem Op Lib Jvm.Free Jvm.Stand Jvm.Pilot.@@N@@.Jvm.D
/-! MADE BY PROGRAM (witnessworld.py) out of the Statement's table words and the real class files: 39 classes; the members and pool entries that the words name. The judged class is class 1, her method 2. -/
namespace start1
open Jvm.ClassFile
def u (s : String) : CpInfo := .utf8 (stringToUtf16 s)
/-- a pool by its gaps: so many unusable entries, then the entry; so many at the end -/
def gap : Nat → List CpInfo → List CpInfo
  | 0, r => r
  | n + 1, r => .unusable :: gap n r
def poolList (es : List (Nat × CpInfo)) (last : Nat) : List CpInfo := es.foldr (fun e r => gap e.1 (e.2 :: r)) (gap last [])
def pool (es : List (Nat × CpInfo)) (last : Nat) : Array CpInfo := ⟨poolList es last⟩
def fileOf (pool : Array CpInfo) (this : Nat) (attrs : Array Attribute := #[]) (ms : Array MethodInfo := #[]) (fl : Nat := 33) (sup : Nat := 0) (ifs : Array Nat := #[]) (fds : Array FieldInfo := #[]) : ClassFile where
  minorVersion := 0
  majorVersion := 65
  constantPool := pool
  accessFlags := fl
  thisClass := this
  superClass := sup
  interfaces := ifs
  fields := fds
  methods := ms
  attributes := attrs
def plain (name : String) (sup : Option ClassId) : Class where
  name := name
  kind := .ordinary
  loader := none
  accessFlags := 33
  super := sup
  interfaces := #[]
  cf := none
  fields := #[]
  methods := #[]
  instanceTypes := #[]
  staticTypes := #[]
  resolved := #[]
  callSites := []
  init := .initialized
  statics := none
  mirror := none

def pool0 : Array CpInfo := pool [(5, u "<init>"), (0, u "()V"), (1, .class_ 10), (1, u "java/lang/Object"), (0, u "getClass"), (0, u "()Ljava/lang/Class;")] 111

def k0c0 : Code := { maxStack := 0, maxLocals := 1, code := object_method_1_code, exceptionTable := #[], attributes := #[] }
def k0m0 : Method := { name := "<init>", desc := "()V", sig := { parameters := [], returnType := none }, accessFlags := 1, code := some k0c0 }
def k0m1 : Method := { name := "getClass", desc := "()Ljava/lang/Class;", sig := { parameters := [], returnType := some (.object "java/lang/Class") }, accessFlags := 273, code := none }
/-- java/lang/Object -/
def k0 : Class := { plain "java/lang/Object" none with
  accessFlags := 33
  interfaces := #[]
  cf := some (fileOf pool0 8 #[] #[{ accessFlags := 1, nameIndex := 5, descriptorIndex := 6, attributes := #[] }, { accessFlags := 273, nameIndex := 11, descriptorIndex := 12, attributes := #[] }] 33 0 #[] #[])
  fields := #[]
  methods := #[k0m0, k0m1]
  instanceTypes := #[]
  staticTypes := #[]
  resolved := Array.replicate 124 none
  statics := none }

def pool1 : Array CpInfo := pool [(2, .class_ 4), (0, .nameAndType 5 6), (0, u "java/lang/Object"), (0, u "<init>"), (0, u "()V"), (0, .class_ 8), (0, u "java/lang/String"), (0, .methodref 7 10), (0, .nameAndType 5 11), (0, u "([C)V"), (0, .methodref 7 13), (0, .nameAndType 14 15), (0, u "valueOf"), (0, u "(C)Ljava/lang/String;"), (0, .methodref 17 18), (0, .class_ 19), (0, .nameAndType 20 21), (0, u "com/example/nightcrawler/nightcrawler/engine/CommittedBatchesNonePinLaw"), (0, u "mk"), (0, u "(I)Ljava/lang/String;"), (0, .class_ 23), (0, u "java/util/ArrayList"), (0, .methodref 22 3), (0, .methodref 22 26), (0, .nameAndType 27 28), (0, u "add"), (0, u "(Ljava/lang/Object;)Z"), (0, .methodref 30 31), (0, .class_ 32), (0, .nameAndType 33 34), (0, u "com/example/nightcrawler/nightcrawler/engine/CommittedBatches"), (0, u "none"), (0, u "(Ljava/util/List;)Lcom/example/nightcrawler/nightcrawler/engine/CommittedBatches;"), (0, .methodref 30 36), (0, .nameAndType 37 38), (0, u "last"), (0, u "()Ljava/util/List;"), (0, .methodref 30 40), (0, .nameAndType 41 42), (0, u "batches"), (0, u "()J"), (0, .methodref 30 44), (0, .nameAndType 45 42), (0, u "deleted"), (0, .methodref 30 47), (0, .nameAndType 48 42), (0, u "lost"), (0, .methodref 30 50), (0, .nameAndType 51 52), (0, u "usedUp"), (0, u "()Z"), (0, .interfaceMethodref 54 55), (0, .class_ 56), (0, .nameAndType 57 58), (0, u "java/util/List"), (0, u "size"), (0, u "()I"), (0, .interfaceMethodref 54 60), (0, .nameAndType 61 62), (0, u "get"), (0, u "(I)Ljava/lang/Object;"), (0, .methodref 7 64), (0, .nameAndType 65 28), (0, u "equals"), (3, u "law"), (0, u "(IIIII)Z")] 2

def k1m0 : Method := { name := "<init>", desc := "()V", sig := { parameters := [], returnType := none }, accessFlags := 1, code := none }
def k1c1 : Code := { maxStack := 6, maxLocals := 4, code := method_2_code, exceptionTable := #[], attributes := #[] }
def k1m1 : Method := { name := "mk", desc := "(I)Ljava/lang/String;", sig := { parameters := [.int], returnType := some (.object "java/lang/String") }, accessFlags := 10, code := some k1c1 }
def k1c2 : Code := { maxStack := 4, maxLocals := 14, code := code, exceptionTable := #[], attributes := #[] }
def k1m2 : Method := { name := "law", desc := "(IIIII)Z", sig := { parameters := [.int, .int, .int, .int, .int], returnType := some .boolean }, accessFlags := 9, code := some k1c2 }
/-- com/example/nightcrawler/nightcrawler/engine/CommittedBatchesNonePinLaw -/
def k1 : Class := { plain "com/example/nightcrawler/nightcrawler/engine/CommittedBatchesNonePinLaw" (some 0) with
  accessFlags := 49
  interfaces := #[]
  cf := some (fileOf pool1 17 #[] #[{ accessFlags := 1, nameIndex := 5, descriptorIndex := 6, attributes := #[] }, { accessFlags := 10, nameIndex := 20, descriptorIndex := 21, attributes := #[] }, { accessFlags := 9, nameIndex := 69, descriptorIndex := 70, attributes := #[] }] 49 2 #[] #[])
  fields := #[]
  methods := #[k1m0, k1m1, k1m2]
  instanceTypes := #[]
  staticTypes := #[]
  resolved := Array.replicate 73 none
  statics := none }

def pool2 : Array CpInfo := pool [(1, .class_ 2), (0, u "java/io/Serializable"), (0, .class_ 4), (0, u "java/lang/Object")] 2

/-- java/io/Serializable -/
def k2 : Class := { plain "java/io/Serializable" (some 0) with
  accessFlags := 1537
  interfaces := #[]
  cf := some (fileOf pool2 1 #[] #[] 1537 3 #[] #[])
  fields := #[]
  methods := #[]
  instanceTypes := #[]
  staticTypes := #[]
  resolved := Array.replicate 7 none
  statics := none }

def pool3 : Array CpInfo := pool [(1, .class_ 2), (0, u "java/lang/Comparable"), (0, .class_ 4), (0, u "java/lang/Object")] 7

/-- java/lang/Comparable -/
def k3 : Class := { plain "java/lang/Comparable" (some 0) with
  accessFlags := 1537
  interfaces := #[]
  cf := some (fileOf pool3 1 #[] #[] 1537 3 #[] #[])
  fields := #[]
  methods := #[]
  instanceTypes := #[]
  staticTypes := #[]
  resolved := Array.replicate 12 none
  statics := none }

def pool4 : Array CpInfo := pool [(2, .class_ 4), (1, u "java/lang/CharSequence"), (42, .class_ 48), (0, u "java/lang/CharSequence$1CodePointIterator"), (10, .class_ 60), (0, u "java/lang/CharSequence$1CharIterator"), (5, .class_ 67), (0, u "java/lang/Object")] 63

/-- java/lang/CharSequence -/
def k4 : Class := { plain "java/lang/CharSequence" (some 0) with
  accessFlags := 1537
  interfaces := #[]
  cf := some (fileOf pool4 2 #[.nestMembers #[47, 59]] #[] 1537 66 #[] #[])
  fields := #[]
  methods := #[]
  instanceTypes := #[]
  staticTypes := #[]
  resolved := Array.replicate 131 none
  statics := none }

def pool5 : Array CpInfo := pool [(1, .class_ 2), (0, u "java/lang/constant/Constable"), (0, .class_ 4), (0, u "java/lang/Object")] 6

/-- java/lang/constant/Constable -/
def k5 : Class := { plain "java/lang/constant/Constable" (some 0) with
  accessFlags := 1537
  interfaces := #[]
  cf := some (fileOf pool5 1 #[] #[] 1537 3 #[] #[])
  fields := #[]
  methods := #[]
  instanceTypes := #[]
  staticTypes := #[]
  resolved := Array.replicate 11 none
  statics := none }

def pool6 : Array CpInfo := pool [(1, .class_ 2), (0, u "java/lang/constant/ConstantDesc"), (0, .class_ 4), (0, u "java/lang/Object")] 32

/-- java/lang/constant/ConstantDesc -/
def k6 : Class := { plain "java/lang/constant/ConstantDesc" (some 0) with
  accessFlags := 1537
  interfaces := #[]
  cf := some (fileOf pool6 1 #[] #[] 1537 3 #[] #[])
  fields := #[]
  methods := #[]
  instanceTypes := #[]
  staticTypes := #[]
  resolved := Array.replicate 37 none
  statics := none }

def pool7 : Array CpInfo := pool [(1, .methodref 2 3), (0, .class_ 4), (0, .nameAndType 5 6), (0, u "java/lang/Object"), (0, u "<init>"), (0, u "()V"), (0, .string 8), (0, u ""), (0, .fieldref 10 11), (0, .class_ 12), (0, .nameAndType 13 14), (0, u "java/lang/String"), (0, u "value"), (0, u "[B"), (0, .fieldref 10 16), (0, .nameAndType 17 18), (0, u "coder"), (0, u "B"), (2, u "hash"), (0, u "I"), (2, u "hashIsZero"), (0, u "Z"), (0, .methodref 10 28), (0, .nameAndType 5 29), (0, u "([CIILjava/lang/Void;)V"), (8, .fieldref 10 39), (0, .nameAndType 40 26), (0, u "COMPACT_STRINGS"), (1, .class_ 44), (1, u "java/lang/StringUTF16"), (0, u "compress"), (1, .methodref 42 48), (0, .nameAndType 49 50), (0, u "coderFromArrayLen"), (0, u "([BI)B"), (2, u "toBytes"), (53, .class_ 109), (1, u "java/lang/StringLatin1"), (67, .methodref 42 178), (0, .nameAndType 45 179), (0, u "([CII)[B"), (29, .methodref 10 210), (0, .nameAndType 5 211), (0, u "([BB)V"), (157, u "(C)Z"), (173, u "equals"), (29, u "(Ljava/lang/Object;)Z"), (1, .class_ 576), (0, u "java/lang/CharSequence"), (22, u "CASE_INSENSITIVE_ORDER"), (0, u "Ljava/util/Comparator;"), (181, u "valueOf"), (0, u "(C)Ljava/lang/String;"), (226, u "([C)V"), (4, .methodref 107 1016), (0, .nameAndType 1017 369), (0, u "canEncode"), (0, .methodref 107 1019), (0, .nameAndType 53 1020), (0, u "(C)[B"), (80, u "serialPersistentFields"), (0, u "[Ljava/io/ObjectStreamField;"), (0, .class_ 1104), (0, u "java/lang/String$CaseInsensitiveComparator"), (1, .class_ 1107), (0, u "java/io/Serializable"), (0, .class_ 1109), (0, u "java/lang/Comparable"), (0, .class_ 1111), (0, u "java/lang/constant/Constable"), (0, .class_ 1113), (0, u "java/lang/constant/ConstantDesc"), (2, u "serialVersionUID"), (0, u "J"), (3, u "REPL"), (0, u "C"), (2, u "LATIN1"), (1, u "UTF16")] 323

def k7m0 : Method := { name := "<init>", desc := "()V", sig := { parameters := [], returnType := none }, accessFlags := 1, code := none }
def k7c1 : Code := { maxStack := 5, maxLocals := 2, code := jdk_42_method_3_code, exceptionTable := #[], attributes := #[] }
def k7m1 : Method := { name := "<init>", desc := "([C)V", sig := { parameters := [(.array .char)], returnType := none }, accessFlags := 1, code := some k7c1 }
def k7c2 : Code := { maxStack := 2, maxLocals := 3, code := jdk_42_method_66_code, exceptionTable := #[], attributes := #[] }
def k7m2 : Method := { name := "equals", desc := "(Ljava/lang/Object;)Z", sig := { parameters := [(.object "java/lang/Object")], returnType := some .boolean }, accessFlags := 1, code := some k7c2 }
def k7c3 : Code := { maxStack := 4, maxLocals := 1, code := jdk_42_method_139_code, exceptionTable := #[], attributes := #[] }
def k7m3 : Method := { name := "valueOf", desc := "(C)Ljava/lang/String;", sig := { parameters := [.char], returnType := some (.object "java/lang/String") }, accessFlags := 9, code := some k7c3 }
def k7c4 : Code := { maxStack := 4, maxLocals := 6, code := jdk_42_method_149_code, exceptionTable := #[], attributes := #[] }
def k7m4 : Method := { name := "<init>", desc := "([CIILjava/lang/Void;)V", sig := { parameters := [(.array .char), .int, .int, (.object "java/lang/Void")], returnType := none }, accessFlags := 2, code := some k7c4 }
def k7c5 : Code := { maxStack := 2, maxLocals := 3, code := jdk_42_method_151_code, exceptionTable := #[], attributes := #[] }
def k7m5 : Method := { name := "<init>", desc := "([BB)V", sig := { parameters := [(.array .byte), .byte], returnType := none }, accessFlags := 0, code := some k7c5 }
/-- java/lang/String -/
def k7 : Class := { plain "java/lang/String" (some 0) with
  accessFlags := 49
  interfaces := #[2, 3, 4, 5, 6]
  cf := some (fileOf pool7 10 #[.nestMembers #[1103]] #[{ accessFlags := 1, nameIndex := 5, descriptorIndex := 6, attributes := #[] }, { accessFlags := 1, nameIndex := 5, descriptorIndex := 1010, attributes := #[] }, { accessFlags := 1, nameIndex := 543, descriptorIndex := 573, attributes := #[] }, { accessFlags := 9, nameIndex := 782, descriptorIndex := 783, attributes := #[] }, { accessFlags := 2, nameIndex := 5, descriptorIndex := 29, attributes := #[] }, { accessFlags := 0, nameIndex := 5, descriptorIndex := 211, attributes := #[] }] 49 2 #[1106, 1108, 575, 1110, 1112] #[{ accessFlags := 18, nameIndex := 13, descriptorIndex := 14, attributes := #[] }, { accessFlags := 18, nameIndex := 17, descriptorIndex := 18, attributes := #[] }, { accessFlags := 2, nameIndex := 21, descriptorIndex := 22, attributes := #[] }, { accessFlags := 2, nameIndex := 25, descriptorIndex := 26, attributes := #[] }, { accessFlags := 26, nameIndex := 1116, descriptorIndex := 1117, attributes := #[] }, { accessFlags := 24, nameIndex := 40, descriptorIndex := 26, attributes := #[] }, { accessFlags := 26, nameIndex := 1101, descriptorIndex := 1102, attributes := #[] }, { accessFlags := 26, nameIndex := 1121, descriptorIndex := 1122, attributes := #[] }, { accessFlags := 25, nameIndex := 599, descriptorIndex := 600, attributes := #[] }, { accessFlags := 24, nameIndex := 1125, descriptorIndex := 18, attributes := #[] }, { accessFlags := 24, nameIndex := 1127, descriptorIndex := 18, attributes := #[] }])
  fields := #[{ name := "value", type := (.array .byte), accessFlags := 18, slot := 0, constantValue := 0 }, { name := "coder", type := .byte, accessFlags := 18, slot := 1, constantValue := 0 }, { name := "hash", type := .int, accessFlags := 2, slot := 2, constantValue := 0 }, { name := "hashIsZero", type := .boolean, accessFlags := 2, slot := 3, constantValue := 0 }, { name := "serialVersionUID", type := .long, accessFlags := 26, slot := 0, constantValue := 0 }, { name := "COMPACT_STRINGS", type := .boolean, accessFlags := 24, slot := 1, constantValue := 0 }, { name := "serialPersistentFields", type := (.array (.object "java/io/ObjectStreamField")), accessFlags := 26, slot := 2, constantValue := 0 }, { name := "REPL", type := .char, accessFlags := 26, slot := 3, constantValue := 0 }, { name := "CASE_INSENSITIVE_ORDER", type := (.object "java/util/Comparator"), accessFlags := 25, slot := 4, constantValue := 0 }, { name := "LATIN1", type := .byte, accessFlags := 24, slot := 5, constantValue := 0 }, { name := "UTF16", type := .byte, accessFlags := 24, slot := 6, constantValue := 0 }]
  methods := #[k7m0, k7m1, k7m2, k7m3, k7m4, k7m5]
  instanceTypes := #[(.array .byte), .byte, .int, .boolean]
  staticTypes := #[.long, .boolean, (.array (.object "java/io/ObjectStreamField")), .char, (.object "java/util/Comparator"), .byte, .byte]
  resolved := Array.replicate 1451 none
  statics := some 0 }

def pool8 : Array CpInfo := pool [(8, .class_ 10), (1, u "java/lang/Iterable"), (24, .class_ 36), (0, u "java/lang/Object")] 25

/-- java/lang/Iterable -/
def k8 : Class := { plain "java/lang/Iterable" (some 0) with
  accessFlags := 1537
  interfaces := #[]
  cf := some (fileOf pool8 8 #[] #[] 1537 35 #[] #[])
  fields := #[]
  methods := #[]
  instanceTypes := #[]
  staticTypes := #[]
  resolved := Array.replicate 62 none
  statics := none }

def pool9 : Array CpInfo := pool [(10, .class_ 12), (1, u "java/util/Collection"), (0, u "toArray"), (16, u "()Z"), (29, .class_ 61), (0, u "java/lang/Object"), (0, .class_ 63), (0, u "java/lang/Iterable"), (2, u "isEmpty"), (3, u "()[Ljava/lang/Object;")] 44

def k9m0 : Method := { name := "isEmpty", desc := "()Z", sig := { parameters := [], returnType := some .boolean }, accessFlags := 1025, code := none }
def k9m1 : Method := { name := "toArray", desc := "()[Ljava/lang/Object;", sig := { parameters := [], returnType := some (.array (.object "java/lang/Object")) }, accessFlags := 1025, code := none }
/-- java/util/Collection -/
def k9 : Class := { plain "java/util/Collection" (some 0) with
  accessFlags := 1537
  interfaces := #[8]
  cf := some (fileOf pool9 10 #[] #[{ accessFlags := 1025, nameIndex := 66, descriptorIndex := 30, attributes := #[] }, { accessFlags := 1025, nameIndex := 13, descriptorIndex := 70, attributes := #[] }] 1537 60 #[62] #[])
  fields := #[]
  methods := #[k9m0, k9m1]
  instanceTypes := #[]
  staticTypes := #[]
  resolved := Array.replicate 115 none
  statics := none }

def pool10 : Array CpInfo := pool [(1, .methodref 2 3), (0, .class_ 4), (0, .nameAndType 5 6), (0, u "java/lang/Object"), (0, u "<init>"), (0, u "()V"), (1, .class_ 10), (1, u "java/util/AbstractCollection"), (66, .class_ 78), (0, u "java/util/Collection")] 81

def k10c0 : Code := { maxStack := 1, maxLocals := 1, code := jdk_22_method_1_code, exceptionTable := #[], attributes := #[] }
def k10m0 : Method := { name := "<init>", desc := "()V", sig := { parameters := [], returnType := none }, accessFlags := 4, code := some k10c0 }
/-- java/util/AbstractCollection -/
def k10 : Class := { plain "java/util/AbstractCollection" (some 0) with
  accessFlags := 1057
  interfaces := #[9]
  cf := some (fileOf pool10 8 #[] #[{ accessFlags := 4, nameIndex := 5, descriptorIndex := 6, attributes := #[] }] 1057 2 #[77] #[])
  fields := #[]
  methods := #[k10m0]
  instanceTypes := #[]
  staticTypes := #[]
  resolved := Array.replicate 160 none
  statics := none }

def pool11 : Array CpInfo := pool [(8, .class_ 10), (1, u "java/util/SequencedCollection"), (15, .class_ 27), (0, u "java/lang/Object"), (0, .class_ 29), (0, u "java/util/Collection")] 27

/-- java/util/SequencedCollection -/
def k11 : Class := { plain "java/util/SequencedCollection" (some 0) with
  accessFlags := 1537
  interfaces := #[9]
  cf := some (fileOf pool11 8 #[] #[] 1537 26 #[28] #[])
  fields := #[]
  methods := #[]
  instanceTypes := #[]
  staticTypes := #[]
  resolved := Array.replicate 57 none
  statics := none }

def pool12 : Array CpInfo := pool [(8, .class_ 10), (1, u "java/util/List"), (20, u "(Ljava/lang/Object;)V"), (16, u "<init>"), (26, u "get"), (0, u "(I)Ljava/lang/Object;"), (2, u "size"), (0, u "()I"), (7, u "of"), (1, .fieldref 91 92), (0, .class_ 93), (0, .nameAndType 94 95), (0, u "java/util/ImmutableCollections"), (0, u "EMPTY_LIST"), (0, u "Ljava/util/ImmutableCollections$ListN;"), (0, .class_ 97), (0, u "java/util/ImmutableCollections$List12"), (0, .methodref 96 99), (0, .nameAndType 48 31), (0, .methodref 96 101), (0, .nameAndType 48 102), (0, u "(Ljava/lang/Object;Ljava/lang/Object;)V"), (0, .class_ 104), (0, u "java/lang/Object"), (3, u "([Ljava/lang/Object;)Ljava/util/List;"), (0, .methodref 91 110), (0, .nameAndType 111 108), (0, u "listFromArray"), (0, .methodref 91 113), (0, .nameAndType 114 115), (0, u "listCopy"), (0, u "(Ljava/util/Collection;)Ljava/util/List;"), (3, u "()Ljava/util/List;"), (0, .class_ 121), (0, u "java/util/SequencedCollection"), (112, u "copyOf")] 16

def k12m0 : Method := { name := "size", desc := "()I", sig := { parameters := [], returnType := some .int }, accessFlags := 1025, code := none }
def k12m1 : Method := { name := "get", desc := "(I)Ljava/lang/Object;", sig := { parameters := [.int], returnType := some (.object "java/lang/Object") }, accessFlags := 1025, code := none }
def k12c2 : Code := { maxStack := 1, maxLocals := 0, code := jdk_40_method_36_code, exceptionTable := #[], attributes := #[] }
def k12m2 : Method := { name := "of", desc := "()Ljava/util/List;", sig := { parameters := [], returnType := some (.object "java/util/List") }, accessFlags := 9, code := some k12c2 }
def k12c3 : Code := { maxStack := 5, maxLocals := 2, code := jdk_40_method_47_code, exceptionTable := #[], attributes := #[] }
def k12m3 : Method := { name := "of", desc := "([Ljava/lang/Object;)Ljava/util/List;", sig := { parameters := [(.array (.object "java/lang/Object"))], returnType := some (.object "java/util/List") }, accessFlags := 137, code := some k12c3 }
def k12c4 : Code := { maxStack := 1, maxLocals := 1, code := jdk_40_method_48_code, exceptionTable := #[], attributes := #[] }
def k12m4 : Method := { name := "copyOf", desc := "(Ljava/util/Collection;)Ljava/util/List;", sig := { parameters := [(.object "java/util/Collection")], returnType := some (.object "java/util/List") }, accessFlags := 9, code := some k12c4 }
/-- java/util/List -/
def k12 : Class := { plain "java/util/List" (some 0) with
  accessFlags := 1537
  interfaces := #[11]
  cf := some (fileOf pool12 8 #[] #[{ accessFlags := 1025, nameIndex := 79, descriptorIndex := 80, attributes := #[] }, { accessFlags := 1025, nameIndex := 75, descriptorIndex := 76, attributes := #[] }, { accessFlags := 9, nameIndex := 88, descriptorIndex := 119, attributes := #[] }, { accessFlags := 137, nameIndex := 88, descriptorIndex := 108, attributes := #[] }, { accessFlags := 9, nameIndex := 234, descriptorIndex := 115, attributes := #[] }] 1537 103 #[120] #[])
  fields := #[]
  methods := #[k12m0, k12m1, k12m2, k12m3, k12m4]
  instanceTypes := #[]
  staticTypes := #[]
  resolved := Array.replicate 251 none
  statics := none }

def pool13 : Array CpInfo := pool [(1, .methodref 2 3), (0, .class_ 4), (0, .nameAndType 5 6), (0, u "java/util/AbstractCollection"), (0, u "<init>"), (0, u "()V"), (0, .fieldref 8 9), (0, .class_ 10), (0, .nameAndType 11 12), (0, u "java/util/AbstractList"), (0, u "modCount"), (0, u "I"), (64, .class_ 78), (0, u "java/util/AbstractList$Itr"), (3, .class_ 83), (0, u "java/util/AbstractList$ListItr"), (9, .class_ 94), (0, u "java/util/AbstractList$RandomAccessSubList"), (3, .class_ 99), (0, u "java/util/AbstractList$SubList"), (33, .class_ 134), (0, u "java/util/List"), (73, .class_ 209), (0, u "java/util/AbstractList$SubList$1"), (0, .class_ 211), (0, u "java/util/AbstractList$RandomAccessSpliterator")] 6

def k13c0 : Code := { maxStack := 2, maxLocals := 1, code := jdk_39_method_1_code, exceptionTable := #[], attributes := #[] }
def k13m0 : Method := { name := "<init>", desc := "()V", sig := { parameters := [], returnType := none }, accessFlags := 4, code := some k13c0 }
/-- java/util/AbstractList -/
def k13 : Class := { plain "java/util/AbstractList" (some 10) with
  accessFlags := 1057
  interfaces := #[12]
  cf := some (fileOf pool13 8 #[.nestMembers #[93, 98, 208, 210, 82, 77]] #[{ accessFlags := 4, nameIndex := 5, descriptorIndex := 6, attributes := #[] }] 1057 2 #[133] #[{ accessFlags := 132, nameIndex := 11, descriptorIndex := 12, attributes := #[] }])
  fields := #[{ name := "modCount", type := .int, accessFlags := 132, slot := 0, constantValue := 0 }]
  methods := #[k13m0]
  instanceTypes := #[.int]
  staticTypes := #[]
  resolved := Array.replicate 218 none
  statics := none }

def pool14 : Array CpInfo := pool [(1, .class_ 2), (0, u "java/util/RandomAccess"), (0, .class_ 4), (0, u "java/lang/Object")] 2

/-- java/util/RandomAccess -/
def k14 : Class := { plain "java/util/RandomAccess" (some 0) with
  accessFlags := 1537
  interfaces := #[]
  cf := some (fileOf pool14 1 #[] #[] 1537 3 #[] #[])
  fields := #[]
  methods := #[]
  instanceTypes := #[]
  staticTypes := #[]
  resolved := Array.replicate 7 none
  statics := none }

def pool15 : Array CpInfo := pool [(1, .class_ 2), (0, u "java/lang/Cloneable"), (0, .class_ 4), (0, u "java/lang/Object")] 2

/-- java/lang/Cloneable -/
def k15 : Class := { plain "java/lang/Cloneable" (some 0) with
  accessFlags := 1537
  interfaces := #[]
  cf := some (fileOf pool15 1 #[] #[] 1537 3 #[] #[])
  fields := #[]
  methods := #[]
  instanceTypes := #[]
  staticTypes := #[]
  resolved := Array.replicate 7 none
  statics := none }

def pool16 : Array CpInfo := pool [(1, .methodref 2 3), (0, .class_ 4), (0, .nameAndType 5 6), (0, u "java/util/AbstractList"), (0, u "<init>"), (0, u "()V"), (0, .class_ 8), (0, u "java/lang/Object"), (0, .fieldref 10 11), (0, .class_ 12), (0, .nameAndType 13 14), (0, u "java/util/ArrayList"), (0, u "elementData"), (0, u "[Ljava/lang/Object;"), (2, u "EMPTY_ELEMENTDATA"), (21, .fieldref 10 40), (0, .nameAndType 41 14), (0, u "DEFAULTCAPACITY_EMPTY_ELEMENTDATA"), (4, u "toArray"), (0, u "()[Ljava/lang/Object;"), (0, .fieldref 10 49), (0, .nameAndType 50 51), (0, u "size"), (0, u "I"), (6, .class_ 60), (1, u "java/util/Arrays"), (0, u "copyOf"), (1, .fieldref 10 64), (0, .nameAndType 65 51), (0, u "modCount"), (0, .methodref 58 67), (0, .nameAndType 61 68), (0, u "([Ljava/lang/Object;I)[Ljava/lang/Object;"), (0, .methodref 10 70), (0, .nameAndType 71 72), (0, u "grow"), (0, u "(I)[Ljava/lang/Object;"), (6, .methodref 80 81), (0, .class_ 82), (0, .nameAndType 83 84), (0, u "java/lang/Math"), (0, u "max"), (0, u "(II)I"), (11, u "(Ljava/lang/Object;)Z"), (32, .methodref 10 130), (0, .nameAndType 71 47), (0, .methodref 10 132), (0, .nameAndType 133 134), (0, u "add"), (0, u "(Ljava/lang/Object;[Ljava/lang/Object;I)V"), (13, .class_ 149), (0, u "java/util/List"), (23, u "()Z"), (88, .class_ 263), (0, u "java/util/ArrayList$ListItr"), (3, .class_ 268), (0, u "java/util/ArrayList$Itr"), (7, .class_ 277), (0, u "java/util/ArrayList$SubList"), (12, .class_ 291), (0, u "java/util/ArrayList$ArrayListSpliterator"), (37, .class_ 330), (0, u "java/util/RandomAccess"), (0, .class_ 332), (0, u "java/lang/Cloneable"), (0, .class_ 334), (0, u "java/io/Serializable"), (0, u "serialVersionUID"), (0, u "J"), (3, u "DEFAULT_CAPACITY"), (22, u "isEmpty"), (136, .class_ 501), (0, u "java/util/ArrayList$SubList$2"), (0, .class_ 503), (0, u "java/util/ArrayList$SubList$1")] 5

def k16c0 : Code := { maxStack := 2, maxLocals := 1, code := jdk_38_method_2_code, exceptionTable := #[], attributes := #[] }
def k16m0 : Method := { name := "<init>", desc := "()V", sig := { parameters := [], returnType := none }, accessFlags := 1, code := some k16c0 }
def k16c1 : Code := { maxStack := 4, maxLocals := 4, code := jdk_38_method_6_code, exceptionTable := #[], attributes := #[] }
def k16m1 : Method := { name := "grow", desc := "(I)[Ljava/lang/Object;", sig := { parameters := [.int], returnType := some (.array (.object "java/lang/Object")) }, accessFlags := 2, code := some k16c1 }
def k16c2 : Code := { maxStack := 3, maxLocals := 1, code := jdk_38_method_7_code, exceptionTable := #[], attributes := #[] }
def k16m2 : Method := { name := "grow", desc := "()[Ljava/lang/Object;", sig := { parameters := [], returnType := some (.array (.object "java/lang/Object")) }, accessFlags := 2, code := some k16c2 }
def k16c3 : Code := { maxStack := 1, maxLocals := 1, code := jdk_38_method_9_code, exceptionTable := #[], attributes := #[] }
def k16m3 : Method := { name := "isEmpty", desc := "()Z", sig := { parameters := [], returnType := some .boolean }, accessFlags := 1, code := some k16c3 }
def k16c4 : Code := { maxStack := 2, maxLocals := 1, code := jdk_38_method_16_code, exceptionTable := #[], attributes := #[] }
def k16m4 : Method := { name := "toArray", desc := "()[Ljava/lang/Object;", sig := { parameters := [], returnType := some (.array (.object "java/lang/Object")) }, accessFlags := 1, code := some k16c4 }
def k16c5 : Code := { maxStack := 3, maxLocals := 4, code := jdk_38_method_24_code, exceptionTable := #[], attributes := #[] }
def k16m5 : Method := { name := "add", desc := "(Ljava/lang/Object;[Ljava/lang/Object;I)V", sig := { parameters := [(.object "java/lang/Object"), (.array (.object "java/lang/Object")), .int], returnType := none }, accessFlags := 2, code := some k16c5 }
def k16c6 : Code := { maxStack := 4, maxLocals := 2, code := jdk_38_method_25_code, exceptionTable := #[], attributes := #[] }
def k16m6 : Method := { name := "add", desc := "(Ljava/lang/Object;)Z", sig := { parameters := [(.object "java/lang/Object")], returnType := some .boolean }, accessFlags := 1, code := some k16c6 }
/-- java/util/ArrayList -/
def k16 : Class := { plain "java/util/ArrayList" (some 13) with
  accessFlags := 33
  interfaces := #[12, 14, 15, 2]
  cf := some (fileOf pool16 10 #[.nestMembers #[290, 276, 500, 502, 262, 267]] #[{ accessFlags := 1, nameIndex := 5, descriptorIndex := 6, attributes := #[] }, { accessFlags := 2, nameIndex := 71, descriptorIndex := 72, attributes := #[] }, { accessFlags := 2, nameIndex := 71, descriptorIndex := 47, attributes := #[] }, { accessFlags := 1, nameIndex := 363, descriptorIndex := 173, attributes := #[] }, { accessFlags := 1, nameIndex := 46, descriptorIndex := 47, attributes := #[] }, { accessFlags := 2, nameIndex := 133, descriptorIndex := 134, attributes := #[] }, { accessFlags := 1, nameIndex := 133, descriptorIndex := 96, attributes := #[] }] 33 2 #[148, 329, 331, 333] #[{ accessFlags := 26, nameIndex := 335, descriptorIndex := 336, attributes := #[] }, { accessFlags := 26, nameIndex := 340, descriptorIndex := 51, attributes := #[] }, { accessFlags := 26, nameIndex := 17, descriptorIndex := 14, attributes := #[] }, { accessFlags := 26, nameIndex := 41, descriptorIndex := 14, attributes := #[] }, { accessFlags := 128, nameIndex := 13, descriptorIndex := 14, attributes := #[] }, { accessFlags := 2, nameIndex := 50, descriptorIndex := 51, attributes := #[] }])
  fields := #[{ name := "serialVersionUID", type := .long, accessFlags := 26, slot := 0, constantValue := 0 }, { name := "DEFAULT_CAPACITY", type := .int, accessFlags := 26, slot := 1, constantValue := 0 }, { name := "EMPTY_ELEMENTDATA", type := (.array (.object "java/lang/Object")), accessFlags := 26, slot := 2, constantValue := 0 }, { name := "DEFAULTCAPACITY_EMPTY_ELEMENTDATA", type := (.array (.object "java/lang/Object")), accessFlags := 26, slot := 3, constantValue := 0 }, { name := "elementData", type := (.array (.object "java/lang/Object")), accessFlags := 128, slot := 1, constantValue := 0 }, { name := "size", type := .int, accessFlags := 2, slot := 2, constantValue := 0 }]
  methods := #[k16m0, k16m1, k16m2, k16m3, k16m4, k16m5, k16m6]
  instanceTypes := #[.int, (.array (.object "java/lang/Object")), .int]
  staticTypes := #[.long, .int, (.array (.object "java/lang/Object")), (.array (.object "java/lang/Object"))]
  resolved := Array.replicate 509 none
  statics := some 1 }

def pool17 : Array CpInfo := pool [(1, .methodref 2 3), (0, .class_ 4), (0, .nameAndType 5 6), (0, u "java/lang/Object"), (0, u "<init>"), (0, u "()V"), (0, .fieldref 8 9), (0, .class_ 10), (0, .nameAndType 11 12), (0, u "com/example/nightcrawler/nightcrawler/engine/CommittedBatches"), (0, u "batches"), (0, u "J"), (0, .fieldref 8 14), (0, .nameAndType 15 12), (0, u "deleted"), (0, .fieldref 8 17), (0, .nameAndType 18 12), (0, u "lost"), (0, .fieldref 8 20), (0, .nameAndType 21 22), (0, u "usedUp"), (0, u "Z"), (0, .interfaceMethodref 24 25), (0, .class_ 26), (0, .nameAndType 27 28), (0, u "java/util/List"), (0, u "copyOf"), (0, u "(Ljava/util/Collection;)Ljava/util/List;"), (0, .fieldref 8 30), (0, .nameAndType 31 32), (0, u "last"), (0, u "Ljava/util/List;"), (0, .methodref 8 34), (0, .nameAndType 5 35), (0, u "(JJJZLjava/util/List;)V"), (9, u "none"), (0, u "(Ljava/util/List;)Lcom/example/nightcrawler/nightcrawler/engine/CommittedBatches;"), (1, u "()J"), (0, u "()Z"), (0, u "()Ljava/util/List;")] 3

def k17c0 : Code := { maxStack := 3, maxLocals := 9, code := prog_3_method_1_code, exceptionTable := #[], attributes := #[] }
def k17m0 : Method := { name := "<init>", desc := "(JJJZLjava/util/List;)V", sig := { parameters := [.long, .long, .long, .boolean, (.object "java/util/List")], returnType := none }, accessFlags := 0, code := some k17c0 }
def k17c1 : Code := { maxStack := 10, maxLocals := 1, code := prog_3_method_3_code, exceptionTable := #[], attributes := #[] }
def k17m1 : Method := { name := "none", desc := "(Ljava/util/List;)Lcom/example/nightcrawler/nightcrawler/engine/CommittedBatches;", sig := { parameters := [(.object "java/util/List")], returnType := some (.object "com/example/nightcrawler/nightcrawler/engine/CommittedBatches") }, accessFlags := 8, code := some k17c1 }
def k17c2 : Code := { maxStack := 2, maxLocals := 1, code := prog_3_method_4_code, exceptionTable := #[], attributes := #[] }
def k17m2 : Method := { name := "batches", desc := "()J", sig := { parameters := [], returnType := some .long }, accessFlags := 0, code := some k17c2 }
def k17c3 : Code := { maxStack := 2, maxLocals := 1, code := prog_3_method_5_code, exceptionTable := #[], attributes := #[] }
def k17m3 : Method := { name := "deleted", desc := "()J", sig := { parameters := [], returnType := some .long }, accessFlags := 0, code := some k17c3 }
def k17c4 : Code := { maxStack := 2, maxLocals := 1, code := prog_3_method_6_code, exceptionTable := #[], attributes := #[] }
def k17m4 : Method := { name := "lost", desc := "()J", sig := { parameters := [], returnType := some .long }, accessFlags := 0, code := some k17c4 }
def k17c5 : Code := { maxStack := 1, maxLocals := 1, code := prog_3_method_7_code, exceptionTable := #[], attributes := #[] }
def k17m5 : Method := { name := "usedUp", desc := "()Z", sig := { parameters := [], returnType := some .boolean }, accessFlags := 0, code := some k17c5 }
def k17c6 : Code := { maxStack := 1, maxLocals := 1, code := prog_3_method_8_code, exceptionTable := #[], attributes := #[] }
def k17m6 : Method := { name := "last", desc := "()Ljava/util/List;", sig := { parameters := [], returnType := some (.object "java/util/List") }, accessFlags := 0, code := some k17c6 }
/-- com/example/nightcrawler/nightcrawler/engine/CommittedBatches -/
def k17 : Class := { plain "com/example/nightcrawler/nightcrawler/engine/CommittedBatches" (some 0) with
  accessFlags := 48
  interfaces := #[]
  cf := some (fileOf pool17 8 #[] #[{ accessFlags := 0, nameIndex := 5, descriptorIndex := 35, attributes := #[] }, { accessFlags := 8, nameIndex := 45, descriptorIndex := 46, attributes := #[] }, { accessFlags := 0, nameIndex := 11, descriptorIndex := 48, attributes := #[] }, { accessFlags := 0, nameIndex := 15, descriptorIndex := 48, attributes := #[] }, { accessFlags := 0, nameIndex := 18, descriptorIndex := 48, attributes := #[] }, { accessFlags := 0, nameIndex := 21, descriptorIndex := 49, attributes := #[] }, { accessFlags := 0, nameIndex := 31, descriptorIndex := 50, attributes := #[] }] 48 2 #[] #[{ accessFlags := 18, nameIndex := 11, descriptorIndex := 12, attributes := #[] }, { accessFlags := 18, nameIndex := 15, descriptorIndex := 12, attributes := #[] }, { accessFlags := 18, nameIndex := 18, descriptorIndex := 12, attributes := #[] }, { accessFlags := 18, nameIndex := 21, descriptorIndex := 22, attributes := #[] }, { accessFlags := 18, nameIndex := 31, descriptorIndex := 32, attributes := #[] }])
  fields := #[{ name := "batches", type := .long, accessFlags := 18, slot := 0, constantValue := 0 }, { name := "deleted", type := .long, accessFlags := 18, slot := 1, constantValue := 0 }, { name := "lost", type := .long, accessFlags := 18, slot := 2, constantValue := 0 }, { name := "usedUp", type := .boolean, accessFlags := 18, slot := 3, constantValue := 0 }, { name := "last", type := (.object "java/util/List"), accessFlags := 18, slot := 4, constantValue := 0 }]
  methods := #[k17m0, k17m1, k17m2, k17m3, k17m4, k17m5, k17m6]
  instanceTypes := #[.long, .long, .long, .boolean, (.object "java/util/List")]
  staticTypes := #[]
  resolved := Array.replicate 54 none
  statics := none }

def pool18 : Array CpInfo := pool [(2, .class_ 4), (1, u "java/lang/Object"), (0, u "<init>"), (0, u "()V"), (3, .class_ 11), (0, u "java/util/ImmutableCollections$List12"), (0, .class_ 13), (0, u "java/util/ImmutableCollections$ListN"), (3, u "Z"), (0, .class_ 19), (0, u "java/util/List"), (0, .interfaceMethodref 21 22), (0, .class_ 23), (0, .nameAndType 24 25), (0, u "java/util/Collection"), (0, u "isEmpty"), (0, u "()Z"), (0, .interfaceMethodref 18 27), (0, .nameAndType 28 29), (0, u "of"), (0, u "()Ljava/util/List;"), (0, .interfaceMethodref 21 31), (0, .nameAndType 32 33), (0, u "toArray"), (0, u "()[Ljava/lang/Object;"), (0, .interfaceMethodref 18 35), (0, .nameAndType 28 36), (0, u "([Ljava/lang/Object;)Ljava/util/List;"), (0, .methodref 38 39), (0, .class_ 40), (0, .nameAndType 41 42), (0, u "java/util/Objects"), (0, u "requireNonNull"), (0, u "(Ljava/lang/Object;)Ljava/lang/Object;"), (0, .methodref 12 44), (0, .nameAndType 5 45), (0, u "([Ljava/lang/Object;Z)V"), (1, .class_ 49), (1, u "java/util/ImmutableCollections"), (0, u "$assertionsDisabled"), (5, u "[Ljava/lang/Object;"), (5, u "EMPTY_LIST"), (0, u "Ljava/util/ImmutableCollections$ListN;"), (8, u "EMPTY_LIST_NULLS"), (22, u "SALT32L"), (0, u "J"), (2, u "REVERSE"), (6, u "archivedObjects"), (2, u "EMPTY"), (0, u "Ljava/lang/Object;"), (0, .class_ 112), (0, u "java/util/ImmutableCollections$SetN"), (5, u "EMPTY_SET"), (0, u "Ljava/util/ImmutableCollections$SetN;"), (0, .class_ 121), (0, u "java/util/ImmutableCollections$MapN"), (3, u "EMPTY_MAP"), (0, u "Ljava/util/ImmutableCollections$MapN;"), (4, u "EXPAND_FACTOR"), (0, u "I"), (9, u "listCopy"), (0, u "(Ljava/util/Collection;)Ljava/util/List;"), (7, u "listFromArray"), (17, .class_ 170), (0, u "java/util/ImmutableCollections$MapN$MapNIterator"), (0, .class_ 172), (0, u "java/util/ImmutableCollections$MapN$1"), (0, .class_ 174), (0, u "java/util/ImmutableCollections$Map1"), (0, .class_ 176), (0, u "java/util/ImmutableCollections$AbstractImmutableMap"), (0, .class_ 178), (0, u "java/util/ImmutableCollections$SetN$SetNIterator"), (0, .class_ 180), (0, u "java/util/ImmutableCollections$Set12"), (0, .class_ 182), (0, u "java/util/ImmutableCollections$Set12$1"), (0, .class_ 184), (0, u "java/util/ImmutableCollections$AbstractImmutableSet"), (0, .class_ 186), (0, u "java/util/ImmutableCollections$SubList"), (0, .class_ 188), (0, u "java/util/ImmutableCollections$ListItr"), (0, .class_ 190), (0, u "java/util/ImmutableCollections$AbstractImmutableList"), (0, .class_ 192), (0, u "java/util/ImmutableCollections$AbstractImmutableCollection"), (0, .class_ 194), (0, u "java/util/ImmutableCollections$Access"), (0, .class_ 196), (0, u "java/util/ImmutableCollections$Access$1")] 16

def k18m0 : Method := { name := "<init>", desc := "()V", sig := { parameters := [], returnType := none }, accessFlags := 2, code := none }
def k18c1 : Code := { maxStack := 1, maxLocals := 2, code := jdk_56_method_3_code, exceptionTable := #[], attributes := #[] }
def k18m1 : Method := { name := "listCopy", desc := "(Ljava/util/Collection;)Ljava/util/List;", sig := { parameters := [(.object "java/util/Collection")], returnType := some (.object "java/util/List") }, accessFlags := 8, code := some k18c1 }
def k18c2 : Code := { maxStack := 4, maxLocals := 3, code := jdk_56_method_4_code, exceptionTable := #[], attributes := #[] }
def k18m2 : Method := { name := "listFromArray", desc := "([Ljava/lang/Object;)Ljava/util/List;", sig := { parameters := [(.array (.object "java/lang/Object"))], returnType := some (.object "java/util/List") }, accessFlags := 136, code := some k18c2 }
/-- java/util/ImmutableCollections -/
def k18 : Class := { plain "java/util/ImmutableCollections" (some 0) with
  accessFlags := 32
  interfaces := #[]
  cf := some (fileOf pool18 47 #[.nestMembers #[120, 169, 171, 173, 175, 111, 177, 179, 181, 183, 12, 10, 185, 187, 189, 191, 193, 195]] #[{ accessFlags := 2, nameIndex := 5, descriptorIndex := 6, attributes := #[] }, { accessFlags := 8, nameIndex := 142, descriptorIndex := 143, attributes := #[] }, { accessFlags := 136, nameIndex := 151, descriptorIndex := 36, attributes := #[] }] 32 2 #[] #[{ accessFlags := 26, nameIndex := 95, descriptorIndex := 96, attributes := #[] }, { accessFlags := 26, nameIndex := 99, descriptorIndex := 17, attributes := #[] }, { accessFlags := 10, nameIndex := 106, descriptorIndex := 56, attributes := #[] }, { accessFlags := 26, nameIndex := 109, descriptorIndex := 110, attributes := #[] }, { accessFlags := 24, nameIndex := 62, descriptorIndex := 63, attributes := #[] }, { accessFlags := 24, nameIndex := 72, descriptorIndex := 63, attributes := #[] }, { accessFlags := 24, nameIndex := 118, descriptorIndex := 119, attributes := #[] }, { accessFlags := 24, nameIndex := 125, descriptorIndex := 126, attributes := #[] }, { accessFlags := 24, nameIndex := 131, descriptorIndex := 132, attributes := #[] }, { accessFlags := 4120, nameIndex := 50, descriptorIndex := 17, attributes := #[] }])
  fields := #[{ name := "SALT32L", type := .long, accessFlags := 26, slot := 0, constantValue := 0 }, { name := "REVERSE", type := .boolean, accessFlags := 26, slot := 1, constantValue := 0 }, { name := "archivedObjects", type := (.array (.object "java/lang/Object")), accessFlags := 10, slot := 2, constantValue := 0 }, { name := "EMPTY", type := (.object "java/lang/Object"), accessFlags := 26, slot := 3, constantValue := 0 }, { name := "EMPTY_LIST", type := (.object "java/util/ImmutableCollections$ListN"), accessFlags := 24, slot := 4, constantValue := 0 }, { name := "EMPTY_LIST_NULLS", type := (.object "java/util/ImmutableCollections$ListN"), accessFlags := 24, slot := 5, constantValue := 0 }, { name := "EMPTY_SET", type := (.object "java/util/ImmutableCollections$SetN"), accessFlags := 24, slot := 6, constantValue := 0 }, { name := "EMPTY_MAP", type := (.object "java/util/ImmutableCollections$MapN"), accessFlags := 24, slot := 7, constantValue := 0 }, { name := "EXPAND_FACTOR", type := .int, accessFlags := 24, slot := 8, constantValue := 0 }, { name := "$assertionsDisabled", type := .boolean, accessFlags := 4120, slot := 9, constantValue := 0 }]
  methods := #[k18m0, k18m1, k18m2]
  instanceTypes := #[]
  staticTypes := #[.long, .boolean, (.array (.object "java/lang/Object")), (.object "java/lang/Object"), (.object "java/util/ImmutableCollections$ListN"), (.object "java/util/ImmutableCollections$ListN"), (.object "java/util/ImmutableCollections$SetN"), (.object "java/util/ImmutableCollections$MapN"), .int, .boolean]
  resolved := Array.replicate 213 none
  statics := some 2 }

def pool19 : Array CpInfo := pool [(1, .methodref 2 3), (0, .class_ 4), (0, .nameAndType 5 6), (0, u "java/util/AbstractCollection"), (0, u "<init>"), (0, u "()V"), (1, .class_ 10), (1, u "java/util/ImmutableCollections"), (2, .class_ 14), (0, u "java/util/ImmutableCollections$AbstractImmutableCollection")] 41

def k19c0 : Code := { maxStack := 1, maxLocals := 1, code := jdk_47_method_1_code, exceptionTable := #[], attributes := #[] }
def k19m0 : Method := { name := "<init>", desc := "()V", sig := { parameters := [], returnType := none }, accessFlags := 0, code := some k19c0 }
/-- java/util/ImmutableCollections$AbstractImmutableCollection -/
def k19 : Class := { plain "java/util/ImmutableCollections$AbstractImmutableCollection" (some 10) with
  accessFlags := 1056
  interfaces := #[]
  cf := some (fileOf pool19 13 #[.nestHost 8] #[{ accessFlags := 0, nameIndex := 5, descriptorIndex := 6, attributes := #[] }] 1056 2 #[] #[])
  fields := #[]
  methods := #[k19m0]
  instanceTypes := #[]
  staticTypes := #[]
  resolved := Array.replicate 56 none
  statics := none }

def pool20 : Array CpInfo := pool [(1, .methodref 2 3), (0, .class_ 4), (0, .nameAndType 5 6), (0, u "java/util/ImmutableCollections$AbstractImmutableCollection"), (0, u "<init>"), (0, u "()V"), (1, .class_ 10), (1, u "java/util/ImmutableCollections"), (3, .class_ 16), (1, u "java/util/ImmutableCollections$AbstractImmutableList"), (60, .class_ 78), (0, u "java/util/List"), (45, .class_ 125), (0, u "java/util/RandomAccess")] 70

def k20c0 : Code := { maxStack := 1, maxLocals := 1, code := jdk_46_method_1_code, exceptionTable := #[], attributes := #[] }
def k20m0 : Method := { name := "<init>", desc := "()V", sig := { parameters := [], returnType := none }, accessFlags := 0, code := some k20c0 }
/-- java/util/ImmutableCollections$AbstractImmutableList -/
def k20 : Class := { plain "java/util/ImmutableCollections$AbstractImmutableList" (some 19) with
  accessFlags := 1056
  interfaces := #[12, 14]
  cf := some (fileOf pool20 14 #[.nestHost 8] #[{ accessFlags := 0, nameIndex := 5, descriptorIndex := 6, attributes := #[] }] 1056 2 #[77, 124] #[])
  fields := #[]
  methods := #[k20m0]
  instanceTypes := #[]
  staticTypes := #[]
  resolved := Array.replicate 196 none
  statics := none }

def pool21 : Array CpInfo := pool [(1, .methodref 2 3), (0, .class_ 4), (0, .nameAndType 5 6), (0, u "java/util/ImmutableCollections$AbstractImmutableList"), (0, u "<init>"), (0, u "()V"), (0, .methodref 8 9), (0, .class_ 10), (0, .nameAndType 11 12), (0, u "java/util/Objects"), (0, u "requireNonNull"), (0, u "(Ljava/lang/Object;)Ljava/lang/Object;"), (0, .fieldref 14 15), (0, .class_ 16), (0, .nameAndType 17 18), (0, u "java/util/ImmutableCollections$List12"), (0, u "e0"), (0, u "Ljava/lang/Object;"), (0, .fieldref 20 21), (0, .class_ 22), (0, .nameAndType 23 18), (0, u "java/util/ImmutableCollections"), (0, u "EMPTY"), (0, .fieldref 14 25), (0, .nameAndType 26 18), (0, u "e1"), (24, u "size"), (0, u "()I"), (17, .class_ 71), (0, u "java/io/Serializable"), (4, u "(Ljava/lang/Object;)V"), (8, u "(Ljava/lang/Object;Ljava/lang/Object;)V"), (4, u "get"), (0, u "(I)Ljava/lang/Object;")] 33

def k21c0 : Code := { maxStack := 2, maxLocals := 2, code := jdk_44_method_1_code, exceptionTable := #[], attributes := #[] }
def k21m0 : Method := { name := "<init>", desc := "(Ljava/lang/Object;)V", sig := { parameters := [(.object "java/lang/Object")], returnType := none }, accessFlags := 0, code := some k21c0 }
def k21c1 : Code := { maxStack := 2, maxLocals := 3, code := jdk_44_method_2_code, exceptionTable := #[], attributes := #[] }
def k21m1 : Method := { name := "<init>", desc := "(Ljava/lang/Object;Ljava/lang/Object;)V", sig := { parameters := [(.object "java/lang/Object"), (.object "java/lang/Object")], returnType := none }, accessFlags := 0, code := some k21c1 }
def k21c2 : Code := { maxStack := 2, maxLocals := 1, code := jdk_44_method_3_code, exceptionTable := #[], attributes := #[] }
def k21m2 : Method := { name := "size", desc := "()I", sig := { parameters := [], returnType := some .int }, accessFlags := 1, code := some k21c2 }
def k21c3 : Code := { maxStack := 2, maxLocals := 2, code := jdk_44_method_5_code, exceptionTable := #[], attributes := #[] }
def k21m3 : Method := { name := "get", desc := "(I)Ljava/lang/Object;", sig := { parameters := [.int], returnType := some (.object "java/lang/Object") }, accessFlags := 1, code := some k21c3 }
/-- java/util/ImmutableCollections$List12 -/
def k21 : Class := { plain "java/util/ImmutableCollections$List12" (some 20) with
  accessFlags := 48
  interfaces := #[2]
  cf := some (fileOf pool21 14 #[.nestHost 20] #[{ accessFlags := 0, nameIndex := 5, descriptorIndex := 76, attributes := #[] }, { accessFlags := 0, nameIndex := 5, descriptorIndex := 85, attributes := #[] }, { accessFlags := 1, nameIndex := 51, descriptorIndex := 52, attributes := #[] }, { accessFlags := 1, nameIndex := 90, descriptorIndex := 91, attributes := #[] }] 48 2 #[70] #[{ accessFlags := 18, nameIndex := 17, descriptorIndex := 18, attributes := #[] }, { accessFlags := 18, nameIndex := 26, descriptorIndex := 18, attributes := #[] }])
  fields := #[{ name := "e0", type := (.object "java/lang/Object"), accessFlags := 18, slot := 0, constantValue := 0 }, { name := "e1", type := (.object "java/lang/Object"), accessFlags := 18, slot := 1, constantValue := 0 }]
  methods := #[k21m0, k21m1, k21m2, k21m3]
  instanceTypes := #[(.object "java/lang/Object"), (.object "java/lang/Object")]
  staticTypes := #[]
  resolved := Array.replicate 125 none
  statics := none }

def pool22 : Array CpInfo := pool [(1, .methodref 2 3), (0, .class_ 4), (0, .nameAndType 5 6), (0, u "java/util/ImmutableCollections$AbstractImmutableList"), (0, u "<init>"), (0, u "()V"), (0, .fieldref 8 9), (0, .class_ 10), (0, .nameAndType 11 12), (0, u "java/util/ImmutableCollections$ListN"), (0, u "elements"), (0, u "[Ljava/lang/Object;"), (0, .fieldref 8 14), (0, .nameAndType 15 16), (0, u "allowNulls"), (0, u "Z"), (42, .class_ 60), (0, u "java/io/Serializable"), (4, u "([Ljava/lang/Object;Z)V"), (11, u "size"), (0, u "()I"), (0, u "get"), (0, u "(I)Ljava/lang/Object;"), (33, .class_ 115), (0, u "java/util/ImmutableCollections")] 3

def k22c0 : Code := { maxStack := 2, maxLocals := 3, code := jdk_45_method_1_code, exceptionTable := #[], attributes := #[] }
def k22m0 : Method := { name := "<init>", desc := "([Ljava/lang/Object;Z)V", sig := { parameters := [(.array (.object "java/lang/Object")), .boolean], returnType := none }, accessFlags := 2, code := some k22c0 }
def k22c1 : Code := { maxStack := 1, maxLocals := 1, code := jdk_45_method_3_code, exceptionTable := #[], attributes := #[] }
def k22m1 : Method := { name := "size", desc := "()I", sig := { parameters := [], returnType := some .int }, accessFlags := 1, code := some k22c1 }
def k22c2 : Code := { maxStack := 2, maxLocals := 2, code := jdk_45_method_4_code, exceptionTable := #[], attributes := #[] }
def k22m2 : Method := { name := "get", desc := "(I)Ljava/lang/Object;", sig := { parameters := [.int], returnType := some (.object "java/lang/Object") }, accessFlags := 1, code := some k22c2 }
/-- java/util/ImmutableCollections$ListN -/
def k22 : Class := { plain "java/util/ImmutableCollections$ListN" (some 20) with
  accessFlags := 48
  interfaces := #[2]
  cf := some (fileOf pool22 8 #[.nestHost 114] #[{ accessFlags := 2, nameIndex := 5, descriptorIndex := 65, attributes := #[] }, { accessFlags := 1, nameIndex := 77, descriptorIndex := 78, attributes := #[] }, { accessFlags := 1, nameIndex := 79, descriptorIndex := 80, attributes := #[] }] 48 2 #[59] #[{ accessFlags := 18, nameIndex := 11, descriptorIndex := 12, attributes := #[] }, { accessFlags := 18, nameIndex := 15, descriptorIndex := 16, attributes := #[] }])
  fields := #[{ name := "elements", type := (.array (.object "java/lang/Object")), accessFlags := 18, slot := 0, constantValue := 0 }, { name := "allowNulls", type := .boolean, accessFlags := 18, slot := 1, constantValue := 0 }]
  methods := #[k22m0, k22m1, k22m2]
  instanceTypes := #[(.array (.object "java/lang/Object")), .boolean]
  staticTypes := #[]
  resolved := Array.replicate 119 none
  statics := none }

def pool23 : Array CpInfo := pool [(1, .class_ 2), (0, u "java/lang/Math"), (1, .class_ 6), (1, u "java/lang/Object"), (0, u "<init>"), (0, u "()V"), (89, .class_ 100), (1, u "java/lang/Math$RandomNumberGeneratorHolder"), (71, u "negativeZeroFloatBits"), (0, u "J"), (2, u "negativeZeroDoubleBits"), (21, u "max"), (2, u "min"), (43, u "$assertionsDisabled"), (0, u "Z"), (88, u "(II)I"), (2, u "twoToTheDoubleScaleDown"), (0, u "D"), (4, u "twoToTheDoubleScaleUp"), (9, u "E"), (3, u "PI"), (2, u "TAU"), (2, u "DEGREES_TO_RADIANS"), (0, u "RADIANS_TO_DEGREES")] 94

def k23m0 : Method := { name := "<init>", desc := "()V", sig := { parameters := [], returnType := none }, accessFlags := 2, code := none }
def k23c1 : Code := { maxStack := 2, maxLocals := 2, code := jdk_29_method_65_code, exceptionTable := #[], attributes := #[] }
def k23m1 : Method := { name := "max", desc := "(II)I", sig := { parameters := [.int, .int], returnType := some .int }, accessFlags := 9, code := some k23c1 }
def k23c2 : Code := { maxStack := 2, maxLocals := 2, code := jdk_29_method_69_code, exceptionTable := #[], attributes := #[] }
def k23m2 : Method := { name := "min", desc := "(II)I", sig := { parameters := [.int, .int], returnType := some .int }, accessFlags := 9, code := some k23c2 }
/-- java/lang/Math -/
def k23 : Class := { plain "java/lang/Math" (some 0) with
  accessFlags := 49
  interfaces := #[]
  cf := some (fileOf pool23 1 #[.nestMembers #[98]] #[{ accessFlags := 2, nameIndex := 7, descriptorIndex := 8, attributes := #[] }, { accessFlags := 9, nameIndex := 198, descriptorIndex := 335, attributes := #[] }, { accessFlags := 9, nameIndex := 201, descriptorIndex := 335, attributes := #[] }] 49 4 #[] #[{ accessFlags := 25, nameIndex := 354, descriptorIndex := 339, attributes := #[] }, { accessFlags := 25, nameIndex := 358, descriptorIndex := 339, attributes := #[] }, { accessFlags := 25, nameIndex := 361, descriptorIndex := 339, attributes := #[] }, { accessFlags := 26, nameIndex := 364, descriptorIndex := 339, attributes := #[] }, { accessFlags := 26, nameIndex := 365, descriptorIndex := 339, attributes := #[] }, { accessFlags := 26, nameIndex := 172, descriptorIndex := 173, attributes := #[] }, { accessFlags := 26, nameIndex := 176, descriptorIndex := 173, attributes := #[] }, { accessFlags := 8, nameIndex := 344, descriptorIndex := 339, attributes := #[] }, { accessFlags := 8, nameIndex := 338, descriptorIndex := 339, attributes := #[] }, { accessFlags := 4120, nameIndex := 245, descriptorIndex := 246, attributes := #[] }])
  fields := #[{ name := "E", type := .double, accessFlags := 25, slot := 0, constantValue := 0 }, { name := "PI", type := .double, accessFlags := 25, slot := 1, constantValue := 0 }, { name := "TAU", type := .double, accessFlags := 25, slot := 2, constantValue := 0 }, { name := "DEGREES_TO_RADIANS", type := .double, accessFlags := 26, slot := 3, constantValue := 0 }, { name := "RADIANS_TO_DEGREES", type := .double, accessFlags := 26, slot := 4, constantValue := 0 }, { name := "negativeZeroFloatBits", type := .long, accessFlags := 26, slot := 5, constantValue := 0 }, { name := "negativeZeroDoubleBits", type := .long, accessFlags := 26, slot := 6, constantValue := 0 }, { name := "twoToTheDoubleScaleUp", type := .double, accessFlags := 8, slot := 7, constantValue := 0 }, { name := "twoToTheDoubleScaleDown", type := .double, accessFlags := 8, slot := 8, constantValue := 0 }, { name := "$assertionsDisabled", type := .boolean, accessFlags := 4120, slot := 9, constantValue := 0 }]
  methods := #[k23m0, k23m1, k23m2]
  instanceTypes := #[]
  staticTypes := #[.double, .double, .double, .double, .double, .long, .long, .double, .double, .boolean]
  resolved := Array.replicate 460 none
  statics := none }

def pool24 : Array CpInfo := pool [(2, .class_ 4), (1, u "java/lang/Object"), (0, u "<init>"), (0, u "()V"), (7, .class_ 16), (1, u "java/util/Arrays"), (57, .class_ 76), (1, u "java/util/Arrays$NaturalOrder"), (9, .methodref 2 87), (0, .nameAndType 88 89), (0, u "getClass"), (0, u "()Ljava/lang/Class;"), (20, .class_ 111), (0, u "[Ljava/lang/Object;"), (1, .class_ 115), (1, u "java/util/Arrays$LegacyMergeSort"), (1, u "Z"), (32, .methodref 151 152), (0, .class_ 153), (0, .nameAndType 154 155), (0, u "java/lang/System"), (0, u "arraycopy"), (0, u "(Ljava/lang/Object;ILjava/lang/Object;II)V"), (144, .methodref 14 301), (0, .nameAndType 302 303), (0, u "copyOf"), (0, u "([Ljava/lang/Object;ILjava/lang/Class;)[Ljava/lang/Object;"), (0, .methodref 305 306), (0, .class_ 307), (0, .nameAndType 308 309), (0, u "java/lang/Math"), (0, u "min"), (0, u "(II)I"), (65, .class_ 376), (0, u "java/util/Arrays$ArrayList"), (68, u "$assertionsDisabled"), (269, u "MIN_ARRAY_SORT_GRAN"), (0, u "I"), (2, u "INSERTIONSORT_THRESHOLD"), (140, u "([Ljava/lang/Object;I)[Ljava/lang/Object;"), (114, .class_ 976), (0, u "java/util/Arrays$ArrayItr")] 52

def k24m0 : Method := { name := "<init>", desc := "()V", sig := { parameters := [], returnType := none }, accessFlags := 2, code := none }
def k24c1 : Code := { maxStack := 3, maxLocals := 2, code := jdk_65_method_119_code, exceptionTable := #[], attributes := #[] }
def k24m1 : Method := { name := "copyOf", desc := "([Ljava/lang/Object;I)[Ljava/lang/Object;", sig := { parameters := [(.array (.object "java/lang/Object")), .int], returnType := some (.array (.object "java/lang/Object")) }, accessFlags := 9, code := some k24c1 }
def k24c2 : Code := { maxStack := 6, maxLocals := 4, code := jdk_65_method_120_code, exceptionTable := #[], attributes := #[] }
def k24m2 : Method := { name := "copyOf", desc := "([Ljava/lang/Object;ILjava/lang/Class;)[Ljava/lang/Object;", sig := { parameters := [(.array (.object "java/lang/Object")), .int, (.object "java/lang/Class")], returnType := some (.array (.object "java/lang/Object")) }, accessFlags := 9, code := some k24c2 }
/-- java/util/Arrays -/
def k24 : Class := { plain "java/util/Arrays" (some 0) with
  accessFlags := 49
  interfaces := #[]
  cf := some (fileOf pool24 14 #[.nestMembers #[975, 375, 113, 74]] #[{ accessFlags := 2, nameIndex := 5, descriptorIndex := 6, attributes := #[] }, { accessFlags := 9, nameIndex := 302, descriptorIndex := 860, attributes := #[] }, { accessFlags := 9, nameIndex := 302, descriptorIndex := 303, attributes := #[] }] 49 2 #[] #[{ accessFlags := 26, nameIndex := 715, descriptorIndex := 716, attributes := #[] }, { accessFlags := 26, nameIndex := 719, descriptorIndex := 716, attributes := #[] }, { accessFlags := 4120, nameIndex := 445, descriptorIndex := 117, attributes := #[] }])
  fields := #[{ name := "MIN_ARRAY_SORT_GRAN", type := .int, accessFlags := 26, slot := 0, constantValue := 0 }, { name := "INSERTIONSORT_THRESHOLD", type := .int, accessFlags := 26, slot := 1, constantValue := 0 }, { name := "$assertionsDisabled", type := .boolean, accessFlags := 4120, slot := 2, constantValue := 0 }]
  methods := #[k24m0, k24m1, k24m2]
  instanceTypes := #[]
  staticTypes := #[.int, .int, .boolean]
  resolved := Array.replicate 1029 none
  statics := none }

def pool25 : Array CpInfo := pool [(2, .class_ 4), (1, u "java/lang/Object"), (0, u "<init>"), (0, u "()V"), (1, .class_ 10), (1, u "java/lang/System"), (0, u "allowSecurityManager"), (0, u "I"), (16, u "cons"), (0, u "Ljava/io/Console;"), (77, .class_ 110), (1, u "java/lang/System$CallersHolder"), (43, u "initialErrStream"), (0, u "Ljava/io/PrintStream;"), (19, u "security"), (0, u "Ljava/lang/SecurityManager;"), (31, .class_ 209), (0, u "java/lang/System$1"), (7, u "props"), (0, u "Ljava/util/Properties;"), (2, u "lineSeparator"), (0, u "Ljava/lang/String;"), (96, .class_ 321), (1, u "java/lang/System$LoggerFinder"), (5, .class_ 328), (0, u "java/lang/System$Logger"), (67, u "err"), (2, u "out"), (91, u "notSupportedJnuEncoding"), (15, u "in"), (17, u "initialIn"), (0, u "Ljava/io/InputStream;"), (35, u "bootLayer"), (0, u "Ljava/lang/ModuleLayer;"), (99, .class_ 664), (0, u "java/lang/System$2"), (9, u "NEVER"), (2, u "MAYBE"), (49, u "arraycopy"), (0, u "(Ljava/lang/Object;ILjava/lang/Object;II)V"), (72, .class_ 802), (0, u "java/lang/System$Logger$Level")] 31

def k25m0 : Method := { name := "<init>", desc := "()V", sig := { parameters := [], returnType := none }, accessFlags := 2, code := none }
def k25m1 : Method := { name := "arraycopy", desc := "(Ljava/lang/Object;ILjava/lang/Object;II)V", sig := { parameters := [(.object "java/lang/Object"), .int, (.object "java/lang/Object"), .int, .int], returnType := none }, accessFlags := 265, code := none }
/-- java/lang/System -/
def k25 : Class := { plain "java/lang/System" (some 0) with
  accessFlags := 49
  interfaces := #[]
  cf := some (fileOf pool25 8 #[.nestMembers #[319, 327, 801, 108, 663, 208]] #[{ accessFlags := 2, nameIndex := 5, descriptorIndex := 6, attributes := #[] }, { accessFlags := 265, nameIndex := 727, descriptorIndex := 728, attributes := #[] }] 49 2 #[] #[{ accessFlags := 25, nameIndex := 507, descriptorIndex := 526, attributes := #[] }, { accessFlags := 25, nameIndex := 399, descriptorIndex := 155, attributes := #[] }, { accessFlags := 25, nameIndex := 396, descriptorIndex := 155, attributes := #[] }, { accessFlags := 10, nameIndex := 525, descriptorIndex := 526, attributes := #[] }, { accessFlags := 26, nameIndex := 674, descriptorIndex := 12, attributes := #[] }, { accessFlags := 26, nameIndex := 677, descriptorIndex := 12, attributes := #[] }, { accessFlags := 10, nameIndex := 11, descriptorIndex := 12, attributes := #[] }, { accessFlags := 74, nameIndex := 175, descriptorIndex := 176, attributes := #[] }, { accessFlags := 10, nameIndex := 491, descriptorIndex := 222, attributes := #[] }, { accessFlags := 74, nameIndex := 29, descriptorIndex := 30, attributes := #[] }, { accessFlags := 74, nameIndex := 154, descriptorIndex := 155, attributes := #[] }, { accessFlags := 10, nameIndex := 217, descriptorIndex := 218, attributes := #[] }, { accessFlags := 10, nameIndex := 221, descriptorIndex := 222, attributes := #[] }, { accessFlags := 8, nameIndex := 562, descriptorIndex := 563, attributes := #[] }])
  fields := #[{ name := "in", type := (.object "java/io/InputStream"), accessFlags := 25, slot := 0, constantValue := 0 }, { name := "out", type := (.object "java/io/PrintStream"), accessFlags := 25, slot := 1, constantValue := 0 }, { name := "err", type := (.object "java/io/PrintStream"), accessFlags := 25, slot := 2, constantValue := 0 }, { name := "initialIn", type := (.object "java/io/InputStream"), accessFlags := 10, slot := 3, constantValue := 0 }, { name := "NEVER", type := .int, accessFlags := 26, slot := 4, constantValue := 0 }, { name := "MAYBE", type := .int, accessFlags := 26, slot := 5, constantValue := 0 }, { name := "allowSecurityManager", type := .int, accessFlags := 10, slot := 6, constantValue := 0 }, { name := "security", type := (.object "java/lang/SecurityManager"), accessFlags := 74, slot := 7, constantValue := 0 }, { name := "notSupportedJnuEncoding", type := (.object "java/lang/String"), accessFlags := 10, slot := 8, constantValue := 0 }, { name := "cons", type := (.object "java/io/Console"), accessFlags := 74, slot := 9, constantValue := 0 }, { name := "initialErrStream", type := (.object "java/io/PrintStream"), accessFlags := 74, slot := 10, constantValue := 0 }, { name := "props", type := (.object "java/util/Properties"), accessFlags := 10, slot := 11, constantValue := 0 }, { name := "lineSeparator", type := (.object "java/lang/String"), accessFlags := 10, slot := 12, constantValue := 0 }, { name := "bootLayer", type := (.object "java/lang/ModuleLayer"), accessFlags := 8, slot := 13, constantValue := 0 }]
  methods := #[k25m0, k25m1]
  instanceTypes := #[]
  staticTypes := #[(.object "java/io/InputStream"), (.object "java/io/PrintStream"), (.object "java/io/PrintStream"), (.object "java/io/InputStream"), .int, .int, .int, (.object "java/lang/SecurityManager"), (.object "java/lang/String"), (.object "java/io/Console"), (.object "java/io/PrintStream"), (.object "java/util/Properties"), (.object "java/lang/String"), (.object "java/lang/ModuleLayer")]
  resolved := Array.replicate 834 none
  statics := none }

def pool26 : Array CpInfo := pool [(2, .class_ 4), (1, u "java/lang/Object"), (0, u "<init>"), (0, u "()V"), (35, .class_ 44), (1, u "java/util/Objects"), (0, u "requireNonNull"), (0, u "(Ljava/lang/Object;)Ljava/lang/Object;")] 137

def k26m0 : Method := { name := "<init>", desc := "()V", sig := { parameters := [], returnType := none }, accessFlags := 2, code := none }
def k26c1 : Code := { maxStack := 2, maxLocals := 1, code := jdk_31_method_10_code, exceptionTable := #[], attributes := #[] }
def k26m1 : Method := { name := "requireNonNull", desc := "(Ljava/lang/Object;)Ljava/lang/Object;", sig := { parameters := [(.object "java/lang/Object")], returnType := some (.object "java/lang/Object") }, accessFlags := 9, code := some k26c1 }
/-- java/util/Objects -/
def k26 : Class := { plain "java/util/Objects" (some 0) with
  accessFlags := 49
  interfaces := #[]
  cf := some (fileOf pool26 42 #[] #[{ accessFlags := 2, nameIndex := 5, descriptorIndex := 6, attributes := #[] }, { accessFlags := 9, nameIndex := 45, descriptorIndex := 46, attributes := #[] }] 49 2 #[] #[])
  fields := #[]
  methods := #[k26m0, k26m1]
  instanceTypes := #[]
  staticTypes := #[]
  resolved := Array.replicate 184 none
  statics := none }

def pool27 : Array CpInfo := pool [(6, .class_ 8), (1, u "java/lang/Object"), (0, u "<init>"), (0, u "()V"), (1, .class_ 14), (1, u "java/lang/StringUTF16"), (31, u "$assertionsDisabled"), (0, u "Z"), (13, u "HI_BYTE_SHIFT"), (0, u "I"), (2, u "LO_BYTE_SHIFT"), (49, .methodref 12 116), (0, .nameAndType 117 118), (0, u "compress"), (0, u "([CI[BII)I"), (3, u "([CII)[B"), (138, u "coderFromArrayLen"), (0, u "([BI)B"), (106, .class_ 371), (1, u "java/lang/StringUTF16$LinesSpliterator"), (58, u "MAX_LENGTH"), (196, .class_ 628), (0, u "java/lang/StringUTF16$CodePointsSpliterator"), (0, .class_ 630), (0, u "java/lang/StringUTF16$CharsSpliterator")] 4

def k27m0 : Method := { name := "<init>", desc := "()V", sig := { parameters := [], returnType := none }, accessFlags := 0, code := none }
def k27c1 : Code := { maxStack := 2, maxLocals := 2, code := jdk_52_method_15_code, exceptionTable := #[], attributes := #[] }
def k27m1 : Method := { name := "coderFromArrayLen", desc := "([BI)B", sig := { parameters := [(.array .byte), .int], returnType := some .byte }, accessFlags := 8, code := some k27c1 }
def k27c2 : Code := { maxStack := 5, maxLocals := 6, code := jdk_52_method_16_code, exceptionTable := #[], attributes := #[] }
def k27m2 : Method := { name := "compress", desc := "([CII)[B", sig := { parameters := [(.array .char), .int, .int], returnType := some (.array .byte) }, accessFlags := 9, code := some k27c2 }
def k27c3 : Code := { maxStack := 3, maxLocals := 7, code := jdk_52_method_21_code, exceptionTable := #[], attributes := #[] }
def k27m3 : Method := { name := "compress", desc := "([CI[BII)I", sig := { parameters := [(.array .char), .int, (.array .byte), .int, .int], returnType := some .int }, accessFlags := 9, code := some k27c3 }
/-- java/lang/StringUTF16 -/
def k27 : Class := { plain "java/lang/StringUTF16" (some 0) with
  accessFlags := 48
  interfaces := #[]
  cf := some (fileOf pool27 12 #[.nestMembers #[627, 629, 369]] #[{ accessFlags := 0, nameIndex := 9, descriptorIndex := 10, attributes := #[] }, { accessFlags := 8, nameIndex := 261, descriptorIndex := 262, attributes := #[] }, { accessFlags := 9, nameIndex := 117, descriptorIndex := 122, attributes := #[] }, { accessFlags := 9, nameIndex := 117, descriptorIndex := 118, attributes := #[] }] 48 6 #[] #[{ accessFlags := 26, nameIndex := 61, descriptorIndex := 62, attributes := #[] }, { accessFlags := 26, nameIndex := 65, descriptorIndex := 62, attributes := #[] }, { accessFlags := 24, nameIndex := 430, descriptorIndex := 62, attributes := #[] }, { accessFlags := 4120, nameIndex := 46, descriptorIndex := 47, attributes := #[] }])
  fields := #[{ name := "HI_BYTE_SHIFT", type := .int, accessFlags := 26, slot := 0, constantValue := 0 }, { name := "LO_BYTE_SHIFT", type := .int, accessFlags := 26, slot := 1, constantValue := 0 }, { name := "MAX_LENGTH", type := .int, accessFlags := 24, slot := 2, constantValue := 0 }, { name := "$assertionsDisabled", type := .boolean, accessFlags := 4120, slot := 3, constantValue := 0 }]
  methods := #[k27m0, k27m1, k27m2, k27m3]
  instanceTypes := #[]
  staticTypes := #[.int, .int, .int, .boolean]
  resolved := Array.replicate 635 none
  statics := none }

def pool28 : Array CpInfo := pool [(4, .class_ 6), (1, u "java/lang/Object"), (0, u "<init>"), (0, u "()V"), (5, .class_ 16), (1, u "java/lang/StringLatin1"), (73, u "canEncode"), (14, u "(C)Z"), (15, u "$assertionsDisabled"), (0, u "Z"), (98, .class_ 223), (1, u "java/lang/StringLatin1$LinesSpliterator"), (156, u "toBytes"), (1, u "(C)[B"), (7, .class_ 391), (0, u "java/lang/StringLatin1$CharsSpliterator")] 3

def k28m0 : Method := { name := "<init>", desc := "()V", sig := { parameters := [], returnType := none }, accessFlags := 0, code := none }
def k28c1 : Code := { maxStack := 2, maxLocals := 1, code := jdk_43_method_3_code, exceptionTable := #[], attributes := #[] }
def k28m1 : Method := { name := "canEncode", desc := "(C)Z", sig := { parameters := [.char], returnType := some .boolean }, accessFlags := 9, code := some k28c1 }
def k28c2 : Code := { maxStack := 4, maxLocals := 1, code := jdk_43_method_46_code, exceptionTable := #[], attributes := #[] }
def k28m2 : Method := { name := "toBytes", desc := "(C)[B", sig := { parameters := [.char], returnType := some (.array .byte) }, accessFlags := 9, code := some k28c2 }
/-- java/lang/StringLatin1 -/
def k28 : Class := { plain "java/lang/StringLatin1" (some 0) with
  accessFlags := 48
  interfaces := #[]
  cf := some (fileOf pool28 14 #[.nestMembers #[390, 221]] #[{ accessFlags := 0, nameIndex := 7, descriptorIndex := 8, attributes := #[] }, { accessFlags := 9, nameIndex := 90, descriptorIndex := 105, attributes := #[] }, { accessFlags := 9, nameIndex := 380, descriptorIndex := 382, attributes := #[] }] 48 4 #[] #[{ accessFlags := 4120, nameIndex := 121, descriptorIndex := 122, attributes := #[] }])
  fields := #[{ name := "$assertionsDisabled", type := .boolean, accessFlags := 4120, slot := 0, constantValue := 0 }]
  methods := #[k28m0, k28m1, k28m2]
  instanceTypes := #[]
  staticTypes := #[.boolean]
  resolved := Array.replicate 395 none
  statics := none }

def pool29 : Array CpInfo := pool [(2, .class_ 4), (1, u "java/lang/Object"), (0, u "<init>"), (0, u "()V"), (17, .class_ 26), (1, u "jdk/internal/util/Preconditions"), (28, .class_ 56), (0, u "jdk/internal/util/Preconditions$4"), (57, .class_ 115), (0, u "jdk/internal/util/Preconditions$1"), (7, u "SIOOBE_FORMATTER"), (0, u "Ljava/util/function/BiFunction;"), (0, .class_ 126), (0, u "jdk/internal/util/Preconditions$2"), (3, u "AIOOBE_FORMATTER"), (0, .class_ 132), (0, u "jdk/internal/util/Preconditions$3"), (3, u "IOOBE_FORMATTER")] 57

def k29m0 : Method := { name := "<init>", desc := "()V", sig := { parameters := [], returnType := none }, accessFlags := 1, code := none }
/-- jdk/internal/util/Preconditions -/
def k29 : Class := { plain "jdk/internal/util/Preconditions" (some 0) with
  accessFlags := 33
  interfaces := #[]
  cf := some (fileOf pool29 24 #[.nestMembers #[55, 131, 125, 114]] #[{ accessFlags := 1, nameIndex := 5, descriptorIndex := 6, attributes := #[] }] 33 2 #[] #[{ accessFlags := 25, nameIndex := 123, descriptorIndex := 124, attributes := #[] }, { accessFlags := 25, nameIndex := 130, descriptorIndex := 124, attributes := #[] }, { accessFlags := 25, nameIndex := 136, descriptorIndex := 124, attributes := #[] }])
  fields := #[{ name := "SIOOBE_FORMATTER", type := (.object "java/util/function/BiFunction"), accessFlags := 25, slot := 0, constantValue := 0 }, { name := "AIOOBE_FORMATTER", type := (.object "java/util/function/BiFunction"), accessFlags := 25, slot := 1, constantValue := 0 }, { name := "IOOBE_FORMATTER", type := (.object "java/util/function/BiFunction"), accessFlags := 25, slot := 2, constantValue := 0 }]
  methods := #[k29m0]
  instanceTypes := #[]
  staticTypes := #[(.object "java/util/function/BiFunction"), (.object "java/util/function/BiFunction"), (.object "java/util/function/BiFunction")]
  resolved := Array.replicate 194 none
  statics := some 3 }

def pool30 : Array CpInfo := pool [(9, u "<init>"), (6, .class_ 18), (1, u "java/lang/Object"), (0, u "()V"), (1, .class_ 23), (1, u "jdk/internal/util/ArraysSupport"), (0, u "LOG2_ARRAY_LONG_INDEX_SCALE"), (0, u "I"), (2, u "U"), (0, u "Ljdk/internal/misc/Unsafe;"), (8, u "BIG_ENDIAN"), (0, u "Z"), (8, u "LOG2_BYTE_BIT_SIZE"), (4, u "LOG2_ARRAY_INT_INDEX_SCALE"), (54, u "JLA"), (0, u "Ljdk/internal/access/JavaLangAccess;"), (11, u "LOG2_ARRAY_BOOLEAN_INDEX_SCALE"), (9, u "LOG2_ARRAY_BYTE_INDEX_SCALE"), (5, u "LOG2_ARRAY_CHAR_INDEX_SCALE"), (5, u "LOG2_ARRAY_SHORT_INDEX_SCALE"), (18, u "LOG2_ARRAY_FLOAT_INDEX_SCALE"), (24, u "LOG2_ARRAY_DOUBLE_INDEX_SCALE"), (89, u "T_BOOLEAN"), (2, u "T_CHAR"), (1, u "T_FLOAT"), (1, u "T_DOUBLE"), (1, u "T_BYTE"), (1, u "T_SHORT"), (1, u "T_INT"), (1, u "T_LONG"), (1, u "SOFT_MAX_ARRAY_LENGTH")] 83

def k30m0 : Method := { name := "<init>", desc := "()V", sig := { parameters := [], returnType := none }, accessFlags := 2, code := none }
/-- jdk/internal/util/ArraysSupport -/
def k30 : Class := { plain "jdk/internal/util/ArraysSupport" (some 0) with
  accessFlags := 33
  interfaces := #[]
  cf := some (fileOf pool30 21 #[] #[{ accessFlags := 2, nameIndex := 9, descriptorIndex := 19, attributes := #[] }] 33 16 #[] #[{ accessFlags := 24, nameIndex := 28, descriptorIndex := 29, attributes := #[] }, { accessFlags := 26, nameIndex := 38, descriptorIndex := 39, attributes := #[] }, { accessFlags := 25, nameIndex := 121, descriptorIndex := 25, attributes := #[] }, { accessFlags := 25, nameIndex := 131, descriptorIndex := 25, attributes := #[] }, { accessFlags := 25, nameIndex := 137, descriptorIndex := 25, attributes := #[] }, { accessFlags := 25, nameIndex := 143, descriptorIndex := 25, attributes := #[] }, { accessFlags := 25, nameIndex := 53, descriptorIndex := 25, attributes := #[] }, { accessFlags := 25, nameIndex := 24, descriptorIndex := 25, attributes := #[] }, { accessFlags := 25, nameIndex := 162, descriptorIndex := 25, attributes := #[] }, { accessFlags := 25, nameIndex := 187, descriptorIndex := 25, attributes := #[] }, { accessFlags := 26, nameIndex := 48, descriptorIndex := 25, attributes := #[] }, { accessFlags := 25, nameIndex := 277, descriptorIndex := 25, attributes := #[] }, { accessFlags := 25, nameIndex := 280, descriptorIndex := 25, attributes := #[] }, { accessFlags := 25, nameIndex := 282, descriptorIndex := 25, attributes := #[] }, { accessFlags := 25, nameIndex := 284, descriptorIndex := 25, attributes := #[] }, { accessFlags := 25, nameIndex := 286, descriptorIndex := 25, attributes := #[] }, { accessFlags := 25, nameIndex := 288, descriptorIndex := 25, attributes := #[] }, { accessFlags := 25, nameIndex := 290, descriptorIndex := 25, attributes := #[] }, { accessFlags := 25, nameIndex := 292, descriptorIndex := 25, attributes := #[] }, { accessFlags := 26, nameIndex := 108, descriptorIndex := 109, attributes := #[] }, { accessFlags := 25, nameIndex := 294, descriptorIndex := 25, attributes := #[] }])
  fields := #[{ name := "U", type := (.object "jdk/internal/misc/Unsafe"), accessFlags := 24, slot := 0, constantValue := 0 }, { name := "BIG_ENDIAN", type := .boolean, accessFlags := 26, slot := 1, constantValue := 0 }, { name := "LOG2_ARRAY_BOOLEAN_INDEX_SCALE", type := .int, accessFlags := 25, slot := 2, constantValue := 0 }, { name := "LOG2_ARRAY_BYTE_INDEX_SCALE", type := .int, accessFlags := 25, slot := 3, constantValue := 0 }, { name := "LOG2_ARRAY_CHAR_INDEX_SCALE", type := .int, accessFlags := 25, slot := 4, constantValue := 0 }, { name := "LOG2_ARRAY_SHORT_INDEX_SCALE", type := .int, accessFlags := 25, slot := 5, constantValue := 0 }, { name := "LOG2_ARRAY_INT_INDEX_SCALE", type := .int, accessFlags := 25, slot := 6, constantValue := 0 }, { name := "LOG2_ARRAY_LONG_INDEX_SCALE", type := .int, accessFlags := 25, slot := 7, constantValue := 0 }, { name := "LOG2_ARRAY_FLOAT_INDEX_SCALE", type := .int, accessFlags := 25, slot := 8, constantValue := 0 }, { name := "LOG2_ARRAY_DOUBLE_INDEX_SCALE", type := .int, accessFlags := 25, slot := 9, constantValue := 0 }, { name := "LOG2_BYTE_BIT_SIZE", type := .int, accessFlags := 26, slot := 10, constantValue := 0 }, { name := "T_BOOLEAN", type := .int, accessFlags := 25, slot := 11, constantValue := 0 }, { name := "T_CHAR", type := .int, accessFlags := 25, slot := 12, constantValue := 0 }, { name := "T_FLOAT", type := .int, accessFlags := 25, slot := 13, constantValue := 0 }, { name := "T_DOUBLE", type := .int, accessFlags := 25, slot := 14, constantValue := 0 }, { name := "T_BYTE", type := .int, accessFlags := 25, slot := 15, constantValue := 0 }, { name := "T_SHORT", type := .int, accessFlags := 25, slot := 16, constantValue := 0 }, { name := "T_INT", type := .int, accessFlags := 25, slot := 17, constantValue := 0 }, { name := "T_LONG", type := .int, accessFlags := 25, slot := 18, constantValue := 0 }, { name := "JLA", type := (.object "jdk/internal/access/JavaLangAccess"), accessFlags := 26, slot := 19, constantValue := 0 }, { name := "SOFT_MAX_ARRAY_LENGTH", type := .int, accessFlags := 25, slot := 20, constantValue := 0 }]
  methods := #[k30m0]
  instanceTypes := #[]
  staticTypes := #[(.object "jdk/internal/misc/Unsafe"), .boolean, .int, .int, .int, .int, .int, .int, .int, .int, .int, .int, .int, .int, .int, .int, .int, .int, .int, (.object "jdk/internal/access/JavaLangAccess"), .int]
  resolved := Array.replicate 378 none
  statics := none }

def pool31 : Array CpInfo := pool [(1, u "java/lang/Class"), (0, .class_ 1), (0, u "java/lang/Object"), (0, .class_ 3)] 3

/-- java/lang/Class -/
def k31 : Class := { plain "java/lang/Class" (some 0) with
  accessFlags := 49
  interfaces := #[]
  cf := some (fileOf pool31 2 #[] #[] 49 4 #[] #[])
  fields := #[]
  methods := #[]
  instanceTypes := #[]
  staticTypes := #[]
  resolved := Array.replicate 8 none
  statics := none }

/-- the primitive byte -/
def k32 : Class := { plain "byte" none with kind := .primitive 'B', accessFlags := 0x411 }
/-- [B -/
def k33 : Class := { plain "[B" (some 0) with kind := .array 32 .byte, interfaces := #[15, 2], accessFlags := 1041 }

/-- the primitive char -/
def k34 : Class := { plain "char" none with kind := .primitive 'C', accessFlags := 0x411 }
/-- [C -/
def k35 : Class := { plain "[C" (some 0) with kind := .array 34 .char, interfaces := #[15, 2], accessFlags := 1041 }

/-- the primitive int -/
def k36 : Class := { plain "int" none with kind := .primitive 'I', accessFlags := 0x411 }
/-- [I -/
def k37 : Class := { plain "[I" (some 0) with kind := .array 36 .int, interfaces := #[15, 2], accessFlags := 1041 }

/-- [Ljava/lang/Object; -/
def k38 : Class := { plain "[Ljava/lang/Object;" (some 0) with kind := .array 0 (.object "java/lang/Object"), interfaces := #[15, 2], accessFlags := 1041, mirror := some 4 }

def heap : Heap := #[{ cls := 7, slots := #[.long 0, .int 1, .null, .int 0, .null, .int 0, .int 0], vm := .statics 7 },
  { cls := 16, slots := #[.long 0, .int 0, .ref 7, .ref 8], vm := .statics 16 },
  { cls := 18, slots := #[.long 0, .int 0, .null, .ref 9, .ref 6, .null, .null, .null, .int 0, .int 1], vm := .statics 18 },
  { cls := 29, slots := #[.null, .null, .null], vm := .statics 29 },
  { cls := 31, slots := #[], vm := .mirror 38 },
  { cls := 38, slots := #[], vm := .none },
  { cls := 22, slots := #[.ref 5, .int 0], vm := .none },
  { cls := 38, slots := #[], vm := .none },
  { cls := 38, slots := #[], vm := .none },
  { cls := 0, slots := #[], vm := .none }]
def classes : Array Class := #[k0, k1, k2, k3, k4, k5, k6, k7, k8, k9, k10, k11, k12, k13, k14, k15, k16, k17, k18, k19, k20, k21, k22, k23, k24, k25, k26, k27, k28, k29, k30, k31, k32, k33, k34, k35, k36, k37, k38]
def interned : List (Array UInt16 × Addr) := []
def slotsUsed : Nat := 26
def theMethod : MethodId := ⟨1, 2⟩
def args0 : Array Value := #[.int 5, .int 6, .int 7, .int 8, .int 9]
def aboutOver (below : List Frame) : State where
  vm := { classes := classes, interned := interned.toArray }
  heap := heap
  slotsUsed := slotsUsed
  threads := #[{ frames := .invoking theMethod args0 :: below }]
def below0 : List Frame := [.native { method := ⟨0, 0⟩, args := #[] }]
def about1 : State := aboutOver below0
def p0 : Program := .bare "" "" ""
def e0 : Env := launch0.env 0 0 0
theorem w_frames : about1.frames = Frame.invoking theMethod args0 :: below0 := rfl
set_option maxRecDepth 65536 in
theorem w_args : argsFit about1.vm theMethod args0 = true := by decide +kernel
set_option maxRecDepth 65536 in
theorem w_heap : heapFits about1 = true := by decide +kernel
set_option maxRecDepth 65536 in
theorem w_runnable : about1.curStatus? = some .runnable := by decide +kernel
set_option maxRecDepth 65536 in
theorem w_alone : about1.alone = true := by decide +kernel
set_option maxRecDepth 65536 in
theorem w_named : about1.methodNamed? x = some theMethod := by decide +kernel
set_option maxRecDepth 65536 in
theorem w_hears : about1.hears theMethod below0 = true := by decide +kernel
set_option maxRecDepth 65536 in
theorem w_ripe : about1.ripe theMethod args0 below0 = true := by decide +kernel
theorem w_running : about1.status = .running := rfl
set_option maxRecDepth 65536 in
theorem w_room : about1.hasRoom e0.platform room_1 = true :=
  launch0.hasRoom_least _ room_1 (by decide +kernel) (by decide +kernel) (by decide +kernel) (by decide +kernel) (by decide +kernel) (by decide +kernel)
theorem allAtoms_all (ts : List Jvm.Cond) (a : Array Jvm.Value) (st : Jvm.State) : (allAtoms ts).before a st = ts.all (fun c => c.before a st) := by
  induction ts with
  | nil => rfl
  | cons c t ih =>
    show (Jvm.Cond.and c (allAtoms t)).before a st = _
    rw [Jvm.Cond.before_and, ih, List.all_cons]
def words1 : List Jvm.Cond := Jvm.Cond.code x code maxLocals ret :: tables_1
/-- a 'code' word, met by the world's own term for the bytes: nothing is compared byte by byte -/
theorem code_word {y : MethodName} {bytes : ByteArray} {mx : Nat} {rt : Option FieldType} {a : Array Value} {s : State} {m : MethodId} {meth : Method} {c : Code} (h1 : s.methodNamed? y = some m) (h2 : s.vm.method? m = some meth) (h3 : meth.code = some c) (h4 : c.code = bytes)
    (h5 : (c.maxLocals == mx && c.exceptionTable.isEmpty && decide (c.maxStack ≤ mostOperands) && decide (meth.sig.returnType = rt) && !meth.locks && decide (parseMethodDescriptor y.desc = some meth.sig)) = true) : (Jvm.Cond.code y bytes mx rt).before a s = true := by
  simp only [Bool.and_eq_true, beq_iff_eq, Bool.not_eq_true', decide_eq_true_eq] at h5
  obtain ⟨⟨⟨⟨⟨g1, g2⟩, g3⟩, g4⟩, g5⟩, g6⟩ := h5
  simp [Cond.before, Cond.holds, Cond.value, h1, h2, h3, h4, g1, g2, g3, g4, g5, g6]
def isCode : Jvm.Cond → Bool
  | .code _ _ _ _ => true
  | _ => false
theorem all_split {L : List Jvm.Cond} {P : Jvm.Cond → Bool} (h1 : L.all (fun c => isCode c || P c) = true) (h2 : ∀ c ∈ L.filter isCode, P c = true) : L.all P = true := by
  refine List.all_eq_true.mpr fun c hc => ?_
  have h := List.all_eq_true.mp h1 c hc
  rcases Bool.eq_false_or_eq_true (isCode c) with hi | hi
  · exact h2 c (List.mem_filter.mpr ⟨hc, hi⟩)
  · simpa [hi] using h
set_option maxRecDepth 65536 in
theorem w_c0 : (Jvm.Cond.code x code maxLocals ret).before args0 about1 = true := code_word (m := ⟨1, 2⟩) (meth := k1m2) (c := k1c2) (by decide +kernel) rfl rfl rfl (by decide +kernel)
set_option maxRecDepth 65536 in
theorem w_c1 : (Jvm.Cond.code ({ cls := "com/example/nightcrawler/nightcrawler/engine/CommittedBatchesNonePinLaw", name := "mk", desc := "(I)Ljava/lang/String;" } : Jvm.MethodName) method_2_code (4 : Nat) (Option.some (Jvm.ClassFile.FieldType.object "java/lang/String"))).before args0 about1 = true := code_word (m := ⟨1, 1⟩) (meth := k1m1) (c := k1c1) (by decide +kernel) rfl rfl rfl (by decide +kernel)
set_option maxRecDepth 65536 in
theorem w_c2 : (Jvm.Cond.code ({ cls := "java/lang/String", name := "<init>", desc := "([C)V" } : Jvm.MethodName) jdk_42_method_3_code (2 : Nat) (Option.none : Option Jvm.ClassFile.FieldType)).before args0 about1 = true := code_word (m := ⟨7, 1⟩) (meth := k7m1) (c := k7c1) (by decide +kernel) rfl rfl rfl (by decide +kernel)
set_option maxRecDepth 65536 in
theorem w_c3 : (Jvm.Cond.code ({ cls := "java/lang/String", name := "<init>", desc := "([CIILjava/lang/Void;)V" } : Jvm.MethodName) jdk_42_method_149_code (6 : Nat) (Option.none : Option Jvm.ClassFile.FieldType)).before args0 about1 = true := code_word (m := ⟨7, 4⟩) (meth := k7m4) (c := k7c4) (by decide +kernel) rfl rfl rfl (by decide +kernel)
set_option maxRecDepth 65536 in
theorem w_c4 : (Jvm.Cond.code ({ cls := "java/lang/Object", name := "<init>", desc := "()V" } : Jvm.MethodName) object_method_1_code (1 : Nat) (Option.none : Option Jvm.ClassFile.FieldType)).before args0 about1 = true := code_word (m := ⟨0, 0⟩) (meth := k0m0) (c := k0c0) (by decide +kernel) rfl rfl rfl (by decide +kernel)
set_option maxRecDepth 65536 in
theorem w_c5 : (Jvm.Cond.code ({ cls := "java/util/ArrayList", name := "<init>", desc := "()V" } : Jvm.MethodName) jdk_38_method_2_code (1 : Nat) (Option.none : Option Jvm.ClassFile.FieldType)).before args0 about1 = true := code_word (m := ⟨16, 0⟩) (meth := k16m0) (c := k16c0) (by decide +kernel) rfl rfl rfl (by decide +kernel)
set_option maxRecDepth 65536 in
theorem w_c6 : (Jvm.Cond.code ({ cls := "java/util/AbstractList", name := "<init>", desc := "()V" } : Jvm.MethodName) jdk_39_method_1_code (1 : Nat) (Option.none : Option Jvm.ClassFile.FieldType)).before args0 about1 = true := code_word (m := ⟨13, 0⟩) (meth := k13m0) (c := k13c0) (by decide +kernel) rfl rfl rfl (by decide +kernel)
set_option maxRecDepth 65536 in
theorem w_c7 : (Jvm.Cond.code ({ cls := "java/util/AbstractCollection", name := "<init>", desc := "()V" } : Jvm.MethodName) jdk_22_method_1_code (1 : Nat) (Option.none : Option Jvm.ClassFile.FieldType)).before args0 about1 = true := code_word (m := ⟨10, 0⟩) (meth := k10m0) (c := k10c0) (by decide +kernel) rfl rfl rfl (by decide +kernel)
set_option maxRecDepth 65536 in
theorem w_c8 : (Jvm.Cond.code ({ cls := "com/example/nightcrawler/nightcrawler/engine/CommittedBatches", name := "none", desc := "(Ljava/util/List;)Lcom/example/nightcrawler/nightcrawler/engine/CommittedBatches;" } : Jvm.MethodName) prog_3_method_3_code (1 : Nat) (Option.some (Jvm.ClassFile.FieldType.object "com/example/nightcrawler/nightcrawler/engine/CommittedBatches"))).before args0 about1 = true := code_word (m := ⟨17, 1⟩) (meth := k17m1) (c := k17c1) (by decide +kernel) rfl rfl rfl (by decide +kernel)
set_option maxRecDepth 65536 in
theorem w_c9 : (Jvm.Cond.code ({ cls := "com/example/nightcrawler/nightcrawler/engine/CommittedBatches", name := "<init>", desc := "(JJJZLjava/util/List;)V" } : Jvm.MethodName) prog_3_method_1_code (9 : Nat) (Option.none : Option Jvm.ClassFile.FieldType)).before args0 about1 = true := code_word (m := ⟨17, 0⟩) (meth := k17m0) (c := k17c0) (by decide +kernel) rfl rfl rfl (by decide +kernel)
set_option maxRecDepth 65536 in
theorem w_c10 : (Jvm.Cond.code ({ cls := "java/util/List", name := "copyOf", desc := "(Ljava/util/Collection;)Ljava/util/List;" } : Jvm.MethodName) jdk_40_method_48_code (1 : Nat) (Option.some (Jvm.ClassFile.FieldType.object "java/util/List"))).before args0 about1 = true := code_word (m := ⟨12, 4⟩) (meth := k12m4) (c := k12c4) (by decide +kernel) rfl rfl rfl (by decide +kernel)
set_option maxRecDepth 65536 in
theorem w_c11 : (Jvm.Cond.code ({ cls := "java/util/ImmutableCollections", name := "listCopy", desc := "(Ljava/util/Collection;)Ljava/util/List;" } : Jvm.MethodName) jdk_56_method_3_code (2 : Nat) (Option.some (Jvm.ClassFile.FieldType.object "java/util/List"))).before args0 about1 = true := code_word (m := ⟨18, 1⟩) (meth := k18m1) (c := k18c1) (by decide +kernel) rfl rfl rfl (by decide +kernel)
set_option maxRecDepth 65536 in
theorem w_c12 : (Jvm.Cond.code ({ cls := "java/util/ArrayList", name := "isEmpty", desc := "()Z" } : Jvm.MethodName) jdk_38_method_9_code (1 : Nat) (Option.some Jvm.ClassFile.FieldType.boolean)).before args0 about1 = true := code_word (m := ⟨16, 3⟩) (meth := k16m3) (c := k16c3) (by decide +kernel) rfl rfl rfl (by decide +kernel)
set_option maxRecDepth 65536 in
theorem w_c13 : (Jvm.Cond.code ({ cls := "java/util/List", name := "of", desc := "()Ljava/util/List;" } : Jvm.MethodName) jdk_40_method_36_code (0 : Nat) (Option.some (Jvm.ClassFile.FieldType.object "java/util/List"))).before args0 about1 = true := code_word (m := ⟨12, 2⟩) (meth := k12m2) (c := k12c2) (by decide +kernel) rfl rfl rfl (by decide +kernel)
set_option maxRecDepth 65536 in
theorem w_c14 : (Jvm.Cond.code ({ cls := "java/util/ArrayList", name := "add", desc := "(Ljava/lang/Object;)Z" } : Jvm.MethodName) jdk_38_method_25_code (2 : Nat) (Option.some Jvm.ClassFile.FieldType.boolean)).before args0 about1 = true := code_word (m := ⟨16, 6⟩) (meth := k16m6) (c := k16c6) (by decide +kernel) rfl rfl rfl (by decide +kernel)
set_option maxRecDepth 65536 in
theorem w_c15 : (Jvm.Cond.code ({ cls := "java/util/ArrayList", name := "add", desc := "(Ljava/lang/Object;[Ljava/lang/Object;I)V" } : Jvm.MethodName) jdk_38_method_24_code (4 : Nat) (Option.none : Option Jvm.ClassFile.FieldType)).before args0 about1 = true := code_word (m := ⟨16, 5⟩) (meth := k16m5) (c := k16c5) (by decide +kernel) rfl rfl rfl (by decide +kernel)
set_option maxRecDepth 65536 in
theorem w_c16 : (Jvm.Cond.code ({ cls := "java/util/ArrayList", name := "grow", desc := "()[Ljava/lang/Object;" } : Jvm.MethodName) jdk_38_method_7_code (1 : Nat) (Option.some (Jvm.ClassFile.FieldType.array (Jvm.ClassFile.FieldType.object "java/lang/Object")))).before args0 about1 = true := code_word (m := ⟨16, 2⟩) (meth := k16m2) (c := k16c2) (by decide +kernel) rfl rfl rfl (by decide +kernel)
set_option maxRecDepth 65536 in
theorem w_c17 : (Jvm.Cond.code ({ cls := "java/util/ArrayList", name := "grow", desc := "(I)[Ljava/lang/Object;" } : Jvm.MethodName) jdk_38_method_6_code (4 : Nat) (Option.some (Jvm.ClassFile.FieldType.array (Jvm.ClassFile.FieldType.object "java/lang/Object")))).before args0 about1 = true := code_word (m := ⟨16, 1⟩) (meth := k16m1) (c := k16c1) (by decide +kernel) rfl rfl rfl (by decide +kernel)
set_option maxRecDepth 65536 in
theorem w_c18 : (Jvm.Cond.code ({ cls := "java/lang/Math", name := "max", desc := "(II)I" } : Jvm.MethodName) jdk_29_method_65_code (2 : Nat) (Option.some Jvm.ClassFile.FieldType.int)).before args0 about1 = true := code_word (m := ⟨23, 1⟩) (meth := k23m1) (c := k23c1) (by decide +kernel) rfl rfl rfl (by decide +kernel)
set_option maxRecDepth 65536 in
theorem w_c19 : (Jvm.Cond.code ({ cls := "com/example/nightcrawler/nightcrawler/engine/CommittedBatches", name := "last", desc := "()Ljava/util/List;" } : Jvm.MethodName) prog_3_method_8_code (1 : Nat) (Option.some (Jvm.ClassFile.FieldType.object "java/util/List"))).before args0 about1 = true := code_word (m := ⟨17, 6⟩) (meth := k17m6) (c := k17c6) (by decide +kernel) rfl rfl rfl (by decide +kernel)
set_option maxRecDepth 65536 in
theorem w_c20 : (Jvm.Cond.code ({ cls := "com/example/nightcrawler/nightcrawler/engine/CommittedBatches", name := "batches", desc := "()J" } : Jvm.MethodName) prog_3_method_4_code (1 : Nat) (Option.some Jvm.ClassFile.FieldType.long)).before args0 about1 = true := code_word (m := ⟨17, 2⟩) (meth := k17m2) (c := k17c2) (by decide +kernel) rfl rfl rfl (by decide +kernel)
set_option maxRecDepth 65536 in
theorem w_c21 : (Jvm.Cond.code ({ cls := "com/example/nightcrawler/nightcrawler/engine/CommittedBatches", name := "deleted", desc := "()J" } : Jvm.MethodName) prog_3_method_5_code (1 : Nat) (Option.some Jvm.ClassFile.FieldType.long)).before args0 about1 = true := code_word (m := ⟨17, 3⟩) (meth := k17m3) (c := k17c3) (by decide +kernel) rfl rfl rfl (by decide +kernel)
set_option maxRecDepth 65536 in
theorem w_c22 : (Jvm.Cond.code ({ cls := "com/example/nightcrawler/nightcrawler/engine/CommittedBatches", name := "lost", desc := "()J" } : Jvm.MethodName) prog_3_method_6_code (1 : Nat) (Option.some Jvm.ClassFile.FieldType.long)).before args0 about1 = true := code_word (m := ⟨17, 4⟩) (meth := k17m4) (c := k17c4) (by decide +kernel) rfl rfl rfl (by decide +kernel)
set_option maxRecDepth 65536 in
theorem w_c23 : (Jvm.Cond.code ({ cls := "com/example/nightcrawler/nightcrawler/engine/CommittedBatches", name := "usedUp", desc := "()Z" } : Jvm.MethodName) prog_3_method_7_code (1 : Nat) (Option.some Jvm.ClassFile.FieldType.boolean)).before args0 about1 = true := code_word (m := ⟨17, 5⟩) (meth := k17m5) (c := k17c5) (by decide +kernel) rfl rfl rfl (by decide +kernel)
set_option maxRecDepth 65536 in
theorem w_c24 : (Jvm.Cond.code ({ cls := "java/util/ImmutableCollections$ListN", name := "size", desc := "()I" } : Jvm.MethodName) jdk_45_method_3_code (1 : Nat) (Option.some Jvm.ClassFile.FieldType.int)).before args0 about1 = true := code_word (m := ⟨22, 1⟩) (meth := k22m1) (c := k22c1) (by decide +kernel) rfl rfl rfl (by decide +kernel)
set_option maxRecDepth 65536 in
theorem w_c25 : (Jvm.Cond.code ({ cls := "java/util/ArrayList", name := "toArray", desc := "()[Ljava/lang/Object;" } : Jvm.MethodName) jdk_38_method_16_code (1 : Nat) (Option.some (Jvm.ClassFile.FieldType.array (Jvm.ClassFile.FieldType.object "java/lang/Object")))).before args0 about1 = true := code_word (m := ⟨16, 4⟩) (meth := k16m4) (c := k16c4) (by decide +kernel) rfl rfl rfl (by decide +kernel)
set_option maxRecDepth 65536 in
theorem w_c26 : (Jvm.Cond.code ({ cls := "java/util/Arrays", name := "copyOf", desc := "([Ljava/lang/Object;I)[Ljava/lang/Object;" } : Jvm.MethodName) jdk_65_method_119_code (2 : Nat) (Option.some (Jvm.ClassFile.FieldType.array (Jvm.ClassFile.FieldType.object "java/lang/Object")))).before args0 about1 = true := code_word (m := ⟨24, 1⟩) (meth := k24m1) (c := k24c1) (by decide +kernel) rfl rfl rfl (by decide +kernel)
set_option maxRecDepth 65536 in
theorem w_c27 : (Jvm.Cond.code ({ cls := "java/util/Arrays", name := "copyOf", desc := "([Ljava/lang/Object;ILjava/lang/Class;)[Ljava/lang/Object;" } : Jvm.MethodName) jdk_65_method_120_code (4 : Nat) (Option.some (Jvm.ClassFile.FieldType.array (Jvm.ClassFile.FieldType.object "java/lang/Object")))).before args0 about1 = true := code_word (m := ⟨24, 2⟩) (meth := k24m2) (c := k24c2) (by decide +kernel) rfl rfl rfl (by decide +kernel)
set_option maxRecDepth 65536 in
theorem w_c28 : (Jvm.Cond.code ({ cls := "java/lang/Math", name := "min", desc := "(II)I" } : Jvm.MethodName) jdk_29_method_69_code (2 : Nat) (Option.some Jvm.ClassFile.FieldType.int)).before args0 about1 = true := code_word (m := ⟨23, 2⟩) (meth := k23m2) (c := k23c2) (by decide +kernel) rfl rfl rfl (by decide +kernel)
set_option maxRecDepth 65536 in
theorem w_c29 : (Jvm.Cond.code ({ cls := "java/util/List", name := "of", desc := "([Ljava/lang/Object;)Ljava/util/List;" } : Jvm.MethodName) jdk_40_method_47_code (2 : Nat) (Option.some (Jvm.ClassFile.FieldType.object "java/util/List"))).before args0 about1 = true := code_word (m := ⟨12, 3⟩) (meth := k12m3) (c := k12c3) (by decide +kernel) rfl rfl rfl (by decide +kernel)
set_option maxRecDepth 65536 in
theorem w_c30 : (Jvm.Cond.code ({ cls := "java/util/ImmutableCollections", name := "listFromArray", desc := "([Ljava/lang/Object;)Ljava/util/List;" } : Jvm.MethodName) jdk_56_method_4_code (3 : Nat) (Option.some (Jvm.ClassFile.FieldType.object "java/util/List"))).before args0 about1 = true := code_word (m := ⟨18, 2⟩) (meth := k18m2) (c := k18c2) (by decide +kernel) rfl rfl rfl (by decide +kernel)
set_option maxRecDepth 65536 in
theorem w_c31 : (Jvm.Cond.code ({ cls := "java/util/Objects", name := "requireNonNull", desc := "(Ljava/lang/Object;)Ljava/lang/Object;" } : Jvm.MethodName) jdk_31_method_10_code (1 : Nat) (Option.some (Jvm.ClassFile.FieldType.object "java/lang/Object"))).before args0 about1 = true := code_word (m := ⟨26, 1⟩) (meth := k26m1) (c := k26c1) (by decide +kernel) rfl rfl rfl (by decide +kernel)
set_option maxRecDepth 65536 in
theorem w_c32 : (Jvm.Cond.code ({ cls := "java/util/ImmutableCollections$ListN", name := "<init>", desc := "([Ljava/lang/Object;Z)V" } : Jvm.MethodName) jdk_45_method_1_code (3 : Nat) (Option.none : Option Jvm.ClassFile.FieldType)).before args0 about1 = true := code_word (m := ⟨22, 0⟩) (meth := k22m0) (c := k22c0) (by decide +kernel) rfl rfl rfl (by decide +kernel)
set_option maxRecDepth 65536 in
theorem w_c33 : (Jvm.Cond.code ({ cls := "java/util/ImmutableCollections$AbstractImmutableList", name := "<init>", desc := "()V" } : Jvm.MethodName) jdk_46_method_1_code (1 : Nat) (Option.none : Option Jvm.ClassFile.FieldType)).before args0 about1 = true := code_word (m := ⟨20, 0⟩) (meth := k20m0) (c := k20c0) (by decide +kernel) rfl rfl rfl (by decide +kernel)
set_option maxRecDepth 65536 in
theorem w_c34 : (Jvm.Cond.code ({ cls := "java/util/ImmutableCollections$AbstractImmutableCollection", name := "<init>", desc := "()V" } : Jvm.MethodName) jdk_47_method_1_code (1 : Nat) (Option.none : Option Jvm.ClassFile.FieldType)).before args0 about1 = true := code_word (m := ⟨19, 0⟩) (meth := k19m0) (c := k19c0) (by decide +kernel) rfl rfl rfl (by decide +kernel)
set_option maxRecDepth 65536 in
theorem w_c35 : (Jvm.Cond.code ({ cls := "java/util/ImmutableCollections$ListN", name := "get", desc := "(I)Ljava/lang/Object;" } : Jvm.MethodName) jdk_45_method_4_code (2 : Nat) (Option.some (Jvm.ClassFile.FieldType.object "java/lang/Object"))).before args0 about1 = true := code_word (m := ⟨22, 2⟩) (meth := k22m2) (c := k22c2) (by decide +kernel) rfl rfl rfl (by decide +kernel)
set_option maxRecDepth 65536 in
theorem w_c36 : (Jvm.Cond.code ({ cls := "java/lang/String", name := "equals", desc := "(Ljava/lang/Object;)Z" } : Jvm.MethodName) jdk_42_method_66_code (3 : Nat) (Option.some Jvm.ClassFile.FieldType.boolean)).before args0 about1 = true := code_word (m := ⟨7, 2⟩) (meth := k7m2) (c := k7c2) (by decide +kernel) rfl rfl rfl (by decide +kernel)
set_option maxRecDepth 65536 in
theorem w_c37 : (Jvm.Cond.code ({ cls := "java/lang/StringUTF16", name := "compress", desc := "([CII)[B" } : Jvm.MethodName) jdk_52_method_16_code (6 : Nat) (Option.some (Jvm.ClassFile.FieldType.array Jvm.ClassFile.FieldType.byte))).before args0 about1 = true := code_word (m := ⟨27, 2⟩) (meth := k27m2) (c := k27c2) (by decide +kernel) rfl rfl rfl (by decide +kernel)
set_option maxRecDepth 65536 in
theorem w_c38 : (Jvm.Cond.code ({ cls := "java/lang/StringUTF16", name := "compress", desc := "([CI[BII)I" } : Jvm.MethodName) jdk_52_method_21_code (7 : Nat) (Option.some Jvm.ClassFile.FieldType.int)).before args0 about1 = true := code_word (m := ⟨27, 3⟩) (meth := k27m3) (c := k27c3) (by decide +kernel) rfl rfl rfl (by decide +kernel)
set_option maxRecDepth 65536 in
theorem w_c39 : (Jvm.Cond.code ({ cls := "java/lang/StringUTF16", name := "coderFromArrayLen", desc := "([BI)B" } : Jvm.MethodName) jdk_52_method_15_code (2 : Nat) (Option.some Jvm.ClassFile.FieldType.byte)).before args0 about1 = true := code_word (m := ⟨27, 1⟩) (meth := k27m1) (c := k27c1) (by decide +kernel) rfl rfl rfl (by decide +kernel)
set_option maxRecDepth 65536 in
theorem w_c40 : (Jvm.Cond.code ({ cls := "java/lang/String", name := "valueOf", desc := "(C)Ljava/lang/String;" } : Jvm.MethodName) jdk_42_method_139_code (1 : Nat) (Option.some (Jvm.ClassFile.FieldType.object "java/lang/String"))).before args0 about1 = true := code_word (m := ⟨7, 3⟩) (meth := k7m3) (c := k7c3) (by decide +kernel) rfl rfl rfl (by decide +kernel)
set_option maxRecDepth 65536 in
theorem w_c41 : (Jvm.Cond.code ({ cls := "java/lang/StringLatin1", name := "canEncode", desc := "(C)Z" } : Jvm.MethodName) jdk_43_method_3_code (1 : Nat) (Option.some Jvm.ClassFile.FieldType.boolean)).before args0 about1 = true := code_word (m := ⟨28, 1⟩) (meth := k28m1) (c := k28c1) (by decide +kernel) rfl rfl rfl (by decide +kernel)
set_option maxRecDepth 65536 in
theorem w_c42 : (Jvm.Cond.code ({ cls := "java/lang/StringLatin1", name := "toBytes", desc := "(C)[B" } : Jvm.MethodName) jdk_43_method_46_code (1 : Nat) (Option.some (Jvm.ClassFile.FieldType.array Jvm.ClassFile.FieldType.byte))).before args0 about1 = true := code_word (m := ⟨28, 2⟩) (meth := k28m2) (c := k28c2) (by decide +kernel) rfl rfl rfl (by decide +kernel)
set_option maxRecDepth 65536 in
theorem w_c43 : (Jvm.Cond.code ({ cls := "java/lang/String", name := "<init>", desc := "([BB)V" } : Jvm.MethodName) jdk_42_method_151_code (3 : Nat) (Option.none : Option Jvm.ClassFile.FieldType)).before args0 about1 = true := code_word (m := ⟨7, 5⟩) (meth := k7m5) (c := k7c5) (by decide +kernel) rfl rfl rfl (by decide +kernel)
set_option maxRecDepth 65536 in
theorem w_c44 : (Jvm.Cond.code ({ cls := "java/util/ImmutableCollections$List12", name := "<init>", desc := "(Ljava/lang/Object;Ljava/lang/Object;)V" } : Jvm.MethodName) jdk_44_method_2_code (3 : Nat) (Option.none : Option Jvm.ClassFile.FieldType)).before args0 about1 = true := code_word (m := ⟨21, 1⟩) (meth := k21m1) (c := k21c1) (by decide +kernel) rfl rfl rfl (by decide +kernel)
set_option maxRecDepth 65536 in
theorem w_c45 : (Jvm.Cond.code ({ cls := "java/util/ImmutableCollections$List12", name := "size", desc := "()I" } : Jvm.MethodName) jdk_44_method_3_code (1 : Nat) (Option.some Jvm.ClassFile.FieldType.int)).before args0 about1 = true := code_word (m := ⟨21, 2⟩) (meth := k21m2) (c := k21c2) (by decide +kernel) rfl rfl rfl (by decide +kernel)
set_option maxRecDepth 65536 in
theorem w_c46 : (Jvm.Cond.code ({ cls := "java/util/ImmutableCollections$List12", name := "get", desc := "(I)Ljava/lang/Object;" } : Jvm.MethodName) jdk_44_method_5_code (2 : Nat) (Option.some (Jvm.ClassFile.FieldType.object "java/lang/Object"))).before args0 about1 = true := code_word (m := ⟨21, 3⟩) (meth := k21m3) (c := k21c3) (by decide +kernel) rfl rfl rfl (by decide +kernel)
set_option maxRecDepth 65536 in
theorem w_c47 : (Jvm.Cond.code ({ cls := "java/util/ImmutableCollections$List12", name := "<init>", desc := "(Ljava/lang/Object;)V" } : Jvm.MethodName) jdk_44_method_1_code (2 : Nat) (Option.none : Option Jvm.ClassFile.FieldType)).before args0 about1 = true := code_word (m := ⟨21, 0⟩) (meth := k21m0) (c := k21c0) (by decide +kernel) rfl rfl rfl (by decide +kernel)
def codes1 : List Jvm.Cond := [Jvm.Cond.code x code maxLocals ret, Jvm.Cond.code ({ cls := "com/example/nightcrawler/nightcrawler/engine/CommittedBatchesNonePinLaw", name := "mk", desc := "(I)Ljava/lang/String;" } : Jvm.MethodName) method_2_code (4 : Nat) (Option.some (Jvm.ClassFile.FieldType.object "java/lang/String")), Jvm.Cond.code ({ cls := "java/lang/String", name := "<init>", desc := "([C)V" } : Jvm.MethodName) jdk_42_method_3_code (2 : Nat) (Option.none : Option Jvm.ClassFile.FieldType), Jvm.Cond.code ({ cls := "java/lang/String", name := "<init>", desc := "([CIILjava/lang/Void;)V" } : Jvm.MethodName) jdk_42_method_149_code (6 : Nat) (Option.none : Option Jvm.ClassFile.FieldType), Jvm.Cond.code ({ cls := "java/lang/Object", name := "<init>", desc := "()V" } : Jvm.MethodName) object_method_1_code (1 : Nat) (Option.none : Option Jvm.ClassFile.FieldType), Jvm.Cond.code ({ cls := "java/util/ArrayList", name := "<init>", desc := "()V" } : Jvm.MethodName) jdk_38_method_2_code (1 : Nat) (Option.none : Option Jvm.ClassFile.FieldType), Jvm.Cond.code ({ cls := "java/util/AbstractList", name := "<init>", desc := "()V" } : Jvm.MethodName) jdk_39_method_1_code (1 : Nat) (Option.none : Option Jvm.ClassFile.FieldType), Jvm.Cond.code ({ cls := "java/util/AbstractCollection", name := "<init>", desc := "()V" } : Jvm.MethodName) jdk_22_method_1_code (1 : Nat) (Option.none : Option Jvm.ClassFile.FieldType), Jvm.Cond.code ({ cls := "com/example/nightcrawler/nightcrawler/engine/CommittedBatches", name := "none", desc := "(Ljava/util/List;)Lcom/example/nightcrawler/nightcrawler/engine/CommittedBatches;" } : Jvm.MethodName) prog_3_method_3_code (1 : Nat) (Option.some (Jvm.ClassFile.FieldType.object "com/example/nightcrawler/nightcrawler/engine/CommittedBatches")), Jvm.Cond.code ({ cls := "com/example/nightcrawler/nightcrawler/engine/CommittedBatches", name := "<init>", desc := "(JJJZLjava/util/List;)V" } : Jvm.MethodName) prog_3_method_1_code (9 : Nat) (Option.none : Option Jvm.ClassFile.FieldType), Jvm.Cond.code ({ cls := "java/util/List", name := "copyOf", desc := "(Ljava/util/Collection;)Ljava/util/List;" } : Jvm.MethodName) jdk_40_method_48_code (1 : Nat) (Option.some (Jvm.ClassFile.FieldType.object "java/util/List")), Jvm.Cond.code ({ cls := "java/util/ImmutableCollections", name := "listCopy", desc := "(Ljava/util/Collection;)Ljava/util/List;" } : Jvm.MethodName) jdk_56_method_3_code (2 : Nat) (Option.some (Jvm.ClassFile.FieldType.object "java/util/List")), Jvm.Cond.code ({ cls := "java/util/ArrayList", name := "isEmpty", desc := "()Z" } : Jvm.MethodName) jdk_38_method_9_code (1 : Nat) (Option.some Jvm.ClassFile.FieldType.boolean), Jvm.Cond.code ({ cls := "java/util/List", name := "of", desc := "()Ljava/util/List;" } : Jvm.MethodName) jdk_40_method_36_code (0 : Nat) (Option.some (Jvm.ClassFile.FieldType.object "java/util/List")), Jvm.Cond.code ({ cls := "java/util/ArrayList", name := "add", desc := "(Ljava/lang/Object;)Z" } : Jvm.MethodName) jdk_38_method_25_code (2 : Nat) (Option.some Jvm.ClassFile.FieldType.boolean), Jvm.Cond.code ({ cls := "java/util/ArrayList", name := "add", desc := "(Ljava/lang/Object;[Ljava/lang/Object;I)V" } : Jvm.MethodName) jdk_38_method_24_code (4 : Nat) (Option.none : Option Jvm.ClassFile.FieldType), Jvm.Cond.code ({ cls := "java/util/ArrayList", name := "grow", desc := "()[Ljava/lang/Object;" } : Jvm.MethodName) jdk_38_method_7_code (1 : Nat) (Option.some (Jvm.ClassFile.FieldType.array (Jvm.ClassFile.FieldType.object "java/lang/Object"))), Jvm.Cond.code ({ cls := "java/util/ArrayList", name := "grow", desc := "(I)[Ljava/lang/Object;" } : Jvm.MethodName) jdk_38_method_6_code (4 : Nat) (Option.some (Jvm.ClassFile.FieldType.array (Jvm.ClassFile.FieldType.object "java/lang/Object"))), Jvm.Cond.code ({ cls := "java/lang/Math", name := "max", desc := "(II)I" } : Jvm.MethodName) jdk_29_method_65_code (2 : Nat) (Option.some Jvm.ClassFile.FieldType.int), Jvm.Cond.code ({ cls := "com/example/nightcrawler/nightcrawler/engine/CommittedBatches", name := "last", desc := "()Ljava/util/List;" } : Jvm.MethodName) prog_3_method_8_code (1 : Nat) (Option.some (Jvm.ClassFile.FieldType.object "java/util/List")), Jvm.Cond.code ({ cls := "com/example/nightcrawler/nightcrawler/engine/CommittedBatches", name := "batches", desc := "()J" } : Jvm.MethodName) prog_3_method_4_code (1 : Nat) (Option.some Jvm.ClassFile.FieldType.long), Jvm.Cond.code ({ cls := "com/example/nightcrawler/nightcrawler/engine/CommittedBatches", name := "deleted", desc := "()J" } : Jvm.MethodName) prog_3_method_5_code (1 : Nat) (Option.some Jvm.ClassFile.FieldType.long), Jvm.Cond.code ({ cls := "com/example/nightcrawler/nightcrawler/engine/CommittedBatches", name := "lost", desc := "()J" } : Jvm.MethodName) prog_3_method_6_code (1 : Nat) (Option.some Jvm.ClassFile.FieldType.long), Jvm.Cond.code ({ cls := "com/example/nightcrawler/nightcrawler/engine/CommittedBatches", name := "usedUp", desc := "()Z" } : Jvm.MethodName) prog_3_method_7_code (1 : Nat) (Option.some Jvm.ClassFile.FieldType.boolean), Jvm.Cond.code ({ cls := "java/util/ImmutableCollections$ListN", name := "size", desc := "()I" } : Jvm.MethodName) jdk_45_method_3_code (1 : Nat) (Option.some Jvm.ClassFile.FieldType.int), Jvm.Cond.code ({ cls := "java/util/ArrayList", name := "toArray", desc := "()[Ljava/lang/Object;" } : Jvm.MethodName) jdk_38_method_16_code (1 : Nat) (Option.some (Jvm.ClassFile.FieldType.array (Jvm.ClassFile.FieldType.object "java/lang/Object"))), Jvm.Cond.code ({ cls := "java/util/Arrays", name := "copyOf", desc := "([Ljava/lang/Object;I)[Ljava/lang/Object;" } : Jvm.MethodName) jdk_65_method_119_code (2 : Nat) (Option.some (Jvm.ClassFile.FieldType.array (Jvm.ClassFile.FieldType.object "java/lang/Object"))), Jvm.Cond.code ({ cls := "java/util/Arrays", name := "copyOf", desc := "([Ljava/lang/Object;ILjava/lang/Class;)[Ljava/lang/Object;" } : Jvm.MethodName) jdk_65_method_120_code (4 : Nat) (Option.some (Jvm.ClassFile.FieldType.array (Jvm.ClassFile.FieldType.object "java/lang/Object"))), Jvm.Cond.code ({ cls := "java/lang/Math", name := "min", desc := "(II)I" } : Jvm.MethodName) jdk_29_method_69_code (2 : Nat) (Option.some Jvm.ClassFile.FieldType.int), Jvm.Cond.code ({ cls := "java/util/List", name := "of", desc := "([Ljava/lang/Object;)Ljava/util/List;" } : Jvm.MethodName) jdk_40_method_47_code (2 : Nat) (Option.some (Jvm.ClassFile.FieldType.object "java/util/List")), Jvm.Cond.code ({ cls := "java/util/ImmutableCollections", name := "listFromArray", desc := "([Ljava/lang/Object;)Ljava/util/List;" } : Jvm.MethodName) jdk_56_method_4_code (3 : Nat) (Option.some (Jvm.ClassFile.FieldType.object "java/util/List")), Jvm.Cond.code ({ cls := "java/util/Objects", name := "requireNonNull", desc := "(Ljava/lang/Object;)Ljava/lang/Object;" } : Jvm.MethodName) jdk_31_method_10_code (1 : Nat) (Option.some (Jvm.ClassFile.FieldType.object "java/lang/Object")), Jvm.Cond.code ({ cls := "java/util/ImmutableCollections$ListN", name := "<init>", desc := "([Ljava/lang/Object;Z)V" } : Jvm.MethodName) jdk_45_method_1_code (3 : Nat) (Option.none : Option Jvm.ClassFile.FieldType), Jvm.Cond.code ({ cls := "java/util/ImmutableCollections$AbstractImmutableList", name := "<init>", desc := "()V" } : Jvm.MethodName) jdk_46_method_1_code (1 : Nat) (Option.none : Option Jvm.ClassFile.FieldType), Jvm.Cond.code ({ cls := "java/util/ImmutableCollections$AbstractImmutableCollection", name := "<init>", desc := "()V" } : Jvm.MethodName) jdk_47_method_1_code (1 : Nat) (Option.none : Option Jvm.ClassFile.FieldType), Jvm.Cond.code ({ cls := "java/util/ImmutableCollections$ListN", name := "get", desc := "(I)Ljava/lang/Object;" } : Jvm.MethodName) jdk_45_method_4_code (2 : Nat) (Option.some (Jvm.ClassFile.FieldType.object "java/lang/Object")), Jvm.Cond.code ({ cls := "java/lang/String", name := "equals", desc := "(Ljava/lang/Object;)Z" } : Jvm.MethodName) jdk_42_method_66_code (3 : Nat) (Option.some Jvm.ClassFile.FieldType.boolean), Jvm.Cond.code ({ cls := "java/lang/StringUTF16", name := "compress", desc := "([CII)[B" } : Jvm.MethodName) jdk_52_method_16_code (6 : Nat) (Option.some (Jvm.ClassFile.FieldType.array Jvm.ClassFile.FieldType.byte)), Jvm.Cond.code ({ cls := "java/lang/StringUTF16", name := "compress", desc := "([CI[BII)I" } : Jvm.MethodName) jdk_52_method_21_code (7 : Nat) (Option.some Jvm.ClassFile.FieldType.int), Jvm.Cond.code ({ cls := "java/lang/StringUTF16", name := "coderFromArrayLen", desc := "([BI)B" } : Jvm.MethodName) jdk_52_method_15_code (2 : Nat) (Option.some Jvm.ClassFile.FieldType.byte), Jvm.Cond.code ({ cls := "java/lang/String", name := "valueOf", desc := "(C)Ljava/lang/String;" } : Jvm.MethodName) jdk_42_method_139_code (1 : Nat) (Option.some (Jvm.ClassFile.FieldType.object "java/lang/String")), Jvm.Cond.code ({ cls := "java/lang/StringLatin1", name := "canEncode", desc := "(C)Z" } : Jvm.MethodName) jdk_43_method_3_code (1 : Nat) (Option.some Jvm.ClassFile.FieldType.boolean), Jvm.Cond.code ({ cls := "java/lang/StringLatin1", name := "toBytes", desc := "(C)[B" } : Jvm.MethodName) jdk_43_method_46_code (1 : Nat) (Option.some (Jvm.ClassFile.FieldType.array Jvm.ClassFile.FieldType.byte)), Jvm.Cond.code ({ cls := "java/lang/String", name := "<init>", desc := "([BB)V" } : Jvm.MethodName) jdk_42_method_151_code (3 : Nat) (Option.none : Option Jvm.ClassFile.FieldType), Jvm.Cond.code ({ cls := "java/util/ImmutableCollections$List12", name := "<init>", desc := "(Ljava/lang/Object;Ljava/lang/Object;)V" } : Jvm.MethodName) jdk_44_method_2_code (3 : Nat) (Option.none : Option Jvm.ClassFile.FieldType), Jvm.Cond.code ({ cls := "java/util/ImmutableCollections$List12", name := "size", desc := "()I" } : Jvm.MethodName) jdk_44_method_3_code (1 : Nat) (Option.some Jvm.ClassFile.FieldType.int), Jvm.Cond.code ({ cls := "java/util/ImmutableCollections$List12", name := "get", desc := "(I)Ljava/lang/Object;" } : Jvm.MethodName) jdk_44_method_5_code (2 : Nat) (Option.some (Jvm.ClassFile.FieldType.object "java/lang/Object")), Jvm.Cond.code ({ cls := "java/util/ImmutableCollections$List12", name := "<init>", desc := "(Ljava/lang/Object;)V" } : Jvm.MethodName) jdk_44_method_1_code (2 : Nat) (Option.none : Option Jvm.ClassFile.FieldType)]
set_option maxRecDepth 65536 in
theorem codes_eq : words1.filter isCode = codes1 := rfl
theorem w_codes : ∀ c ∈ words1.filter isCode, c.before args0 about1 = true := by
  rw [codes_eq]
  intro c hc
  simp only [codes1, List.mem_cons, List.not_mem_nil, or_false] at hc
  rcases hc with rfl | rfl | rfl | rfl | rfl | rfl | rfl | rfl | rfl | rfl | rfl | rfl | rfl | rfl | rfl | rfl | rfl | rfl | rfl | rfl | rfl | rfl | rfl | rfl | rfl | rfl | rfl | rfl | rfl | rfl | rfl | rfl | rfl | rfl | rfl | rfl | rfl | rfl | rfl | rfl | rfl | rfl | rfl | rfl | rfl | rfl | rfl | rfl
  · exact w_c0
  · exact w_c1
  · exact w_c2
  · exact w_c3
  · exact w_c4
  · exact w_c5
  · exact w_c6
  · exact w_c7
  · exact w_c8
  · exact w_c9
  · exact w_c10
  · exact w_c11
  · exact w_c12
  · exact w_c13
  · exact w_c14
  · exact w_c15
  · exact w_c16
  · exact w_c17
  · exact w_c18
  · exact w_c19
  · exact w_c20
  · exact w_c21
  · exact w_c22
  · exact w_c23
  · exact w_c24
  · exact w_c25
  · exact w_c26
  · exact w_c27
  · exact w_c28
  · exact w_c29
  · exact w_c30
  · exact w_c31
  · exact w_c32
  · exact w_c33
  · exact w_c34
  · exact w_c35
  · exact w_c36
  · exact w_c37
  · exact w_c38
  · exact w_c39
  · exact w_c40
  · exact w_c41
  · exact w_c42
  · exact w_c43
  · exact w_c44
  · exact w_c45
  · exact w_c46
  · exact w_c47
set_option maxRecDepth 65536 in
theorem w_t1 : (words1.take 24).all (fun c => isCode c || c.before args0 about1) = true := by decide +kernel
set_option maxRecDepth 65536 in
theorem w_t2 : ((words1.drop 24).take 24).all (fun c => isCode c || c.before args0 about1) = true := by decide +kernel
set_option maxRecDepth 65536 in
theorem w_t3 : (((words1.drop 24).drop 24).take 24).all (fun c => isCode c || c.before args0 about1) = true := by decide +kernel
set_option maxRecDepth 65536 in
theorem w_t4 : ((((words1.drop 24).drop 24).drop 24).take 24).all (fun c => isCode c || c.before args0 about1) = true := by decide +kernel
set_option maxRecDepth 65536 in
theorem w_t5 : (((((words1.drop 24).drop 24).drop 24).drop 24).take 24).all (fun c => isCode c || c.before args0 about1) = true := by decide +kernel
set_option maxRecDepth 65536 in
theorem w_t6 : ((((((words1.drop 24).drop 24).drop 24).drop 24).drop 24).take 24).all (fun c => isCode c || c.before args0 about1) = true := by decide +kernel
set_option maxRecDepth 65536 in
theorem w_t7 : (((((((words1.drop 24).drop 24).drop 24).drop 24).drop 24).drop 24).take 24).all (fun c => isCode c || c.before args0 about1) = true := by decide +kernel
set_option maxRecDepth 65536 in
theorem w_t8 : ((((((((words1.drop 24).drop 24).drop 24).drop 24).drop 24).drop 24).drop 24).take 24).all (fun c => isCode c || c.before args0 about1) = true := by decide +kernel
set_option maxRecDepth 65536 in
theorem w_t9 : (((((((((words1.drop 24).drop 24).drop 24).drop 24).drop 24).drop 24).drop 24).drop 24).take 24).all (fun c => isCode c || c.before args0 about1) = true := by decide +kernel
set_option maxRecDepth 65536 in
theorem w_t10 : ((((((((((words1.drop 24).drop 24).drop 24).drop 24).drop 24).drop 24).drop 24).drop 24).drop 24).take 24).all (fun c => isCode c || c.before args0 about1) = true := by decide +kernel
set_option maxRecDepth 65536 in
theorem w_t11 : (((((((((((words1.drop 24).drop 24).drop 24).drop 24).drop 24).drop 24).drop 24).drop 24).drop 24).drop 24).take 24).all (fun c => isCode c || c.before args0 about1) = true := by decide +kernel
set_option maxRecDepth 65536 in
theorem w_t12 : ((((((((((((words1.drop 24).drop 24).drop 24).drop 24).drop 24).drop 24).drop 24).drop 24).drop 24).drop 24).drop 24).take 24).all (fun c => isCode c || c.before args0 about1) = true := by decide +kernel
set_option maxRecDepth 65536 in
theorem w_t13 : ((((((((((((words1.drop 24).drop 24).drop 24).drop 24).drop 24).drop 24).drop 24).drop 24).drop 24).drop 24).drop 24).drop 24).all (fun c => isCode c || c.before args0 about1) = true := by decide +kernel
theorem w_tables : (allAtoms (Jvm.Cond.code x code maxLocals ret :: tables_1)).before args0 about1 = true := by
  rw [allAtoms_all]
  show words1.all (fun c => c.before args0 about1) = true
  refine all_split ?_ w_codes
  rw [← List.take_append_drop 24 words1, List.all_append, w_t1, ← List.take_append_drop 24 (words1.drop 24), List.all_append, w_t2, ← List.take_append_drop 24 ((words1.drop 24).drop 24), List.all_append, w_t3, ← List.take_append_drop 24 (((words1.drop 24).drop 24).drop 24), List.all_append, w_t4, ← List.take_append_drop 24 ((((words1.drop 24).drop 24).drop 24).drop 24), List.all_append, w_t5, ← List.take_append_drop 24 (((((words1.drop 24).drop 24).drop 24).drop 24).drop 24), List.all_append, w_t6, ← List.take_append_drop 24 ((((((words1.drop 24).drop 24).drop 24).drop 24).drop 24).drop 24), List.all_append, w_t7, ← List.take_append_drop 24 (((((((words1.drop 24).drop 24).drop 24).drop 24).drop 24).drop 24).drop 24), List.all_append, w_t8, ← List.take_append_drop 24 ((((((((words1.drop 24).drop 24).drop 24).drop 24).drop 24).drop 24).drop 24).drop 24), List.all_append, w_t9, ← List.take_append_drop 24 (((((((((words1.drop 24).drop 24).drop 24).drop 24).drop 24).drop 24).drop 24).drop 24).drop 24), List.all_append, w_t10, ← List.take_append_drop 24 ((((((((((words1.drop 24).drop 24).drop 24).drop 24).drop 24).drop 24).drop 24).drop 24).drop 24).drop 24), List.all_append, w_t11, ← List.take_append_drop 24 (((((((((((words1.drop 24).drop 24).drop 24).drop 24).drop 24).drop 24).drop 24).drop 24).drop 24).drop 24).drop 24), List.all_append, w_t12, w_t13]
  rfl
set_option maxRecDepth 65536 in
theorem w_rest : rest_1_c.before args0 about1 = true := by decide +kernel
set_option maxRecDepth 65536 in
theorem w_case : (Jvm.Cond.and given_1 narrow_1).before args0 about1 = true := by decide +kernel
set_option maxRecDepth 65536 in
theorem w_consts : constsHeld consts_1 about1 := Jvm.Lit.constsHeldB_iff.mp (by decide +kernel)
theorem w_applies : (headSpec (Jvm.Cond.code x code maxLocals ret :: tables_1) room_1).applies x e0.platform about1 = true :=
  (Spec.applies_iff w_frames).mpr ⟨w_running, w_runnable, w_alone, w_named, w_hears, w_ripe, w_room, w_tables⟩
theorem atStart : AtStart classFile x code maxLocals ret World_1 tables_1 room_1 Calls_1 rest_1 Pre_1 launch0 p0 e0 about1 theMethod args0 below0 :=
  ⟨lists_1, trivial, launch0.admits_env _ _ _, launch0.least_env, fairChoices_fair.cas, fairChoices_fair.clock, w_frames, w_args, w_heap, w_applies, ⟨⟨38, k38, 4, by decide +kernel, rfl, rfl, _, rfl, rfl⟩, ⟨w_consts, trivial⟩⟩, w_rest, w_case⟩
end start1
theorem witness_1 : WitnessClaimed_1 := ⟨start1.p0, start1.e0, start1.about1, start1.theMethod, start1.args0, start1.below0, start1.atStart⟩
end Jvm.Pilot.@@N@@
