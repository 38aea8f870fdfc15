import JvmDerived
import JvmDerived.Pilot.@@N@@Statement
import JvmDerived.Pilot.@@N@@Code
set_option linter.unusedVariables false
set_option linter.unusedSimpArgs false
/- laws to paste: Road.backV (cut by pick.py; bodies as the Statement names them) -/
namespace Jvm.Pilot.@@N@@
namespace StrChars
open Jvm Sem ClassFile Op Lib Jvm.Stand Jvm.Free.XT Jvm.Free.ALB Jvm.Free.JM Jvm.Free
open Jvm.Lib.Cold (StaticIs)
/-- a char array whose places are chars -/
def Ch (a : Addr) (A : Cell) (U : State) : Prop := Arr .char a A U ∧ Typed .char A
theorem Ch.mv {a : Addr} {A : Cell} {U U' : State} (h : Ch a A U) (hal : U.vm.Alike U'.vm) (hh : U'.heap = U.heap) : Ch a A U' := ⟨h.1.mv hal hh, h.2⟩
theorem Ch.keep {a : Addr} {A : Cell} {U U' : State} (h : Ch a A U) (hal : U.vm.Alike U'.vm) (hk : U'.heap[a]? = some A) : Ch a A U' := ⟨h.1.keep hal hk, h.2⟩
/-- what place i of a char[]'s cell holds -/
def cv (A : Cell) (i : Nat) : Int32 := match A.slots[i]? with | some (.int x) => x | _ => 0
theorem Ch.get {a : Addr} {A : Cell} {U : State} (h : Ch a A U) {i : Nat} (hi : i < A.slots.size) : A.slots[i]? = some (.int (cv A i)) := by
  have e := Array.getElem?_eq_getElem hi
  have f := h.2 i _ e
  unfold cv; rw [e]
  generalize A.slots[i] = v at f
  cases v <;> simp [fits] at f ⊢
/-- the byte that i2b leaves of a char -/
def lo8 (x : Int32) : Int32 := x.toInt8.toInt32
theorem fits_lo8 (y : Int32) : fits .byte (.int (lo8 y)) = true := by
  have h1 := y.toInt8.le_toInt
  have h2 := y.toInt8.toInt_lt
  simp only [lo8, fits, Bool.and_eq_true, decide_eq_true_eq, Int32.le_iff_toInt_le, Int8.toInt_toInt32, show (-128 : Int32).toInt = -128 from by decide, show (127 : Int32).toInt = 127 from by decide]
  omega
/-- A' is A but that each place j of lo .. hi - 1 holds f j -/
def Laid (A A' : Cell) (lo hi : Nat) (f : Nat → Value) : Prop := A'.cls = A.cls ∧ A'.vm = A.vm ∧ A'.slots.size = A.slots.size ∧ ∀ i, A'.slots[i]? = if lo ≤ i ∧ i < hi then some (f i) else A.slots[i]?
theorem Laid.zero (A : Cell) (lo : Nat) (f : Nat → Value) : Laid A A lo (lo + 0) f := ⟨rfl, rfl, rfl, fun i => by rw [if_neg (by omega)]⟩
theorem Laid.step {A Ak : Cell} {lo k : Nat} {f : Nat → Value} {v : Value} (h : Laid A Ak lo k f) (hlo : lo ≤ k) (hk : k < Ak.slots.size) (hv : v = f k) : Laid A (Ak.setSlot k v) lo (k + 1) f := by
  refine ⟨h.1, h.2.1, by simpa [Cell.setSlot] using h.2.2.1, fun i => ?_⟩
  by_cases e : k = i
  · subst e; rw [Cell.slots_setSlot_self v hk, if_pos (by omega), hv]
  · rw [Cell.slots_setSlot_ne v e, h.2.2.2 i]
    by_cases q : lo ≤ i ∧ i < k
    · rw [if_pos q, if_pos (by omega)]
    · rw [if_neg q, if_neg (by omega)]
def U16 : String := "java/lang/StringUTF16"
namespace Cmp5
def yN : MethodName := ⟨"java/lang/StringUTF16", "compress", "([CI[BII)I"⟩
abbrev yB : ByteArray := jdk_52_method_21_code
theorem d0 : decode yB 0 = .ok (.iconst 0, 1) := by decide +kernel
theorem d1 : decode yB 1 = .ok (.istore 5, 2) := by decide +kernel
theorem d3 : decode yB 3 = .ok (.iload 5, 2) := by decide +kernel
theorem d5 : decode yB 5 = .ok (.iload 4, 2) := by decide +kernel
theorem d7 : decode yB 7 = .ok (.if_icmp (.ge) 37, 3) := by decide +kernel
theorem d10 : decode yB 10 = .ok (.aload_n 0, 1) := by decide +kernel
theorem d11 : decode yB 11 = .ok (.iload_n 1, 1) := by decide +kernel
theorem d12 : decode yB 12 = .ok (.caload, 1) := by decide +kernel
theorem d13 : decode yB 13 = .ok (.istore 6, 2) := by decide +kernel
theorem d15 : decode yB 15 = .ok (.iload 6, 2) := by decide +kernel
theorem d17 : decode yB 17 = .ok (.sipush 255, 3) := by decide +kernel
theorem d20 : decode yB 20 = .ok (.if_icmp (.le) 6, 3) := by decide +kernel
theorem d26 : decode yB 26 = .ok (.aload_n 2, 1) := by decide +kernel
theorem d27 : decode yB 27 = .ok (.iload_n 3, 1) := by decide +kernel
theorem d28 : decode yB 28 = .ok (.iload 6, 2) := by decide +kernel
theorem d30 : decode yB 30 = .ok (.i2b, 1) := by decide +kernel
theorem d31 : decode yB 31 = .ok (.bastore, 1) := by decide +kernel
theorem d32 : decode yB 32 = .ok (.iinc 1 1, 3) := by decide +kernel
theorem d35 : decode yB 35 = .ok (.iinc 3 1, 3) := by decide +kernel
theorem d38 : decode yB 38 = .ok (.iinc 5 1, 3) := by decide +kernel
theorem d41 : decode yB 41 = .ok (.goto (-38), 3) := by decide +kernel
theorem d44 : decode yB 44 = .ok (.iload 4, 2) := by decide +kernel
theorem d46 : decode yB 46 = .ok (.ireturn, 1) := by decide +kernel
def site : List Cond := []
def tab : Cond := tabOf yN yB 7 (some .int) site
def P (b : Addr) (A : Cell) (d : Addr) (B : Cell) (o q len : Nat) (args : Array Value) (s : State) : Prop := args = #[.ref b, .int (Int32.ofNat o), .ref d, .int (Int32.ofNat q), .int (Int32.ofNat len)] ∧ Ch b A s ∧ Arr .byte d B s ∧ b ≠ d ∧ o + len ≤ A.slots.size ∧ q + len ≤ B.slots.size ∧ ∀ i, i < len → ¬ 255 < cv A (o + i)
def E (b : Addr) (A : Cell) (d : Addr) (B : Cell) (o q len : Nat) (r : Option Value) (s u : State) : Prop := r = some (.int (Int32.ofNat len)) ∧ ∃ B', Put d B' s u ∧ Laid B B' q (q + len) (fun j => Value.int (lo8 (cv A (o + (j - q)))))
/-- no char of the range above 255: len; the places written hold each char's low byte -/
theorem law (l : Launch) (b : Addr) (A : Cell) (d : Addr) (B : Cell) (o q len : Nat) : Law l yN 5 5 0 0 yB 7 (some .int) site (P b A d B o q len) (E b A d B o q len) (copyLocs d q len) 0 0 := by
  refine Law.of_walk (plainFor_of_name (by decide +kernel)) (by decide +kernel) (by decide +kernel) (by decide) (fun _ _ h => by rw [h.1]; rfl) (fun _ U U' hal hh h => ⟨h.1, h.2.1.mv hal hh, h.2.2.1.mv hal hh, h.2.2.2⟩) (fun r U U' V V' h1 hal h2 h => ⟨h.1, h.2.elim fun B' q => ⟨B', q.1.mv h1 h2, q.2⟩⟩) ?_
  intro p e s m args below meth c s₁ X0 hexec hbytes hml hret hlk hnm hown hh0 W hP
  obtain ⟨rfl, hA, hB, hne, l1, l2, hp⟩ := hP
  have c1 : Steps p.tables e below (s₁.setTop (entryFrame m #[.ref b, .int (Int32.ofNat o), .ref d, .int (Int32.ofNat q), .int (Int32.ofNat len)] 7)) (s₁.setTop (mkF m 0 #[.val (.ref b), .val (.int (Int32.ofNat o)), .val (.ref d), .val (.int (Int32.ofNat q)), .val (.int (Int32.ofNat len)), .unset, .unset] [])) := entry rfl
  have hA0 := hA.1.mv X0.warmed.alike hh0
  have hB0 := hB.mv X0.warmed.alike hh0
  have a31 := hA.1.2.2.2
  have c2 : Steps p.tables e below (s₁.setTop (entryFrame m #[.ref b, .int (Int32.ofNat o), .ref d, .int (Int32.ofNat q), .int (Int32.ofNat len)] 7)) (s₁.setTop (mkF m 3 #[.val (.ref b), .val (.int (Int32.ofNat o)), .val (.ref d), .val (.int (Int32.ofNat q)), .val (.int (Int32.ofNat len)), .val (.int 0), .unset] [])) := c1.trans (by
    refine iconstV X0.here hexec rfl 0 (hb hbytes d0) (by decide) ?_
    refine XS.istore X0.here hexec rfl (hb hbytes d1) rfl rfl ?_
    exact Steps.refl _)
  have loop : ∀ (r i : Nat), i + r = len → ∀ (z : Slot), (z = .unset ∨ ∃ w, z = .val w ∧ w.category = 1) → ∀ (Tl : State) (Bk : Cell), Stand p l e { frames := 0, locals := 0, cells := 0, slots := 0 } s m #[.ref b, .int (Int32.ofNat o), .ref d, .int (Int32.ofNat q), .int (Int32.ofNat len)] below meth c Tl ([] ++ copyLocs d q i) 0 0 → Put d Bk s₁ Tl → Laid B Bk q (q + i) (fun j => Value.int (lo8 (cv A (o + (j - q))))) →
      Steps p.tables e below (s₁.setTop (entryFrame m #[.ref b, .int (Int32.ofNat o), .ref d, .int (Int32.ofNat q), .int (Int32.ofNat len)] 7)) (Tl.setTop (mkF m 3 #[.val (.ref b), .val (.int (Int32.ofNat (o + i))), .val (.ref d), .val (.int (Int32.ofNat (q + i))), .val (.int (Int32.ofNat len)), .val (.int (Int32.ofNat i)), z] [])) → ∃ (T' : State) (B' : Cell) (z' : Slot), Stand p l e { frames := 0, locals := 0, cells := 0, slots := 0 } s m #[.ref b, .int (Int32.ofNat o), .ref d, .int (Int32.ofNat q), .int (Int32.ofNat len)] below meth c T' ([] ++ copyLocs d q len) 0 0 ∧ Put d B' s₁ T' ∧ Laid B B' q (q + len) (fun j => Value.int (lo8 (cv A (o + (j - q))))) ∧
      Steps p.tables e below (s₁.setTop (entryFrame m #[.ref b, .int (Int32.ofNat o), .ref d, .int (Int32.ofNat q), .int (Int32.ofNat len)] 7)) (T'.setTop (mkF m 3 #[.val (.ref b), .val (.int (Int32.ofNat (o + len))), .val (.ref d), .val (.int (Int32.ofNat (q + len))), .val (.int (Int32.ofNat len)), .val (.int (Int32.ofNat len)), z'] [])) := by
    intro r
    induction r with
    | zero =>
      intro i hi z hz Tl Bk Xl pl fl cl
      have hil : i = len := by omega
      rw [hil] at Xl fl cl
      exact ⟨Tl, Bk, z, Xl, pl, fl, cl⟩
    | succ r ih =>
      intro i hi z hz Tl Bk Xl pl fl cl
      have all := X0.warmed.alike.symm.trans Xl.warmed.alike
      have hAl := hA0.keep all (pl.other hne hA0.1)
      have hBk := hB0.like all pl.1 fl.1 fl.2.1 fl.2.2.1
      have hlt : q + i < Bk.slots.size := by rw [fl.2.2.1]; omega
      have c3 : Steps p.tables e below (s₁.setTop (entryFrame m #[.ref b, .int (Int32.ofNat o), .ref d, .int (Int32.ofNat q), .int (Int32.ofNat len)] 7)) (Tl.setTop (mkF m 12 #[.val (.ref b), .val (.int (Int32.ofNat (o + i))), .val (.ref d), .val (.int (Int32.ofNat (q + i))), .val (.int (Int32.ofNat len)), .val (.int (Int32.ofNat i)), z] [.int (Int32.ofNat (o + i)), .ref b])) := cl.trans (by
        refine XS.iload Xl.here hexec rfl (hb hbytes d3) rfl ?_
        refine XS.iload Xl.here hexec rfl (hb hbytes d5) rfl ?_
        refine XS.icmpNo Xl.here hexec rfl (hb hbytes d7) rfl (ii_ge_f (lt32 (by omega) (by omega))) ?_
        refine XS.aloadN Xl.here hexec rfl (hb hbytes d10) rfl rfl ?_
        refine XS.iloadN Xl.here hexec rfl (hb hbytes d11) rfl ?_
        exact Steps.refl _)
      have c4 : Steps p.tables e below (s₁.setTop (entryFrame m #[.ref b, .int (Int32.ofNat o), .ref d, .int (Int32.ofNat q), .int (Int32.ofNat len)] 7)) (Tl.setTop (mkF m 13 #[.val (.ref b), .val (.int (Int32.ofNat (o + i))), .val (.ref d), .val (.int (Int32.ofNat (q + i))), .val (.int (Int32.ofNat len)), .val (.int (Int32.ofNat i)), z] [.int (cv A (o + i))])) := c3.trans (by
        refine Xl.aget hexec hAl rfl (hA.get (i := o + i) (by omega)) rfl rfl (hb hbytes d12) ?_
        exact Steps.refl _)
      have c5 : Steps p.tables e below (s₁.setTop (entryFrame m #[.ref b, .int (Int32.ofNat o), .ref d, .int (Int32.ofNat q), .int (Int32.ofNat len)] 7)) (Tl.setTop (mkF m 15 #[.val (.ref b), .val (.int (Int32.ofNat (o + i))), .val (.ref d), .val (.int (Int32.ofNat (q + i))), .val (.int (Int32.ofNat len)), .val (.int (Int32.ofNat i)), .val (.int (cv A (o + i)))] [])) := c4.trans (by
        refine XS.istoreS Xl.here hexec rfl (hb hbytes d13) rfl rfl hz ?_
        exact Steps.refl _)
      have c6 : Steps p.tables e below (s₁.setTop (entryFrame m #[.ref b, .int (Int32.ofNat o), .ref d, .int (Int32.ofNat q), .int (Int32.ofNat len)] 7)) (Tl.setTop (mkF m 31 #[.val (.ref b), .val (.int (Int32.ofNat (o + i))), .val (.ref d), .val (.int (Int32.ofNat (q + i))), .val (.int (Int32.ofNat len)), .val (.int (Int32.ofNat i)), .val (.int (cv A (o + i)))] [.int (lo8 (cv A (o + i))), .int (Int32.ofNat (q + i)), .ref d])) := c5.trans (by
        refine XS.iload Xl.here hexec rfl (hb hbytes d15) rfl ?_
        refine sipushV Xl.here hexec rfl 255 (hb hbytes d17) (by decide) ?_
        refine XS.icmpYes Xl.here hexec rfl (pc0 := 20) rfl (hb hbytes d20) rfl (ii_le_t (hp i (by omega))) (by decide) rfl ?_
        refine XS.aloadN Xl.here hexec rfl (hb hbytes d26) rfl rfl ?_
        refine XS.iloadN Xl.here hexec rfl (hb hbytes d27) rfl ?_
        refine XS.iload Xl.here hexec rfl (hb hbytes d28) rfl ?_
        refine i2b Xl.here hexec rfl (hb hbytes d30) rfl ?_
        exact Steps.refl _)
      obtain ⟨T7, X7, p7, st7⟩ := Xl.aput hexec hBk rfl hlt rfl (fits_lo8 (cv A (o + i))) (g := (mkF m 31 #[.val (.ref b), .val (.int (Int32.ofNat (o + i))), .val (.ref d), .val (.int (Int32.ofNat (q + i))), .val (.int (Int32.ofNat len)), .val (.int (Int32.ofNat i)), .val (.int (cv A (o + i)))] [.int (lo8 (cv A (o + i))), .int (Int32.ofNat (q + i)), .ref d])) rfl (rest := []) rfl (hb hbytes d31)
      have c8 : Steps p.tables e below (s₁.setTop (entryFrame m #[.ref b, .int (Int32.ofNat o), .ref d, .int (Int32.ofNat q), .int (Int32.ofNat len)] 7)) (T7.setTop (mkF m 32 #[.val (.ref b), .val (.int (Int32.ofNat (o + i))), .val (.ref d), .val (.int (Int32.ofNat (q + i))), .val (.int (Int32.ofNat len)), .val (.int (Int32.ofNat i)), .val (.int (cv A (o + i)))] [])) := c6.trans (st7 _ (Steps.refl _))
      have c9 : Steps p.tables e below (s₁.setTop (entryFrame m #[.ref b, .int (Int32.ofNat o), .ref d, .int (Int32.ofNat q), .int (Int32.ofNat len)] 7)) (T7.setTop (mkF m 3 #[.val (.ref b), .val (.int (Int32.ofNat (o + i) + 1)), .val (.ref d), .val (.int (Int32.ofNat (q + i) + 1)), .val (.int (Int32.ofNat len)), .val (.int (Int32.ofNat i + 1)), .val (.int (cv A (o + i)))] [])) := c8.trans (by
        refine iincV X7.here hexec rfl 1 (hb hbytes d32) (by decide) rfl rfl ?_
        refine iincV X7.here hexec rfl 1 (hb hbytes d35) (by decide) rfl rfl ?_
        refine iincV X7.here hexec rfl 1 (hb hbytes d38) (by decide) rfl rfl ?_
        refine XS.goto X7.here hexec rfl (pc0 := 41) rfl (hb hbytes d41) (by decide) rfl ?_
        exact Steps.refl _)
      have c10 : Steps p.tables e below (s₁.setTop (entryFrame m #[.ref b, .int (Int32.ofNat o), .ref d, .int (Int32.ofNat q), .int (Int32.ofNat len)] 7)) (T7.setTop (mkF m 3 #[.val (.ref b), .val (.int (Int32.ofNat (o + (i + 1)))), .val (.ref d), .val (.int (Int32.ofNat (q + (i + 1)))), .val (.int (Int32.ofNat len)), .val (.int (Int32.ofNat (i + 1))), .val (.int (cv A (o + i)))] [])) := by
        have := c9
        rw [succ32, succ32, succ32] at this
        exact this
      exact ih (i + 1) (by omega) _ (Or.inr ⟨_, rfl, rfl⟩) T7 _ (by rw [copyLocs_step, ← List.append_assoc]; exact X7) (pl.trans p7) (fl.step (by omega) hlt (by simp)) c10
  obtain ⟨T9, B9, z9, X9, p9, f9, g9⟩ := loop len 0 (by omega) .unset (Or.inl rfl) s₁ B (by simpa [copyLocs] using X0) ⟨hB0.1, fun _ _ => rfl, rfl⟩ (Laid.zero _ _ _) c2
  have c11 : Steps p.tables e below (s₁.setTop (entryFrame m #[.ref b, .int (Int32.ofNat o), .ref d, .int (Int32.ofNat q), .int (Int32.ofNat len)] 7)) (T9.setTop (mkF m 46 #[.val (.ref b), .val (.int (Int32.ofNat (o + len))), .val (.ref d), .val (.int (Int32.ofNat (q + len))), .val (.int (Int32.ofNat len)), .val (.int (Int32.ofNat len)), z9] [.int (Int32.ofNat len)])) := g9.trans (by
    refine XS.iload X9.here hexec rfl (hb hbytes d3) rfl ?_
    refine XS.iload X9.here hexec rfl (hb hbytes d5) rfl ?_
    refine XS.icmpYes X9.here hexec rfl (pc0 := 7) rfl (hb hbytes d7) rfl (ii_ge_t (nlt32 (by omega) (Nat.le_refl _))) (by decide) rfl ?_
    refine XS.iload X9.here hexec rfl (hb hbytes d44) rfl ?_
    exact Steps.refl _)
  exact ⟨T9, some (.int (Int32.ofNat len)), _, _, _, X9, by simp, rfl, rfl, (fun h => by cases h), ⟨rfl, B9, p9.from hh0, f9⟩, fun fs hl => c11.trans (X9.ireturnOut hexec hret rfl (Or.inl rfl) (hb hbytes d46) hl)⟩
end Cmp5
namespace Cmp3
def yN : MethodName := ⟨"java/lang/StringUTF16", "compress", "([CII)[B"⟩
abbrev yB : ByteArray := jdk_52_method_16_code
theorem d0 : decode yB 0 = .ok (.iload_n 2, 1) := by decide +kernel
theorem d1 : decode yB 1 = .ok (.newarray .byte, 2) := by decide +kernel
theorem d3 : decode yB 3 = .ok (.astore_n 3, 1) := by decide +kernel
theorem d4 : decode yB 4 = .ok (.aload_n 0, 1) := by decide +kernel
theorem d5 : decode yB 5 = .ok (.iload_n 1, 1) := by decide +kernel
theorem d6 : decode yB 6 = .ok (.aload_n 3, 1) := by decide +kernel
theorem d7 : decode yB 7 = .ok (.iconst 0, 1) := by decide +kernel
theorem d8 : decode yB 8 = .ok (.iload_n 2, 1) := by decide +kernel
theorem d9 : decode yB 9 = .ok (.invokestatic 115, 3) := by decide +kernel
theorem d12 : decode yB 12 = .ok (.istore 4, 2) := by decide +kernel
theorem d14 : decode yB 14 = .ok (.iload 4, 2) := by decide +kernel
theorem d16 : decode yB 16 = .ok (.iload_n 2, 1) := by decide +kernel
theorem d17 : decode yB 17 = .ok (.if_icmp (.eq) 40, 3) := by decide +kernel
theorem d57 : decode yB 57 = .ok (.aload_n 3, 1) := by decide +kernel
theorem d58 : decode yB 58 = .ok (.areturn, 1) := by decide +kernel
def site : List Cond := [.arrayClass .byte, Cmp5.tab] ++ staticW U16 115 Cmp5.yN
def tab : Cond := tabOf yN yB 6 (some (.array .byte)) site
def P (b : Addr) (A : Cell) (o len : Nat) (args : Array Value) (s : State) : Prop := args = #[.ref b, .int (Int32.ofNat o), .int (Int32.ofNat len)] ∧ Ch b A s ∧ o + len ≤ A.slots.size ∧ len ≤ 536870912 ∧ ∀ i, i < len → ¬ 255 < cv A (o + i)
def E (b : Addr) (A : Cell) (o len : Nat) (r : Option Value) (s u : State) : Prop := NewArr .byte "[B" len (fun j => .int (lo8 (cv A (o + j)))) r s u ∧ u.heap.size = s.heap.size + 1
/-- no char of the range above 255: a new byte[] of their low bytes -/
theorem law (l : Launch) (b : Addr) (A : Cell) (o len : Nat) : Law l yN 3 3 1 18 yB 6 (some (.array .byte)) site (P b A o len) (E b A o len) [] 1 len := by
  refine Law.of_walk (plainFor_of_name (by decide +kernel)) (by decide +kernel) (by decide +kernel) (by decide) (fun _ _ h => by rw [h.1]; rfl) (fun _ U U' hal hh h => ⟨h.1, h.2.1.mv hal hh, h.2.2⟩) (fun r U U' V V' h1 hal h2 h => ⟨NewArr.mv r U U' V V' h1 hal h2 h.1, by rw [h1, h2]; exact h.2⟩) ?_
  intro p e s m args below meth c s₁ X0 hexec hbytes hml hret hlk hnm hown hh0 W hP
  obtain ⟨rfl, hA, l1, l2, hp⟩ := hP
  have a31 := hA.1.2.2.2
  have c1 : Steps p.tables e below (s₁.setTop (entryFrame m #[.ref b, .int (Int32.ofNat o), .int (Int32.ofNat len)] 6)) (s₁.setTop (mkF m 0 #[.val (.ref b), .val (.int (Int32.ofNat o)), .val (.int (Int32.ofNat len)), .unset, .unset, .unset] [])) := entry rfl
  have c2 : Steps p.tables e below (s₁.setTop (entryFrame m #[.ref b, .int (Int32.ofNat o), .int (Int32.ofNat len)] 6)) (s₁.setTop (mkF m 1 #[.val (.ref b), .val (.int (Int32.ofNat o)), .val (.int (Int32.ofNat len)), .unset, .unset, .unset] [.int (Int32.ofNat len)])) := c1.trans (by
    refine XS.iloadN X0.here hexec rfl (hb hbytes d0) rfl ?_
    exact Steps.refl _)
  obtain ⟨T3, B3, X3, ba3, bs3, bv3, bh3, bf3, st3⟩ := X0.anew hexec (atype := .byte) (wk W (.arrayClass .byte)) rfl (by show len * 1 ≤ _; omega) (by omega) (g := (mkF m 1 #[.val (.ref b), .val (.int (Int32.ofNat o)), .val (.int (Int32.ofNat len)), .unset, .unset, .unset] [.int (Int32.ofNat len)])) rfl (hb hbytes d1) (rest := []) rfl (Nat.le_refl _) (by show 0 + len ≤ len; omega)
  rw [hh0] at ba3 st3
  have kp3 : XT.Kept s T3 := (XT.Kept.of_eq hh0).push bh3
  have hA3 := hA.keep X3.warmed.alike (kp3 _ _ hA.1.1)
  have hne : b ≠ s.heap.size := hA.1.ne
  have c4 : Steps p.tables e below (s₁.setTop (entryFrame m #[.ref b, .int (Int32.ofNat o), .int (Int32.ofNat len)] 6)) (T3.setTop (mkF m 3 #[.val (.ref b), .val (.int (Int32.ofNat o)), .val (.int (Int32.ofNat len)), .unset, .unset, .unset] [.ref s.heap.size])) := c2.trans (st3 _ (Steps.refl _))
  have c5 : Steps p.tables e below (s₁.setTop (entryFrame m #[.ref b, .int (Int32.ofNat o), .int (Int32.ofNat len)] 6)) (T3.setTop (mkF m 9 #[.val (.ref b), .val (.int (Int32.ofNat o)), .val (.int (Int32.ofNat len)), .val (.ref s.heap.size), .unset, .unset] [.int (Int32.ofNat len), .int 0, .ref s.heap.size, .int (Int32.ofNat o), .ref b])) := c4.trans (by
    refine XS.astoreN X3.here hexec rfl (hb hbytes d3) rfl rfl rfl ?_
    refine XS.aloadN X3.here hexec rfl (hb hbytes d4) rfl rfl ?_
    refine XS.iloadN X3.here hexec rfl (hb hbytes d5) rfl ?_
    refine XS.aloadN X3.here hexec rfl (hb hbytes d6) rfl rfl ?_
    refine iconstV X3.here hexec rfl 0 (hb hbytes d7) (by decide) ?_
    refine XS.iloadN X3.here hexec rfl (hb hbytes d8) rfl ?_
    exact Steps.refl _)
  obtain ⟨v6, T6, X6, E6, g6⟩ := X3.callS hexec (Cmp5.law l b A s.heap.size B3 o 0 len) hown (wks W (staticW U16 115 Cmp5.yN)) (wk W Cmp5.tab) (W := 0) (Nat.le_of_ble_eq_true rfl) (Nat.le_of_ble_eq_true rfl) (Nat.le_refl _) (by show 0 + len + 0 ≤ len; omega) (g := (mkF m 9 #[.val (.ref b), .val (.int (Int32.ofNat o)), .val (.int (Int32.ofNat len)), .val (.ref s.heap.size), .unset, .unset] [.int (Int32.ofNat len), .int (Int32.ofNat 0), .ref s.heap.size, .int (Int32.ofNat o), .ref b])) rfl (by rw [hml]; rfl) c5 (argsL := [.ref b, .int (Int32.ofNat o), .ref s.heap.size, .int (Int32.ofNat 0), .int (Int32.ofNat len)]) (rest := []) rfl rfl (by show 2 * 0 + 0 ≤ _; decide) (hb hbytes d9) (⟨rfl, hA3, ba3, hne, l1, by rw [bs3]; simp, hp⟩)
  obtain ⟨rfl, B6, p6, f6⟩ := E6
  have c7 : Steps p.tables e below (s₁.setTop (entryFrame m #[.ref b, .int (Int32.ofNat o), .int (Int32.ofNat len)] 6)) (T6.setTop (mkF m 12 #[.val (.ref b), .val (.int (Int32.ofNat o)), .val (.int (Int32.ofNat len)), .val (.ref s.heap.size), .unset, .unset] [.int (Int32.ofNat len)])) := g6
  have c8 : Steps p.tables e below (s₁.setTop (entryFrame m #[.ref b, .int (Int32.ofNat o), .int (Int32.ofNat len)] 6)) (T6.setTop (mkF m 58 #[.val (.ref b), .val (.int (Int32.ofNat o)), .val (.int (Int32.ofNat len)), .val (.ref s.heap.size), .val (.int (Int32.ofNat len)), .unset] [.ref s.heap.size])) := c7.trans (by
    refine XS.istore X6.here hexec rfl (hb hbytes d12) rfl rfl ?_
    refine XS.iload X6.here hexec rfl (hb hbytes d14) rfl ?_
    refine XS.iloadN X6.here hexec rfl (hb hbytes d16) rfl ?_
    refine XS.icmpYes X6.here hexec rfl (pc0 := 17) rfl (hb hbytes d17) rfl (ii_eq_t rfl) (by decide) rfl ?_
    refine XS.aloadN X6.here hexec rfl (hb hbytes d57) rfl rfl ?_
    exact Steps.refl _)
  have X8 := X6.wide (L' := []) (cells' := 1) (slots' := len) (fun x hx hlt => by
    simp only [List.nil_append, copyLocs, List.mem_map, List.mem_range] at hx
    obtain ⟨i, -, rfl⟩ := hx
    exact absurd hlt (Nat.lt_irrefl _)) (Nat.le_refl _) (by omega)
  exact ⟨T6, some (.ref s.heap.size), _, _, _, X8, rfl, rfl, rfl, (fun h => by cases h), ⟨⟨rfl, B6, ba3.like (X3.warmed.alike.symm.trans X6.warmed.alike) p6.1 f6.1 f6.2.1 f6.2.2.1, f6.2.1.trans bv3, by rw [X6.warmed.alike.findClass, f6.1]; exact bf3, by rw [f6.2.2.1, bs3]; simp, fun j hj => by rw [f6.2.2.2 j, if_pos (by omega)]; rfl, kp3.put p6 (Nat.le_refl _)⟩, by rw [p6.2.2, bh3, hh0]; simp⟩, fun fs hl => c8.trans (X8.areturnOut hexec rfl hret rfl (hb hbytes d58) hl)⟩
end Cmp3
namespace CodL
def yN : MethodName := ⟨"java/lang/StringUTF16", "coderFromArrayLen", "([BI)B"⟩
abbrev yB : ByteArray := jdk_52_method_15_code
theorem d0 : decode yB 0 = .ok (.iload_n 1, 1) := by decide +kernel
theorem d1 : decode yB 1 = .ok (.aload_n 0, 1) := by decide +kernel
theorem d2 : decode yB 2 = .ok (.arraylength, 1) := by decide +kernel
theorem d3 : decode yB 3 = .ok (.isub, 1) := by decide +kernel
theorem d4 : decode yB 4 = .ok (.bipush 31, 2) := by decide +kernel
theorem d6 : decode yB 6 = .ok (.iushr, 1) := by decide +kernel
theorem d7 : decode yB 7 = .ok (.i2b, 1) := by decide +kernel
theorem d8 : decode yB 8 = .ok (.ireturn, 1) := by decide +kernel
def site : List Cond := []
def tab : Cond := tabOf yN yB 2 (some .byte) site
def P (d : Addr) (B : Cell) (args : Array Value) (s : State) : Prop := args = #[.ref d, .int (Int32.ofNat B.slots.size)] ∧ Arr .byte d B s
def E (r : Option Value) (s u : State) : Prop := XT.PureE (some (.int 0)) r s u
/-- an array as long as the number of chars: LATIN1 -/
theorem law (l : Launch) (d : Addr) (B : Cell) : Law l yN 2 2 0 0 yB 2 (some .byte) site (P d B) E [] 0 0 := by
  refine Law.of_walk (plainFor_of_name (by decide +kernel)) (by decide +kernel) (by decide +kernel) (by decide) (fun _ _ h => by rw [h.1]; rfl) (fun _ U U' hal hh h => ⟨h.1, h.2.mv hal hh⟩) (fun r U U' V V' h1 hal h2 h => XT.PureE.mv r U U' V V' h1 hal h2 h) ?_
  intro p e s m args below meth c s₁ X0 hexec hbytes hml hret hlk hnm hown hh0 W hP
  obtain ⟨rfl, hB⟩ := hP
  have hB0 := hB.mv X0.warmed.alike hh0
  have c1 : Steps p.tables e below (s₁.setTop (entryFrame m #[.ref d, .int (Int32.ofNat B.slots.size)] 2)) (s₁.setTop (mkF m 0 #[.val (.ref d), .val (.int (Int32.ofNat B.slots.size))] [])) := entry rfl
  have c2 : Steps p.tables e below (s₁.setTop (entryFrame m #[.ref d, .int (Int32.ofNat B.slots.size)] 2)) (s₁.setTop (mkF m 2 #[.val (.ref d), .val (.int (Int32.ofNat B.slots.size))] [.ref d, .int (Int32.ofNat B.slots.size)])) := c1.trans (by
    refine XS.iloadN X0.here hexec rfl (hb hbytes d0) rfl ?_
    refine XS.aloadN X0.here hexec rfl (hb hbytes d1) rfl rfl ?_
    exact Steps.refl _)
  have c3 : Steps p.tables e below (s₁.setTop (entryFrame m #[.ref d, .int (Int32.ofNat B.slots.size)] 2)) (s₁.setTop (mkF m 8 #[.val (.ref d), .val (.int (Int32.ofNat B.slots.size))] [.int (lo8 (ushr (Int32.ofNat B.slots.size - Int32.ofNat B.slots.size) 31))])) := c2.trans (by
    refine X0.alen hexec hB0 rfl rfl (hb hbytes d2) ?_
    refine XS.isub X0.here hexec rfl (hb hbytes d3) rfl ?_
    refine bipushV X0.here hexec rfl 31 (hb hbytes d4) (by decide) ?_
    refine iushr X0.here hexec rfl (hb hbytes d6) rfl ?_
    refine i2b X0.here hexec rfl (hb hbytes d7) rfl ?_
    exact Steps.refl _)
  have e0 : lo8 (ushr (Int32.ofNat B.slots.size - Int32.ofNat B.slots.size) 31) = 0 := by rw [Int32.sub_self]; decide
  rw [e0] at c3
  exact ⟨s₁, some (.int 0), _, _, _, X0, rfl, rfl, rfl, (fun h => by cases h), ⟨rfl, hh0⟩, fun fs hl => c3.trans (X0.ireturnOut hexec hret rfl (Or.inr (Or.inr (Or.inl rfl))) (hb hbytes d8) hl)⟩
end CodL
/-- the String at a is Latin-1 over a new byte[] (the heap's one new cell): the low bytes of the len chars of A from o on; every cell but a is kept -/
def Got (a : Addr) (D : Cell) (fV fC : Field) (A : Cell) (o len : Nat) (r : Option Value) (s u : State) : Prop := r = none ∧ ∃ D' V : Cell, Blank "java/lang/String" a D' u ∧ Same D D' [fV.slot, fC.slot] ∧ D'.slots[fV.slot]? = some (.ref s.heap.size) ∧ D'.slots[fC.slot]? = some (.int 0) ∧ Arr .byte s.heap.size V u ∧ V.vm = .none ∧ u.vm.findClass "[B" = some V.cls ∧ V.slots.size = len ∧ (∀ j, j < len → V.slots[j]? = some (.int (lo8 (cv A (o + j))))) ∧ (∀ (y : Addr) (c : Cell), y ≠ a → s.heap[y]? = some c → u.heap[y]? = some c) ∧ u.heap.size = s.heap.size + 1
theorem Got.mv {a : Addr} {D A : Cell} {fV fC : Field} {o len : Nat} : ∀ r (U U' V V' : State), U'.heap = U.heap → V.vm.Alike V'.vm → V'.heap = V.heap → Got a D fV fC A o len r U V → Got a D fV fC A o len r U' V' :=
  fun r U U' V V' h1 hal h2 ⟨e0, D', X, a1, a2, a3, a4, a5, a6, a7, a8, a9, a10, a11⟩ => ⟨e0, D', X, a1.mv hal h2, a2, by rw [h1]; exact a3, a4, by rw [h1]; exact a5.mv hal h2, a6, by rw [hal.findClass]; exact a7, a8, a9, by rw [h1, h2]; exact a10, by rw [h1, h2]; exact a11⟩
namespace New4
def yN : MethodName := ⟨"java/lang/String", "<init>", "([CIILjava/lang/Void;)V"⟩
abbrev yB : ByteArray := jdk_42_method_149_code
theorem d0 : decode yB 0 = .ok (.aload_n 0, 1) := by decide +kernel
theorem d1 : decode yB 1 = .ok (.invokespecial 1, 3) := by decide +kernel
theorem d4 : decode yB 4 = .ok (.iload_n 3, 1) := by decide +kernel
theorem d5 : decode yB 5 = .ok (.ifCond (.ne) 22, 3) := by decide +kernel
theorem d27 : decode yB 27 = .ok (.getstatic 38, 3) := by decide +kernel
theorem d30 : decode yB 30 = .ok (.ifCond (.eq) 28, 3) := by decide +kernel
theorem d33 : decode yB 33 = .ok (.aload_n 1, 1) := by decide +kernel
theorem d34 : decode yB 34 = .ok (.iload_n 2, 1) := by decide +kernel
theorem d35 : decode yB 35 = .ok (.iload_n 3, 1) := by decide +kernel
theorem d36 : decode yB 36 = .ok (.invokestatic 177, 3) := by decide +kernel
theorem d39 : decode yB 39 = .ok (.astore 5, 2) := by decide +kernel
theorem d41 : decode yB 41 = .ok (.aload_n 0, 1) := by decide +kernel
theorem d42 : decode yB 42 = .ok (.aload 5, 2) := by decide +kernel
theorem d44 : decode yB 44 = .ok (.iload_n 3, 1) := by decide +kernel
theorem d45 : decode yB 45 = .ok (.invokestatic 47, 3) := by decide +kernel
theorem d48 : decode yB 48 = .ok (.putfield 15, 3) := by decide +kernel
theorem d51 : decode yB 51 = .ok (.aload_n 0, 1) := by decide +kernel
theorem d52 : decode yB 52 = .ok (.aload 5, 2) := by decide +kernel
theorem d54 : decode yB 54 = .ok (.putfield 9, 3) := by decide +kernel
theorem d57 : decode yB 57 = .ok (.return_, 1) := by decide +kernel
def site : List Cond := [.fieldLink "java/lang/String" 38 "java/lang/String" "COMPACT_STRINGS" "Z", Cmp3.tab, CodL.tab, .laysFinal "java/lang/String" "java/lang/String" "value" "[B", .fieldLink "java/lang/String" 9 "java/lang/String" "value" "[B", .laysFinal "java/lang/String" "java/lang/String" "coder" "B", .fieldLink "java/lang/String" 15 "java/lang/String" "coder" "B"] ++ objW "java/lang/String" 1 ++ staticW "java/lang/String" 177 Cmp3.yN ++ staticW "java/lang/String" 47 CodL.yN
def tab : Cond := tabOf yN yB 6 none site
def P (a : Addr) (D : Cell) (fV fC : Field) (b : Addr) (A : Cell) (z : Int32) (o len : Nat) (args : Array Value) (s : State) : Prop := args = #[.ref a, .ref b, .int (Int32.ofNat o), .int (Int32.ofNat len), .null] ∧ Blank "java/lang/String" a D s ∧ Found "java/lang/String" "value" "[B" fV s ∧ Found "java/lang/String" "coder" "B" fC s ∧ Ch b A s ∧ StaticIs s "java/lang/String" "COMPACT_STRINGS" "Z" (.int z) ∧ ¬ z = 0 ∧ 0 < len ∧ o + len ≤ A.slots.size ∧ len ≤ 536870912 ∧ ∀ i, i < len → ¬ 255 < cv A (o + i)
def E (a : Addr) (D : Cell) (fV fC : Field) (A : Cell) (o len : Nat) (r : Option Value) (s u : State) : Prop := Got a D fV fC A o len r s u
/-- len > 0, no char of the range above 255: a Latin-1 String of their low bytes -/
theorem law (l : Launch) (a : Addr) (D : Cell) (fV fC : Field) (b : Addr) (A : Cell) (z : Int32) (o len : Nat) : Law l yN 5 4 2 35 yB 6 none site (P a D fV fC b A z o len) (E a D fV fC A o len) [⟨a, fC.slot⟩, ⟨a, fV.slot⟩] 1 len := by
  refine Law.of_walk (plainFor_of_name (by decide +kernel)) (by decide +kernel) (by decide +kernel) (by decide) (fun _ _ h => by rw [h.1]; rfl) (fun _ U U' hal hh h => ⟨h.1, h.2.1.mv hal hh, h.2.2.1.al hal, h.2.2.2.1.al hal, h.2.2.2.2.1.mv hal hh, h.2.2.2.2.2.1.there hal hh, h.2.2.2.2.2.2⟩) (fun r U U' V V' h1 hal h2 h => Got.mv r U U' V V' h1 hal h2 h) ?_
  intro p e s m args below meth c s₁ X0 hexec hbytes hml hret hlk hnm hown hh0 W hP
  obtain ⟨rfl, hB, f1, f2, hA, s1, hz, l0, l1, l2, hp⟩ := hP
  have a31 := hA.1.2.2.2
  have c1 : Steps p.tables e below (s₁.setTop (entryFrame m #[.ref a, .ref b, .int (Int32.ofNat o), .int (Int32.ofNat len), .null] 6)) (s₁.setTop (mkF m 0 #[.val (.ref a), .val (.ref b), .val (.int (Int32.ofNat o)), .val (.int (Int32.ofNat len)), .val .null, .unset] [])) := entry rfl
  have c2 : Steps p.tables e below (s₁.setTop (entryFrame m #[.ref a, .ref b, .int (Int32.ofNat o), .int (Int32.ofNat len), .null] 6)) (s₁.setTop (mkF m 1 #[.val (.ref a), .val (.ref b), .val (.int (Int32.ofNat o)), .val (.int (Int32.ofNat len)), .val .null, .unset] [.ref a])) := c1.trans (by
    refine XS.aloadN X0.here hexec rfl (hb hbytes d0) rfl rfl ?_
    exact Steps.refl _)
  obtain ⟨T3, X3, q3, st3⟩ := X0.oinit hexec hown (wks W (objW "java/lang/String" 1)) (g := (mkF m 1 #[.val (.ref a), .val (.ref b), .val (.int (Int32.ofNat o)), .val (.int (Int32.ofNat len)), .val .null, .unset] [.ref a])) rfl (by rw [hml]; rfl) (rest := []) rfl (hb hbytes d1) (W := 0) (by show 2 * 0 + 0 ≤ _; decide) (Nat.le_of_ble_eq_true rfl) (Nat.le_of_ble_eq_true rfl)
  have hh3 := q3.trans hh0
  have c4 : Steps p.tables e below (s₁.setTop (entryFrame m #[.ref a, .ref b, .int (Int32.ofNat o), .int (Int32.ofNat len), .null] 6)) (T3.setTop (mkF m 27 #[.val (.ref a), .val (.ref b), .val (.int (Int32.ofNat o)), .val (.int (Int32.ofNat len)), .val .null, .unset] [])) := (c2.trans (st3 _ (Steps.refl _))).trans (by
    refine XS.iloadN X3.here hexec rfl (hb hbytes d4) rfl ?_
    refine XS.ifYes X3.here hexec rfl (pc0 := 5) rfl (hb hbytes d5) rfl (i0_ne_t (nz32 (by omega) l0)) (by decide) rfl ?_
    exact Steps.refl _)
  obtain ⟨T5, X5, q5, st5⟩ := X3.sget hexec hown (wk W (.fieldLink "java/lang/String" 38 "java/lang/String" "COMPACT_STRINGS" "Z")) s1 (fun _ _ h => by rw [hh3]; exact h) (g := (mkF m 27 #[.val (.ref a), .val (.ref b), .val (.int (Int32.ofNat o)), .val (.int (Int32.ofNat len)), .val .null, .unset] [])) rfl (hb hbytes d27)
  have hh5 := q5.trans hh3
  have c6 : Steps p.tables e below (s₁.setTop (entryFrame m #[.ref a, .ref b, .int (Int32.ofNat o), .int (Int32.ofNat len), .null] 6)) (T5.setTop (mkF m 30 #[.val (.ref a), .val (.ref b), .val (.int (Int32.ofNat o)), .val (.int (Int32.ofNat len)), .val .null, .unset] [.int z])) := c4.trans (st5 _ (Steps.refl _))
  have c7 : Steps p.tables e below (s₁.setTop (entryFrame m #[.ref a, .ref b, .int (Int32.ofNat o), .int (Int32.ofNat len), .null] 6)) (T5.setTop (mkF m 36 #[.val (.ref a), .val (.ref b), .val (.int (Int32.ofNat o)), .val (.int (Int32.ofNat len)), .val .null, .unset] [.int (Int32.ofNat len), .int (Int32.ofNat o), .ref b])) := c6.trans (by
    refine XS.ifNo X5.here hexec rfl (hb hbytes d30) rfl (i0_eq_f hz) ?_
    refine XS.aloadN X5.here hexec rfl (hb hbytes d33) rfl rfl ?_
    refine XS.iloadN X5.here hexec rfl (hb hbytes d34) rfl ?_
    refine XS.iloadN X5.here hexec rfl (hb hbytes d35) rfl ?_
    exact Steps.refl _)
  obtain ⟨v8, T8, X8, E8, g8⟩ := X5.callS hexec (Cmp3.law l b A o len) hown (wks W (staticW "java/lang/String" 177 Cmp3.yN)) (wk W Cmp3.tab) (W := 0) (Nat.le_of_ble_eq_true rfl) (Nat.le_of_ble_eq_true rfl) (Nat.le_refl _) (by show 0 + len ≤ len; omega) (g := (mkF m 36 #[.val (.ref a), .val (.ref b), .val (.int (Int32.ofNat o)), .val (.int (Int32.ofNat len)), .val .null, .unset] [.int (Int32.ofNat len), .int (Int32.ofNat o), .ref b])) rfl (by rw [hml]; rfl) c7 (argsL := [.ref b, .int (Int32.ofNat o), .int (Int32.ofNat len)]) (rest := []) rfl rfl (by show 2 * 0 + 0 ≤ _; decide) (hb hbytes d36) (⟨rfl, hA.mv X5.warmed.alike hh5, l1, l2, hp⟩)
  obtain ⟨e8, z8⟩ := E8
  obtain ⟨rfl, N, n1, n2, n3, n4, n5, n6⟩ := NewArr.mv _ T5 s _ _ hh5.symm (Vm.Alike.refl _) rfl e8
  rw [hh5] at z8
  have hB1 := hB.keep X8.warmed.alike (n6 _ _ hB.1)
  have hne : s.heap.size ≠ a := (Nat.ne_of_lt (Array.getElem?_eq_some_iff.mp hB.1).1).symm
  have c9 : Steps p.tables e below (s₁.setTop (entryFrame m #[.ref a, .ref b, .int (Int32.ofNat o), .int (Int32.ofNat len), .null] 6)) (T8.setTop (mkF m 39 #[.val (.ref a), .val (.ref b), .val (.int (Int32.ofNat o)), .val (.int (Int32.ofNat len)), .val .null, .unset] [.ref s.heap.size])) := g8
  have c10 : Steps p.tables e below (s₁.setTop (entryFrame m #[.ref a, .ref b, .int (Int32.ofNat o), .int (Int32.ofNat len), .null] 6)) (T8.setTop (mkF m 45 #[.val (.ref a), .val (.ref b), .val (.int (Int32.ofNat o)), .val (.int (Int32.ofNat len)), .val .null, .val (.ref s.heap.size)] [.int (Int32.ofNat N.slots.size), .ref s.heap.size, .ref a])) := by
    have hc : Steps p.tables e below (s₁.setTop (entryFrame m #[.ref a, .ref b, .int (Int32.ofNat o), .int (Int32.ofNat len), .null] 6)) (T8.setTop (mkF m 45 #[.val (.ref a), .val (.ref b), .val (.int (Int32.ofNat o)), .val (.int (Int32.ofNat len)), .val .null, .val (.ref s.heap.size)] [.int (Int32.ofNat len), .ref s.heap.size, .ref a])) := c9.trans (by
      refine XS.astore X8.here hexec rfl (hb hbytes d39) rfl rfl rfl ?_
      refine XS.aloadN X8.here hexec rfl (hb hbytes d41) rfl rfl ?_
      refine XS.aload X8.here hexec rfl (hb hbytes d42) rfl rfl ?_
      refine XS.iloadN X8.here hexec rfl (hb hbytes d44) rfl ?_
      exact Steps.refl _)
    rw [n4]; exact hc
  obtain ⟨v11, T11, X11, E11, g11⟩ := X8.callS hexec (CodL.law l s.heap.size N) hown (wks W (staticW "java/lang/String" 47 CodL.yN)) (wk W CodL.tab) (W := 1) (Nat.le_of_ble_eq_true rfl) (Nat.le_of_ble_eq_true rfl) (Nat.le_refl _) (by show 0 + len + 0 ≤ len; omega) (g := (mkF m 45 #[.val (.ref a), .val (.ref b), .val (.int (Int32.ofNat o)), .val (.int (Int32.ofNat len)), .val .null, .val (.ref s.heap.size)] [.int (Int32.ofNat N.slots.size), .ref s.heap.size, .ref a])) rfl (by rw [hml]; rfl) c10 (argsL := [.ref s.heap.size, .int (Int32.ofNat N.slots.size)]) (rest := [.ref a]) rfl rfl (by show 2 * 0 + (1 + 0) ≤ _; decide) (hb hbytes d45) (⟨rfl, n1⟩)
  obtain ⟨rfl, q11⟩ := E11
  have hB11 := hB1.mv (X8.warmed.alike.symm.trans X11.warmed.alike) q11
  have c12 : Steps p.tables e below (s₁.setTop (entryFrame m #[.ref a, .ref b, .int (Int32.ofNat o), .int (Int32.ofNat len), .null] 6)) (T11.setTop (mkF m 48 #[.val (.ref a), .val (.ref b), .val (.int (Int32.ofNat o)), .val (.int (Int32.ofNat len)), .val .null, .val (.ref s.heap.size)] [.int 0, .ref a])) := g11
  obtain ⟨T13, X13, p13, bl13, sl13, st13⟩ := X11.finit hexec hown (wk W (.fieldLink "java/lang/String" 15 "java/lang/String" "coder" "B")) (Or.inr ⟨_, (wk W (.laysFinal "java/lang/String" "java/lang/String" "coder" "B"))⟩) (Or.inl ⟨rfl, hnm⟩) f2 (Or.inl rfl) hB11 (t := .byte) (by decide +kernel) rfl (g := (mkF m 48 #[.val (.ref a), .val (.ref b), .val (.int (Int32.ofNat o)), .val (.int (Int32.ofNat len)), .val .null, .val (.ref s.heap.size)] [.int 0, .ref a])) rfl (rest := []) rfl (hb hbytes d48)
  have c14 : Steps p.tables e below (s₁.setTop (entryFrame m #[.ref a, .ref b, .int (Int32.ofNat o), .int (Int32.ofNat len), .null] 6)) (T13.setTop (mkF m 54 #[.val (.ref a), .val (.ref b), .val (.int (Int32.ofNat o)), .val (.int (Int32.ofNat len)), .val .null, .val (.ref s.heap.size)] [.ref s.heap.size, .ref a])) := (c12.trans (st13 _ (Steps.refl _))).trans (by
    refine XS.aloadN X13.here hexec rfl (hb hbytes d51) rfl rfl ?_
    refine XS.aload X13.here hexec rfl (hb hbytes d52) rfl rfl ?_
    exact Steps.refl _)
  obtain ⟨T15, X15, p15, bl15, sl15, st15⟩ := X13.finit hexec hown (wk W (.fieldLink "java/lang/String" 9 "java/lang/String" "value" "[B")) (Or.inr ⟨_, (wk W (.laysFinal "java/lang/String" "java/lang/String" "value" "[B"))⟩) (Or.inl ⟨rfl, hnm⟩) f1 (Or.inl rfl) bl13 (t := (.array .byte)) (by decide +kernel) rfl (g := (mkF m 54 #[.val (.ref a), .val (.ref b), .val (.int (Int32.ofNat o)), .val (.int (Int32.ofNat len)), .val .null, .val (.ref s.heap.size)] [.ref s.heap.size, .ref a])) rfl (rest := []) rfl (hb hbytes d54)
  have c16 : Steps p.tables e below (s₁.setTop (entryFrame m #[.ref a, .ref b, .int (Int32.ofNat o), .int (Int32.ofNat len), .null] 6)) (T15.setTop (mkF m 57 #[.val (.ref a), .val (.ref b), .val (.int (Int32.ofNat o)), .val (.int (Int32.ofNat len)), .val .null, .val (.ref s.heap.size)] [])) := c14.trans (st15 _ (Steps.refl _))
  have ap := apart (Or.inr ⟨_, (wk W (.laysFinal "java/lang/String" "java/lang/String" "value" "[B"))⟩) (Or.inr ⟨_, (wk W (.laysFinal "java/lang/String" "java/lang/String" "coder" "B"))⟩) f1 f2 (t₁ := .array .byte) (t₂ := .byte) (by decide +kernel) (by decide +kernel) (by decide)
  have al := X8.warmed.alike.symm.trans X15.warmed.alike
  have n7 : T11.heap[s.heap.size]? = some N := by rw [q11]; exact n1.1
  exact ⟨T15, none, _, _, _, X15, by simp, rfl, by omega, (fun _ => rfl), ⟨rfl, _, N, bl15, ((Same.refl D _).set _ (by simp)).set _ (by simp), sl15, (Cell.slots_setSlot_ne _ ap).trans sl13, n1.keep al (p15.other hne (p13.other hne n7)), n2, by rw [al.findClass]; exact n3, n4, n5, fun y c h1 h2 => p15.other h1 (p13.other h1 (by rw [q11]; exact n6 y c h2)), by rw [p15.2.2, p13.2.2, q11]; exact z8⟩, fun fs hl => c16.trans (X15.returnOut hexec hret (hb hbytes d57) hl)⟩
end New4
namespace New1
def yN : MethodName := ⟨"java/lang/String", "<init>", "([C)V"⟩
abbrev yB : ByteArray := jdk_42_method_3_code
theorem d0 : decode yB 0 = .ok (.aload_n 0, 1) := by decide +kernel
theorem d1 : decode yB 1 = .ok (.aload_n 1, 1) := by decide +kernel
theorem d2 : decode yB 2 = .ok (.iconst 0, 1) := by decide +kernel
theorem d3 : decode yB 3 = .ok (.aload_n 1, 1) := by decide +kernel
theorem d4 : decode yB 4 = .ok (.arraylength, 1) := by decide +kernel
theorem d5 : decode yB 5 = .ok (.aconst_null, 1) := by decide +kernel
theorem d6 : decode yB 6 = .ok (.invokespecial 27, 3) := by decide +kernel
theorem d9 : decode yB 9 = .ok (.return_, 1) := by decide +kernel
def site : List Cond := [New4.tab] ++ initW "java/lang/String" 27 New4.yN
def tab : Cond := tabOf yN yB 2 none site
def P (a : Addr) (D : Cell) (fV fC : Field) (b : Addr) (A : Cell) (z : Int32) (args : Array Value) (s : State) : Prop := args = #[.ref a, .ref b] ∧ Blank "java/lang/String" a D s ∧ Found "java/lang/String" "value" "[B" fV s ∧ Found "java/lang/String" "coder" "B" fC s ∧ Ch b A s ∧ StaticIs s "java/lang/String" "COMPACT_STRINGS" "Z" (.int z) ∧ ¬ z = 0 ∧ 0 < A.slots.size ∧ A.slots.size ≤ 536870912 ∧ ∀ i, i < A.slots.size → ¬ 255 < cv A i
def E (a : Addr) (D : Cell) (fV fC : Field) (A : Cell) (r : Option Value) (s u : State) : Prop := Got a D fV fC A 0 A.slots.size r s u
/-- new String(chars), not empty, no char above 255: a Latin-1 String of their low bytes -/
theorem law (l : Launch) (a : Addr) (D : Cell) (fV fC : Field) (b : Addr) (A : Cell) (z : Int32) : Law l yN 2 1 3 52 yB 2 none site (P a D fV fC b A z) (E a D fV fC A) [⟨a, fC.slot⟩, ⟨a, fV.slot⟩] 1 A.slots.size := by
  refine Law.of_walk (plainFor_of_name (by decide +kernel)) (by decide +kernel) (by decide +kernel) (by decide) (fun _ _ h => by rw [h.1]; rfl) (fun _ U U' hal hh h => ⟨h.1, h.2.1.mv hal hh, h.2.2.1.al hal, h.2.2.2.1.al hal, h.2.2.2.2.1.mv hal hh, h.2.2.2.2.2.1.there hal hh, h.2.2.2.2.2.2⟩) (fun r U U' V V' h1 hal h2 h => Got.mv r U U' V V' h1 hal h2 h) ?_
  intro p e s m args below meth c s₁ X0 hexec hbytes hml hret hlk hnm hown hh0 W hP
  obtain ⟨rfl, hB, f1, f2, hA, s1, hz, l0, l2, hp⟩ := hP
  have c1 : Steps p.tables e below (s₁.setTop (entryFrame m #[.ref a, .ref b] 2)) (s₁.setTop (mkF m 0 #[.val (.ref a), .val (.ref b)] [])) := entry rfl
  have c2 : Steps p.tables e below (s₁.setTop (entryFrame m #[.ref a, .ref b] 2)) (s₁.setTop (mkF m 6 #[.val (.ref a), .val (.ref b)] [.null, .int (Int32.ofNat A.slots.size), .int 0, .ref b, .ref a])) := c1.trans (by
    refine XS.aloadN X0.here hexec rfl (hb hbytes d0) rfl rfl ?_
    refine XS.aloadN X0.here hexec rfl (hb hbytes d1) rfl rfl ?_
    refine iconstV X0.here hexec rfl 0 (hb hbytes d2) (by decide) ?_
    refine XS.aloadN X0.here hexec rfl (hb hbytes d3) rfl rfl ?_
    refine X0.alen hexec (hA.1.mv X0.warmed.alike hh0) rfl rfl (hb hbytes d4) ?_
    refine XS.aconstNull X0.here hexec rfl (hb hbytes d5) ?_
    exact Steps.refl _)
  obtain ⟨v3, T3, X3, E3, g3⟩ := X0.callN hexec (New4.law l a D fV fC b A z 0 A.slots.size) rfl hown (wks W (initW "java/lang/String" 27 New4.yN)) (W New4.tab (by simp only [site, List.mem_cons, List.mem_append, true_or, or_true])) (W := 0) (Nat.le_of_ble_eq_true rfl) (Nat.le_of_ble_eq_true rfl) (Nat.le_refl _) (by show 0 + A.slots.size ≤ A.slots.size; omega) (g := (mkF m 6 #[.val (.ref a), .val (.ref b)] [.null, .int (Int32.ofNat A.slots.size), .int (Int32.ofNat 0), .ref b, .ref a])) rfl (by rw [hml]; rfl) c2 (argsL := [.ref b, .int (Int32.ofNat 0), .int (Int32.ofNat A.slots.size), .null]) (rest := []) rfl rfl (by show 2 * 0 + 0 ≤ _; decide) (hb hbytes d6) (⟨rfl, hB.mv X0.warmed.alike hh0, f1.al X0.warmed.alike, f2.al X0.warmed.alike, hA.mv X0.warmed.alike hh0, s1.there X0.warmed.alike hh0, hz, l0, by omega, l2, fun i hi => by rw [Nat.zero_add]; exact hp i hi⟩)
  have e0 := Got.mv _ s₁ s _ _ hh0.symm (Vm.Alike.refl _) rfl E3
  obtain rfl := e0.1
  have c4 : Steps p.tables e below (s₁.setTop (entryFrame m #[.ref a, .ref b] 2)) (T3.setTop (mkF m 9 #[.val (.ref a), .val (.ref b)] [])) := g3
  exact ⟨T3, none, _, _, _, X3, by simp, rfl, by omega, (fun _ => rfl), e0, fun fs hl => c4.trans (X3.returnOut hexec hret (hb hbytes d9) hl)⟩
theorem pays {l : Launch} {R : Room} {p : Program} {e : Env} {below : List Frame} {s : State} {sargs : Array Value} {len W : Nat} (a : Addr) (D : Cell) (fV fC : Field) (b : Addr) (A : Cell) (z : Int32) (htab : tab.before sargs s = true) (hfr : 4 ≤ R.frames) (hlo : W + 65 ≤ R.locals) :
    Back l R p e below s sargs yN len W (fun A₁ a₁ => A₁.cells + 1 ≤ R.cells ∧ A₁.slots + A.slots.size ≤ R.slots ∧ P a D fV fC b A z a₁ A₁.U) (fun A₁ _ v₁ B₁ => E a D fV fC A v₁ A₁.U B₁.U ∧ B₁.locs = A₁.locs ++ [⟨a, fC.slot⟩, ⟨a, fV.slot⟩] ∧ B₁.cells = A₁.cells + 1 ∧ B₁.slots = A₁.slots + A.slots.size) :=
  (law l a D fV fC b A z).pays htab hfr (by omega)
end New1
end StrChars
namespace StrChars.Road
open Jvm Sem ClassFile Op Lib Jvm.Stand Jvm.Free Jvm.Free.XT
open Jvm.Lib.Cold (StaticIs)
abbrev ST : String := "java/lang/String"
/-- every table word that New1's law asks, flat -/
abbrev words : List Jvm.Cond := [.code New1.yN New1.yB 2 none, .initialized ST, .methodLink ST 27 New4.yN, .instanceMethod New4.yN,
  .code New4.yN New4.yB 6 none, .fieldLink ST 38 ST "COMPACT_STRINGS" "Z", .laysFinal ST ST "value" "[B", .fieldLink ST 9 ST "value" "[B", .laysFinal ST ST "coder" "B", .fieldLink ST 15 ST "coder" "B",
  .methodLink ST 1 Lib.objectInit, .instanceMethod Lib.objectInit, .code Lib.objectInit ⟨#[0xb1]⟩ 1 none, .methodLink ST 177 Cmp3.yN, .static Cmp3.yN, .methodLink ST 47 CodL.yN, .static CodL.yN,
  .code Cmp3.yN Cmp3.yB 6 (some (.array .byte)), .initialized U16, .arrayClass .byte, .methodLink U16 115 Cmp5.yN, .static Cmp5.yN, .code Cmp5.yN Cmp5.yB 7 (some .int), .code CodL.yN CodL.yB 2 (some .byte)]
theorem tab_of {a : Array Value} {s : State} (h : ∀ w ∈ words, w.before a s = true) : New1.tab.before a s = true := by
  have h5 : Cmp5.tab.before a s = true := unparts (wk h (.code Cmp5.yN Cmp5.yB 7 (some .int))) (wks h (.initialized Cmp5.yN.cls :: Cmp5.site))
  have hc : CodL.tab.before a s = true := unparts (wk h (.code CodL.yN CodL.yB 2 (some .byte))) (wks h (.initialized CodL.yN.cls :: CodL.site))
  have q5 : ∀ w ∈ Cmp5.tab :: words, w.before a s = true := fun w hw => (List.mem_cons.mp hw).elim (fun e => e ▸ h5) (h w)
  have h3 : Cmp3.tab.before a s = true := unparts (wk q5 (.code Cmp3.yN Cmp3.yB 6 (some (.array .byte)))) (wks q5 (.initialized Cmp3.yN.cls :: Cmp3.site))
  have q3 : ∀ w ∈ Cmp3.tab :: CodL.tab :: words, w.before a s = true := fun w hw => (List.mem_cons.mp hw).elim (fun e => e ▸ h3) fun hw => (List.mem_cons.mp hw).elim (fun e => e ▸ hc) (h w)
  have h4 : New4.tab.before a s = true := unparts (wk q3 (.code New4.yN New4.yB 6 none)) (wks q3 (.initialized New4.yN.cls :: New4.site))
  have q4 : ∀ w ∈ New4.tab :: words, w.before a s = true := fun w hw => (List.mem_cons.mp hw).elim (fun e => e ▸ h4) (h w)
  exact unparts (wk q4 (.code New1.yN New1.yB 2 none)) (wks q4 (.initialized New1.yN.cls :: New1.site))
/-- the words ride from the start Z to the walk's own state -/
theorem moved {Z s : State} {a0 args : Array Value} (hZ : Z.Warmed39 s.vm) (hw : ∀ d ∈ words, d.before a0 Z = true) : ∀ d ∈ words, d.before args s = true := fun d hd => by
  have q := hw d hd
  have t : ∀ d ∈ words, d = .arrayClass .byte ∨ (d.onTables && d.keepsFace) = true := by decide +kernel
  rcases t d hd with rfl | t
  · exact RoadKit.mvA hZ q
  · exact RoadKit.mv hZ q t
/-- WHAT COMES BACK, over the tables of the start Z: h the heap at the call, h' behind it -/
def Q (Z : State) (x : Addr) (A : Cell) (h : Heap) (v : Option Value) (h' : Heap) (L : List Loc) : Prop := v = none ∧ (∀ y ∈ L, y.base = x) ∧ RoadKit.Keep h h' [x] ∧ h'.size = h.size + 1 ∧ RoadKit.Exa Z h' x ST ∧ RoadKit.Fld Z h' x ST "value" "[B" (.ref h.size) ∧ RoadKit.Fld Z h' x ST "coder" "B" (.int 0) ∧
  (∃ V : Cell, RoadKit.Arr Z h' h.size V .byte ∧ V.vm = .none ∧ Z.vm.findClass "[B" = some V.cls ∧ V.slots.size = A.slots.size ∧ ∀ j, j < A.slots.size → V.slots[j]? = some (.int (lo8 (cv A j)))) ∧
  ∀ (O n d : String) (w : Value), RoadKit.Fld Z h x O n d w → RoadKit.slotOf Z O n d ≠ RoadKit.slotOf Z ST "value" "[B" → RoadKit.slotOf Z O n d ≠ RoadKit.slotOf Z ST "coder" "B" → RoadKit.Fld Z h' x O n d w
/-- **new String(chars) AT A CALL, IN THE ROAD'S FORM**: for specialBack behind newO: x the fresh String, b the char[] with the cell A -/
theorem back {p : Program} {l : Launch} {e : Env} {R : Room} {s : State} {args : Array Value} {below : List Frame} {len W : Nat} {Z : State} {a0 : Array Value} {h : Heap} (hZ : Z.Warmed39 s.vm) (hw : ∀ d ∈ words, d.before a0 Z = true) {kI : Nat} (wi : (Jvm.Cond.instantiable ST kI).before a0 Z = true)
    {x b : Addr} {A : Cell} {z : Int32} {v0 c0 : Value} (E : RoadKit.Exa Z h x ST) (V : RoadKit.Fld Z h x ST "value" "[B" v0) (C : RoadKit.Fld Z h x ST "coder" "B" c0) (K : RoadKit.Arr Z h b A .char) (hty : Typed .char A) (S : RoadKit.Sta Z h ST "COMPACT_STRINGS" "Z" (.int z)) (hz : ¬ z = 0)
    (l0 : 0 < A.slots.size) (l2 : A.slots.size ≤ 536870912) (hp : ∀ i, i < A.slots.size → ¬ 255 < cv A i) (hfr : 4 ≤ R.frames) (hlo : W + 65 ≤ R.locals) :
    Back l R p e below s args New1.yN len W (fun P a => a = #[.ref x, .ref b] ∧ P.U.heap = h ∧ P.cells + 1 ≤ R.cells ∧ P.slots + A.slots.size ≤ R.slots)
      (fun P _ v B => ∃ L, Q Z x A h v B.U.heap L ∧ B.locs = P.locs ++ L ∧ B.cells = P.cells + 1 ∧ B.slots = P.slots + A.slots.size) := by
  intro m meth c P g ig mk a X hg hsize hdg hW hn hp'
  obtain ⟨rfl, rfl, r1, r2⟩ := hp'
  have al : Z.vm.Alike P.U.vm := hZ.alike.trans X.warmed.alike
  obtain ⟨D, cfV, kV, iV, fV, hD, gV, stV, knV, obV, asV, slV⟩ := id V
  obtain ⟨D', cfC, kC, iC, fC, hD', gC, stC, -, -, asC, slC⟩ := id C
  cases hD.symm.trans hD'
  obtain ⟨D2, kD, e1, e2, e3, e4, e5⟩ := id E
  cases hD.symm.trans e1
  obtain ⟨c2, k2, i1, i2, i3, -⟩ := Cond.instantiable_spec wi
  cases e2.symm.trans i1
  cases e3.symm.trans i2
  obtain ⟨kU, u1, u2⟩ := al.2.2 _ _ e3
  have hB : Blank ST x D P.U := ⟨hD, ⟨knV, fun q hq => by rw [hq] at obV; cases obV⟩, by rw [al.findClass]; exact e2, kU, u1, by rw [u2]; exact i3, by rw [u2]; exact e5 i3⟩
  have F1 : Found ST "value" "[B" fV P.U := ⟨SBG.found_only al ⟨cfV, kV, iV, gV⟩, stV⟩
  have F2 : Found ST "coder" "B" fC P.U := ⟨SBG.found_only al ⟨cfC, kC, iC, gC⟩, stC⟩
  have hA : Ch b A P.U := ⟨⟨K.1, State.isArrayOf_alike al K.2.1, K.2.2, by omega⟩, hty⟩
  have hS : StaticIs P.U ST "COMPACT_STRINGS" "Z" (.int z) := by
    obtain ⟨cfS, iS, kS, fS, st, cS, t1, t2, t3, t4, t5, t6, t7⟩ := S
    exact StaticIs.there (s := { Z with heap := P.U.heap }) ⟨cfS, iS, kS, fS, st, cS, t1, t2, t3, t4, t5, (fun q => by rw [q] at t6; cases t6), t7⟩ al rfl
  obtain ⟨v, B, X', ⟨⟨hv, E', V', q1, q2, q3, q4, q5, q6, q7, q8, q9, q10, q11⟩, hl, hc, hs⟩, st⟩ := New1.pays x D fV fC b A z (tab_of (moved hZ hw)) hfr hlo m meth c P g ig mk _ X hg hsize hdg hW hn ⟨r1, r2, rfl, hB, F1, F2, hA, hS, hz, l0, l2, hp⟩
  have al' : Z.vm.Alike B.U.vm := hZ.alike.trans X'.warmed.alike
  have hsz : E'.slots.size = D.slots.size := by
    obtain ⟨-, -, -, kB, w1, w2, w3⟩ := q1
    obtain ⟨kB', y1, y2⟩ := al'.2.2 _ _ e3
    rw [q2.2.1] at w1
    cases w1.symm.trans y1
    rw [w3, e5 i3, y2]
  refine ⟨v, B, X', ⟨_, ⟨hv, ?_, ⟨by omega, fun y cy hy hn' => q10 y cy (by simpa using hn') hy, fun y cy hy => ?_⟩, q11, ⟨E', _, q1.1, by rw [q2.2.1]; exact e2, by rw [q2.2.1]; exact e3, by rw [q2.1]; exact obV, fun _ => by rw [hsz]; exact e5 i3⟩,
    ⟨E', cfV, kV, iV, fV, q1.1, gV, stV, by rw [q2.1]; exact knV, by rw [q2.1]; exact obV, by rw [q2.2.1]; exact asV, q3⟩, ⟨E', cfC, kC, iC, fC, q1.1, gC, stC, by rw [q2.1]; exact knV, by rw [q2.1]; exact obV, by rw [q2.2.1]; exact asC, q4⟩,
    ⟨V', ⟨q5.1, State.isArrayOf_alike al'.symm q5.2.1, q5.2.2.1⟩, q6, by rw [← al'.findClass]; exact q7, q8, fun j hj => by have := q9 j hj; rwa [Nat.zero_add] at this⟩, fun O n d w F n1 n2 => ?_⟩, hl, hc, hs⟩, st⟩
  · intro y hy
    simp only [List.mem_cons, List.not_mem_nil, or_false] at hy
    rcases hy with rfl | rfl <;> rfl
  · by_cases q : y = x
    · subst q
      cases hD.symm.trans hy
      exact ⟨E', q1.1, q2.2.1, q2.1, hsz⟩
    · exact ⟨cy, q10 y cy q hy, rfl, rfl, rfl⟩
  · obtain ⟨D3, cf, k, i, f, g1, g2, g3, g4, g5, g6, g7⟩ := F
    cases hD.symm.trans g1
    simp only [RoadKit.slotOf, g2, gV, gC, Option.map_some, Option.getD_some] at n1 n2
    exact ⟨E', cf, k, i, f, q1.1, g2, g3, by rw [q2.1]; exact g4, by rw [q2.1]; exact g5, by rw [q2.2.1]; exact g6, by rw [q2.2.2 f.slot (by simp [n1, n2])]; exact g7⟩
end StrChars.Road
namespace StrChars.Road
open Jvm Sem ClassFile Op Lib Jvm.Stand Jvm.Free Jvm.Free.XT
/-- WHAT COMES BACK, the byte[] as a list of values -/
def QA (Z : State) (x : Addr) (zn : Int32) (cs : List Int32) (h : Heap) (v : Option Value) (h' : Heap) (L : List Loc) : Prop := v = none ∧ (∀ y ∈ L, y.base = x) ∧ RoadKit.Keep h h' [x] ∧ h'.size = h.size + 1 ∧ RoadKit.Exa Z h' x ST ∧ RoadKit.Fld Z h' x ST "value" "[B" (.ref h.size) ∧ RoadKit.Fld Z h' x ST "coder" "B" (.int 0) ∧
  (∃ kb, Z.vm.findClass "[B" = some kb ∧ RoadKit.Arv Z h' h.size kb .byte zn (cs.map fun c => .int (lo8 c)) (.int 0)) ∧
  ∀ (O n d : String) (w : Value), RoadKit.Fld Z h x O n d w → RoadKit.slotOf Z O n d ≠ RoadKit.slotOf Z ST "value" "[B" → RoadKit.slotOf Z O n d ≠ RoadKit.slotOf Z ST "coder" "B" → RoadKit.Fld Z h' x O n d w
/-- **new String(chars) AT A CALL, THE ARRAYS AS LISTS**: the char[] at b holds cs, not empty, no char above 255 -/
theorem backArv {p : Program} {l : Launch} {e : Env} {R : Room} {s : State} {args : Array Value} {below : List Frame} {len W : Nat} {Z : State} {a0 : Array Value} {h : Heap} (hZ : Z.Warmed39 s.vm) (hw : ∀ d ∈ words, d.before a0 Z = true) {kI : Nat} (wi : (Jvm.Cond.instantiable ST kI).before a0 Z = true)
    {x b : Addr} {k : ClassId} {zn z : Int32} {cs : List Int32} {dv v0 c0 : Value} (E : RoadKit.Exa Z h x ST) (V : RoadKit.Fld Z h x ST "value" "[B" v0) (C : RoadKit.Fld Z h x ST "coder" "B" c0) (K : RoadKit.Arv Z h b k .char zn (cs.map Value.int) dv) (S : RoadKit.Sta Z h ST "COMPACT_STRINGS" "Z" (.int z)) (hz : ¬ z = 0)
    (hlen : zn.toNatClampNeg = cs.length) (h0 : 0 < cs.length) (hbig : cs.length ≤ 536870912) (hall : ∀ c ∈ cs, ¬ 255 < c) (hfr : 4 ≤ R.frames) (hlo : W + 65 ≤ R.locals) :
    Back l R p e below s args New1.yN len W (fun P a => a = #[.ref x, .ref b] ∧ P.U.heap = h ∧ P.cells + 1 ≤ R.cells ∧ P.slots + cs.length ≤ R.slots)
      (fun P _ v B => ∃ L, QA Z x zn cs h v B.U.heap L ∧ B.locs = P.locs ++ L ∧ B.cells = P.cells + 1 ∧ B.slots = P.slots + cs.length) := by
  obtain ⟨A, K1, K2, K3, K4, K5, K6⟩ := K
  have e : A.slots.size = cs.length := K3.trans hlen
  have hat : ∀ (i : Nat) (hi : i < cs.length), A.slots[i]? = some (.int cs[i]) := fun i hi => by rw [K5 i (by omega)]; simp [List.getD_eq_getElem?_getD, hi]
  have hcv : ∀ (i : Nat) (hi : i < cs.length), cv A i = cs[i] := fun i hi => by unfold cv; rw [hat i hi]
  have hty : Typed .char A := fun i v hv => by
    have hi : i < A.slots.size := (Array.getElem?_eq_some_iff.mp hv).1
    have q := K5 i hi
    rw [hv] at q
    rw [Option.some.inj q]
    exact K6 i hi
  refine Back.mono (back hZ hw wi E V C K1 hty S hz (by omega) (by omega) (fun i hi => by rw [hcv i (by omega)]; exact hall _ (List.getElem_mem _)) hfr hlo) (fun P a hp => ⟨hp.1, hp.2.1, hp.2.2.1, by rw [e]; exact hp.2.2.2⟩) (fun P a v B hp hq => ?_)
  obtain ⟨L, ⟨q1, q2, q3, q4, q5, q6, q7, ⟨V', v1, v2, v3, v4, v5⟩, q9⟩, hl, hc, hs⟩ := hq
  refine ⟨L, ⟨q1, q2, q3, q4, q5, q6, q7, ⟨V'.cls, v3, V', v1, rfl, by rw [v4, e, hlen], K4, fun i hi => ?_, fun i hi => ?_⟩, q9⟩, hl, hc, by rw [hs, e]⟩
  · have hi' : i < cs.length := by omega
    rw [v5 i (by omega), hcv i hi']; simp [List.getD_eq_getElem?_getD, hi']
  · have hi' : i < cs.length := by omega
    simp only [List.getD_eq_getElem?_getD, List.getElem?_map, List.getElem?_eq_getElem hi', Option.map_some, Option.getD_some]
    exact fits_lo8 _
end StrChars.Road
namespace StrChars.Road
open Jvm Sem ClassFile Op Lib Jvm.Stand Jvm.Free Jvm.Free.XT
/-- WHAT COMES BACK, in the writer's own shape -/
def QV (Z : State) (x : Addr) (N : Int32) (bs : List Int32) (h : Heap) (n0 : Nat) (v : Option Value) (h' : Heap) (L : List Loc) : Prop := v = none ∧ RoadKit.Fr n0 L ∧ RoadKit.Keep h h' [x] ∧ RoadKit.Exa Z h' x ST ∧ RoadKit.Fld Z h' x ST "coder" "B" (.int 0) ∧
  ∃ (t : Addr) (kb : ClassId), n0 ≤ t ∧ h.size ≤ t ∧ ¬ t = x ∧ RoadKit.Fld Z h' x ST "value" "[B" (.ref t) ∧ RoadKit.Arv Z h' t kb .byte N (bs.map Value.int) (.int 0)
/-- **new String(chars) AT A CALL, FOR THE WRITER**: a char[] of n known ints, each 0 to 255 -/
theorem backV {p : Program} {l : Launch} {e : Env} {R : Room} {s : State} {args : Array Value} {below : List Frame} {len W : Nat} {Z : State} {a0 : Array Value} {h : Heap} (hZ : Z.Warmed39 s.vm) (hw : ∀ d ∈ words, d.before a0 Z = true) {kI : Nat} (wi : (Jvm.Cond.instantiable ST kI).before a0 Z = true)
    {x b : Addr} {kC : ClassId} {cs bs : List Int32} {d v0 c0 : Value} {z N : Int32} {n n0 : Nat} (hx0 : n0 ≤ x) (hh0 : n0 ≤ h.size) (E : RoadKit.Exa Z h x ST) (V : RoadKit.Fld Z h x ST "value" "[B" v0) (C : RoadKit.Fld Z h x ST "coder" "B" c0) (K : RoadKit.Arv Z h b kC .char N (cs.map Value.int) d) (S : RoadKit.Sta Z h ST "COMPACT_STRINGS" "Z" (.int z)) (hz : ¬ z = 0)
    (hn : cs.length = n) (hN : N = Int32.ofNat n) (l0 : 0 < n) (l2 : n ≤ 4000) (hp : ∀ c ∈ cs, ¬ c < 0 ∧ ¬ (255 : Int32) < c) (hb : bs = cs.map (fun c => c.toInt8.toInt32)) (hfr : 4 ≤ R.frames) (hlo : W + 65 ≤ R.locals) :
    Back l R p e below s args (⟨"java/lang/String", "<init>", "([C)V"⟩ : MethodName) len W (fun P a => a = #[.ref x, .ref b] ∧ P.U.heap = h ∧ P.cells + 1 ≤ R.cells ∧ P.slots + n ≤ R.slots)
      (fun P _ v B => ∃ L, QV Z x N bs h n0 v B.U.heap L ∧ B.locs = P.locs ++ L ∧ B.cells = P.cells + 1 ∧ B.slots = P.slots + n) := by
  subst hn hN hb
  refine Back.mono (backArv hZ hw wi E V C K S hz (n32 (by omega)) l0 (by omega) (fun c hc => (hp c hc).2) hfr hlo) (fun P a hp => hp) (fun P a v B hp hq => ?_)
  obtain ⟨L, ⟨q1, q2, q3, q4, q5, q6, q7, ⟨kb, v1, v2⟩, q9⟩, hl, hc, hs⟩ := hq
  exact ⟨L, ⟨q1, fun y hy => by rw [q2 y hy]; exact hx0, q3, q5, q7, h.size, kb, hh0, Nat.le_refl _, Nat.ne_of_gt E.lt, q6, by rw [List.map_map]; exact v2⟩, hl, hc, hs⟩
end StrChars.Road
end Jvm.Pilot.@@N@@
namespace Jvm.Pilot.@@N@@
open Jvm Jvm.ClassFile Sem Op Lib Jvm.Free Jvm.Stand Jvm.LawKit Jvm.RoadKit Bundle Jvm.Pilot.@@N@@.Jvm.D
/-- from T the run goes on to an end of which Qf says what it is -/
def Goes (tb : Tables) (e : Env) (below : List Frame) (Qf : Outcome → State → Prop) (T : State) : Prop := ∃ s₂ o, Steps tb e below T s₂ ∧ s₂.status = .running ∧ Ended s₂ below o ∧ Qf o s₂
theorem Goes.to {tb : Tables} {e : Env} {below : List Frame} {Qf : Outcome → State → Prop} {T T' : State} (k : ∀ t, Steps tb e below T' t → Steps tb e below T t) (h : Goes tb e below Qf T') : Goes tb e below Qf T := by
  obtain ⟨s, o, h1, h2⟩ := h; exact ⟨s, o, k s h1, h2⟩
theorem Goes.thru {tb : Tables} {e : Env} {below : List Frame} {Qf : Outcome → State → Prop} {T T' : State} (k : Steps tb e below T T') (h : Goes tb e below Qf T') : Goes tb e below Qf T := by
  obtain ⟨s, o, h1, h2⟩ := h; exact ⟨s, o, k.trans h1, h2⟩
theorem own_old {Z : State} {n0 : Nat} {h : Heap} (O : Old Z n0 h) : n0 ≤ h.size := O.1 ▸ O.2.1
theorem own_ext_keep {h h' : Heap} (K : Keep h h' []) : Ext h h' := ⟨K.1, fun a c q => K.2.1 a c q nin0⟩
theorem own_nsroot {Z : State} {a0 : Array Value} {O K : String} {n : Nat} (w : (Jvm.Cond.noSuperclass O).before a0 Z = true) (wk : (Jvm.Cond.instantiable K n).before a0 Z = true) (hn : O ≠ K) : NS Z O K := by
  obtain ⟨c, k, h1, h2, h3, -, -⟩ := Cond.noSuperclass_spec w
  obtain ⟨t, k2, g1, -⟩ := Cond.instantiable_spec wk
  have ne := ids_ne h1 g1 hn
  refine ⟨c, t, h1, g1, fun fuel => ?_⟩
  cases fuel with
  | zero => rfl
  | succ f => simp [Vm.isSubclassAux, ne, h2, h3]
theorem own_nsno {Z : State} {a0 : Array Value} {C S K : String} {n : Nat} (w : (Jvm.Cond.superclass C S).before a0 Z = true) (wk : (Jvm.Cond.instantiable K n).before a0 Z = true) (ns : NS Z C K) (hn : C ≠ K) : ∃ c t, Z.vm.findClass C = some c ∧ Z.vm.findClass K = some t ∧ Z.vm.assignable c t = false := by
  obtain ⟨c, t, h0, g0, n3⟩ := ns
  obtain ⟨p, k, kp, h1, h2, h3, h4, h5, -, h7⟩ := Cond.superclass_spec h0 w
  obtain ⟨t', k', g1, g2, g5, g7, -⟩ := Cond.instantiable_spec wk
  cases g0.symm.trans g1
  have ne := ids_ne h0 g0 hn
  refine ⟨c, t, h0, g0, ?_⟩
  show Z.vm.assignableAux (255 + 1) c t = false
  simp [Vm.assignableAux, ne, h2, g2, h5, g5, (Bool.or_eq_false_iff.mp g7).1, Vm.isSubclass, n3]
theorem own_selp {s : State} {args : Array Value} {y : MethodName} {n : Nat} (wi : (Jvm.Cond.instantiable y.cls n).before args s = true) (hp : (Jvm.Cond.privateMethod y).before args s = true) (hinst : (Jvm.Cond.instanceMethod y).before args s = true) (hy : y.cls ≠ "java/lang/invoke/MethodHandle" ∧ y.cls ≠ "java/lang/invoke/VarHandle") : (Jvm.Cond.selects y.cls y y).before args s = true := by
  obtain ⟨c, k, h1, h2, -, h4, -⟩ := Cond.instantiable_spec wi
  exact selects_self_of_private h1 h2 (Bool.or_eq_false_iff.mp h4).1 (Cond.privateMethod_at hp) hinst hy
theorem own_keep_ext {h h' : Heap} (E : Ext h h') : Keep h h' [] := (Keep.refl h []).ext E
theorem mi {d : Jvm.Cond} (i : Nat) (h : tables_1[i]? = some d) : d ∈ tables_1 := List.mem_of_getElem? h
theorem wi {a0 : Array Value} {Z : State} (hw : ∀ d ∈ tables_1, d.before a0 Z = true) {d : Jvm.Cond} (i : Nat) (h : tables_1[i]? = some d) : d.before a0 Z = true := hw d (List.mem_of_getElem? h)
set_option maxRecDepth 65536
set_option maxHeartbeats 40000000
abbrev HW (a0 : Array Value) (Z : State) : Prop := ∀ d ∈ tables_1, d.before a0 Z = true
def Con (l : Launch) (Z : State) (y : MethodName) (bytes : ByteArray) (ml : Nat) (rt : Option FieldType) (ws : List Jvm.Cond) (R : Room) (A : Array Value) (h0 : Heap) (Q : Option Value → Heap → List Loc → Prop) : Prop :=
  MetFree l y (head1 (Jvm.Cond.code y bytes ml rt :: ws) R) (fun a U => a = A ∧ Z.Warmed39 U.vm ∧ U.heap = h0) (fun _ _ _ _ _ => True) (fun _ U o U' => ∃ v L, o = .returned v ∧ Q v U'.heap L ∧ FrameEnd U o U' L R.cells R.slots)
def QQ (U : State) (R : Room) (Q : Option Value → Heap → List Loc → Prop) : Outcome → State → Prop := fun o U' => ∃ v L, o = .returned v ∧ Q v U'.heap L ∧ FrameEnd U o U' L R.cells R.slots
theorem Con.body {l : Launch} {Z : State} {y : MethodName} {bytes : ByteArray} {ml : Nat} {rt : Option FieldType} {ws : List Jvm.Cond} {R : Room} {A : Array Value} {h0 : Heap} {Q : Option Value → Heap → List Loc → Prop} {L0 : Array Slot} {own : String} (ho : y.cls = own) (hp : plainFor y = true) (hef : ∀ m : MethodId, entryFrame m A ml = mkF m 0 L0 [])
    (H : ∀ p e s m below meth c s₁, (BodyLoose p l y (head1 (Jvm.Cond.code y bytes ml rt :: ws) R) bytes ml rt e s m A below meth c s₁) → p.tables.exec = Jvm.exec → c.code = bytes → c.maxLocals = ml → Z.Warmed39 s.vm → s.vm.findClass own = some m.cls → Stand p l e R s m A below meth c s₁ [] 0 0 → s₁.heap = h0 → ∀ Qf, Qf = QQ s R Q → Goes p.tables e below Qf (s₁.setTop (mkF m 0 L0 []))) : Con l Z y bytes ml rt ws R A h0 Q := by
  refine MetFree.of_bodySF hp hisR ?_
  intro p e s m args below meth c s₁ Bd hml0 hP hK
  obtain ⟨rfl, hZ, hh⟩ := hP
  obtain ⟨s₂, o, g1, g2, g3, g4⟩ := H p e s m below meth c s₁ Bd Bd.exec Bd.bytes hml0 hZ (ho ▸ findClass_of_methodNamed Bd.named) (Stand.of_body Bd) (by rw [← hh, Bd.state]; rfl) _ rfl
  exact ⟨s₂, o, castTop (hef m) g1, g2, g3, g4⟩
theorem own_len {s : State} {args : Array Value} {t : Term} {a : Addr} {cl : Cell} {ty : FieldType} {k : Int32} (ht : t.eval args s none [] s = some (.ref a)) (A : Arr s s.heap a cl ty) (h : (Cond.eq (.length t) (.int k)).value args s none s [] = some true) : cl.slots.size < 2 ^ 31 ∧ cl.slots.size.toInt32 = k := by
  obtain ⟨x, y, e1, e2, -, k2⟩ := cmp_v (Or.inl h)
  obtain rfl : Value.int k = y := Option.some.inj e2
  obtain ⟨z, rfl⟩ := k2
  have q : (z = k) := gotT (P := z = k) (by simp [Cond.value, e1, e2]) h
  subst q
  have hA := A.fin (Vm.Alike.refl _)
  by_cases hl : cl.slots.size < 2 ^ 31
  · rw [len_f ht hA hl] at e1
    exact ⟨hl, by simpa using e1⟩
  · simp [Term.eval, ht, hA, hl] at e1
theorem own_stR {s : State} {args : Array Value} {t u : Term} {b : Addr} (h : (Cond.eq t u).value args s none s [] = some true) (hu : u.eval args s none [] s = some (.ref b)) : t.eval args s none [] s = some (.ref b) := by
  obtain ⟨x, y, e1, e2, k1, k2⟩ := cmp_v (Or.inl h)
  obtain rfl : y = Value.ref b := Option.some.inj (e2.symm.trans hu)
  have hx : x.isRef = true := by cases x <;> simp [Kin, Value.isRef] at k1 k2 ⊢
  have q : x = Value.ref b := gotT (eq_R e1 e2 hx rfl) h
  subst q; exact e1
theorem own_fldI {s : State} {args : Array Value} {t : Term} {a : Addr} {C n d : String} {k : Int32} (ht : t.eval args s none [] s = some (.ref a)) (h : (Cond.eq (.field t C n d) (.int k)).value args s none s [] = some true) : Fld s s.heap a C n d (.int k) := by
  obtain ⟨x, y, e1, e2, -, k2⟩ := cmp_v (Or.inl h)
  obtain rfl : Value.int k = y := Option.some.inj e2
  obtain ⟨z, rfl⟩ := k2
  have q : (z = k) := gotT (P := z = k) (by simp [Cond.value, e1, e2]) h
  subst q
  exact Fld.start (by rw [← fld_at ht]; exact e1)
theorem own_fldL {s : State} {args : Array Value} {t : Term} {a : Addr} {C n d : String} {k : Int64} (ht : t.eval args s none [] s = some (.ref a)) (h : (Cond.eq (.field t C n d) (.long k)).value args s none s [] = some true) : Fld s s.heap a C n d (.long k) := by
  obtain ⟨x, y, e1, e2, -, k2⟩ := cmp_v (Or.inl h)
  obtain rfl : Value.long k = y := Option.some.inj e2
  obtain ⟨z, rfl⟩ := k2
  have q : (z = k) := gotT (P := z = k) (by simp [Cond.value, e1, e2]) h
  subst q
  exact Fld.start (by rw [← fld_at ht]; exact e1)
theorem own_fldN {s : State} {args : Array Value} {t : Term} {a : Addr} {C n d : String} (ht : t.eval args s none [] s = some (.ref a)) (h : (Cond.eq (.field t C n d) .null).value args s none s [] = some true) : Fld s s.heap a C n d .null :=
  Fld.start (by rw [← fld_at ht]; exact null_v h)
theorem own_fldR {s : State} {args : Array Value} {t : Term} {a b : Addr} {C n d : String} (ht : t.eval args s none [] s = some (.ref a)) (h : (Term.field t C n d).eval args s none [] s = some (.ref b)) : Fld s s.heap a C n d (.ref b) :=
  Fld.start (by rw [← fld_at ht]; exact h)
theorem own_stI {s : State} {args : Array Value} {t : Term} {k : Int32} (h : (Cond.eq t (.int k)).value args s none s [] = some true) : t.eval args s none [] s = some (.int k) := by
  obtain ⟨x, y, e1, e2, -, k2⟩ := cmp_v (Or.inl h)
  obtain rfl : Value.int k = y := Option.some.inj e2
  obtain ⟨z, rfl⟩ := k2
  have q : (z = k) := gotT (P := z = k) (by simp [Cond.value, e1, e2]) h
  subst q; exact e1
theorem own_narc {f : Int32} (h : ¬ f < 0 ∧ ¬ (255 : Int32) < f) : nar .char f = f := by
  obtain ⟨h1, h2⟩ := h
  have e0 : (0 : Int32).toInt = 0 := rfl
  have e1 : (255 : Int32).toInt = 255 := rfl
  rw [Int32.lt_iff_toInt_lt] at h1 h2
  have q := c_i2c f
  apply Int32.toInt_inj.mp
  show f.toUInt32.toUInt16.toUInt32.toInt32.toInt = f.toInt
  omega
theorem own_i2c (x : Int32) : ¬ ((x &&& (255 : Int32)).toUInt32.toUInt16.toUInt32.toInt32) < 0 ∧ ¬ (255 : Int32) < ((x &&& (255 : Int32)).toUInt32.toUInt16.toUInt32.toInt32) := by
  have q := c_i2c (x &&& 255)
  have h := c_mask x 255 8 (by decide) (by decide)
  have e0 : (0 : Int32).toInt = 0 := rfl
  have e1 : (255 : Int32).toInt = 255 := rfl
  rw [Int32.lt_iff_toInt_lt, Int32.lt_iff_toInt_lt]
  omega
theorem own_b8 {f g : Int32} (hf : ¬ f < 0 ∧ ¬ (255 : Int32) < f) (hg : ¬ g < 0 ∧ ¬ (255 : Int32) < g) : f.toInt8.toInt32 = g.toInt8.toInt32 ↔ f = g := by
  obtain ⟨h1, h2⟩ := hf
  obtain ⟨h3, h4⟩ := hg
  have e0 : (0 : Int32).toInt = 0 := rfl
  have e1 : (255 : Int32).toInt = 255 := rfl
  rw [Int32.lt_iff_toInt_lt] at h1 h2 h3 h4
  have q := c_i2b f
  have q' := c_i2b g
  rw [← Int32.toInt_inj, ← Int32.toInt_inj]
  omega
theorem own_nz {s : State} {args : Array Value} {t : Term} {z : Int32} (ht : t.eval args s none [] s = some (.int z)) (h : (Jvm.Cond.not (.eq t (.int (0 : Int32)))).value args s none s [] = some true) : ¬ z = 0 := by
  have q := not_v h
  exact gotF (P := z = 0) (by simp [Cond.value, ht, Term.eval]) q
section OwnH
variable {p : Program} {l : Launch} {e : Env} {R : Room} {s : State} {args : Array Value} {below : List Frame} {Z : State} {a0 : Array Value} {EL : List (String × Nat)} {h : Heap} {vm0 : Vm}
/-- a callee that is told of the caller's tables vm0: what was no held constant's cell there isn't one now -/
theorem own_backSH {y : MethodName} {bytes : ByteArray} {maxL : Nat} {ret : Option FieldType} {rm : Room} {len W : Nat} {as' : Array Value} {Q : Option Value → Heap → List Loc → Prop}
    (hM : MetFree l y (head1 [Jvm.Cond.code y bytes maxL ret] rm) (fun a U => a = as' ∧ Z.Warmed39 U.vm ∧ U.heap = h ∧ CHr Z EL vm0 h U.vm h) (fun _ _ _ _ _ => True) (fun _ U o U' => ∃ v L, o = .returned v ∧ Q v U'.heap L ∧ CHr Z EL U.vm U.heap U'.vm U'.heap ∧ ReturnedEndW U o U' L rm.cells rm.slots))
    (hZ : Z.Warmed39 vm0) (wc : (Jvm.Cond.code y bytes maxL ret).before a0 Z = true) (wz : (Jvm.Cond.initialized y.cls).before a0 Z = true) (hf : rm.frames + 1 ≤ R.frames) (hl : W + (maxL + 11) + rm.locals ≤ R.locals) (hEL : EW Z a0 EL) (H : CHv Z EL vm0 h) :
    BackS l R p e below (s.setVm vm0) args y len W (fun A a => a = as' ∧ A.U.heap = h ∧ A.cells + rm.cells ≤ R.cells ∧ A.slots + rm.slots ≤ R.slots)
      (fun A _ v B => ∃ L, Q v B.U.heap L ∧ B.locs = A.locs ++ L ∧ B.cells = A.cells + rm.cells ∧ B.slots = A.slots + rm.slots ∧ CHr Z EL vm0 h B.U.vm B.U.heap) := by
  refine BackS.of_freeW (bytes := bytes) (maxL := maxL) (ret := ret) (E := fun _ first o t L k n => k = rm.cells ∧ n = rm.slots ∧ (∃ v, o = .returned v ∧ Q v t.heap L) ∧ CHr Z EL first.vm first.heap t.vm t.heap) hM hf hl ?_ ?_ (fun _ _ _ _ _ _ _ _ _ => trivial) ?_ ?_
  · intro m meth c A a Y hp
    have hU : Z.Warmed39 A.U.vm := wtrans (s := s.setVm vm0) hZ Y.warmed
    exact ⟨by show (Jvm.Cond.and _ .tt).before a A.U = true; rw [Cond.before_and, mv hU wc]; rfl, mv hU wc, mv hU wz, hp.2.2.1, hp.2.2.2⟩
  · intro m meth c A a g mk Y hp
    exact ⟨hp.1, wtrans (s := s.setVm vm0) hZ Y.warmed, hp.2.1, (show CHr Z EL vm0 h A.U.vm h from CHv.at Y hZ hEL H)⟩
  · rintro _ _ _ _ ⟨v, L, h1, h2, h3, h4⟩
    exact ⟨L, _, _, h4, rfl, rfl, ⟨v, h1, h2⟩, h3⟩
  · rintro m meth c A a g mk v t L k n Y hp _ _ ⟨e1, e2, ⟨v', e3, e4⟩, e5⟩
    cases e3; subst e1 e2
    refine ⟨L, e4, rfl, rfl, rfl, (CHv.at Y hZ hEL H).trans ?_⟩
    rw [← hp.2.1]; exact e5
end OwnH
section OwnC
variable {p : Program} {l : Launch} {e : Env} {R : Room} {s Z : State} {m : MethodId} {args a0 : Array Value} {below : List Frame} {meth : Method} {c : Code} {T : State} {locs : List Loc} {cells slots : Nat} {h : Heap} {a : Addr} {ty : FieldType}
theorem own_cloneV (X : Stand p l e R s m args below meth c T locs cells slots) (hx : p.tables.exec = Jvm.exec) (hZ : Z.Warmed39 s.vm) {own ad : String} {index : Nat} (hown : s.vm.findClass own = some m.cls)
    (w1 : (Jvm.Cond.methodLink own index ⟨ad, "clone", "()Ljava/lang/Object;"⟩).before a0 Z = true) (w2 : (Jvm.Cond.sameMethod ad "java/lang/Object" "clone" "()Ljava/lang/Object;").before a0 Z = true) (w3 : (Jvm.Cond.native ⟨"java/lang/Object", "clone", "()Ljava/lang/Object;"⟩).before a0 Z = true)
    (w4 : (Jvm.Cond.instanceMethod ⟨"java/lang/Object", "clone", "()Ljava/lang/Object;"⟩).before a0 Z = true) (w5 : (Jvm.Cond.selects ad ⟨ad, "clone", "()Ljava/lang/Object;"⟩ ⟨"java/lang/Object", "clone", "()Ljava/lang/Object;"⟩).before a0 Z = true) (w6 : (Jvm.Cond.castable ad "java/lang/Cloneable").before a0 Z = true)
    (eT : T.heap = h) {k : ClassId} {z : Int32} {vs : List Value} {dv : Value} (F : Arv Z h a k ty z vs dv) (E : Exa Z h a ad) {g : JFrame} (hg : g.method = m) (hsize : g.locals.size = c.maxLocals) {rest : List Value} (hst : g.stack = .ref a :: rest) (hd : decode c.code g.pc = .ok (.invokevirtual index, 3))
    (hf : 1 ≤ R.frames) {W cap : Nat} (hW : 2 * g.monitorRoom + (rest.map fun v => v.category).sum ≤ W) (hl : W + 14 ≤ R.locals) (hcap : z.toNatClampNeg ≤ cap) (hc : cells + 1 ≤ R.cells) (hsl : slots + cap ≤ R.slots) :
    ∃ T' h', Stand p l e R s m args below meth c T' locs (cells + 1) (slots + cap) ∧ T'.heap = h' ∧ Ext h h' ∧ Arv Z h' h.size k ty z vs dv ∧ Exa Z h' h.size ad ∧
      ∀ target, Steps p.tables e below (T'.setTop { g with pc := g.pc + 3, stack := .ref h.size :: rest }) target → Steps p.tables e below (T.setTop g) target := by
  obtain ⟨cl, A, q1, S, q3, H, G⟩ := F
  have FC : FitC Z cl := fitC_of A fun i hi v hv => by rw [H i hi] at hv; cases hv; exact G i hi
  obtain ⟨T', h', X', e', ex, A', E', st⟩ := cloneA X hx hZ hown w1 w2 w3 w4 w5 w6 eT A E FC hg hsize hst hd hf hW hl (by rw [S]; exact hcap) hc hsl
  exact ⟨T', h', X', e', ex, ⟨cloneOf cl, A', q1, S, q3, H, G⟩, E', st⟩
end OwnC
def Nar (Z : State) (w6 : Addr) (w7 : Addr) (w8 : Addr) (w9 : Addr) (w3 : Addr) (w0 : Addr) (w4 : Addr) (w1 : Addr) (w5 : Addr) (w2 : Addr) (k_w6 : ClassId) (k_w0 : ClassId) (k_w1 : ClassId) (k_w2 : ClassId) (z_cs : Int32) (fm : Value) : Prop := (Sta Z Z.heap "com/example/issuer/issuer/blocklist/EntryKind" "$VALUES" "[Lcom/example/issuer/issuer/blocklist/EntryKind;" (.ref w6)) ∧ (Exa Z Z.heap w6 "[Lcom/example/issuer/issuer/blocklist/EntryKind;") ∧ (Sta Z Z.heap "com/example/issuer/issuer/blocklist/EntryKind" "CARD" "Lcom/example/issuer/issuer/blocklist/EntryKind;" (.ref w7)) ∧ (Exa Z Z.heap w7 "com/example/issuer/issuer/blocklist/EntryKind") ∧ (Sta Z Z.heap "com/example/issuer/issuer/blocklist/EntryKind" "USER" "Lcom/example/issuer/issuer/blocklist/EntryKind;" (.ref w8)) ∧ (Exa Z Z.heap w8 "com/example/issuer/issuer/blocklist/EntryKind") ∧ (Sta Z Z.heap "com/example/issuer/issuer/blocklist/EntryKind" "SITE" "Lcom/example/issuer/issuer/blocklist/EntryKind;" (.ref w9)) ∧ (Exa Z Z.heap w9 "com/example/issuer/issuer/blocklist/EntryKind") ∧ (Fld Z Z.heap w7 "com/example/issuer/issuer/blocklist/EntryKind" "listName" "Ljava/lang/String;" (.ref w3)) ∧ (Exa Z Z.heap w3 "java/lang/String") ∧ (Fld Z Z.heap w3 "java/lang/String" "value" "[B" (.ref w0)) ∧ (Fld Z Z.heap w8 "com/example/issuer/issuer/blocklist/EntryKind" "listName" "Ljava/lang/String;" (.ref w4)) ∧ (Exa Z Z.heap w4 "java/lang/String") ∧ (Fld Z Z.heap w4 "java/lang/String" "value" "[B" (.ref w1)) ∧ (Fld Z Z.heap w9 "com/example/issuer/issuer/blocklist/EntryKind" "listName" "Ljava/lang/String;" (.ref w5)) ∧ (Exa Z Z.heap w5 "java/lang/String") ∧ (Fld Z Z.heap w5 "java/lang/String" "value" "[B" (.ref w2)) ∧ (Fld Z Z.heap w3 "java/lang/String" "coder" "B" (.int (0 : Int32))) ∧ (Fld Z Z.heap w4 "java/lang/String" "coder" "B" (.int (0 : Int32))) ∧ (Fld Z Z.heap w5 "java/lang/String" "coder" "B" (.int (0 : Int32))) ∧ (Arv Z Z.heap w6 k_w6 (.object "com/example/issuer/issuer/blocklist/EntryKind") (3 : Int32) [(.ref w7), (.ref w8), (.ref w9)] .null) ∧ (Arv Z Z.heap w0 k_w0 .byte (5 : Int32) [(.int (99 : Int32)), (.int (97 : Int32)), (.int (114 : Int32)), (.int (100 : Int32)), (.int (115 : Int32))] (.int (0 : Int32))) ∧ (Arv Z Z.heap w1 k_w1 .byte (5 : Int32) [(.int (117 : Int32)), (.int (115 : Int32)), (.int (101 : Int32)), (.int (114 : Int32)), (.int (115 : Int32))] (.int (0 : Int32))) ∧ (Arv Z Z.heap w2 k_w2 .byte (5 : Int32) [(.int (115 : Int32)), (.int (105 : Int32)), (.int (116 : Int32)), (.int (101 : Int32)), (.int (115 : Int32))] (.int (0 : Int32))) ∧ (Sta Z Z.heap "java/lang/String" "COMPACT_STRINGS" "Z" (.int z_cs)) ∧ (¬ z_cs = 0) ∧ (Sta Z Z.heap "jdk/internal/util/Preconditions" "SIOOBE_FORMATTER" "Ljava/util/function/BiFunction;" fm) ∧ (fm.isRef = true)
variable {l : Launch} {Z : State} {a0 : Array Value} {ws : List Jvm.Cond} {w6 : Addr} {w7 : Addr} {w8 : Addr} {w9 : Addr} {w3 : Addr} {w0 : Addr} {w4 : Addr} {w1 : Addr} {w5 : Addr} {w2 : Addr} {k_w6 : ClassId} {k_w0 : ClassId} {k_w1 : ClassId} {k_w2 : ClassId} {z_cs : Int32} {fm : Value}
theorem own_l2c (x : Int64) : ¬ ((x &&& (255 : Int64)).toInt32.toUInt32.toUInt16.toUInt32.toInt32) < 0 ∧ ¬ (255 : Int32) < ((x &&& (255 : Int64)).toInt32.toUInt32.toUInt16.toUInt32.toInt32) := by
  have h := c_maskL x 255 8 (by decide) (by decide)
  generalize x &&& (255 : Int64) = y at *
  have q0 := c_l2i y
  have q := c_i2c y.toInt32
  generalize y.toInt32 = w at *
  generalize w.toUInt32.toUInt16.toUInt32.toInt32 = r at *
  have b1 := Int32.toInt_lt w
  have b2 := Int32.le_toInt w
  have e0 : (0 : Int32).toInt = 0 := rfl
  have e1 : (255 : Int32).toInt = 255 := rfl
  rw [Int32.lt_iff_toInt_lt, Int32.lt_iff_toInt_lt]
  omega
theorem own_narr {X : Int32} (h : ¬ X < 0 ∧ ¬ (255 : Int32) < X) : ¬ nar .char X < 0 ∧ ¬ (255 : Int32) < nar .char X := by
  rw [own_narc h]; exact h
theorem d6_0 : decode jdk_41_method_11_code 0 = .ok (.iload_n 0, 1) := by decide +kernel
theorem d6_1 : decode jdk_41_method_11_code 1 = .ok (.ifCond .lt 8, 3) := by decide +kernel
theorem d6_4 : decode jdk_41_method_11_code 4 = .ok (.iload_n 0, 1) := by decide +kernel
theorem d6_5 : decode jdk_41_method_11_code 5 = .ok (.iload_n 1, 1) := by decide +kernel
theorem d6_6 : decode jdk_41_method_11_code 6 = .ok (.if_icmp .lt 10, 3) := by decide +kernel
theorem d6_16 : decode jdk_41_method_11_code 16 = .ok (.iload_n 0, 1) := by decide +kernel
theorem d6_17 : decode jdk_41_method_11_code 17 = .ok (.ireturn, 1) := by decide +kernel
theorem pn_6 : plainName "jdk/internal/util/Preconditions" = true := by first | (simp [plainName, overriddenIn]; done) | decide +kernel
theorem ef_rmPC0 (m : MethodId) (x0 : Int32) (x1 : Int32) : entryFrame m #[(.int x0), (.int x1), .null] 3 = mkF m 0 #[.val (.int x0), .val (.int x1), .val .null] [] := by first | (simp [entryFrame, mkF, argsToLocals, Value.category]; done) | rfl
def Q_rmPC0 (pi : Int32) (h0 : Heap) (n0 : Nat) (v : Option Value) (h : Heap) (L : List Loc) : Prop := v = some (.int pi) ∧ Fr n0 L ∧ h = h0
theorem rmPC0 (hw : HW a0 Z) (pi : Int32) (h0 : Heap) (n0 : Nat) (O0 : Old Z n0 h0) (NF : Nar Z w6 w7 w8 w9 w3 w0 w4 w1 w5 w2 k_w6 k_w0 k_w1 k_w2 z_cs fm) (h1 : ¬ pi < (0 : Int32)) (h2 : pi < (5 : Int32)) :
    Con l Z (⟨"jdk/internal/util/Preconditions", "checkIndex", "(IILjava/util/function/BiFunction;)I"⟩ : MethodName) jdk_41_method_11_code 3 (some .int) ws ({ frames := 0, cells := 0, slots := 0, locals := 0 } : Room) #[(.int pi), (.int (5 : Int32)), .null] h0 (Q_rmPC0 pi h0 n0) := by
  refine Con.body (own := "jdk/internal/util/Preconditions") rfl (plainFor_of_name pn_6) (fun m => ef_rmPC0 m _ _) ?_
  intro p e s m below meth c s₁ Bd hx hby hml hZ hown X0 e0 Qf hQf
  have N0 := Fr.nil n0
  obtain ⟨S_w6, E_w6, S_w7, E_w7, S_w8, E_w8, S_w9, E_w9, F_listName_w7, E_w3, F_value_w3, F_listName_w8, E_w4, F_value_w4, F_listName_w9, E_w5, F_value_w5, F_coder_w3, F_coder_w4, F_coder_w5, V_w6, V_w0, V_w1, V_w2, S_cs, nz_cs, S_fm, rf⟩ := id NF
  refine Goes.to (T' := s₁.setTop (mkF m 1 #[.val (.int pi), .val (.int (5 : Int32)), .val .null] [(.int pi)])) (fun t k => XS.iloadN X0.here hx rfl (hb hby d6_0) rfl k) ?_
  refine Goes.to (T' := s₁.setTop (mkF m 4 #[.val (.int pi), .val (.int (5 : Int32)), .val .null] [])) (fun t k => XS.ifNo X0.here hx rfl (hb hby d6_1) rfl ((if0 _ _).trans (flt h1).1) k) ?_
  refine Goes.to (T' := s₁.setTop (mkF m 5 #[.val (.int pi), .val (.int (5 : Int32)), .val .null] [(.int pi)])) (fun t k => XS.iloadN X0.here hx rfl (hb hby d6_4) rfl k) ?_
  refine Goes.to (T' := s₁.setTop (mkF m 6 #[.val (.int pi), .val (.int (5 : Int32)), .val .null] [(.int (5 : Int32)), (.int pi)])) (fun t k => XS.iloadN X0.here hx rfl (hb hby d6_5) rfl k) ?_
  refine Goes.to (T' := s₁.setTop (mkF m 16 #[.val (.int pi), .val (.int (5 : Int32)), .val .null] [])) (fun t k => XS.icmpYes X0.here hx rfl (pc0 := 6) (pc' := 16) rfl (hb hby d6_6) rfl (tlt h2).1 (by decide) (by decide) k) ?_
  refine Goes.to (T' := s₁.setTop (mkF m 17 #[.val (.int pi), .val (.int (5 : Int32)), .val .null] [(.int pi)])) (fun t k => XS.iloadN X0.here hx rfl (hb hby d6_16) rfl k) ?_
  obtain ⟨fs, hrL, hrun, hended, hW, hsame⟩ := X0.leave (v := some (.int pi)) (fun h => by rw [Bd.returns] at h; cases h)
  subst hQf
  refine ⟨_, _, retOut X0 hx Bd.returns rfl (Or.inl ⟨rfl, Or.inl rfl, _, rfl⟩) (hb hby d6_17) hrL, hrun, hended, _, _, rfl, ?_, ⟨_, rfl⟩, hW, hsame.mono (by decide) (by decide)⟩
  show Q_rmPC0 pi h0 n0 (some (.int pi)) s₁.heap _
  rw [e0]
  exact ⟨rfl, N0, rfl⟩
theorem ef_rmPC1 (m : MethodId) (x0 : Int32) (x1 : Int32) (x2 : Addr) : entryFrame m #[(.int x0), (.int x1), (.ref x2)] 3 = mkF m 0 #[.val (.int x0), .val (.int x1), .val (.ref x2)] [] := by first | (simp [entryFrame, mkF, argsToLocals, Value.category]; done) | rfl
def Q_rmPC1 (pi : Int32) (h0 : Heap) (n0 : Nat) (v : Option Value) (h : Heap) (L : List Loc) : Prop := v = some (.int pi) ∧ Fr n0 L ∧ h = h0
theorem rmPC1 (hw : HW a0 Z) (pi : Int32) (wf : Addr) (h0 : Heap) (n0 : Nat) (O0 : Old Z n0 h0) (NF : Nar Z w6 w7 w8 w9 w3 w0 w4 w1 w5 w2 k_w6 k_w0 k_w1 k_w2 z_cs fm) (h1 : ¬ pi < (0 : Int32)) (h2 : pi < (5 : Int32)) :
    Con l Z (⟨"jdk/internal/util/Preconditions", "checkIndex", "(IILjava/util/function/BiFunction;)I"⟩ : MethodName) jdk_41_method_11_code 3 (some .int) ws ({ frames := 0, cells := 0, slots := 0, locals := 0 } : Room) #[(.int pi), (.int (5 : Int32)), (.ref wf)] h0 (Q_rmPC1 pi h0 n0) := by
  refine Con.body (own := "jdk/internal/util/Preconditions") rfl (plainFor_of_name pn_6) (fun m => ef_rmPC1 m _ _ _) ?_
  intro p e s m below meth c s₁ Bd hx hby hml hZ hown X0 e0 Qf hQf
  have N0 := Fr.nil n0
  obtain ⟨S_w6, E_w6, S_w7, E_w7, S_w8, E_w8, S_w9, E_w9, F_listName_w7, E_w3, F_value_w3, F_listName_w8, E_w4, F_value_w4, F_listName_w9, E_w5, F_value_w5, F_coder_w3, F_coder_w4, F_coder_w5, V_w6, V_w0, V_w1, V_w2, S_cs, nz_cs, S_fm, rf⟩ := id NF
  refine Goes.to (T' := s₁.setTop (mkF m 1 #[.val (.int pi), .val (.int (5 : Int32)), .val (.ref wf)] [(.int pi)])) (fun t k => XS.iloadN X0.here hx rfl (hb hby d6_0) rfl k) ?_
  refine Goes.to (T' := s₁.setTop (mkF m 4 #[.val (.int pi), .val (.int (5 : Int32)), .val (.ref wf)] [])) (fun t k => XS.ifNo X0.here hx rfl (hb hby d6_1) rfl ((if0 _ _).trans (flt h1).1) k) ?_
  refine Goes.to (T' := s₁.setTop (mkF m 5 #[.val (.int pi), .val (.int (5 : Int32)), .val (.ref wf)] [(.int pi)])) (fun t k => XS.iloadN X0.here hx rfl (hb hby d6_4) rfl k) ?_
  refine Goes.to (T' := s₁.setTop (mkF m 6 #[.val (.int pi), .val (.int (5 : Int32)), .val (.ref wf)] [(.int (5 : Int32)), (.int pi)])) (fun t k => XS.iloadN X0.here hx rfl (hb hby d6_5) rfl k) ?_
  refine Goes.to (T' := s₁.setTop (mkF m 16 #[.val (.int pi), .val (.int (5 : Int32)), .val (.ref wf)] [])) (fun t k => XS.icmpYes X0.here hx rfl (pc0 := 6) (pc' := 16) rfl (hb hby d6_6) rfl (tlt h2).1 (by decide) (by decide) k) ?_
  refine Goes.to (T' := s₁.setTop (mkF m 17 #[.val (.int pi), .val (.int (5 : Int32)), .val (.ref wf)] [(.int pi)])) (fun t k => XS.iloadN X0.here hx rfl (hb hby d6_16) rfl k) ?_
  obtain ⟨fs, hrL, hrun, hended, hW, hsame⟩ := X0.leave (v := some (.int pi)) (fun h => by rw [Bd.returns] at h; cases h)
  subst hQf
  refine ⟨_, _, retOut X0 hx Bd.returns rfl (Or.inl ⟨rfl, Or.inl rfl, _, rfl⟩) (hb hby d6_17) hrL, hrun, hended, _, _, rfl, ?_, ⟨_, rfl⟩, hW, hsame.mono (by decide) (by decide)⟩
  show Q_rmPC1 pi h0 n0 (some (.int pi)) s₁.heap _
  rw [e0]
  exact ⟨rfl, N0, rfl⟩
theorem pd_10 : parseMethodDescriptor "(IILjava/util/function/BiFunction;)I" = some ⟨[.int, .int, (.object "java/util/function/BiFunction")], some .int⟩ := by decide +kernel
theorem d5_0 : decode jdk_42_method_155_code 0 = .ok (.iload_n 0, 1) := by decide +kernel
theorem d5_1 : decode jdk_42_method_155_code 1 = .ok (.iload_n 1, 1) := by decide +kernel
theorem d5_2 : decode jdk_42_method_155_code 2 = .ok (.getstatic 1053, 3) := by decide +kernel
theorem d5_5 : decode jdk_42_method_155_code 5 = .ok (.invokestatic 1059, 3) := by decide +kernel
theorem d5_8 : decode jdk_42_method_155_code 8 = .ok (.pop, 1) := by decide +kernel
theorem d5_9 : decode jdk_42_method_155_code 9 = .ok (.return_, 1) := by decide +kernel
theorem pn_5 : plainName "java/lang/String" = true := by first | (simp [plainName, overriddenIn]; done) | decide +kernel
theorem ef_rmCk (m : MethodId) (x0 : Int32) (x1 : Int32) : entryFrame m #[(.int x0), (.int x1)] 2 = mkF m 0 #[.val (.int x0), .val (.int x1)] [] := by first | (simp [entryFrame, mkF, argsToLocals, Value.category]; done) | rfl
def Q_rmCk  (h0 : Heap) (n0 : Nat) (v : Option Value) (h : Heap) (L : List Loc) : Prop := v = none ∧ Fr n0 L ∧ h = h0
theorem rmCk (hw : HW a0 Z) (pi : Int32) (h0 : Heap) (n0 : Nat) (O0 : Old Z n0 h0) (NF : Nar Z w6 w7 w8 w9 w3 w0 w4 w1 w5 w2 k_w6 k_w0 k_w1 k_w2 z_cs fm) (h1 : ¬ pi < (0 : Int32)) (h2 : pi < (5 : Int32)) :
    Con l Z (⟨"java/lang/String", "checkIndex", "(II)V"⟩ : MethodName) jdk_42_method_155_code 2 none ws ({ frames := 1, cells := 0, slots := 0, locals := 24 } : Room) #[(.int pi), (.int (5 : Int32))] h0 (Q_rmCk  h0 n0) := by
  refine Con.body (own := "java/lang/String") rfl (plainFor_of_name pn_5) (fun m => ef_rmCk m _ _) ?_
  intro p e s m below meth c s₁ Bd hx hby hml hZ hown X0 e0 Qf hQf
  have N0 := Fr.nil n0
  obtain ⟨S_w6, E_w6, S_w7, E_w7, S_w8, E_w8, S_w9, E_w9, F_listName_w7, E_w3, F_value_w3, F_listName_w8, E_w4, F_value_w4, F_listName_w9, E_w5, F_value_w5, F_coder_w3, F_coder_w4, F_coder_w5, V_w6, V_w0, V_w1, V_w2, S_cs, nz_cs, S_fm, rf⟩ := id NF
  rcases ref_cases rf with rfl | ⟨wf, rfl⟩
  · skip
    refine Goes.to (T' := s₁.setTop (mkF m 1 #[.val (.int pi), .val (.int (5 : Int32))] [(.int pi)])) (fun t k => XS.iloadN X0.here hx rfl (hb hby d5_0) rfl k) ?_
    refine Goes.to (T' := s₁.setTop (mkF m 2 #[.val (.int pi), .val (.int (5 : Int32))] [(.int (5 : Int32)), (.int pi)])) (fun t k => XS.iloadN X0.here hx rfl (hb hby d5_1) rfl k) ?_
    obtain ⟨T1, X1, e1, st1⟩ := getS2 X0 hx hZ hown (host := "") (Or.inl (wi hw 33 rfl)) Via.refl e0 (S_fm.ext O0.2) (g := (mkF m 2 #[.val (.int pi), .val (.int (5 : Int32))] [(.int (5 : Int32)), (.int pi)])) rfl (hb hby d5_2)
    refine Goes.to (T' := T1.setTop (mkF m 5 #[.val (.int pi), .val (.int (5 : Int32))] [.null, (.int (5 : Int32)), (.int pi)])) st1 ?_
    obtain ⟨_, _, ⟨T2, L2, k2, n2⟩, -, X2, ⟨Lc2, hQ2, l2, y2, z2⟩, st2⟩ := Jvm.LawKit.callS X1 hx (y := (⟨"jdk/internal/util/Preconditions", "checkIndex", "(IILjava/util/function/BiFunction;)I"⟩ : MethodName)) hown (mvT hZ (wi hw 35 rfl)) (mvT hZ (wi hw 36 rfl)) (mvT hZ (wi hw 34 rfl)) (mvT hZ (wi hw 37 rfl)) (by decide) (backOf (W := 0) (rmPC0 hw pi  h0 n0 O0 NF h1 h2) hZ (wi hw 37 rfl) (wi hw 34 rfl) (by decide) (by decide)) (g := (mkF m 5 #[.val (.int pi), .val (.int (5 : Int32))] [.null, (.int (5 : Int32)), (.int pi)])) rfl (by rw [hml]; rfl) (argsL := [(.int pi), (.int (5 : Int32)), .null]) (rest := []) (lenOf pd_10 rfl) rfl (by show 2 * 0 + _ ≤ _; exact Nat.le_of_eq rfl) (hb hby d5_5) (fun _ _ => ⟨rfl, e1, (by decide : 0 + 0 ≤ _), (by decide : 0 + 0 ≤ _)⟩)
    dsimp only [Pt.U, Pt.locs, Pt.cells, Pt.slots] at X2 l2 y2 z2 st2 hQ2
    subst l2 y2 z2
    obtain ⟨rfl, Nq2, e2⟩ := hQ2
    have N2 := Fr.app N0 Nq2
    refine Goes.to (T' := T2.setTop (mkF m 8 #[.val (.int pi), .val (.int (5 : Int32))] [(.int pi)])) st2 ?_
    refine Goes.to (T' := T2.setTop (mkF m 9 #[.val (.int pi), .val (.int (5 : Int32))] [])) (fun t k => XS.pop X2.here hx rfl (hb hby d5_8) rfl rfl k) ?_
    obtain ⟨fs, hrL, hrun, hended, hW, hsame⟩ := X2.leave (v := none) (fun _ => rfl)
    subst hQf
    refine ⟨_, _, X2.returnOut hx Bd.returns (hb hby d5_9) hrL, hrun, hended, _, _, rfl, ?_, ⟨_, rfl⟩, hW, hsame.mono (by decide) (by decide)⟩
    show Q_rmCk  h0 n0 (none) T2.heap _
    rw [e2]
    exact ⟨rfl, N2, rfl⟩
  · skip
    refine Goes.to (T' := s₁.setTop (mkF m 1 #[.val (.int pi), .val (.int (5 : Int32))] [(.int pi)])) (fun t k => XS.iloadN X0.here hx rfl (hb hby d5_0) rfl k) ?_
    refine Goes.to (T' := s₁.setTop (mkF m 2 #[.val (.int pi), .val (.int (5 : Int32))] [(.int (5 : Int32)), (.int pi)])) (fun t k => XS.iloadN X0.here hx rfl (hb hby d5_1) rfl k) ?_
    obtain ⟨T3, X3, e3, st3⟩ := getS2 X0 hx hZ hown (host := "") (Or.inl (wi hw 33 rfl)) Via.refl e0 (S_fm.ext O0.2) (g := (mkF m 2 #[.val (.int pi), .val (.int (5 : Int32))] [(.int (5 : Int32)), (.int pi)])) rfl (hb hby d5_2)
    refine Goes.to (T' := T3.setTop (mkF m 5 #[.val (.int pi), .val (.int (5 : Int32))] [(.ref wf), (.int (5 : Int32)), (.int pi)])) st3 ?_
    obtain ⟨_, _, ⟨T4, L4, k4, n4⟩, -, X4, ⟨Lc4, hQ4, l4, y4, z4⟩, st4⟩ := Jvm.LawKit.callS X3 hx (y := (⟨"jdk/internal/util/Preconditions", "checkIndex", "(IILjava/util/function/BiFunction;)I"⟩ : MethodName)) hown (mvT hZ (wi hw 35 rfl)) (mvT hZ (wi hw 36 rfl)) (mvT hZ (wi hw 34 rfl)) (mvT hZ (wi hw 37 rfl)) (by decide) (backOf (W := 0) (rmPC1 hw pi wf  h0 n0 O0 NF h1 h2) hZ (wi hw 37 rfl) (wi hw 34 rfl) (by decide) (by decide)) (g := (mkF m 5 #[.val (.int pi), .val (.int (5 : Int32))] [(.ref wf), (.int (5 : Int32)), (.int pi)])) rfl (by rw [hml]; rfl) (argsL := [(.int pi), (.int (5 : Int32)), (.ref wf)]) (rest := []) (lenOf pd_10 rfl) rfl (by show 2 * 0 + _ ≤ _; exact Nat.le_of_eq rfl) (hb hby d5_5) (fun _ _ => ⟨rfl, e3, (by decide : 0 + 0 ≤ _), (by decide : 0 + 0 ≤ _)⟩)
    dsimp only [Pt.U, Pt.locs, Pt.cells, Pt.slots] at X4 l4 y4 z4 st4 hQ4
    subst l4 y4 z4
    obtain ⟨rfl, Nq4, e4⟩ := hQ4
    have N4 := Fr.app N0 Nq4
    refine Goes.to (T' := T4.setTop (mkF m 8 #[.val (.int pi), .val (.int (5 : Int32))] [(.int pi)])) st4 ?_
    refine Goes.to (T' := T4.setTop (mkF m 9 #[.val (.int pi), .val (.int (5 : Int32))] [])) (fun t k => XS.pop X4.here hx rfl (hb hby d5_8) rfl rfl k) ?_
    obtain ⟨fs, hrL, hrun, hended, hW, hsame⟩ := X4.leave (v := none) (fun _ => rfl)
    subst hQf
    refine ⟨_, _, X4.returnOut hx Bd.returns (hb hby d5_9) hrL, hrun, hended, _, _, rfl, ?_, ⟨_, rfl⟩, hW, hsame.mono (by decide) (by decide)⟩
    show Q_rmCk  h0 n0 (none) T4.heap _
    rw [e4]
    exact ⟨rfl, N4, rfl⟩
theorem pd_19 : parseMethodDescriptor "(II)V" = some ⟨[.int, .int], none⟩ := by decide +kernel
theorem d4_0 : decode jdk_43_method_2_code 0 = .ok (.iload_n 1, 1) := by decide +kernel
theorem d4_1 : decode jdk_43_method_2_code 1 = .ok (.aload_n 0, 1) := by decide +kernel
theorem d4_2 : decode jdk_43_method_2_code 2 = .ok (.arraylength, 1) := by decide +kernel
theorem d4_3 : decode jdk_43_method_2_code 3 = .ok (.invokestatic 9, 3) := by decide +kernel
theorem d4_6 : decode jdk_43_method_2_code 6 = .ok (.aload_n 0, 1) := by decide +kernel
theorem d4_7 : decode jdk_43_method_2_code 7 = .ok (.iload_n 1, 1) := by decide +kernel
theorem d4_8 : decode jdk_43_method_2_code 8 = .ok (.baload, 1) := by decide +kernel
theorem d4_9 : decode jdk_43_method_2_code 9 = .ok (.sipush 255, 3) := by decide +kernel
theorem d4_12 : decode jdk_43_method_2_code 12 = .ok (.iand, 1) := by decide +kernel
theorem d4_13 : decode jdk_43_method_2_code 13 = .ok (.i2c, 1) := by decide +kernel
theorem d4_14 : decode jdk_43_method_2_code 14 = .ok (.ireturn, 1) := by decide +kernel
theorem pn_4 : plainName "java/lang/StringLatin1" = true := by first | (simp [plainName, overriddenIn]; done) | decide +kernel
theorem ef_rmLC (m : MethodId) (x0 : Addr) (x1 : Int32) : entryFrame m #[(.ref x0), (.int x1)] 2 = mkF m 0 #[.val (.ref x0), .val (.int x1)] [] := by first | (simp [entryFrame, mkF, argsToLocals, Value.category]; done) | rfl
def Q_rmLC  (h0 : Heap) (n0 : Nat) (v : Option Value) (h : Heap) (L : List Loc) : Prop := (∃ r : Int32, v = some (.int r) ∧ ¬ r < 0 ∧ ¬ (255 : Int32) < r) ∧ Fr n0 L ∧ h = h0
theorem rmLC (hw : HW a0 Z) (ya : Addr) (pi : Int32) (ka : ClassId) (u0 : Int32) (u1 : Int32) (u2 : Int32) (u3 : Int32) (u4 : Int32) (h0 : Heap) (n0 : Nat) (O0 : Old Z n0 h0) (NF : Nar Z w6 w7 w8 w9 w3 w0 w4 w1 w5 w2 k_w6 k_w0 k_w1 k_w2 z_cs fm) (V_ya : Arv Z h0 ya ka .byte (5 : Int32) [(.int u0), (.int u1), (.int u2), (.int u3), (.int u4)] (.int (0 : Int32))) (hpi : pi = (0 : Int32) ∨ pi = (1 : Int32) ∨ pi = (2 : Int32) ∨ pi = (3 : Int32) ∨ pi = (4 : Int32)) :
    Con l Z (⟨"java/lang/StringLatin1", "charAt", "([BI)C"⟩ : MethodName) jdk_43_method_2_code 2 (some .char) ws ({ frames := 2, cells := 0, slots := 0, locals := 48 } : Room) #[(.ref ya), (.int pi)] h0 (Q_rmLC  h0 n0) := by
  refine Con.body (own := "java/lang/StringLatin1") rfl (plainFor_of_name pn_4) (fun m => ef_rmLC m _ _) ?_
  intro p e s m below meth c s₁ Bd hx hby hml hZ hown X0 e0 Qf hQf
  have N0 := Fr.nil n0
  obtain ⟨S_w6, E_w6, S_w7, E_w7, S_w8, E_w8, S_w9, E_w9, F_listName_w7, E_w3, F_value_w3, F_listName_w8, E_w4, F_value_w4, F_listName_w9, E_w5, F_value_w5, F_coder_w3, F_coder_w4, F_coder_w5, V_w6, V_w0, V_w1, V_w2, S_cs, nz_cs, S_fm, rf⟩ := id NF
  rcases hpi with hv_1 | hv_1 | hv_1 | hv_1 | hv_1
  · rw [hv_1]
    refine Goes.to (T' := s₁.setTop (mkF m 1 #[.val (.ref ya), .val (.int (0 : Int32))] [(.int (0 : Int32))])) (fun t k => XS.iloadN X0.here hx rfl (hb hby d4_0) rfl k) ?_
    refine Goes.to (T' := s₁.setTop (mkF m 2 #[.val (.ref ya), .val (.int (0 : Int32))] [(.ref ya), (.int (0 : Int32))])) (fun t k => XS.aloadN X0.here hx rfl (hb hby d4_1) rfl rfl k) ?_
    obtain ⟨cl2, Ar2, q2, S2, Ng2, H2, G2⟩ := id V_ya
    refine Goes.to (T' := s₁.setTop (mkF m 3 #[.val (.ref ya), .val (.int (0 : Int32))] [(.int (5 : Int32)), (.int (0 : Int32))])) (fun t k => X0.arraylength hx (by rw [e0]; exact Ar2.1) (State.isArrayOf_alike hZ.alike Ar2.2.1) (g := (mkF m 2 #[.val (.ref ya), .val (.int (0 : Int32))] [(.ref ya), (.int (0 : Int32))])) rfl rfl (hb hby d4_2) _ (by rw [len_of S2 Ng2]; exact k)) ?_
    obtain ⟨_, _, ⟨T3, L3, k3, n3⟩, -, X3, ⟨Lc3, hQ3, l3, y3, z3⟩, st3⟩ := Jvm.LawKit.callS X0 hx (y := (⟨"java/lang/String", "checkIndex", "(II)V"⟩ : MethodName)) hown (mvT hZ (wi hw 30 rfl)) (mvT hZ (wi hw 31 rfl)) (mvT hZ (wi hw 2 rfl)) (mvT hZ (wi hw 32 rfl)) (by decide) (backOf (W := 0) (rmCk hw (0 : Int32)  h0 n0 O0 NF (by decide) (by decide)) hZ (wi hw 32 rfl) (wi hw 2 rfl) (by decide) (by decide)) (g := (mkF m 3 #[.val (.ref ya), .val (.int (0 : Int32))] [(.int (5 : Int32)), (.int (0 : Int32))])) rfl (by rw [hml]; rfl) (argsL := [(.int (0 : Int32)), (.int (5 : Int32))]) (rest := []) (lenOf pd_19 rfl) rfl (by show 2 * 0 + _ ≤ _; exact Nat.le_of_eq rfl) (hb hby d4_3) (fun _ _ => ⟨rfl, e0, (by decide : 0 + 0 ≤ _), (by decide : 0 + 0 ≤ _)⟩)
    dsimp only [Pt.U, Pt.locs, Pt.cells, Pt.slots] at X3 l3 y3 z3 st3 hQ3
    subst l3 y3 z3
    obtain ⟨rfl, Nq3, e3⟩ := hQ3
    have N3 := Fr.app N0 Nq3
    refine Goes.to (T' := T3.setTop (mkF m 6 #[.val (.ref ya), .val (.int (0 : Int32))] [])) st3 ?_
    refine Goes.to (T' := T3.setTop (mkF m 7 #[.val (.ref ya), .val (.int (0 : Int32))] [(.ref ya)])) (fun t k => XS.aloadN X3.here hx rfl (hb hby d4_6) rfl rfl k) ?_
    refine Goes.to (T' := T3.setTop (mkF m 8 #[.val (.ref ya), .val (.int (0 : Int32))] [(.int (0 : Int32)), (.ref ya)])) (fun t k => XS.iloadN X3.here hx rfl (hb hby d4_7) rfl k) ?_
    obtain ⟨cl4, Ar4, q4, S4, Ng4, H4, G4⟩ := id V_ya
    have hin4 : ¬ ((0 : Int32) < 0 ∨ cl4.slots.size ≤ ((0 : Int32)).toNatClampNeg) := inb_of S4 ⟨by decide, by decide⟩
    refine Goes.to (T' := T3.setTop (mkF m 9 #[.val (.ref ya), .val (.int (0 : Int32))] [(.int u0)])) (X3.baloadBytes hx (j := (0 : Int32)) (v := (.int u0)) (by rw [e3]; exact Ar4.1) (State.isArrayOf_alike hZ.alike Ar4.2.1) Ar4.2.2 hin4 (H4.at hin4 rfl) (g := (mkF m 8 #[.val (.ref ya), .val (.int (0 : Int32))] [(.int (0 : Int32)), (.ref ya)])) rfl rfl (hb hby d4_8)) ?_
    refine Goes.to (T' := T3.setTop (mkF m 12 #[.val (.ref ya), .val (.int (0 : Int32))] [(.int (255 : Int32)), (.int u0)])) (fun t k => XS.sipush X3.here hx rfl (hb hby d4_9) k) ?_
    refine Goes.to (T' := T3.setTop (mkF m 13 #[.val (.ref ya), .val (.int (0 : Int32))] [(.int (u0 &&& (255 : Int32)))])) (fun t k => XS.iand X3.here hx rfl (hb hby d4_12) rfl k) ?_
    refine Goes.to (T' := T3.setTop (mkF m 14 #[.val (.ref ya), .val (.int (0 : Int32))] [(.int ((u0 &&& (255 : Int32)).toUInt32.toUInt16.toUInt32.toInt32))])) (fun t k => XS.i2c X3.here hx rfl (hb hby d4_13) rfl k) ?_
    obtain ⟨fs, hrL, hrun, hended, hW, hsame⟩ := X3.leave (v := some (.int (nar .char ((u0 &&& (255 : Int32)).toUInt32.toUInt16.toUInt32.toInt32)))) (fun h => by rw [Bd.returns] at h; cases h)
    subst hQf
    refine ⟨_, _, retN X3 hx (t := .char) Bd.returns (by simp) (hb hby d4_14) hrL, hrun, hended, _, _, rfl, ?_, ⟨_, rfl⟩, hW, hsame.mono (by decide) (by decide)⟩
    show Q_rmLC  h0 n0 (some (.int (nar .char ((u0 &&& (255 : Int32)).toUInt32.toUInt16.toUInt32.toInt32)))) T3.heap _
    rw [e3]
    exact ⟨⟨_, rfl, own_narr (own_i2c _)⟩, N3, rfl⟩
  · rw [hv_1]
    refine Goes.to (T' := s₁.setTop (mkF m 1 #[.val (.ref ya), .val (.int (1 : Int32))] [(.int (1 : Int32))])) (fun t k => XS.iloadN X0.here hx rfl (hb hby d4_0) rfl k) ?_
    refine Goes.to (T' := s₁.setTop (mkF m 2 #[.val (.ref ya), .val (.int (1 : Int32))] [(.ref ya), (.int (1 : Int32))])) (fun t k => XS.aloadN X0.here hx rfl (hb hby d4_1) rfl rfl k) ?_
    obtain ⟨cl5, Ar5, q5, S5, Ng5, H5, G5⟩ := id V_ya
    refine Goes.to (T' := s₁.setTop (mkF m 3 #[.val (.ref ya), .val (.int (1 : Int32))] [(.int (5 : Int32)), (.int (1 : Int32))])) (fun t k => X0.arraylength hx (by rw [e0]; exact Ar5.1) (State.isArrayOf_alike hZ.alike Ar5.2.1) (g := (mkF m 2 #[.val (.ref ya), .val (.int (1 : Int32))] [(.ref ya), (.int (1 : Int32))])) rfl rfl (hb hby d4_2) _ (by rw [len_of S5 Ng5]; exact k)) ?_
    obtain ⟨_, _, ⟨T6, L6, k6, n6⟩, -, X6, ⟨Lc6, hQ6, l6, y6, z6⟩, st6⟩ := Jvm.LawKit.callS X0 hx (y := (⟨"java/lang/String", "checkIndex", "(II)V"⟩ : MethodName)) hown (mvT hZ (wi hw 30 rfl)) (mvT hZ (wi hw 31 rfl)) (mvT hZ (wi hw 2 rfl)) (mvT hZ (wi hw 32 rfl)) (by decide) (backOf (W := 0) (rmCk hw (1 : Int32)  h0 n0 O0 NF (by decide) (by decide)) hZ (wi hw 32 rfl) (wi hw 2 rfl) (by decide) (by decide)) (g := (mkF m 3 #[.val (.ref ya), .val (.int (1 : Int32))] [(.int (5 : Int32)), (.int (1 : Int32))])) rfl (by rw [hml]; rfl) (argsL := [(.int (1 : Int32)), (.int (5 : Int32))]) (rest := []) (lenOf pd_19 rfl) rfl (by show 2 * 0 + _ ≤ _; exact Nat.le_of_eq rfl) (hb hby d4_3) (fun _ _ => ⟨rfl, e0, (by decide : 0 + 0 ≤ _), (by decide : 0 + 0 ≤ _)⟩)
    dsimp only [Pt.U, Pt.locs, Pt.cells, Pt.slots] at X6 l6 y6 z6 st6 hQ6
    subst l6 y6 z6
    obtain ⟨rfl, Nq6, e6⟩ := hQ6
    have N6 := Fr.app N0 Nq6
    refine Goes.to (T' := T6.setTop (mkF m 6 #[.val (.ref ya), .val (.int (1 : Int32))] [])) st6 ?_
    refine Goes.to (T' := T6.setTop (mkF m 7 #[.val (.ref ya), .val (.int (1 : Int32))] [(.ref ya)])) (fun t k => XS.aloadN X6.here hx rfl (hb hby d4_6) rfl rfl k) ?_
    refine Goes.to (T' := T6.setTop (mkF m 8 #[.val (.ref ya), .val (.int (1 : Int32))] [(.int (1 : Int32)), (.ref ya)])) (fun t k => XS.iloadN X6.here hx rfl (hb hby d4_7) rfl k) ?_
    obtain ⟨cl7, Ar7, q7, S7, Ng7, H7, G7⟩ := id V_ya
    have hin7 : ¬ ((1 : Int32) < 0 ∨ cl7.slots.size ≤ ((1 : Int32)).toNatClampNeg) := inb_of S7 ⟨by decide, by decide⟩
    refine Goes.to (T' := T6.setTop (mkF m 9 #[.val (.ref ya), .val (.int (1 : Int32))] [(.int u1)])) (X6.baloadBytes hx (j := (1 : Int32)) (v := (.int u1)) (by rw [e6]; exact Ar7.1) (State.isArrayOf_alike hZ.alike Ar7.2.1) Ar7.2.2 hin7 (H7.at hin7 rfl) (g := (mkF m 8 #[.val (.ref ya), .val (.int (1 : Int32))] [(.int (1 : Int32)), (.ref ya)])) rfl rfl (hb hby d4_8)) ?_
    refine Goes.to (T' := T6.setTop (mkF m 12 #[.val (.ref ya), .val (.int (1 : Int32))] [(.int (255 : Int32)), (.int u1)])) (fun t k => XS.sipush X6.here hx rfl (hb hby d4_9) k) ?_
    refine Goes.to (T' := T6.setTop (mkF m 13 #[.val (.ref ya), .val (.int (1 : Int32))] [(.int (u1 &&& (255 : Int32)))])) (fun t k => XS.iand X6.here hx rfl (hb hby d4_12) rfl k) ?_
    refine Goes.to (T' := T6.setTop (mkF m 14 #[.val (.ref ya), .val (.int (1 : Int32))] [(.int ((u1 &&& (255 : Int32)).toUInt32.toUInt16.toUInt32.toInt32))])) (fun t k => XS.i2c X6.here hx rfl (hb hby d4_13) rfl k) ?_
    obtain ⟨fs, hrL, hrun, hended, hW, hsame⟩ := X6.leave (v := some (.int (nar .char ((u1 &&& (255 : Int32)).toUInt32.toUInt16.toUInt32.toInt32)))) (fun h => by rw [Bd.returns] at h; cases h)
    subst hQf
    refine ⟨_, _, retN X6 hx (t := .char) Bd.returns (by simp) (hb hby d4_14) hrL, hrun, hended, _, _, rfl, ?_, ⟨_, rfl⟩, hW, hsame.mono (by decide) (by decide)⟩
    show Q_rmLC  h0 n0 (some (.int (nar .char ((u1 &&& (255 : Int32)).toUInt32.toUInt16.toUInt32.toInt32)))) T6.heap _
    rw [e6]
    exact ⟨⟨_, rfl, own_narr (own_i2c _)⟩, N6, rfl⟩
  · rw [hv_1]
    refine Goes.to (T' := s₁.setTop (mkF m 1 #[.val (.ref ya), .val (.int (2 : Int32))] [(.int (2 : Int32))])) (fun t k => XS.iloadN X0.here hx rfl (hb hby d4_0) rfl k) ?_
    refine Goes.to (T' := s₁.setTop (mkF m 2 #[.val (.ref ya), .val (.int (2 : Int32))] [(.ref ya), (.int (2 : Int32))])) (fun t k => XS.aloadN X0.here hx rfl (hb hby d4_1) rfl rfl k) ?_
    obtain ⟨cl8, Ar8, q8, S8, Ng8, H8, G8⟩ := id V_ya
    refine Goes.to (T' := s₁.setTop (mkF m 3 #[.val (.ref ya), .val (.int (2 : Int32))] [(.int (5 : Int32)), (.int (2 : Int32))])) (fun t k => X0.arraylength hx (by rw [e0]; exact Ar8.1) (State.isArrayOf_alike hZ.alike Ar8.2.1) (g := (mkF m 2 #[.val (.ref ya), .val (.int (2 : Int32))] [(.ref ya), (.int (2 : Int32))])) rfl rfl (hb hby d4_2) _ (by rw [len_of S8 Ng8]; exact k)) ?_
    obtain ⟨_, _, ⟨T9, L9, k9, n9⟩, -, X9, ⟨Lc9, hQ9, l9, y9, z9⟩, st9⟩ := Jvm.LawKit.callS X0 hx (y := (⟨"java/lang/String", "checkIndex", "(II)V"⟩ : MethodName)) hown (mvT hZ (wi hw 30 rfl)) (mvT hZ (wi hw 31 rfl)) (mvT hZ (wi hw 2 rfl)) (mvT hZ (wi hw 32 rfl)) (by decide) (backOf (W := 0) (rmCk hw (2 : Int32)  h0 n0 O0 NF (by decide) (by decide)) hZ (wi hw 32 rfl) (wi hw 2 rfl) (by decide) (by decide)) (g := (mkF m 3 #[.val (.ref ya), .val (.int (2 : Int32))] [(.int (5 : Int32)), (.int (2 : Int32))])) rfl (by rw [hml]; rfl) (argsL := [(.int (2 : Int32)), (.int (5 : Int32))]) (rest := []) (lenOf pd_19 rfl) rfl (by show 2 * 0 + _ ≤ _; exact Nat.le_of_eq rfl) (hb hby d4_3) (fun _ _ => ⟨rfl, e0, (by decide : 0 + 0 ≤ _), (by decide : 0 + 0 ≤ _)⟩)
    dsimp only [Pt.U, Pt.locs, Pt.cells, Pt.slots] at X9 l9 y9 z9 st9 hQ9
    subst l9 y9 z9
    obtain ⟨rfl, Nq9, e9⟩ := hQ9
    have N9 := Fr.app N0 Nq9
    refine Goes.to (T' := T9.setTop (mkF m 6 #[.val (.ref ya), .val (.int (2 : Int32))] [])) st9 ?_
    refine Goes.to (T' := T9.setTop (mkF m 7 #[.val (.ref ya), .val (.int (2 : Int32))] [(.ref ya)])) (fun t k => XS.aloadN X9.here hx rfl (hb hby d4_6) rfl rfl k) ?_
    refine Goes.to (T' := T9.setTop (mkF m 8 #[.val (.ref ya), .val (.int (2 : Int32))] [(.int (2 : Int32)), (.ref ya)])) (fun t k => XS.iloadN X9.here hx rfl (hb hby d4_7) rfl k) ?_
    obtain ⟨cl10, Ar10, q10, S10, Ng10, H10, G10⟩ := id V_ya
    have hin10 : ¬ ((2 : Int32) < 0 ∨ cl10.slots.size ≤ ((2 : Int32)).toNatClampNeg) := inb_of S10 ⟨by decide, by decide⟩
    refine Goes.to (T' := T9.setTop (mkF m 9 #[.val (.ref ya), .val (.int (2 : Int32))] [(.int u2)])) (X9.baloadBytes hx (j := (2 : Int32)) (v := (.int u2)) (by rw [e9]; exact Ar10.1) (State.isArrayOf_alike hZ.alike Ar10.2.1) Ar10.2.2 hin10 (H10.at hin10 rfl) (g := (mkF m 8 #[.val (.ref ya), .val (.int (2 : Int32))] [(.int (2 : Int32)), (.ref ya)])) rfl rfl (hb hby d4_8)) ?_
    refine Goes.to (T' := T9.setTop (mkF m 12 #[.val (.ref ya), .val (.int (2 : Int32))] [(.int (255 : Int32)), (.int u2)])) (fun t k => XS.sipush X9.here hx rfl (hb hby d4_9) k) ?_
    refine Goes.to (T' := T9.setTop (mkF m 13 #[.val (.ref ya), .val (.int (2 : Int32))] [(.int (u2 &&& (255 : Int32)))])) (fun t k => XS.iand X9.here hx rfl (hb hby d4_12) rfl k) ?_
    refine Goes.to (T' := T9.setTop (mkF m 14 #[.val (.ref ya), .val (.int (2 : Int32))] [(.int ((u2 &&& (255 : Int32)).toUInt32.toUInt16.toUInt32.toInt32))])) (fun t k => XS.i2c X9.here hx rfl (hb hby d4_13) rfl k) ?_
    obtain ⟨fs, hrL, hrun, hended, hW, hsame⟩ := X9.leave (v := some (.int (nar .char ((u2 &&& (255 : Int32)).toUInt32.toUInt16.toUInt32.toInt32)))) (fun h => by rw [Bd.returns] at h; cases h)
    subst hQf
    refine ⟨_, _, retN X9 hx (t := .char) Bd.returns (by simp) (hb hby d4_14) hrL, hrun, hended, _, _, rfl, ?_, ⟨_, rfl⟩, hW, hsame.mono (by decide) (by decide)⟩
    show Q_rmLC  h0 n0 (some (.int (nar .char ((u2 &&& (255 : Int32)).toUInt32.toUInt16.toUInt32.toInt32)))) T9.heap _
    rw [e9]
    exact ⟨⟨_, rfl, own_narr (own_i2c _)⟩, N9, rfl⟩
  · rw [hv_1]
    refine Goes.to (T' := s₁.setTop (mkF m 1 #[.val (.ref ya), .val (.int (3 : Int32))] [(.int (3 : Int32))])) (fun t k => XS.iloadN X0.here hx rfl (hb hby d4_0) rfl k) ?_
    refine Goes.to (T' := s₁.setTop (mkF m 2 #[.val (.ref ya), .val (.int (3 : Int32))] [(.ref ya), (.int (3 : Int32))])) (fun t k => XS.aloadN X0.here hx rfl (hb hby d4_1) rfl rfl k) ?_
    obtain ⟨cl11, Ar11, q11, S11, Ng11, H11, G11⟩ := id V_ya
    refine Goes.to (T' := s₁.setTop (mkF m 3 #[.val (.ref ya), .val (.int (3 : Int32))] [(.int (5 : Int32)), (.int (3 : Int32))])) (fun t k => X0.arraylength hx (by rw [e0]; exact Ar11.1) (State.isArrayOf_alike hZ.alike Ar11.2.1) (g := (mkF m 2 #[.val (.ref ya), .val (.int (3 : Int32))] [(.ref ya), (.int (3 : Int32))])) rfl rfl (hb hby d4_2) _ (by rw [len_of S11 Ng11]; exact k)) ?_
    obtain ⟨_, _, ⟨T12, L12, k12, n12⟩, -, X12, ⟨Lc12, hQ12, l12, y12, z12⟩, st12⟩ := Jvm.LawKit.callS X0 hx (y := (⟨"java/lang/String", "checkIndex", "(II)V"⟩ : MethodName)) hown (mvT hZ (wi hw 30 rfl)) (mvT hZ (wi hw 31 rfl)) (mvT hZ (wi hw 2 rfl)) (mvT hZ (wi hw 32 rfl)) (by decide) (backOf (W := 0) (rmCk hw (3 : Int32)  h0 n0 O0 NF (by decide) (by decide)) hZ (wi hw 32 rfl) (wi hw 2 rfl) (by decide) (by decide)) (g := (mkF m 3 #[.val (.ref ya), .val (.int (3 : Int32))] [(.int (5 : Int32)), (.int (3 : Int32))])) rfl (by rw [hml]; rfl) (argsL := [(.int (3 : Int32)), (.int (5 : Int32))]) (rest := []) (lenOf pd_19 rfl) rfl (by show 2 * 0 + _ ≤ _; exact Nat.le_of_eq rfl) (hb hby d4_3) (fun _ _ => ⟨rfl, e0, (by decide : 0 + 0 ≤ _), (by decide : 0 + 0 ≤ _)⟩)
    dsimp only [Pt.U, Pt.locs, Pt.cells, Pt.slots] at X12 l12 y12 z12 st12 hQ12
    subst l12 y12 z12
    obtain ⟨rfl, Nq12, e12⟩ := hQ12
    have N12 := Fr.app N0 Nq12
    refine Goes.to (T' := T12.setTop (mkF m 6 #[.val (.ref ya), .val (.int (3 : Int32))] [])) st12 ?_
    refine Goes.to (T' := T12.setTop (mkF m 7 #[.val (.ref ya), .val (.int (3 : Int32))] [(.ref ya)])) (fun t k => XS.aloadN X12.here hx rfl (hb hby d4_6) rfl rfl k) ?_
    refine Goes.to (T' := T12.setTop (mkF m 8 #[.val (.ref ya), .val (.int (3 : Int32))] [(.int (3 : Int32)), (.ref ya)])) (fun t k => XS.iloadN X12.here hx rfl (hb hby d4_7) rfl k) ?_
    obtain ⟨cl13, Ar13, q13, S13, Ng13, H13, G13⟩ := id V_ya
    have hin13 : ¬ ((3 : Int32) < 0 ∨ cl13.slots.size ≤ ((3 : Int32)).toNatClampNeg) := inb_of S13 ⟨by decide, by decide⟩
    refine Goes.to (T' := T12.setTop (mkF m 9 #[.val (.ref ya), .val (.int (3 : Int32))] [(.int u3)])) (X12.baloadBytes hx (j := (3 : Int32)) (v := (.int u3)) (by rw [e12]; exact Ar13.1) (State.isArrayOf_alike hZ.alike Ar13.2.1) Ar13.2.2 hin13 (H13.at hin13 rfl) (g := (mkF m 8 #[.val (.ref ya), .val (.int (3 : Int32))] [(.int (3 : Int32)), (.ref ya)])) rfl rfl (hb hby d4_8)) ?_
    refine Goes.to (T' := T12.setTop (mkF m 12 #[.val (.ref ya), .val (.int (3 : Int32))] [(.int (255 : Int32)), (.int u3)])) (fun t k => XS.sipush X12.here hx rfl (hb hby d4_9) k) ?_
    refine Goes.to (T' := T12.setTop (mkF m 13 #[.val (.ref ya), .val (.int (3 : Int32))] [(.int (u3 &&& (255 : Int32)))])) (fun t k => XS.iand X12.here hx rfl (hb hby d4_12) rfl k) ?_
    refine Goes.to (T' := T12.setTop (mkF m 14 #[.val (.ref ya), .val (.int (3 : Int32))] [(.int ((u3 &&& (255 : Int32)).toUInt32.toUInt16.toUInt32.toInt32))])) (fun t k => XS.i2c X12.here hx rfl (hb hby d4_13) rfl k) ?_
    obtain ⟨fs, hrL, hrun, hended, hW, hsame⟩ := X12.leave (v := some (.int (nar .char ((u3 &&& (255 : Int32)).toUInt32.toUInt16.toUInt32.toInt32)))) (fun h => by rw [Bd.returns] at h; cases h)
    subst hQf
    refine ⟨_, _, retN X12 hx (t := .char) Bd.returns (by simp) (hb hby d4_14) hrL, hrun, hended, _, _, rfl, ?_, ⟨_, rfl⟩, hW, hsame.mono (by decide) (by decide)⟩
    show Q_rmLC  h0 n0 (some (.int (nar .char ((u3 &&& (255 : Int32)).toUInt32.toUInt16.toUInt32.toInt32)))) T12.heap _
    rw [e12]
    exact ⟨⟨_, rfl, own_narr (own_i2c _)⟩, N12, rfl⟩
  · rw [hv_1]
    refine Goes.to (T' := s₁.setTop (mkF m 1 #[.val (.ref ya), .val (.int (4 : Int32))] [(.int (4 : Int32))])) (fun t k => XS.iloadN X0.here hx rfl (hb hby d4_0) rfl k) ?_
    refine Goes.to (T' := s₁.setTop (mkF m 2 #[.val (.ref ya), .val (.int (4 : Int32))] [(.ref ya), (.int (4 : Int32))])) (fun t k => XS.aloadN X0.here hx rfl (hb hby d4_1) rfl rfl k) ?_
    obtain ⟨cl14, Ar14, q14, S14, Ng14, H14, G14⟩ := id V_ya
    refine Goes.to (T' := s₁.setTop (mkF m 3 #[.val (.ref ya), .val (.int (4 : Int32))] [(.int (5 : Int32)), (.int (4 : Int32))])) (fun t k => X0.arraylength hx (by rw [e0]; exact Ar14.1) (State.isArrayOf_alike hZ.alike Ar14.2.1) (g := (mkF m 2 #[.val (.ref ya), .val (.int (4 : Int32))] [(.ref ya), (.int (4 : Int32))])) rfl rfl (hb hby d4_2) _ (by rw [len_of S14 Ng14]; exact k)) ?_
    obtain ⟨_, _, ⟨T15, L15, k15, n15⟩, -, X15, ⟨Lc15, hQ15, l15, y15, z15⟩, st15⟩ := Jvm.LawKit.callS X0 hx (y := (⟨"java/lang/String", "checkIndex", "(II)V"⟩ : MethodName)) hown (mvT hZ (wi hw 30 rfl)) (mvT hZ (wi hw 31 rfl)) (mvT hZ (wi hw 2 rfl)) (mvT hZ (wi hw 32 rfl)) (by decide) (backOf (W := 0) (rmCk hw (4 : Int32)  h0 n0 O0 NF (by decide) (by decide)) hZ (wi hw 32 rfl) (wi hw 2 rfl) (by decide) (by decide)) (g := (mkF m 3 #[.val (.ref ya), .val (.int (4 : Int32))] [(.int (5 : Int32)), (.int (4 : Int32))])) rfl (by rw [hml]; rfl) (argsL := [(.int (4 : Int32)), (.int (5 : Int32))]) (rest := []) (lenOf pd_19 rfl) rfl (by show 2 * 0 + _ ≤ _; exact Nat.le_of_eq rfl) (hb hby d4_3) (fun _ _ => ⟨rfl, e0, (by decide : 0 + 0 ≤ _), (by decide : 0 + 0 ≤ _)⟩)
    dsimp only [Pt.U, Pt.locs, Pt.cells, Pt.slots] at X15 l15 y15 z15 st15 hQ15
    subst l15 y15 z15
    obtain ⟨rfl, Nq15, e15⟩ := hQ15
    have N15 := Fr.app N0 Nq15
    refine Goes.to (T' := T15.setTop (mkF m 6 #[.val (.ref ya), .val (.int (4 : Int32))] [])) st15 ?_
    refine Goes.to (T' := T15.setTop (mkF m 7 #[.val (.ref ya), .val (.int (4 : Int32))] [(.ref ya)])) (fun t k => XS.aloadN X15.here hx rfl (hb hby d4_6) rfl rfl k) ?_
    refine Goes.to (T' := T15.setTop (mkF m 8 #[.val (.ref ya), .val (.int (4 : Int32))] [(.int (4 : Int32)), (.ref ya)])) (fun t k => XS.iloadN X15.here hx rfl (hb hby d4_7) rfl k) ?_
    obtain ⟨cl16, Ar16, q16, S16, Ng16, H16, G16⟩ := id V_ya
    have hin16 : ¬ ((4 : Int32) < 0 ∨ cl16.slots.size ≤ ((4 : Int32)).toNatClampNeg) := inb_of S16 ⟨by decide, by decide⟩
    refine Goes.to (T' := T15.setTop (mkF m 9 #[.val (.ref ya), .val (.int (4 : Int32))] [(.int u4)])) (X15.baloadBytes hx (j := (4 : Int32)) (v := (.int u4)) (by rw [e15]; exact Ar16.1) (State.isArrayOf_alike hZ.alike Ar16.2.1) Ar16.2.2 hin16 (H16.at hin16 rfl) (g := (mkF m 8 #[.val (.ref ya), .val (.int (4 : Int32))] [(.int (4 : Int32)), (.ref ya)])) rfl rfl (hb hby d4_8)) ?_
    refine Goes.to (T' := T15.setTop (mkF m 12 #[.val (.ref ya), .val (.int (4 : Int32))] [(.int (255 : Int32)), (.int u4)])) (fun t k => XS.sipush X15.here hx rfl (hb hby d4_9) k) ?_
    refine Goes.to (T' := T15.setTop (mkF m 13 #[.val (.ref ya), .val (.int (4 : Int32))] [(.int (u4 &&& (255 : Int32)))])) (fun t k => XS.iand X15.here hx rfl (hb hby d4_12) rfl k) ?_
    refine Goes.to (T' := T15.setTop (mkF m 14 #[.val (.ref ya), .val (.int (4 : Int32))] [(.int ((u4 &&& (255 : Int32)).toUInt32.toUInt16.toUInt32.toInt32))])) (fun t k => XS.i2c X15.here hx rfl (hb hby d4_13) rfl k) ?_
    obtain ⟨fs, hrL, hrun, hended, hW, hsame⟩ := X15.leave (v := some (.int (nar .char ((u4 &&& (255 : Int32)).toUInt32.toUInt16.toUInt32.toInt32)))) (fun h => by rw [Bd.returns] at h; cases h)
    subst hQf
    refine ⟨_, _, retN X15 hx (t := .char) Bd.returns (by simp) (hb hby d4_14) hrL, hrun, hended, _, _, rfl, ?_, ⟨_, rfl⟩, hW, hsame.mono (by decide) (by decide)⟩
    show Q_rmLC  h0 n0 (some (.int (nar .char ((u4 &&& (255 : Int32)).toUInt32.toUInt16.toUInt32.toInt32)))) T15.heap _
    rw [e15]
    exact ⟨⟨_, rfl, own_narr (own_i2c _)⟩, N15, rfl⟩
theorem d3_0 : decode jdk_42_method_154_code 0 = .ok (.getstatic 38, 3) := by decide +kernel
theorem d3_3 : decode jdk_42_method_154_code 3 = .ok (.ifCond .eq 14, 3) := by decide +kernel
theorem d3_6 : decode jdk_42_method_154_code 6 = .ok (.aload_n 0, 1) := by decide +kernel
theorem d3_7 : decode jdk_42_method_154_code 7 = .ok (.getfield 15, 3) := by decide +kernel
theorem d3_10 : decode jdk_42_method_154_code 10 = .ok (.ifCond .ne 7, 3) := by decide +kernel
theorem d3_13 : decode jdk_42_method_154_code 13 = .ok (.iconst 1, 1) := by decide +kernel
theorem d3_14 : decode jdk_42_method_154_code 14 = .ok (.goto 4, 3) := by decide +kernel
theorem d3_18 : decode jdk_42_method_154_code 18 = .ok (.ireturn, 1) := by decide +kernel
theorem pn_3 : plainName "java/lang/String" = true := by first | (simp [plainName, overriddenIn]; done) | decide +kernel
theorem ef_rmIL (m : MethodId) (x0 : Addr) : entryFrame m #[(.ref x0)] 1 = mkF m 0 #[.val (.ref x0)] [] := by first | (simp [entryFrame, mkF, argsToLocals, Value.category]; done) | rfl
def Q_rmIL  (h0 : Heap) (n0 : Nat) (v : Option Value) (h : Heap) (L : List Loc) : Prop := v = some (.int 1) ∧ Fr n0 L ∧ h = h0
theorem rmIL (hw : HW a0 Z) (xa : Addr) (h0 : Heap) (n0 : Nat) (O0 : Old Z n0 h0) (NF : Nar Z w6 w7 w8 w9 w3 w0 w4 w1 w5 w2 k_w6 k_w0 k_w1 k_w2 z_cs fm) (F_coder_xa : Fld Z h0 xa "java/lang/String" "coder" "B" (.int (0 : Int32))) :
    Con l Z (⟨"java/lang/String", "isLatin1", "()Z"⟩ : MethodName) jdk_42_method_154_code 1 (some .boolean) ws ({ frames := 0, cells := 0, slots := 0, locals := 0 } : Room) #[(.ref xa)] h0 (Q_rmIL  h0 n0) := by
  refine Con.body (own := "java/lang/String") rfl (plainFor_of_name pn_3) (fun m => ef_rmIL m _) ?_
  intro p e s m below meth c s₁ Bd hx hby hml hZ hown X0 e0 Qf hQf
  have N0 := Fr.nil n0
  obtain ⟨S_w6, E_w6, S_w7, E_w7, S_w8, E_w8, S_w9, E_w9, F_listName_w7, E_w3, F_value_w3, F_listName_w8, E_w4, F_value_w4, F_listName_w9, E_w5, F_value_w5, F_coder_w3, F_coder_w4, F_coder_w5, V_w6, V_w0, V_w1, V_w2, S_cs, nz_cs, S_fm, rf⟩ := id NF
  obtain ⟨T1, X1, e1, st1⟩ := getS2 X0 hx hZ hown (host := "") (Or.inl (wi hw 23 rfl)) Via.refl e0 (S_cs.ext O0.2) (g := (mkF m 0 #[.val (.ref xa)] [])) rfl (hb hby d3_0)
  refine Goes.to (T' := T1.setTop (mkF m 3 #[.val (.ref xa)] [(.int z_cs)])) st1 ?_
  refine Goes.to (T' := T1.setTop (mkF m 6 #[.val (.ref xa)] [])) (fun t k => XS.ifNo X1.here hx rfl (hb hby d3_3) rfl ((if0 _ _).trans (feq nz_cs).1) k) ?_
  refine Goes.to (T' := T1.setTop (mkF m 7 #[.val (.ref xa)] [(.ref xa)])) (fun t k => XS.aloadN X1.here hx rfl (hb hby d3_6) rfl rfl k) ?_
  obtain ⟨T2, X2, e2, st2⟩ := getF X1 hx hZ hown (host := "") (Or.inl (wi hw 24 rfl)) Via.refl e1 F_coder_xa (g := (mkF m 7 #[.val (.ref xa)] [(.ref xa)])) rfl rfl (hb hby d3_7)
  refine Goes.to (T' := T2.setTop (mkF m 10 #[.val (.ref xa)] [(.int (0 : Int32))])) st2 ?_
  refine Goes.to (T' := T2.setTop (mkF m 13 #[.val (.ref xa)] [])) (fun t k => XS.ifNo X2.here hx rfl (hb hby d3_10) rfl ((if0 _ _).trans (teq (by decide)).2) k) ?_
  refine Goes.to (T' := T2.setTop (mkF m 14 #[.val (.ref xa)] [(.int (1 : Int32))])) (fun t k => XS.iconst X2.here hx rfl (hb hby d3_13) k) ?_
  refine Goes.to (T' := T2.setTop (mkF m 18 #[.val (.ref xa)] [(.int (1 : Int32))])) (fun t k => XS.goto X2.here hx rfl (pc0 := 14) (pc' := 18) rfl (hb hby d3_14) (by decide) (by decide) k) ?_
  obtain ⟨fs, hrL, hrun, hended, hW, hsame⟩ := X2.leave (v := some (.int (1 : Int32))) (fun h => by rw [Bd.returns] at h; cases h)
  subst hQf
  refine ⟨_, _, retN X2 hx (t := .boolean) Bd.returns (by simp) (hb hby d3_18) hrL, hrun, hended, _, _, rfl, ?_, ⟨_, rfl⟩, hW, hsame.mono (by decide) (by decide)⟩
  show Q_rmIL  h0 n0 (some (.int (1 : Int32))) T2.heap _
  rw [e2]
  exact ⟨rfl, N0, rfl⟩
theorem pd_43 : parseMethodDescriptor "()Z" = some ⟨[], some .boolean⟩ := by decide +kernel
theorem pd_44 : parseMethodDescriptor "([BI)C" = some ⟨[(.array .byte), .int], some .char⟩ := by decide +kernel
theorem d2_0 : decode jdk_42_method_56_code 0 = .ok (.aload_n 0, 1) := by decide +kernel
theorem d2_1 : decode jdk_42_method_56_code 1 = .ok (.invokevirtual 492, 3) := by decide +kernel
theorem d2_4 : decode jdk_42_method_56_code 4 = .ok (.ifCond .eq 12, 3) := by decide +kernel
theorem d2_7 : decode jdk_42_method_56_code 7 = .ok (.aload_n 0, 1) := by decide +kernel
theorem d2_8 : decode jdk_42_method_56_code 8 = .ok (.getfield 9, 3) := by decide +kernel
theorem d2_11 : decode jdk_42_method_56_code 11 = .ok (.iload_n 1, 1) := by decide +kernel
theorem d2_12 : decode jdk_42_method_56_code 12 = .ok (.invokestatic 495, 3) := by decide +kernel
theorem d2_15 : decode jdk_42_method_56_code 15 = .ok (.ireturn, 1) := by decide +kernel
theorem pn_2 : plainName "java/lang/String" = true := by first | (simp [plainName, overriddenIn]; done) | decide +kernel
def Q_rmCA  (h0 : Heap) (n0 : Nat) (v : Option Value) (h : Heap) (L : List Loc) : Prop := (∃ r : Int32, v = some (.int r) ∧ ¬ r < 0 ∧ ¬ (255 : Int32) < r) ∧ Fr n0 L ∧ h = h0
theorem rmCA (hw : HW a0 Z) (xa : Addr) (pi : Int32) (ya : Addr) (ka : ClassId) (u0 : Int32) (u1 : Int32) (u2 : Int32) (u3 : Int32) (u4 : Int32) (h0 : Heap) (n0 : Nat) (O0 : Old Z n0 h0) (NF : Nar Z w6 w7 w8 w9 w3 w0 w4 w1 w5 w2 k_w6 k_w0 k_w1 k_w2 z_cs fm) (E_xa : Exa Z h0 xa "java/lang/String") (F_coder_xa : Fld Z h0 xa "java/lang/String" "coder" "B" (.int (0 : Int32))) (F_value_xa : Fld Z h0 xa "java/lang/String" "value" "[B" (.ref ya)) (V_ya : Arv Z h0 ya ka .byte (5 : Int32) [(.int u0), (.int u1), (.int u2), (.int u3), (.int u4)] (.int (0 : Int32))) (hpi : pi = (0 : Int32) ∨ pi = (1 : Int32) ∨ pi = (2 : Int32) ∨ pi = (3 : Int32) ∨ pi = (4 : Int32)) :
    Con l Z (⟨"java/lang/String", "charAt", "(I)C"⟩ : MethodName) jdk_42_method_56_code 2 (some .char) ws ({ frames := 3, cells := 0, slots := 0, locals := 70 } : Room) #[(.ref xa), (.int pi)] h0 (Q_rmCA  h0 n0) := by
  refine Con.body (own := "java/lang/String") rfl (plainFor_of_name pn_2) (fun m => ef_rmLC m _ _) ?_
  intro p e s m below meth c s₁ Bd hx hby hml hZ hown X0 e0 Qf hQf
  have N0 := Fr.nil n0
  obtain ⟨S_w6, E_w6, S_w7, E_w7, S_w8, E_w8, S_w9, E_w9, F_listName_w7, E_w3, F_value_w3, F_listName_w8, E_w4, F_value_w4, F_listName_w9, E_w5, F_value_w5, F_coder_w3, F_coder_w4, F_coder_w5, V_w6, V_w0, V_w1, V_w2, S_cs, nz_cs, S_fm, rf⟩ := id NF
  refine Goes.to (T' := s₁.setTop (mkF m 1 #[.val (.ref xa), .val (.int pi)] [(.ref xa)])) (fun t k => XS.aloadN X0.here hx rfl (hb hby d2_0) rfl rfl k) ?_
  obtain ⟨cq1, kq1, q1a, q1b, q1c⟩ := isOf hZ e0 E_xa
  obtain ⟨_, _, ⟨T1, L1, k1, n1⟩, -, X1, ⟨Lc1, hQ1, l1, y1, z1⟩, st1⟩ := X0.virtualBack hx (y := (⟨"java/lang/String", "isLatin1", "()Z"⟩ : MethodName)) (z := (⟨"java/lang/String", "isLatin1", "()Z"⟩ : MethodName)) hown (mvT hZ (wi hw 18 rfl)) (mvT hZ (wi hw 19 rfl)) (notFace_of_selects (args := #[]) (mvT hZ (wi hw 21 rfl))) (mvT hZ (wi hw 21 rfl)) (mvT hZ (wi hw 20 rfl)) (by decide) (backOf (W := 0) (rmIL hw xa  h0 n0 O0 NF F_coder_xa) hZ (wi hw 22 rfl) (wi hw 2 rfl) (by decide) (by decide)) q1a q1c (g := (mkF m 1 #[.val (.ref xa), .val (.int pi)] [(.ref xa)])) rfl (by rw [hml]; rfl) (Steps.refl _) (argsL := []) (rest := []) (lenOf pd_43 rfl) rfl (by show 2 * 0 + _ ≤ _; exact Nat.le_of_eq rfl) (hb hby d2_1) (fun _ _ => ⟨rfl, e0, (by decide : 0 + 0 ≤ _), (by decide : 0 + 0 ≤ _)⟩)
  dsimp only [Pt.U, Pt.locs, Pt.cells, Pt.slots] at X1 l1 y1 z1 st1 hQ1
  subst l1 y1 z1
  obtain ⟨rfl, Nq1, e1⟩ := hQ1
  have N1 := Fr.app N0 Nq1
  refine Goes.thru (T' := T1.setTop (mkF m 4 #[.val (.ref xa), .val (.int pi)] [(.int (1 : Int32))])) st1 ?_
  refine Goes.to (T' := T1.setTop (mkF m 7 #[.val (.ref xa), .val (.int pi)] [])) (fun t k => XS.ifNo X1.here hx rfl (hb hby d2_4) rfl ((if0 _ _).trans (feq (by decide)).1) k) ?_
  refine Goes.to (T' := T1.setTop (mkF m 8 #[.val (.ref xa), .val (.int pi)] [(.ref xa)])) (fun t k => XS.aloadN X1.here hx rfl (hb hby d2_7) rfl rfl k) ?_
  obtain ⟨T2, X2, e2, st2⟩ := getF X1 hx hZ hown (host := "") (Or.inl (wi hw 25 rfl)) Via.refl e1 F_value_xa (g := (mkF m 8 #[.val (.ref xa), .val (.int pi)] [(.ref xa)])) rfl rfl (hb hby d2_8)
  refine Goes.to (T' := T2.setTop (mkF m 11 #[.val (.ref xa), .val (.int pi)] [(.ref ya)])) st2 ?_
  refine Goes.to (T' := T2.setTop (mkF m 12 #[.val (.ref xa), .val (.int pi)] [(.int pi), (.ref ya)])) (fun t k => XS.iloadN X2.here hx rfl (hb hby d2_11) rfl k) ?_
  obtain ⟨_, _, ⟨T3, L3, k3, n3⟩, -, X3, ⟨Lc3, hQ3, l3, y3, z3⟩, st3⟩ := Jvm.LawKit.callS X2 hx (y := (⟨"java/lang/StringLatin1", "charAt", "([BI)C"⟩ : MethodName)) hown (mvT hZ (wi hw 26 rfl)) (mvT hZ (wi hw 27 rfl)) (mvT hZ (wi hw 28 rfl)) (mvT hZ (wi hw 29 rfl)) (by decide) (backOf (W := 0) (rmLC hw ya pi ka u0 u1 u2 u3 u4 h0 n0 O0 NF V_ya hpi) hZ (wi hw 29 rfl) (wi hw 28 rfl) (by decide) (by decide)) (g := (mkF m 12 #[.val (.ref xa), .val (.int pi)] [(.int pi), (.ref ya)])) rfl (by rw [hml]; rfl) (argsL := [(.ref ya), (.int pi)]) (rest := []) (lenOf pd_44 rfl) rfl (by show 2 * 0 + _ ≤ _; exact Nat.le_of_eq rfl) (hb hby d2_12) (fun _ _ => ⟨rfl, e2, (by decide : 0 + 0 ≤ _), (by decide : 0 + 0 ≤ _)⟩)
  dsimp only [Pt.U, Pt.locs, Pt.cells, Pt.slots] at X3 l3 y3 z3 st3 hQ3
  subst l3 y3 z3
  obtain ⟨⟨rc, rfl, hrc⟩, Nq3, e3⟩ := hQ3
  have N3 := Fr.app N1 Nq3
  refine Goes.to (T' := T3.setTop (mkF m 15 #[.val (.ref xa), .val (.int pi)] [(.int rc)])) st3 ?_
  obtain ⟨fs, hrL, hrun, hended, hW, hsame⟩ := X3.leave (v := some (.int (nar .char rc))) (fun h => by rw [Bd.returns] at h; cases h)
  subst hQf
  refine ⟨_, _, retN X3 hx (t := .char) Bd.returns (by simp) (hb hby d2_15) hrL, hrun, hended, _, _, rfl, ?_, ⟨_, rfl⟩, hW, hsame.mono (by decide) (by decide)⟩
  show Q_rmCA  h0 n0 (some (.int (nar .char rc))) T3.heap _
  rw [e3]
  exact ⟨⟨_, rfl, own_narr hrc⟩, N3, rfl⟩
theorem pd_54 : parseMethodDescriptor "(I)C" = some ⟨[.int], some .char⟩ := by decide +kernel
theorem d1_0 : decode method_3_code 0 = .ok (.iload_n 2, 1) := by decide +kernel
theorem d1_1 : decode method_3_code 1 = .ok (.iload_n 1, 1) := by decide +kernel
theorem d1_2 : decode method_3_code 2 = .ok (.iushr, 1) := by decide +kernel
theorem d1_3 : decode method_3_code 3 = .ok (.iconst 1, 1) := by decide +kernel
theorem d1_4 : decode method_3_code 4 = .ok (.iand, 1) := by decide +kernel
theorem d1_5 : decode method_3_code 5 = .ok (.ifCond .ne 9, 3) := by decide +kernel
theorem d1_8 : decode method_3_code 8 = .ok (.aload_n 0, 1) := by decide +kernel
theorem d1_9 : decode method_3_code 9 = .ok (.iload_n 1, 1) := by decide +kernel
theorem d1_10 : decode method_3_code 10 = .ok (.invokevirtual 47, 3) := by decide +kernel
theorem d1_13 : decode method_3_code 13 = .ok (.ireturn, 1) := by decide +kernel
theorem d1_14 : decode method_3_code 14 = .ok (.lload_n 3, 1) := by decide +kernel
theorem d1_15 : decode method_3_code 15 = .ok (.bipush 8, 2) := by decide +kernel
theorem d1_17 : decode method_3_code 17 = .ok (.iload_n 1, 1) := by decide +kernel
theorem d1_18 : decode method_3_code 18 = .ok (.imul, 1) := by decide +kernel
theorem d1_19 : decode method_3_code 19 = .ok (.lushr, 1) := by decide +kernel
theorem d1_20 : decode method_3_code 20 = .ok (.ldc2_w 20, 3) := by decide +kernel
theorem d1_23 : decode method_3_code 23 = .ok (.land, 1) := by decide +kernel
theorem d1_24 : decode method_3_code 24 = .ok (.l2i, 1) := by decide +kernel
theorem d1_25 : decode method_3_code 25 = .ok (.i2c, 1) := by decide +kernel
theorem d1_26 : decode method_3_code 26 = .ok (.ireturn, 1) := by decide +kernel
theorem pn_1 : plainName "com/example/issuer/issuer/blocklist/EntryKindOfListPinLaw" = true := by first | (simp [plainName, overriddenIn]; done) | decide +kernel
theorem ef_rmPk (m : MethodId) (x0 : Addr) (x1 : Int32) (x2 : Int32) (x3 : Int64) : entryFrame m #[(.ref x0), (.int x1), (.int x2), (.long x3)] 5 = mkF m 0 #[.val (.ref x0), .val (.int x1), .val (.int x2), .val (.long x3), .second] [] := by first | (simp [entryFrame, mkF, argsToLocals, Value.category]; done) | rfl
def Q_rmPk  (h0 : Heap) (n0 : Nat) (v : Option Value) (h : Heap) (L : List Loc) : Prop := (∃ r : Int32, v = some (.int r) ∧ ¬ r < 0 ∧ ¬ (255 : Int32) < r) ∧ Fr n0 L ∧ h = h0
theorem rmPk (hw : HW a0 Z) (xa : Addr) (pi : Int32) (pm : Int32) (qd : Int64) (ya : Addr) (ka : ClassId) (u0 : Int32) (u1 : Int32) (u2 : Int32) (u3 : Int32) (u4 : Int32) (h0 : Heap) (n0 : Nat) (O0 : Old Z n0 h0) (NF : Nar Z w6 w7 w8 w9 w3 w0 w4 w1 w5 w2 k_w6 k_w0 k_w1 k_w2 z_cs fm) (E_xa : Exa Z h0 xa "java/lang/String") (F_coder_xa : Fld Z h0 xa "java/lang/String" "coder" "B" (.int (0 : Int32))) (F_value_xa : Fld Z h0 xa "java/lang/String" "value" "[B" (.ref ya)) (V_ya : Arv Z h0 ya ka .byte (5 : Int32) [(.int u0), (.int u1), (.int u2), (.int u3), (.int u4)] (.int (0 : Int32))) (hpi : pi = (0 : Int32) ∨ pi = (1 : Int32) ∨ pi = (2 : Int32) ∨ pi = (3 : Int32) ∨ pi = (4 : Int32)) :
    Con l Z (⟨"com/example/issuer/issuer/blocklist/EntryKindOfListPinLaw", "pick", "(Ljava/lang/String;IIJ)C"⟩ : MethodName) method_3_code 5 (some .char) ws ({ frames := 4, cells := 0, slots := 0, locals := 90 } : Room) #[(.ref xa), (.int pi), (.int pm), (.long qd)] h0 (Q_rmPk  h0 n0) := by
  refine Con.body (own := "com/example/issuer/issuer/blocklist/EntryKindOfListPinLaw") rfl (plainFor_of_name pn_1) (fun m => ef_rmPk m _ _ _ _) ?_
  intro p e s m below meth c s₁ Bd hx hby hml hZ hown X0 e0 Qf hQf
  have N0 := Fr.nil n0
  obtain ⟨S_w6, E_w6, S_w7, E_w7, S_w8, E_w8, S_w9, E_w9, F_listName_w7, E_w3, F_value_w3, F_listName_w8, E_w4, F_value_w4, F_listName_w9, E_w5, F_value_w5, F_coder_w3, F_coder_w4, F_coder_w5, V_w6, V_w0, V_w1, V_w2, S_cs, nz_cs, S_fm, rf⟩ := id NF
  refine Goes.to (T' := s₁.setTop (mkF m 1 #[.val (.ref xa), .val (.int pi), .val (.int pm), .val (.long qd), .second] [(.int pm)])) (fun t k => XS.iloadN X0.here hx rfl (hb hby d1_0) rfl k) ?_
  refine Goes.to (T' := s₁.setTop (mkF m 2 #[.val (.ref xa), .val (.int pi), .val (.int pm), .val (.long qd), .second] [(.int pi), (.int pm)])) (fun t k => XS.iloadN X0.here hx rfl (hb hby d1_1) rfl k) ?_
  refine Goes.to (T' := s₁.setTop (mkF m 3 #[.val (.ref xa), .val (.int pi), .val (.int pm), .val (.long qd), .second] [(.int ((pm.toUInt32 >>> (pi &&& 31).toUInt32).toInt32))])) (fun t k => XS.iushr X0.here hx rfl (hb hby d1_2) rfl k) ?_
  refine Goes.to (T' := s₁.setTop (mkF m 4 #[.val (.ref xa), .val (.int pi), .val (.int pm), .val (.long qd), .second] [(.int (1 : Int32)), (.int ((pm.toUInt32 >>> (pi &&& 31).toUInt32).toInt32))])) (fun t k => XS.iconst X0.here hx rfl (hb hby d1_3) k) ?_
  refine Goes.to (T' := s₁.setTop (mkF m 5 #[.val (.ref xa), .val (.int pi), .val (.int pm), .val (.long qd), .second] [(.int (((pm.toUInt32 >>> (pi &&& 31).toUInt32).toInt32) &&& (1 : Int32)))])) (fun t k => XS.iand X0.here hx rfl (hb hby d1_4) rfl k) ?_
  rcases Decidable.em ((((pm.toUInt32 >>> (pi &&& 31).toUInt32).toInt32) &&& (1 : Int32)) = (0 : Int32)) with hc5_1 | hc5_1
  · skip
    refine Goes.to (T' := s₁.setTop (mkF m 8 #[.val (.ref xa), .val (.int pi), .val (.int pm), .val (.long qd), .second] [])) (fun t k => XS.ifNo X0.here hx rfl (hb hby d1_5) rfl ((if0 _ _).trans (teq hc5_1).2) k) ?_
    refine Goes.to (T' := s₁.setTop (mkF m 9 #[.val (.ref xa), .val (.int pi), .val (.int pm), .val (.long qd), .second] [(.ref xa)])) (fun t k => XS.aloadN X0.here hx rfl (hb hby d1_8) rfl rfl k) ?_
    refine Goes.to (T' := s₁.setTop (mkF m 10 #[.val (.ref xa), .val (.int pi), .val (.int pm), .val (.long qd), .second] [(.int pi), (.ref xa)])) (fun t k => XS.iloadN X0.here hx rfl (hb hby d1_9) rfl k) ?_
    obtain ⟨cq2, kq2, q2a, q2b, q2c⟩ := isOf hZ e0 E_xa
    obtain ⟨_, _, ⟨T2, L2, k2, n2⟩, -, X2, ⟨Lc2, hQ2, l2, y2, z2⟩, st2⟩ := X0.virtualBack hx (y := (⟨"java/lang/String", "charAt", "(I)C"⟩ : MethodName)) (z := (⟨"java/lang/String", "charAt", "(I)C"⟩ : MethodName)) hown (mvT hZ (wi hw 13 rfl)) (mvT hZ (wi hw 14 rfl)) (notFace_of_selects (args := #[]) (mvT hZ (wi hw 16 rfl))) (mvT hZ (wi hw 16 rfl)) (mvT hZ (wi hw 15 rfl)) (by decide) (backOf (W := 0) (rmCA hw xa pi ya ka u0 u1 u2 u3 u4 h0 n0 O0 NF E_xa F_coder_xa F_value_xa V_ya hpi) hZ (wi hw 17 rfl) (wi hw 2 rfl) (by decide) (by decide)) q2a q2c (g := (mkF m 10 #[.val (.ref xa), .val (.int pi), .val (.int pm), .val (.long qd), .second] [(.int pi), (.ref xa)])) rfl (by rw [hml]; rfl) (Steps.refl _) (argsL := [(.int pi)]) (rest := []) (lenOf pd_54 rfl) rfl (by show 2 * 0 + _ ≤ _; exact Nat.le_of_eq rfl) (hb hby d1_10) (fun _ _ => ⟨rfl, e0, (by decide : 0 + 0 ≤ _), (by decide : 0 + 0 ≤ _)⟩)
    dsimp only [Pt.U, Pt.locs, Pt.cells, Pt.slots] at X2 l2 y2 z2 st2 hQ2
    subst l2 y2 z2
    obtain ⟨⟨rc, rfl, hrc⟩, Nq2, e2⟩ := hQ2
    have N2 := Fr.app N0 Nq2
    refine Goes.thru (T' := T2.setTop (mkF m 13 #[.val (.ref xa), .val (.int pi), .val (.int pm), .val (.long qd), .second] [(.int rc)])) st2 ?_
    obtain ⟨fs, hrL, hrun, hended, hW, hsame⟩ := X2.leave (v := some (.int (nar .char rc))) (fun h => by rw [Bd.returns] at h; cases h)
    subst hQf
    refine ⟨_, _, retN X2 hx (t := .char) Bd.returns (by simp) (hb hby d1_13) hrL, hrun, hended, _, _, rfl, ?_, ⟨_, rfl⟩, hW, hsame.mono (by decide) (by decide)⟩
    show Q_rmPk  h0 n0 (some (.int (nar .char rc))) T2.heap _
    rw [e2]
    exact ⟨⟨_, rfl, own_narr hrc⟩, N2, rfl⟩
  · skip
    refine Goes.to (T' := s₁.setTop (mkF m 14 #[.val (.ref xa), .val (.int pi), .val (.int pm), .val (.long qd), .second] [])) (fun t k => XS.ifYes X0.here hx rfl (pc0 := 5) (pc' := 14) rfl (hb hby d1_5) rfl ((if0 _ _).trans (feq hc5_1).2) (by decide) (by decide) k) ?_
    refine Goes.to (T' := s₁.setTop (mkF m 15 #[.val (.ref xa), .val (.int pi), .val (.int pm), .val (.long qd), .second] [(.long qd)])) (fun t k => XS.lloadN X0.here hx rfl (hb hby d1_14) rfl k) ?_
    refine Goes.to (T' := s₁.setTop (mkF m 17 #[.val (.ref xa), .val (.int pi), .val (.int pm), .val (.long qd), .second] [(.int (8 : Int32)), (.long qd)])) (fun t k => XS.bipush X0.here hx rfl (hb hby d1_15) k) ?_
    refine Goes.to (T' := s₁.setTop (mkF m 18 #[.val (.ref xa), .val (.int pi), .val (.int pm), .val (.long qd), .second] [(.int pi), (.int (8 : Int32)), (.long qd)])) (fun t k => XS.iloadN X0.here hx rfl (hb hby d1_17) rfl k) ?_
    refine Goes.to (T' := s₁.setTop (mkF m 19 #[.val (.ref xa), .val (.int pi), .val (.int pm), .val (.long qd), .second] [(.int ((8 : Int32) * pi)), (.long qd)])) (fun t k => XS.imul X0.here hx rfl (hb hby d1_18) rfl k) ?_
    refine Goes.to (T' := s₁.setTop (mkF m 20 #[.val (.ref xa), .val (.int pi), .val (.int pm), .val (.long qd), .second] [(.long ((qd.toUInt64 >>> (((8 : Int32) * pi) &&& 0x3f).toInt64.toUInt64).toInt64))])) (fun t k => XS.lushr X0.here hx rfl (hb hby d1_19) rfl k) ?_
    refine Goes.to (T' := s₁.setTop (mkF m 23 #[.val (.ref xa), .val (.int pi), .val (.int pm), .val (.long qd), .second] [(.long (255 : Int64)), (.long ((qd.toUInt64 >>> (((8 : Int32) * pi) &&& 0x3f).toInt64.toUInt64).toInt64))])) (X0.ldc2Long hx hown (mvT hZ (wi hw 38 rfl)) (g := (mkF m 20 #[.val (.ref xa), .val (.int pi), .val (.int pm), .val (.long qd), .second] [(.long ((qd.toUInt64 >>> (((8 : Int32) * pi) &&& 0x3f).toInt64.toUInt64).toInt64))])) rfl (hb hby d1_20)) ?_
    refine Goes.to (T' := s₁.setTop (mkF m 24 #[.val (.ref xa), .val (.int pi), .val (.int pm), .val (.long qd), .second] [(.long (((qd.toUInt64 >>> (((8 : Int32) * pi) &&& 0x3f).toInt64.toUInt64).toInt64) &&& (255 : Int64)))])) (fun t k => XS.land X0.here hx rfl (hb hby d1_23) rfl k) ?_
    refine Goes.to (T' := s₁.setTop (mkF m 25 #[.val (.ref xa), .val (.int pi), .val (.int pm), .val (.long qd), .second] [(.int ((((qd.toUInt64 >>> (((8 : Int32) * pi) &&& 0x3f).toInt64.toUInt64).toInt64) &&& (255 : Int64)).toInt32))])) (fun t k => XS.l2i X0.here hx rfl (hb hby d1_24) rfl k) ?_
    refine Goes.to (T' := s₁.setTop (mkF m 26 #[.val (.ref xa), .val (.int pi), .val (.int pm), .val (.long qd), .second] [(.int (((((qd.toUInt64 >>> (((8 : Int32) * pi) &&& 0x3f).toInt64.toUInt64).toInt64) &&& (255 : Int64)).toInt32).toUInt32.toUInt16.toUInt32.toInt32))])) (fun t k => XS.i2c X0.here hx rfl (hb hby d1_25) rfl k) ?_
    obtain ⟨fs, hrL, hrun, hended, hW, hsame⟩ := X0.leave (v := some (.int (nar .char (((((qd.toUInt64 >>> (((8 : Int32) * pi) &&& 0x3f).toInt64.toUInt64).toInt64) &&& (255 : Int64)).toInt32).toUInt32.toUInt16.toUInt32.toInt32)))) (fun h => by rw [Bd.returns] at h; cases h)
    subst hQf
    refine ⟨_, _, retN X0 hx (t := .char) Bd.returns (by simp) (hb hby d1_26) hrL, hrun, hended, _, _, rfl, ?_, ⟨_, rfl⟩, hW, hsame.mono (by decide) (by decide)⟩
    show Q_rmPk  h0 n0 (some (.int (nar .char (((((qd.toUInt64 >>> (((8 : Int32) * pi) &&& 0x3f).toInt64.toUInt64).toInt64) &&& (255 : Int64)).toInt32).toUInt32.toUInt16.toUInt32.toInt32)))) s₁.heap _
    rw [e0]
    exact ⟨⟨_, rfl, own_narr (own_l2c _)⟩, N0, rfl⟩
theorem d16_0 : decode jdk_43_method_13_code 0 = .ok (.aload_n 0, 1) := by decide +kernel
theorem d16_1 : decode jdk_43_method_13_code 1 = .ok (.arraylength, 1) := by decide +kernel
theorem d16_2 : decode jdk_43_method_13_code 2 = .ok (.aload_n 1, 1) := by decide +kernel
theorem d16_3 : decode jdk_43_method_13_code 3 = .ok (.arraylength, 1) := by decide +kernel
theorem d16_4 : decode jdk_43_method_13_code 4 = .ok (.if_icmp .ne 30, 3) := by decide +kernel
theorem d16_7 : decode jdk_43_method_13_code 7 = .ok (.iconst 0, 1) := by decide +kernel
theorem d16_8 : decode jdk_43_method_13_code 8 = .ok (.istore_n 2, 1) := by decide +kernel
theorem d16_9 : decode jdk_43_method_13_code 9 = .ok (.iload_n 2, 1) := by decide +kernel
theorem d16_10 : decode jdk_43_method_13_code 10 = .ok (.aload_n 0, 1) := by decide +kernel
theorem d16_11 : decode jdk_43_method_13_code 11 = .ok (.arraylength, 1) := by decide +kernel
theorem d16_12 : decode jdk_43_method_13_code 12 = .ok (.if_icmp .ge 20, 3) := by decide +kernel
theorem d16_15 : decode jdk_43_method_13_code 15 = .ok (.aload_n 0, 1) := by decide +kernel
theorem d16_16 : decode jdk_43_method_13_code 16 = .ok (.iload_n 2, 1) := by decide +kernel
theorem d16_17 : decode jdk_43_method_13_code 17 = .ok (.baload, 1) := by decide +kernel
theorem d16_18 : decode jdk_43_method_13_code 18 = .ok (.aload_n 1, 1) := by decide +kernel
theorem d16_19 : decode jdk_43_method_13_code 19 = .ok (.iload_n 2, 1) := by decide +kernel
theorem d16_20 : decode jdk_43_method_13_code 20 = .ok (.baload, 1) := by decide +kernel
theorem d16_21 : decode jdk_43_method_13_code 21 = .ok (.if_icmp .eq 5, 3) := by decide +kernel
theorem d16_24 : decode jdk_43_method_13_code 24 = .ok (.iconst 0, 1) := by decide +kernel
theorem d16_25 : decode jdk_43_method_13_code 25 = .ok (.ireturn, 1) := by decide +kernel
theorem d16_26 : decode jdk_43_method_13_code 26 = .ok (.iinc 2 1, 3) := by decide +kernel
theorem d16_29 : decode jdk_43_method_13_code 29 = .ok (.goto (-20), 3) := by decide +kernel
theorem d16_32 : decode jdk_43_method_13_code 32 = .ok (.iconst 1, 1) := by decide +kernel
theorem d16_33 : decode jdk_43_method_13_code 33 = .ok (.ireturn, 1) := by decide +kernel
theorem pn_16 : plainName "java/lang/StringLatin1" = true := by first | (simp [plainName, overriddenIn]; done) | decide +kernel
theorem ef_rmL5 (m : MethodId) (x0 : Addr) (x1 : Addr) : entryFrame m #[(.ref x0), (.ref x1)] 3 = mkF m 0 #[.val (.ref x0), .val (.ref x1), .unset] [] := by first | (simp [entryFrame, mkF, argsToLocals, Value.category]; done) | rfl
def Q_rmL5 (r : Int32) (h0 : Heap) (n0 : Nat) (v : Option Value) (h : Heap) (L : List Loc) : Prop := v = some (.int r) ∧ Fr n0 L ∧ h = h0
theorem rmL5 (hw : HW a0 Z) (ya : Addr) (yb : Addr) (ka : ClassId) (kb : ClassId) (w0_ : Int32) (w1_ : Int32) (w2_ : Int32) (w3_ : Int32) (w4_ : Int32) (y0_ : Int32) (y1_ : Int32) (y2_ : Int32) (y3_ : Int32) (y4_ : Int32) (r : Int32) (h0 : Heap) (n0 : Nat) (O0 : Old Z n0 h0) (NF : Nar Z w6 w7 w8 w9 w3 w0 w4 w1 w5 w2 k_w6 k_w0 k_w1 k_w2 z_cs fm) (V_ya : Arv Z h0 ya ka .byte (5 : Int32) [(.int w0_), (.int w1_), (.int w2_), (.int w3_), (.int w4_)] (.int (0 : Int32))) (V_yb : Arv Z h0 yb kb .byte (5 : Int32) [(.int y0_), (.int y1_), (.int y2_), (.int y3_), (.int y4_)] (.int (0 : Int32))) (hr : r = if w0_ = y0_ ∧ w1_ = y1_ ∧ w2_ = y2_ ∧ w3_ = y3_ ∧ w4_ = y4_ then 1 else 0) :
    Con l Z (⟨"java/lang/StringLatin1", "equals", "([B[B)Z"⟩ : MethodName) jdk_43_method_13_code 3 (some .boolean) ws ({ frames := 0, cells := 0, slots := 0, locals := 0 } : Room) #[(.ref ya), (.ref yb)] h0 (Q_rmL5 r h0 n0) := by
  refine Con.body (own := "java/lang/StringLatin1") rfl (plainFor_of_name pn_16) (fun m => ef_rmL5 m _ _) ?_
  intro p e s m below meth c s₁ Bd hx hby hml hZ hown X0 e0 Qf hQf
  have N0 := Fr.nil n0
  obtain ⟨S_w6, E_w6, S_w7, E_w7, S_w8, E_w8, S_w9, E_w9, F_listName_w7, E_w3, F_value_w3, F_listName_w8, E_w4, F_value_w4, F_listName_w9, E_w5, F_value_w5, F_coder_w3, F_coder_w4, F_coder_w5, V_w6, V_w0, V_w1, V_w2, S_cs, nz_cs, S_fm, rf⟩ := id NF
  refine Goes.to (T' := s₁.setTop (mkF m 1 #[.val (.ref ya), .val (.ref yb), .unset] [(.ref ya)])) (fun t k => XS.aloadN X0.here hx rfl (hb hby d16_0) rfl rfl k) ?_
  obtain ⟨cl1, Ar1, q1, S1, Ng1, H1, G1⟩ := id V_ya
  refine Goes.to (T' := s₁.setTop (mkF m 2 #[.val (.ref ya), .val (.ref yb), .unset] [(.int (5 : Int32))])) (fun t k => X0.arraylength hx (by rw [e0]; exact Ar1.1) (State.isArrayOf_alike hZ.alike Ar1.2.1) (g := (mkF m 1 #[.val (.ref ya), .val (.ref yb), .unset] [(.ref ya)])) rfl rfl (hb hby d16_1) _ (by rw [len_of S1 Ng1]; exact k)) ?_
  refine Goes.to (T' := s₁.setTop (mkF m 3 #[.val (.ref ya), .val (.ref yb), .unset] [(.ref yb), (.int (5 : Int32))])) (fun t k => XS.aloadN X0.here hx rfl (hb hby d16_2) rfl rfl k) ?_
  obtain ⟨cl2, Ar2, q2, S2, Ng2, H2, G2⟩ := id V_yb
  refine Goes.to (T' := s₁.setTop (mkF m 4 #[.val (.ref ya), .val (.ref yb), .unset] [(.int (5 : Int32)), (.int (5 : Int32))])) (fun t k => X0.arraylength hx (by rw [e0]; exact Ar2.1) (State.isArrayOf_alike hZ.alike Ar2.2.1) (g := (mkF m 3 #[.val (.ref ya), .val (.ref yb), .unset] [(.ref yb), (.int (5 : Int32))])) rfl rfl (hb hby d16_3) _ (by rw [len_of S2 Ng2]; exact k)) ?_
  refine Goes.to (T' := s₁.setTop (mkF m 7 #[.val (.ref ya), .val (.ref yb), .unset] [])) (fun t k => XS.icmpNo X0.here hx rfl (hb hby d16_4) rfl (teq (by decide)).2 k) ?_
  refine Goes.to (T' := s₁.setTop (mkF m 8 #[.val (.ref ya), .val (.ref yb), .unset] [(.int (0 : Int32))])) (fun t k => XS.iconst X0.here hx rfl (hb hby d16_7) k) ?_
  refine Goes.to (T' := s₁.setTop (mkF m 9 #[.val (.ref ya), .val (.ref yb), .val (.int (0 : Int32))] [])) (fun t k => XS.istoreN X0.here hx rfl (hb hby d16_8) rfl (l' := #[.val (.ref ya), .val (.ref yb), .val (.int (0 : Int32))]) rfl k) ?_
  refine Goes.to (T' := s₁.setTop (mkF m 10 #[.val (.ref ya), .val (.ref yb), .val (.int (0 : Int32))] [(.int (0 : Int32))])) (fun t k => XS.iloadN X0.here hx rfl (hb hby d16_9) rfl k) ?_
  refine Goes.to (T' := s₁.setTop (mkF m 11 #[.val (.ref ya), .val (.ref yb), .val (.int (0 : Int32))] [(.ref ya), (.int (0 : Int32))])) (fun t k => XS.aloadN X0.here hx rfl (hb hby d16_10) rfl rfl k) ?_
  obtain ⟨cl3, Ar3, q3, S3, Ng3, H3, G3⟩ := id V_ya
  refine Goes.to (T' := s₁.setTop (mkF m 12 #[.val (.ref ya), .val (.ref yb), .val (.int (0 : Int32))] [(.int (5 : Int32)), (.int (0 : Int32))])) (fun t k => X0.arraylength hx (by rw [e0]; exact Ar3.1) (State.isArrayOf_alike hZ.alike Ar3.2.1) (g := (mkF m 11 #[.val (.ref ya), .val (.ref yb), .val (.int (0 : Int32))] [(.ref ya), (.int (0 : Int32))])) rfl rfl (hb hby d16_11) _ (by rw [len_of S3 Ng3]; exact k)) ?_
  refine Goes.to (T' := s₁.setTop (mkF m 15 #[.val (.ref ya), .val (.ref yb), .val (.int (0 : Int32))] [])) (fun t k => XS.icmpNo X0.here hx rfl (hb hby d16_12) rfl (tlt (by decide)).2.1 k) ?_
  refine Goes.to (T' := s₁.setTop (mkF m 16 #[.val (.ref ya), .val (.ref yb), .val (.int (0 : Int32))] [(.ref ya)])) (fun t k => XS.aloadN X0.here hx rfl (hb hby d16_15) rfl rfl k) ?_
  refine Goes.to (T' := s₁.setTop (mkF m 17 #[.val (.ref ya), .val (.ref yb), .val (.int (0 : Int32))] [(.int (0 : Int32)), (.ref ya)])) (fun t k => XS.iloadN X0.here hx rfl (hb hby d16_16) rfl k) ?_
  obtain ⟨cl4, Ar4, q4, S4, Ng4, H4, G4⟩ := id V_ya
  have hin4 : ¬ ((0 : Int32) < 0 ∨ cl4.slots.size ≤ ((0 : Int32)).toNatClampNeg) := inb_of S4 ⟨by decide, by decide⟩
  refine Goes.to (T' := s₁.setTop (mkF m 18 #[.val (.ref ya), .val (.ref yb), .val (.int (0 : Int32))] [(.int w0_)])) (X0.baloadBytes hx (j := (0 : Int32)) (v := (.int w0_)) (by rw [e0]; exact Ar4.1) (State.isArrayOf_alike hZ.alike Ar4.2.1) Ar4.2.2 hin4 (H4.at hin4 rfl) (g := (mkF m 17 #[.val (.ref ya), .val (.ref yb), .val (.int (0 : Int32))] [(.int (0 : Int32)), (.ref ya)])) rfl rfl (hb hby d16_17)) ?_
  refine Goes.to (T' := s₁.setTop (mkF m 19 #[.val (.ref ya), .val (.ref yb), .val (.int (0 : Int32))] [(.ref yb), (.int w0_)])) (fun t k => XS.aloadN X0.here hx rfl (hb hby d16_18) rfl rfl k) ?_
  refine Goes.to (T' := s₁.setTop (mkF m 20 #[.val (.ref ya), .val (.ref yb), .val (.int (0 : Int32))] [(.int (0 : Int32)), (.ref yb), (.int w0_)])) (fun t k => XS.iloadN X0.here hx rfl (hb hby d16_19) rfl k) ?_
  obtain ⟨cl5, Ar5, q5, S5, Ng5, H5, G5⟩ := id V_yb
  have hin5 : ¬ ((0 : Int32) < 0 ∨ cl5.slots.size ≤ ((0 : Int32)).toNatClampNeg) := inb_of S5 ⟨by decide, by decide⟩
  refine Goes.to (T' := s₁.setTop (mkF m 21 #[.val (.ref ya), .val (.ref yb), .val (.int (0 : Int32))] [(.int y0_), (.int w0_)])) (X0.baloadBytes hx (j := (0 : Int32)) (v := (.int y0_)) (by rw [e0]; exact Ar5.1) (State.isArrayOf_alike hZ.alike Ar5.2.1) Ar5.2.2 hin5 (H5.at hin5 rfl) (g := (mkF m 20 #[.val (.ref ya), .val (.ref yb), .val (.int (0 : Int32))] [(.int (0 : Int32)), (.ref yb), (.int w0_)])) rfl rfl (hb hby d16_20)) ?_
  rcases Decidable.em (w0_ = y0_) with hc21_6 | hc21_6
  · skip
    refine Goes.to (T' := s₁.setTop (mkF m 26 #[.val (.ref ya), .val (.ref yb), .val (.int (0 : Int32))] [])) (fun t k => XS.icmpYes X0.here hx rfl (pc0 := 21) (pc' := 26) rfl (hb hby d16_21) rfl (teq hc21_6).1 (by decide) (by decide) k) ?_
    refine Goes.to (T' := s₁.setTop (mkF m 29 #[.val (.ref ya), .val (.ref yb), .val (.int ((0 : Int32) + (1 : Int32)))] [])) (fun t k => XS.iinc X0.here hx rfl (hb hby d16_26) rfl (l' := #[.val (.ref ya), .val (.ref yb), .val (.int ((0 : Int32) + (1 : Int32)))]) rfl k) ?_
    rw [show ((0 : Int32) + (1 : Int32)) = (1 : Int32) from by decide +kernel]
    refine Goes.to (T' := s₁.setTop (mkF m 9 #[.val (.ref ya), .val (.ref yb), .val (.int (1 : Int32))] [])) (fun t k => XS.goto X0.here hx rfl (pc0 := 29) (pc' := 9) rfl (hb hby d16_29) (by decide) (by decide) k) ?_
    refine Goes.to (T' := s₁.setTop (mkF m 10 #[.val (.ref ya), .val (.ref yb), .val (.int (1 : Int32))] [(.int (1 : Int32))])) (fun t k => XS.iloadN X0.here hx rfl (hb hby d16_9) rfl k) ?_
    refine Goes.to (T' := s₁.setTop (mkF m 11 #[.val (.ref ya), .val (.ref yb), .val (.int (1 : Int32))] [(.ref ya), (.int (1 : Int32))])) (fun t k => XS.aloadN X0.here hx rfl (hb hby d16_10) rfl rfl k) ?_
    obtain ⟨cl7, Ar7, q7, S7, Ng7, H7, G7⟩ := id V_ya
    refine Goes.to (T' := s₁.setTop (mkF m 12 #[.val (.ref ya), .val (.ref yb), .val (.int (1 : Int32))] [(.int (5 : Int32)), (.int (1 : Int32))])) (fun t k => X0.arraylength hx (by rw [e0]; exact Ar7.1) (State.isArrayOf_alike hZ.alike Ar7.2.1) (g := (mkF m 11 #[.val (.ref ya), .val (.ref yb), .val (.int (1 : Int32))] [(.ref ya), (.int (1 : Int32))])) rfl rfl (hb hby d16_11) _ (by rw [len_of S7 Ng7]; exact k)) ?_
    refine Goes.to (T' := s₁.setTop (mkF m 15 #[.val (.ref ya), .val (.ref yb), .val (.int (1 : Int32))] [])) (fun t k => XS.icmpNo X0.here hx rfl (hb hby d16_12) rfl (tlt (by decide)).2.1 k) ?_
    refine Goes.to (T' := s₁.setTop (mkF m 16 #[.val (.ref ya), .val (.ref yb), .val (.int (1 : Int32))] [(.ref ya)])) (fun t k => XS.aloadN X0.here hx rfl (hb hby d16_15) rfl rfl k) ?_
    refine Goes.to (T' := s₁.setTop (mkF m 17 #[.val (.ref ya), .val (.ref yb), .val (.int (1 : Int32))] [(.int (1 : Int32)), (.ref ya)])) (fun t k => XS.iloadN X0.here hx rfl (hb hby d16_16) rfl k) ?_
    obtain ⟨cl8, Ar8, q8, S8, Ng8, H8, G8⟩ := id V_ya
    have hin8 : ¬ ((1 : Int32) < 0 ∨ cl8.slots.size ≤ ((1 : Int32)).toNatClampNeg) := inb_of S8 ⟨by decide, by decide⟩
    refine Goes.to (T' := s₁.setTop (mkF m 18 #[.val (.ref ya), .val (.ref yb), .val (.int (1 : Int32))] [(.int w1_)])) (X0.baloadBytes hx (j := (1 : Int32)) (v := (.int w1_)) (by rw [e0]; exact Ar8.1) (State.isArrayOf_alike hZ.alike Ar8.2.1) Ar8.2.2 hin8 (H8.at hin8 rfl) (g := (mkF m 17 #[.val (.ref ya), .val (.ref yb), .val (.int (1 : Int32))] [(.int (1 : Int32)), (.ref ya)])) rfl rfl (hb hby d16_17)) ?_
    refine Goes.to (T' := s₁.setTop (mkF m 19 #[.val (.ref ya), .val (.ref yb), .val (.int (1 : Int32))] [(.ref yb), (.int w1_)])) (fun t k => XS.aloadN X0.here hx rfl (hb hby d16_18) rfl rfl k) ?_
    refine Goes.to (T' := s₁.setTop (mkF m 20 #[.val (.ref ya), .val (.ref yb), .val (.int (1 : Int32))] [(.int (1 : Int32)), (.ref yb), (.int w1_)])) (fun t k => XS.iloadN X0.here hx rfl (hb hby d16_19) rfl k) ?_
    obtain ⟨cl9, Ar9, q9, S9, Ng9, H9, G9⟩ := id V_yb
    have hin9 : ¬ ((1 : Int32) < 0 ∨ cl9.slots.size ≤ ((1 : Int32)).toNatClampNeg) := inb_of S9 ⟨by decide, by decide⟩
    refine Goes.to (T' := s₁.setTop (mkF m 21 #[.val (.ref ya), .val (.ref yb), .val (.int (1 : Int32))] [(.int y1_), (.int w1_)])) (X0.baloadBytes hx (j := (1 : Int32)) (v := (.int y1_)) (by rw [e0]; exact Ar9.1) (State.isArrayOf_alike hZ.alike Ar9.2.1) Ar9.2.2 hin9 (H9.at hin9 rfl) (g := (mkF m 20 #[.val (.ref ya), .val (.ref yb), .val (.int (1 : Int32))] [(.int (1 : Int32)), (.ref yb), (.int w1_)])) rfl rfl (hb hby d16_20)) ?_
    rcases Decidable.em (w1_ = y1_) with hc21_10 | hc21_10
    · skip
      refine Goes.to (T' := s₁.setTop (mkF m 26 #[.val (.ref ya), .val (.ref yb), .val (.int (1 : Int32))] [])) (fun t k => XS.icmpYes X0.here hx rfl (pc0 := 21) (pc' := 26) rfl (hb hby d16_21) rfl (teq hc21_10).1 (by decide) (by decide) k) ?_
      refine Goes.to (T' := s₁.setTop (mkF m 29 #[.val (.ref ya), .val (.ref yb), .val (.int ((1 : Int32) + (1 : Int32)))] [])) (fun t k => XS.iinc X0.here hx rfl (hb hby d16_26) rfl (l' := #[.val (.ref ya), .val (.ref yb), .val (.int ((1 : Int32) + (1 : Int32)))]) rfl k) ?_
      rw [show ((1 : Int32) + (1 : Int32)) = (2 : Int32) from by decide +kernel]
      refine Goes.to (T' := s₁.setTop (mkF m 9 #[.val (.ref ya), .val (.ref yb), .val (.int (2 : Int32))] [])) (fun t k => XS.goto X0.here hx rfl (pc0 := 29) (pc' := 9) rfl (hb hby d16_29) (by decide) (by decide) k) ?_
      refine Goes.to (T' := s₁.setTop (mkF m 10 #[.val (.ref ya), .val (.ref yb), .val (.int (2 : Int32))] [(.int (2 : Int32))])) (fun t k => XS.iloadN X0.here hx rfl (hb hby d16_9) rfl k) ?_
      refine Goes.to (T' := s₁.setTop (mkF m 11 #[.val (.ref ya), .val (.ref yb), .val (.int (2 : Int32))] [(.ref ya), (.int (2 : Int32))])) (fun t k => XS.aloadN X0.here hx rfl (hb hby d16_10) rfl rfl k) ?_
      obtain ⟨cl11, Ar11, q11, S11, Ng11, H11, G11⟩ := id V_ya
      refine Goes.to (T' := s₁.setTop (mkF m 12 #[.val (.ref ya), .val (.ref yb), .val (.int (2 : Int32))] [(.int (5 : Int32)), (.int (2 : Int32))])) (fun t k => X0.arraylength hx (by rw [e0]; exact Ar11.1) (State.isArrayOf_alike hZ.alike Ar11.2.1) (g := (mkF m 11 #[.val (.ref ya), .val (.ref yb), .val (.int (2 : Int32))] [(.ref ya), (.int (2 : Int32))])) rfl rfl (hb hby d16_11) _ (by rw [len_of S11 Ng11]; exact k)) ?_
      refine Goes.to (T' := s₁.setTop (mkF m 15 #[.val (.ref ya), .val (.ref yb), .val (.int (2 : Int32))] [])) (fun t k => XS.icmpNo X0.here hx rfl (hb hby d16_12) rfl (tlt (by decide)).2.1 k) ?_
      refine Goes.to (T' := s₁.setTop (mkF m 16 #[.val (.ref ya), .val (.ref yb), .val (.int (2 : Int32))] [(.ref ya)])) (fun t k => XS.aloadN X0.here hx rfl (hb hby d16_15) rfl rfl k) ?_
      refine Goes.to (T' := s₁.setTop (mkF m 17 #[.val (.ref ya), .val (.ref yb), .val (.int (2 : Int32))] [(.int (2 : Int32)), (.ref ya)])) (fun t k => XS.iloadN X0.here hx rfl (hb hby d16_16) rfl k) ?_
      obtain ⟨cl12, Ar12, q12, S12, Ng12, H12, G12⟩ := id V_ya
      have hin12 : ¬ ((2 : Int32) < 0 ∨ cl12.slots.size ≤ ((2 : Int32)).toNatClampNeg) := inb_of S12 ⟨by decide, by decide⟩
      refine Goes.to (T' := s₁.setTop (mkF m 18 #[.val (.ref ya), .val (.ref yb), .val (.int (2 : Int32))] [(.int w2_)])) (X0.baloadBytes hx (j := (2 : Int32)) (v := (.int w2_)) (by rw [e0]; exact Ar12.1) (State.isArrayOf_alike hZ.alike Ar12.2.1) Ar12.2.2 hin12 (H12.at hin12 rfl) (g := (mkF m 17 #[.val (.ref ya), .val (.ref yb), .val (.int (2 : Int32))] [(.int (2 : Int32)), (.ref ya)])) rfl rfl (hb hby d16_17)) ?_
      refine Goes.to (T' := s₁.setTop (mkF m 19 #[.val (.ref ya), .val (.ref yb), .val (.int (2 : Int32))] [(.ref yb), (.int w2_)])) (fun t k => XS.aloadN X0.here hx rfl (hb hby d16_18) rfl rfl k) ?_
      refine Goes.to (T' := s₁.setTop (mkF m 20 #[.val (.ref ya), .val (.ref yb), .val (.int (2 : Int32))] [(.int (2 : Int32)), (.ref yb), (.int w2_)])) (fun t k => XS.iloadN X0.here hx rfl (hb hby d16_19) rfl k) ?_
      obtain ⟨cl13, Ar13, q13, S13, Ng13, H13, G13⟩ := id V_yb
      have hin13 : ¬ ((2 : Int32) < 0 ∨ cl13.slots.size ≤ ((2 : Int32)).toNatClampNeg) := inb_of S13 ⟨by decide, by decide⟩
      refine Goes.to (T' := s₁.setTop (mkF m 21 #[.val (.ref ya), .val (.ref yb), .val (.int (2 : Int32))] [(.int y2_), (.int w2_)])) (X0.baloadBytes hx (j := (2 : Int32)) (v := (.int y2_)) (by rw [e0]; exact Ar13.1) (State.isArrayOf_alike hZ.alike Ar13.2.1) Ar13.2.2 hin13 (H13.at hin13 rfl) (g := (mkF m 20 #[.val (.ref ya), .val (.ref yb), .val (.int (2 : Int32))] [(.int (2 : Int32)), (.ref yb), (.int w2_)])) rfl rfl (hb hby d16_20)) ?_
      rcases Decidable.em (w2_ = y2_) with hc21_14 | hc21_14
      · skip
        refine Goes.to (T' := s₁.setTop (mkF m 26 #[.val (.ref ya), .val (.ref yb), .val (.int (2 : Int32))] [])) (fun t k => XS.icmpYes X0.here hx rfl (pc0 := 21) (pc' := 26) rfl (hb hby d16_21) rfl (teq hc21_14).1 (by decide) (by decide) k) ?_
        refine Goes.to (T' := s₁.setTop (mkF m 29 #[.val (.ref ya), .val (.ref yb), .val (.int ((2 : Int32) + (1 : Int32)))] [])) (fun t k => XS.iinc X0.here hx rfl (hb hby d16_26) rfl (l' := #[.val (.ref ya), .val (.ref yb), .val (.int ((2 : Int32) + (1 : Int32)))]) rfl k) ?_
        rw [show ((2 : Int32) + (1 : Int32)) = (3 : Int32) from by decide +kernel]
        refine Goes.to (T' := s₁.setTop (mkF m 9 #[.val (.ref ya), .val (.ref yb), .val (.int (3 : Int32))] [])) (fun t k => XS.goto X0.here hx rfl (pc0 := 29) (pc' := 9) rfl (hb hby d16_29) (by decide) (by decide) k) ?_
        refine Goes.to (T' := s₁.setTop (mkF m 10 #[.val (.ref ya), .val (.ref yb), .val (.int (3 : Int32))] [(.int (3 : Int32))])) (fun t k => XS.iloadN X0.here hx rfl (hb hby d16_9) rfl k) ?_
        refine Goes.to (T' := s₁.setTop (mkF m 11 #[.val (.ref ya), .val (.ref yb), .val (.int (3 : Int32))] [(.ref ya), (.int (3 : Int32))])) (fun t k => XS.aloadN X0.here hx rfl (hb hby d16_10) rfl rfl k) ?_
        obtain ⟨cl15, Ar15, q15, S15, Ng15, H15, G15⟩ := id V_ya
        refine Goes.to (T' := s₁.setTop (mkF m 12 #[.val (.ref ya), .val (.ref yb), .val (.int (3 : Int32))] [(.int (5 : Int32)), (.int (3 : Int32))])) (fun t k => X0.arraylength hx (by rw [e0]; exact Ar15.1) (State.isArrayOf_alike hZ.alike Ar15.2.1) (g := (mkF m 11 #[.val (.ref ya), .val (.ref yb), .val (.int (3 : Int32))] [(.ref ya), (.int (3 : Int32))])) rfl rfl (hb hby d16_11) _ (by rw [len_of S15 Ng15]; exact k)) ?_
        refine Goes.to (T' := s₁.setTop (mkF m 15 #[.val (.ref ya), .val (.ref yb), .val (.int (3 : Int32))] [])) (fun t k => XS.icmpNo X0.here hx rfl (hb hby d16_12) rfl (tlt (by decide)).2.1 k) ?_
        refine Goes.to (T' := s₁.setTop (mkF m 16 #[.val (.ref ya), .val (.ref yb), .val (.int (3 : Int32))] [(.ref ya)])) (fun t k => XS.aloadN X0.here hx rfl (hb hby d16_15) rfl rfl k) ?_
        refine Goes.to (T' := s₁.setTop (mkF m 17 #[.val (.ref ya), .val (.ref yb), .val (.int (3 : Int32))] [(.int (3 : Int32)), (.ref ya)])) (fun t k => XS.iloadN X0.here hx rfl (hb hby d16_16) rfl k) ?_
        obtain ⟨cl16, Ar16, q16, S16, Ng16, H16, G16⟩ := id V_ya
        have hin16 : ¬ ((3 : Int32) < 0 ∨ cl16.slots.size ≤ ((3 : Int32)).toNatClampNeg) := inb_of S16 ⟨by decide, by decide⟩
        refine Goes.to (T' := s₁.setTop (mkF m 18 #[.val (.ref ya), .val (.ref yb), .val (.int (3 : Int32))] [(.int w3_)])) (X0.baloadBytes hx (j := (3 : Int32)) (v := (.int w3_)) (by rw [e0]; exact Ar16.1) (State.isArrayOf_alike hZ.alike Ar16.2.1) Ar16.2.2 hin16 (H16.at hin16 rfl) (g := (mkF m 17 #[.val (.ref ya), .val (.ref yb), .val (.int (3 : Int32))] [(.int (3 : Int32)), (.ref ya)])) rfl rfl (hb hby d16_17)) ?_
        refine Goes.to (T' := s₁.setTop (mkF m 19 #[.val (.ref ya), .val (.ref yb), .val (.int (3 : Int32))] [(.ref yb), (.int w3_)])) (fun t k => XS.aloadN X0.here hx rfl (hb hby d16_18) rfl rfl k) ?_
        refine Goes.to (T' := s₁.setTop (mkF m 20 #[.val (.ref ya), .val (.ref yb), .val (.int (3 : Int32))] [(.int (3 : Int32)), (.ref yb), (.int w3_)])) (fun t k => XS.iloadN X0.here hx rfl (hb hby d16_19) rfl k) ?_
        obtain ⟨cl17, Ar17, q17, S17, Ng17, H17, G17⟩ := id V_yb
        have hin17 : ¬ ((3 : Int32) < 0 ∨ cl17.slots.size ≤ ((3 : Int32)).toNatClampNeg) := inb_of S17 ⟨by decide, by decide⟩
        refine Goes.to (T' := s₁.setTop (mkF m 21 #[.val (.ref ya), .val (.ref yb), .val (.int (3 : Int32))] [(.int y3_), (.int w3_)])) (X0.baloadBytes hx (j := (3 : Int32)) (v := (.int y3_)) (by rw [e0]; exact Ar17.1) (State.isArrayOf_alike hZ.alike Ar17.2.1) Ar17.2.2 hin17 (H17.at hin17 rfl) (g := (mkF m 20 #[.val (.ref ya), .val (.ref yb), .val (.int (3 : Int32))] [(.int (3 : Int32)), (.ref yb), (.int w3_)])) rfl rfl (hb hby d16_20)) ?_
        rcases Decidable.em (w3_ = y3_) with hc21_18 | hc21_18
        · skip
          refine Goes.to (T' := s₁.setTop (mkF m 26 #[.val (.ref ya), .val (.ref yb), .val (.int (3 : Int32))] [])) (fun t k => XS.icmpYes X0.here hx rfl (pc0 := 21) (pc' := 26) rfl (hb hby d16_21) rfl (teq hc21_18).1 (by decide) (by decide) k) ?_
          refine Goes.to (T' := s₁.setTop (mkF m 29 #[.val (.ref ya), .val (.ref yb), .val (.int ((3 : Int32) + (1 : Int32)))] [])) (fun t k => XS.iinc X0.here hx rfl (hb hby d16_26) rfl (l' := #[.val (.ref ya), .val (.ref yb), .val (.int ((3 : Int32) + (1 : Int32)))]) rfl k) ?_
          rw [show ((3 : Int32) + (1 : Int32)) = (4 : Int32) from by decide +kernel]
          refine Goes.to (T' := s₁.setTop (mkF m 9 #[.val (.ref ya), .val (.ref yb), .val (.int (4 : Int32))] [])) (fun t k => XS.goto X0.here hx rfl (pc0 := 29) (pc' := 9) rfl (hb hby d16_29) (by decide) (by decide) k) ?_
          refine Goes.to (T' := s₁.setTop (mkF m 10 #[.val (.ref ya), .val (.ref yb), .val (.int (4 : Int32))] [(.int (4 : Int32))])) (fun t k => XS.iloadN X0.here hx rfl (hb hby d16_9) rfl k) ?_
          refine Goes.to (T' := s₁.setTop (mkF m 11 #[.val (.ref ya), .val (.ref yb), .val (.int (4 : Int32))] [(.ref ya), (.int (4 : Int32))])) (fun t k => XS.aloadN X0.here hx rfl (hb hby d16_10) rfl rfl k) ?_
          obtain ⟨cl19, Ar19, q19, S19, Ng19, H19, G19⟩ := id V_ya
          refine Goes.to (T' := s₁.setTop (mkF m 12 #[.val (.ref ya), .val (.ref yb), .val (.int (4 : Int32))] [(.int (5 : Int32)), (.int (4 : Int32))])) (fun t k => X0.arraylength hx (by rw [e0]; exact Ar19.1) (State.isArrayOf_alike hZ.alike Ar19.2.1) (g := (mkF m 11 #[.val (.ref ya), .val (.ref yb), .val (.int (4 : Int32))] [(.ref ya), (.int (4 : Int32))])) rfl rfl (hb hby d16_11) _ (by rw [len_of S19 Ng19]; exact k)) ?_
          refine Goes.to (T' := s₁.setTop (mkF m 15 #[.val (.ref ya), .val (.ref yb), .val (.int (4 : Int32))] [])) (fun t k => XS.icmpNo X0.here hx rfl (hb hby d16_12) rfl (tlt (by decide)).2.1 k) ?_
          refine Goes.to (T' := s₁.setTop (mkF m 16 #[.val (.ref ya), .val (.ref yb), .val (.int (4 : Int32))] [(.ref ya)])) (fun t k => XS.aloadN X0.here hx rfl (hb hby d16_15) rfl rfl k) ?_
          refine Goes.to (T' := s₁.setTop (mkF m 17 #[.val (.ref ya), .val (.ref yb), .val (.int (4 : Int32))] [(.int (4 : Int32)), (.ref ya)])) (fun t k => XS.iloadN X0.here hx rfl (hb hby d16_16) rfl k) ?_
          obtain ⟨cl20, Ar20, q20, S20, Ng20, H20, G20⟩ := id V_ya
          have hin20 : ¬ ((4 : Int32) < 0 ∨ cl20.slots.size ≤ ((4 : Int32)).toNatClampNeg) := inb_of S20 ⟨by decide, by decide⟩
          refine Goes.to (T' := s₁.setTop (mkF m 18 #[.val (.ref ya), .val (.ref yb), .val (.int (4 : Int32))] [(.int w4_)])) (X0.baloadBytes hx (j := (4 : Int32)) (v := (.int w4_)) (by rw [e0]; exact Ar20.1) (State.isArrayOf_alike hZ.alike Ar20.2.1) Ar20.2.2 hin20 (H20.at hin20 rfl) (g := (mkF m 17 #[.val (.ref ya), .val (.ref yb), .val (.int (4 : Int32))] [(.int (4 : Int32)), (.ref ya)])) rfl rfl (hb hby d16_17)) ?_
          refine Goes.to (T' := s₁.setTop (mkF m 19 #[.val (.ref ya), .val (.ref yb), .val (.int (4 : Int32))] [(.ref yb), (.int w4_)])) (fun t k => XS.aloadN X0.here hx rfl (hb hby d16_18) rfl rfl k) ?_
          refine Goes.to (T' := s₁.setTop (mkF m 20 #[.val (.ref ya), .val (.ref yb), .val (.int (4 : Int32))] [(.int (4 : Int32)), (.ref yb), (.int w4_)])) (fun t k => XS.iloadN X0.here hx rfl (hb hby d16_19) rfl k) ?_
          obtain ⟨cl21, Ar21, q21, S21, Ng21, H21, G21⟩ := id V_yb
          have hin21 : ¬ ((4 : Int32) < 0 ∨ cl21.slots.size ≤ ((4 : Int32)).toNatClampNeg) := inb_of S21 ⟨by decide, by decide⟩
          refine Goes.to (T' := s₁.setTop (mkF m 21 #[.val (.ref ya), .val (.ref yb), .val (.int (4 : Int32))] [(.int y4_), (.int w4_)])) (X0.baloadBytes hx (j := (4 : Int32)) (v := (.int y4_)) (by rw [e0]; exact Ar21.1) (State.isArrayOf_alike hZ.alike Ar21.2.1) Ar21.2.2 hin21 (H21.at hin21 rfl) (g := (mkF m 20 #[.val (.ref ya), .val (.ref yb), .val (.int (4 : Int32))] [(.int (4 : Int32)), (.ref yb), (.int w4_)])) rfl rfl (hb hby d16_20)) ?_
          rcases Decidable.em (w4_ = y4_) with hc21_22 | hc21_22
          · skip
            refine Goes.to (T' := s₁.setTop (mkF m 26 #[.val (.ref ya), .val (.ref yb), .val (.int (4 : Int32))] [])) (fun t k => XS.icmpYes X0.here hx rfl (pc0 := 21) (pc' := 26) rfl (hb hby d16_21) rfl (teq hc21_22).1 (by decide) (by decide) k) ?_
            refine Goes.to (T' := s₁.setTop (mkF m 29 #[.val (.ref ya), .val (.ref yb), .val (.int ((4 : Int32) + (1 : Int32)))] [])) (fun t k => XS.iinc X0.here hx rfl (hb hby d16_26) rfl (l' := #[.val (.ref ya), .val (.ref yb), .val (.int ((4 : Int32) + (1 : Int32)))]) rfl k) ?_
            rw [show ((4 : Int32) + (1 : Int32)) = (5 : Int32) from by decide +kernel]
            refine Goes.to (T' := s₁.setTop (mkF m 9 #[.val (.ref ya), .val (.ref yb), .val (.int (5 : Int32))] [])) (fun t k => XS.goto X0.here hx rfl (pc0 := 29) (pc' := 9) rfl (hb hby d16_29) (by decide) (by decide) k) ?_
            refine Goes.to (T' := s₁.setTop (mkF m 10 #[.val (.ref ya), .val (.ref yb), .val (.int (5 : Int32))] [(.int (5 : Int32))])) (fun t k => XS.iloadN X0.here hx rfl (hb hby d16_9) rfl k) ?_
            refine Goes.to (T' := s₁.setTop (mkF m 11 #[.val (.ref ya), .val (.ref yb), .val (.int (5 : Int32))] [(.ref ya), (.int (5 : Int32))])) (fun t k => XS.aloadN X0.here hx rfl (hb hby d16_10) rfl rfl k) ?_
            obtain ⟨cl23, Ar23, q23, S23, Ng23, H23, G23⟩ := id V_ya
            refine Goes.to (T' := s₁.setTop (mkF m 12 #[.val (.ref ya), .val (.ref yb), .val (.int (5 : Int32))] [(.int (5 : Int32)), (.int (5 : Int32))])) (fun t k => X0.arraylength hx (by rw [e0]; exact Ar23.1) (State.isArrayOf_alike hZ.alike Ar23.2.1) (g := (mkF m 11 #[.val (.ref ya), .val (.ref yb), .val (.int (5 : Int32))] [(.ref ya), (.int (5 : Int32))])) rfl rfl (hb hby d16_11) _ (by rw [len_of S23 Ng23]; exact k)) ?_
            refine Goes.to (T' := s₁.setTop (mkF m 32 #[.val (.ref ya), .val (.ref yb), .val (.int (5 : Int32))] [])) (fun t k => XS.icmpYes X0.here hx rfl (pc0 := 12) (pc' := 32) rfl (hb hby d16_12) rfl (flt (by decide)).2.1 (by decide) (by decide) k) ?_
            refine Goes.to (T' := s₁.setTop (mkF m 33 #[.val (.ref ya), .val (.ref yb), .val (.int (5 : Int32))] [(.int (1 : Int32))])) (fun t k => XS.iconst X0.here hx rfl (hb hby d16_32) k) ?_
            obtain ⟨fs, hrL, hrun, hended, hW, hsame⟩ := X0.leave (v := some (.int (1 : Int32))) (fun h => by rw [Bd.returns] at h; cases h)
            subst hQf
            refine ⟨_, _, retN X0 hx (t := .boolean) Bd.returns (by simp) (hb hby d16_33) hrL, hrun, hended, _, _, rfl, ?_, ⟨_, rfl⟩, hW, hsame.mono (by decide) (by decide)⟩
            show Q_rmL5 r h0 n0 (some (.int (1 : Int32))) s₁.heap _
            rw [e0]
            have hv : ((1 : Int32) : Int32) = r := by rw [hr]; first | (simp [hc21_6, hc21_10, hc21_14, hc21_18, hc21_22]; done) | ((repeat' split) <;> first | rfl | contradiction | simp_all)
            exact ⟨by rw [hv], N0, rfl⟩
          · skip
            refine Goes.to (T' := s₁.setTop (mkF m 24 #[.val (.ref ya), .val (.ref yb), .val (.int (4 : Int32))] [])) (fun t k => XS.icmpNo X0.here hx rfl (hb hby d16_21) rfl (feq hc21_22).1 k) ?_
            refine Goes.to (T' := s₁.setTop (mkF m 25 #[.val (.ref ya), .val (.ref yb), .val (.int (4 : Int32))] [(.int (0 : Int32))])) (fun t k => XS.iconst X0.here hx rfl (hb hby d16_24) k) ?_
            obtain ⟨fs, hrL, hrun, hended, hW, hsame⟩ := X0.leave (v := some (.int (0 : Int32))) (fun h => by rw [Bd.returns] at h; cases h)
            subst hQf
            refine ⟨_, _, retN X0 hx (t := .boolean) Bd.returns (by simp) (hb hby d16_25) hrL, hrun, hended, _, _, rfl, ?_, ⟨_, rfl⟩, hW, hsame.mono (by decide) (by decide)⟩
            show Q_rmL5 r h0 n0 (some (.int (0 : Int32))) s₁.heap _
            rw [e0]
            have hv : ((0 : Int32) : Int32) = r := by rw [hr]; first | (simp [hc21_6, hc21_10, hc21_14, hc21_18, hc21_22]; done) | ((repeat' split) <;> first | rfl | contradiction | simp_all)
            exact ⟨by rw [hv], N0, rfl⟩
        · skip
          refine Goes.to (T' := s₁.setTop (mkF m 24 #[.val (.ref ya), .val (.ref yb), .val (.int (3 : Int32))] [])) (fun t k => XS.icmpNo X0.here hx rfl (hb hby d16_21) rfl (feq hc21_18).1 k) ?_
          refine Goes.to (T' := s₁.setTop (mkF m 25 #[.val (.ref ya), .val (.ref yb), .val (.int (3 : Int32))] [(.int (0 : Int32))])) (fun t k => XS.iconst X0.here hx rfl (hb hby d16_24) k) ?_
          obtain ⟨fs, hrL, hrun, hended, hW, hsame⟩ := X0.leave (v := some (.int (0 : Int32))) (fun h => by rw [Bd.returns] at h; cases h)
          subst hQf
          refine ⟨_, _, retN X0 hx (t := .boolean) Bd.returns (by simp) (hb hby d16_25) hrL, hrun, hended, _, _, rfl, ?_, ⟨_, rfl⟩, hW, hsame.mono (by decide) (by decide)⟩
          show Q_rmL5 r h0 n0 (some (.int (0 : Int32))) s₁.heap _
          rw [e0]
          have hv : ((0 : Int32) : Int32) = r := by rw [hr]; first | (simp [hc21_6, hc21_10, hc21_14, hc21_18]; done) | ((repeat' split) <;> first | rfl | contradiction | simp_all)
          exact ⟨by rw [hv], N0, rfl⟩
      · skip
        refine Goes.to (T' := s₁.setTop (mkF m 24 #[.val (.ref ya), .val (.ref yb), .val (.int (2 : Int32))] [])) (fun t k => XS.icmpNo X0.here hx rfl (hb hby d16_21) rfl (feq hc21_14).1 k) ?_
        refine Goes.to (T' := s₁.setTop (mkF m 25 #[.val (.ref ya), .val (.ref yb), .val (.int (2 : Int32))] [(.int (0 : Int32))])) (fun t k => XS.iconst X0.here hx rfl (hb hby d16_24) k) ?_
        obtain ⟨fs, hrL, hrun, hended, hW, hsame⟩ := X0.leave (v := some (.int (0 : Int32))) (fun h => by rw [Bd.returns] at h; cases h)
        subst hQf
        refine ⟨_, _, retN X0 hx (t := .boolean) Bd.returns (by simp) (hb hby d16_25) hrL, hrun, hended, _, _, rfl, ?_, ⟨_, rfl⟩, hW, hsame.mono (by decide) (by decide)⟩
        show Q_rmL5 r h0 n0 (some (.int (0 : Int32))) s₁.heap _
        rw [e0]
        have hv : ((0 : Int32) : Int32) = r := by rw [hr]; first | (simp [hc21_6, hc21_10, hc21_14]; done) | ((repeat' split) <;> first | rfl | contradiction | simp_all)
        exact ⟨by rw [hv], N0, rfl⟩
    · skip
      refine Goes.to (T' := s₁.setTop (mkF m 24 #[.val (.ref ya), .val (.ref yb), .val (.int (1 : Int32))] [])) (fun t k => XS.icmpNo X0.here hx rfl (hb hby d16_21) rfl (feq hc21_10).1 k) ?_
      refine Goes.to (T' := s₁.setTop (mkF m 25 #[.val (.ref ya), .val (.ref yb), .val (.int (1 : Int32))] [(.int (0 : Int32))])) (fun t k => XS.iconst X0.here hx rfl (hb hby d16_24) k) ?_
      obtain ⟨fs, hrL, hrun, hended, hW, hsame⟩ := X0.leave (v := some (.int (0 : Int32))) (fun h => by rw [Bd.returns] at h; cases h)
      subst hQf
      refine ⟨_, _, retN X0 hx (t := .boolean) Bd.returns (by simp) (hb hby d16_25) hrL, hrun, hended, _, _, rfl, ?_, ⟨_, rfl⟩, hW, hsame.mono (by decide) (by decide)⟩
      show Q_rmL5 r h0 n0 (some (.int (0 : Int32))) s₁.heap _
      rw [e0]
      have hv : ((0 : Int32) : Int32) = r := by rw [hr]; first | (simp [hc21_6, hc21_10]; done) | ((repeat' split) <;> first | rfl | contradiction | simp_all)
      exact ⟨by rw [hv], N0, rfl⟩
  · skip
    refine Goes.to (T' := s₁.setTop (mkF m 24 #[.val (.ref ya), .val (.ref yb), .val (.int (0 : Int32))] [])) (fun t k => XS.icmpNo X0.here hx rfl (hb hby d16_21) rfl (feq hc21_6).1 k) ?_
    refine Goes.to (T' := s₁.setTop (mkF m 25 #[.val (.ref ya), .val (.ref yb), .val (.int (0 : Int32))] [(.int (0 : Int32))])) (fun t k => XS.iconst X0.here hx rfl (hb hby d16_24) k) ?_
    obtain ⟨fs, hrL, hrun, hended, hW, hsame⟩ := X0.leave (v := some (.int (0 : Int32))) (fun h => by rw [Bd.returns] at h; cases h)
    subst hQf
    refine ⟨_, _, retN X0 hx (t := .boolean) Bd.returns (by simp) (hb hby d16_25) hrL, hrun, hended, _, _, rfl, ?_, ⟨_, rfl⟩, hW, hsame.mono (by decide) (by decide)⟩
    show Q_rmL5 r h0 n0 (some (.int (0 : Int32))) s₁.heap _
    rw [e0]
    have hv : ((0 : Int32) : Int32) = r := by rw [hr]; first | (simp [hc21_6]; done) | ((repeat' split) <;> first | rfl | contradiction | simp_all)
    exact ⟨by rw [hv], N0, rfl⟩
theorem d16_34 : decode jdk_43_method_13_code 34 = .ok (.iconst 0, 1) := by decide +kernel
theorem d16_35 : decode jdk_43_method_13_code 35 = .ok (.ireturn, 1) := by decide +kernel
def Q_rmLn  (h0 : Heap) (n0 : Nat) (v : Option Value) (h : Heap) (L : List Loc) : Prop := v = some (.int 0) ∧ Fr n0 L ∧ h = h0
theorem rmLn (hw : HW a0 Z) (ya : Addr) (yb : Addr) (ka : ClassId) (kb : ClassId) (w0_ : Int32) (w1_ : Int32) (w2_ : Int32) (w3_ : Int32) (w4_ : Int32) (zz : Int32) (vsx : List Value) (h0 : Heap) (n0 : Nat) (O0 : Old Z n0 h0) (NF : Nar Z w6 w7 w8 w9 w3 w0 w4 w1 w5 w2 k_w6 k_w0 k_w1 k_w2 z_cs fm) (V_ya : Arv Z h0 ya ka .byte (5 : Int32) [(.int w0_), (.int w1_), (.int w2_), (.int w3_), (.int w4_)] (.int (0 : Int32))) (V_yb : Arv Z h0 yb kb .byte zz vsx (.int (0 : Int32))) (hz5 : ¬ (5 : Int32) = zz) :
    Con l Z (⟨"java/lang/StringLatin1", "equals", "([B[B)Z"⟩ : MethodName) jdk_43_method_13_code 3 (some .boolean) ws ({ frames := 0, cells := 0, slots := 0, locals := 0 } : Room) #[(.ref ya), (.ref yb)] h0 (Q_rmLn  h0 n0) := by
  refine Con.body (own := "java/lang/StringLatin1") rfl (plainFor_of_name pn_16) (fun m => ef_rmL5 m _ _) ?_
  intro p e s m below meth c s₁ Bd hx hby hml hZ hown X0 e0 Qf hQf
  have N0 := Fr.nil n0
  obtain ⟨S_w6, E_w6, S_w7, E_w7, S_w8, E_w8, S_w9, E_w9, F_listName_w7, E_w3, F_value_w3, F_listName_w8, E_w4, F_value_w4, F_listName_w9, E_w5, F_value_w5, F_coder_w3, F_coder_w4, F_coder_w5, V_w6, V_w0, V_w1, V_w2, S_cs, nz_cs, S_fm, rf⟩ := id NF
  refine Goes.to (T' := s₁.setTop (mkF m 1 #[.val (.ref ya), .val (.ref yb), .unset] [(.ref ya)])) (fun t k => XS.aloadN X0.here hx rfl (hb hby d16_0) rfl rfl k) ?_
  obtain ⟨cl1, Ar1, q1, S1, Ng1, H1, G1⟩ := id V_ya
  refine Goes.to (T' := s₁.setTop (mkF m 2 #[.val (.ref ya), .val (.ref yb), .unset] [(.int (5 : Int32))])) (fun t k => X0.arraylength hx (by rw [e0]; exact Ar1.1) (State.isArrayOf_alike hZ.alike Ar1.2.1) (g := (mkF m 1 #[.val (.ref ya), .val (.ref yb), .unset] [(.ref ya)])) rfl rfl (hb hby d16_1) _ (by rw [len_of S1 Ng1]; exact k)) ?_
  refine Goes.to (T' := s₁.setTop (mkF m 3 #[.val (.ref ya), .val (.ref yb), .unset] [(.ref yb), (.int (5 : Int32))])) (fun t k => XS.aloadN X0.here hx rfl (hb hby d16_2) rfl rfl k) ?_
  obtain ⟨cl2, Ar2, q2, S2, Ng2, H2, G2⟩ := id V_yb
  refine Goes.to (T' := s₁.setTop (mkF m 4 #[.val (.ref ya), .val (.ref yb), .unset] [(.int zz), (.int (5 : Int32))])) (fun t k => X0.arraylength hx (by rw [e0]; exact Ar2.1) (State.isArrayOf_alike hZ.alike Ar2.2.1) (g := (mkF m 3 #[.val (.ref ya), .val (.ref yb), .unset] [(.ref yb), (.int (5 : Int32))])) rfl rfl (hb hby d16_3) _ (by rw [len_of S2 Ng2]; exact k)) ?_
  refine Goes.to (T' := s₁.setTop (mkF m 34 #[.val (.ref ya), .val (.ref yb), .unset] [])) (fun t k => XS.icmpYes X0.here hx rfl (pc0 := 4) (pc' := 34) rfl (hb hby d16_4) rfl (feq hz5).2 (by decide) (by decide) k) ?_
  refine Goes.to (T' := s₁.setTop (mkF m 35 #[.val (.ref ya), .val (.ref yb), .unset] [(.int (0 : Int32))])) (fun t k => XS.iconst X0.here hx rfl (hb hby d16_34) k) ?_
  obtain ⟨fs, hrL, hrun, hended, hW, hsame⟩ := X0.leave (v := some (.int (0 : Int32))) (fun h => by rw [Bd.returns] at h; cases h)
  subst hQf
  refine ⟨_, _, retN X0 hx (t := .boolean) Bd.returns (by simp) (hb hby d16_35) hrL, hrun, hended, _, _, rfl, ?_, ⟨_, rfl⟩, hW, hsame.mono (by decide) (by decide)⟩
  show Q_rmLn  h0 n0 (some (.int (0 : Int32))) s₁.heap _
  rw [e0]
  exact ⟨rfl, N0, rfl⟩
theorem pd_105 : parseMethodDescriptor "([B[B)Z" = some ⟨[(.array .byte), (.array .byte)], some .boolean⟩ := by decide +kernel
theorem d15_0 : decode jdk_42_method_66_code 0 = .ok (.aload_n 0, 1) := by decide +kernel
theorem d15_1 : decode jdk_42_method_66_code 1 = .ok (.aload_n 1, 1) := by decide +kernel
theorem d15_2 : decode jdk_42_method_66_code 2 = .ok (.if_acmp .ne 5, 3) := by decide +kernel
theorem d15_7 : decode jdk_42_method_66_code 7 = .ok (.aload_n 1, 1) := by decide +kernel
theorem d15_8 : decode jdk_42_method_66_code 8 = .ok (.instanceof 10, 3) := by decide +kernel
theorem d15_11 : decode jdk_42_method_66_code 11 = .ok (.ifCond .eq 43, 3) := by decide +kernel
theorem d15_14 : decode jdk_42_method_66_code 14 = .ok (.aload_n 1, 1) := by decide +kernel
theorem d15_15 : decode jdk_42_method_66_code 15 = .ok (.checkcast 10, 3) := by decide +kernel
theorem d15_18 : decode jdk_42_method_66_code 18 = .ok (.astore_n 2, 1) := by decide +kernel
theorem d15_19 : decode jdk_42_method_66_code 19 = .ok (.getstatic 38, 3) := by decide +kernel
theorem d15_22 : decode jdk_42_method_66_code 22 = .ok (.ifCond .eq 14, 3) := by decide +kernel
theorem d15_25 : decode jdk_42_method_66_code 25 = .ok (.aload_n 0, 1) := by decide +kernel
theorem d15_26 : decode jdk_42_method_66_code 26 = .ok (.getfield 15, 3) := by decide +kernel
theorem d15_29 : decode jdk_42_method_66_code 29 = .ok (.aload_n 2, 1) := by decide +kernel
theorem d15_30 : decode jdk_42_method_66_code 30 = .ok (.getfield 15, 3) := by decide +kernel
theorem d15_33 : decode jdk_42_method_66_code 33 = .ok (.if_icmp .ne 21, 3) := by decide +kernel
theorem d15_36 : decode jdk_42_method_66_code 36 = .ok (.aload_n 0, 1) := by decide +kernel
theorem d15_37 : decode jdk_42_method_66_code 37 = .ok (.getfield 9, 3) := by decide +kernel
theorem d15_40 : decode jdk_42_method_66_code 40 = .ok (.aload_n 2, 1) := by decide +kernel
theorem d15_41 : decode jdk_42_method_66_code 41 = .ok (.getfield 9, 3) := by decide +kernel
theorem d15_44 : decode jdk_42_method_66_code 44 = .ok (.invokestatic 541, 3) := by decide +kernel
theorem d15_47 : decode jdk_42_method_66_code 47 = .ok (.ifCond .eq 7, 3) := by decide +kernel
theorem d15_50 : decode jdk_42_method_66_code 50 = .ok (.iconst 1, 1) := by decide +kernel
theorem d15_51 : decode jdk_42_method_66_code 51 = .ok (.goto 4, 3) := by decide +kernel
theorem d15_54 : decode jdk_42_method_66_code 54 = .ok (.iconst 0, 1) := by decide +kernel
theorem d15_55 : decode jdk_42_method_66_code 55 = .ok (.ireturn, 1) := by decide +kernel
theorem pn_15 : plainName "java/lang/String" = true := by first | (simp [plainName, overriddenIn]; done) | decide +kernel
def Q_rmE5 (r : Int32) (h0 : Heap) (n0 : Nat) (v : Option Value) (h : Heap) (L : List Loc) : Prop := v = some (.int r) ∧ Fr n0 L ∧ h = h0
theorem rmE5 (hw : HW a0 Z) (xa : Addr) (xb : Addr) (ya : Addr) (yb : Addr) (ka : ClassId) (kb : ClassId) (w0_ : Int32) (w1_ : Int32) (w2_ : Int32) (w3_ : Int32) (w4_ : Int32) (y0_ : Int32) (y1_ : Int32) (y2_ : Int32) (y3_ : Int32) (y4_ : Int32) (r : Int32) (h0 : Heap) (n0 : Nat) (O0 : Old Z n0 h0) (NF : Nar Z w6 w7 w8 w9 w3 w0 w4 w1 w5 w2 k_w6 k_w0 k_w1 k_w2 z_cs fm) (E_xa : Exa Z h0 xa "java/lang/String") (F_coder_xa : Fld Z h0 xa "java/lang/String" "coder" "B" (.int (0 : Int32))) (F_value_xa : Fld Z h0 xa "java/lang/String" "value" "[B" (.ref ya)) (E_xb : Exa Z h0 xb "java/lang/String") (F_coder_xb : Fld Z h0 xb "java/lang/String" "coder" "B" (.int (0 : Int32))) (F_value_xb : Fld Z h0 xb "java/lang/String" "value" "[B" (.ref yb)) (V_ya : Arv Z h0 ya ka .byte (5 : Int32) [(.int w0_), (.int w1_), (.int w2_), (.int w3_), (.int w4_)] (.int (0 : Int32))) (V_yb : Arv Z h0 yb kb .byte (5 : Int32) [(.int y0_), (.int y1_), (.int y2_), (.int y3_), (.int y4_)] (.int (0 : Int32))) (hne : ¬ xa = xb) (hr : r = if w0_ = y0_ ∧ w1_ = y1_ ∧ w2_ = y2_ ∧ w3_ = y3_ ∧ w4_ = y4_ then 1 else 0) :
    Con l Z (⟨"java/lang/String", "equals", "(Ljava/lang/Object;)Z"⟩ : MethodName) jdk_42_method_66_code 3 (some .boolean) ws ({ frames := 1, cells := 0, slots := 0, locals := 32 } : Room) #[(.ref xa), (.ref xb)] h0 (Q_rmE5 r h0 n0) := by
  refine Con.body (own := "java/lang/String") rfl (plainFor_of_name pn_15) (fun m => ef_rmL5 m _ _) ?_
  intro p e s m below meth c s₁ Bd hx hby hml hZ hown X0 e0 Qf hQf
  have N0 := Fr.nil n0
  obtain ⟨S_w6, E_w6, S_w7, E_w7, S_w8, E_w8, S_w9, E_w9, F_listName_w7, E_w3, F_value_w3, F_listName_w8, E_w4, F_value_w4, F_listName_w9, E_w5, F_value_w5, F_coder_w3, F_coder_w4, F_coder_w5, V_w6, V_w0, V_w1, V_w2, S_cs, nz_cs, S_fm, rf⟩ := id NF
  refine Goes.to (T' := s₁.setTop (mkF m 1 #[.val (.ref xa), .val (.ref xb), .unset] [(.ref xa)])) (fun t k => XS.aloadN X0.here hx rfl (hb hby d15_0) rfl rfl k) ?_
  refine Goes.to (T' := s₁.setTop (mkF m 2 #[.val (.ref xa), .val (.ref xb), .unset] [(.ref xb), (.ref xa)])) (fun t k => XS.aloadN X0.here hx rfl (hb hby d15_1) rfl rfl k) ?_
  refine Goes.to (T' := s₁.setTop (mkF m 7 #[.val (.ref xa), .val (.ref xb), .unset] [])) (fun t k => Jvm.RoadKit.acmp (g := (mkF m 2 #[.val (.ref xa), .val (.ref xb), .unset] [(.ref xb), (.ref xa)])) X0 hx rfl rfl rfl (pc0 := 2) (pc' := 7) (same := false) rfl (hb hby d15_2) rfl (decide_eq_false fun q => hne (Value.ref.inj q)) (by decide) (by decide) k) ?_
  refine Goes.to (T' := s₁.setTop (mkF m 8 #[.val (.ref xa), .val (.ref xb), .unset] [(.ref xb)])) (fun t k => XS.aloadN X0.here hx rfl (hb hby d15_7) rfl rfl k) ?_
  obtain ⟨T1, X1, e1, st1⟩ := instY X0 hx hZ hown (wi hw 90 rfl) e0 (Ins.self E_xb) (g := (mkF m 8 #[.val (.ref xa), .val (.ref xb), .unset] [(.ref xb)])) rfl rfl (hb hby d15_8)
  refine Goes.to (T' := T1.setTop (mkF m 11 #[.val (.ref xa), .val (.ref xb), .unset] [(.int (1 : Int32))])) st1 ?_
  refine Goes.to (T' := T1.setTop (mkF m 14 #[.val (.ref xa), .val (.ref xb), .unset] [])) (fun t k => XS.ifNo X1.here hx rfl (hb hby d15_11) rfl ((if0 _ _).trans (feq (by decide)).1) k) ?_
  refine Goes.to (T' := T1.setTop (mkF m 15 #[.val (.ref xa), .val (.ref xb), .unset] [(.ref xb)])) (fun t k => XS.aloadN X1.here hx rfl (hb hby d15_14) rfl rfl k) ?_
  obtain ⟨T2, X2, e2, st2⟩ := castY X1 hx hZ hown (wi hw 90 rfl) e1 (Ins.self E_xb) (g := (mkF m 15 #[.val (.ref xa), .val (.ref xb), .unset] [(.ref xb)])) rfl rfl (hb hby d15_15)
  refine Goes.to (T' := T2.setTop (mkF m 18 #[.val (.ref xa), .val (.ref xb), .unset] [(.ref xb)])) st2 ?_
  refine Goes.to (T' := T2.setTop (mkF m 19 #[.val (.ref xa), .val (.ref xb), .val (.ref xb)] [])) (fun t k => XS.astoreN X2.here hx rfl (hb hby d15_18) rfl rfl (l' := #[.val (.ref xa), .val (.ref xb), .val (.ref xb)]) rfl k) ?_
  obtain ⟨T3, X3, e3, st3⟩ := getS2 X2 hx hZ hown (host := "") (Or.inl (wi hw 23 rfl)) Via.refl e2 (S_cs.ext O0.2) (g := (mkF m 19 #[.val (.ref xa), .val (.ref xb), .val (.ref xb)] [])) rfl (hb hby d15_19)
  refine Goes.to (T' := T3.setTop (mkF m 22 #[.val (.ref xa), .val (.ref xb), .val (.ref xb)] [(.int z_cs)])) st3 ?_
  refine Goes.to (T' := T3.setTop (mkF m 25 #[.val (.ref xa), .val (.ref xb), .val (.ref xb)] [])) (fun t k => XS.ifNo X3.here hx rfl (hb hby d15_22) rfl ((if0 _ _).trans (feq nz_cs).1) k) ?_
  refine Goes.to (T' := T3.setTop (mkF m 26 #[.val (.ref xa), .val (.ref xb), .val (.ref xb)] [(.ref xa)])) (fun t k => XS.aloadN X3.here hx rfl (hb hby d15_25) rfl rfl k) ?_
  obtain ⟨T4, X4, e4, st4⟩ := getF X3 hx hZ hown (host := "") (Or.inl (wi hw 24 rfl)) Via.refl e3 F_coder_xa (g := (mkF m 26 #[.val (.ref xa), .val (.ref xb), .val (.ref xb)] [(.ref xa)])) rfl rfl (hb hby d15_26)
  refine Goes.to (T' := T4.setTop (mkF m 29 #[.val (.ref xa), .val (.ref xb), .val (.ref xb)] [(.int (0 : Int32))])) st4 ?_
  refine Goes.to (T' := T4.setTop (mkF m 30 #[.val (.ref xa), .val (.ref xb), .val (.ref xb)] [(.ref xb), (.int (0 : Int32))])) (fun t k => XS.aloadN X4.here hx rfl (hb hby d15_29) rfl rfl k) ?_
  obtain ⟨T5, X5, e5, st5⟩ := getF X4 hx hZ hown (host := "") (Or.inl (wi hw 24 rfl)) Via.refl e4 F_coder_xb (g := (mkF m 30 #[.val (.ref xa), .val (.ref xb), .val (.ref xb)] [(.ref xb), (.int (0 : Int32))])) rfl rfl (hb hby d15_30)
  refine Goes.to (T' := T5.setTop (mkF m 33 #[.val (.ref xa), .val (.ref xb), .val (.ref xb)] [(.int (0 : Int32)), (.int (0 : Int32))])) st5 ?_
  refine Goes.to (T' := T5.setTop (mkF m 36 #[.val (.ref xa), .val (.ref xb), .val (.ref xb)] [])) (fun t k => XS.icmpNo X5.here hx rfl (hb hby d15_33) rfl (teq (by decide)).2 k) ?_
  refine Goes.to (T' := T5.setTop (mkF m 37 #[.val (.ref xa), .val (.ref xb), .val (.ref xb)] [(.ref xa)])) (fun t k => XS.aloadN X5.here hx rfl (hb hby d15_36) rfl rfl k) ?_
  obtain ⟨T6, X6, e6, st6⟩ := getF X5 hx hZ hown (host := "") (Or.inl (wi hw 25 rfl)) Via.refl e5 F_value_xa (g := (mkF m 37 #[.val (.ref xa), .val (.ref xb), .val (.ref xb)] [(.ref xa)])) rfl rfl (hb hby d15_37)
  refine Goes.to (T' := T6.setTop (mkF m 40 #[.val (.ref xa), .val (.ref xb), .val (.ref xb)] [(.ref ya)])) st6 ?_
  refine Goes.to (T' := T6.setTop (mkF m 41 #[.val (.ref xa), .val (.ref xb), .val (.ref xb)] [(.ref xb), (.ref ya)])) (fun t k => XS.aloadN X6.here hx rfl (hb hby d15_40) rfl rfl k) ?_
  obtain ⟨T7, X7, e7, st7⟩ := getF X6 hx hZ hown (host := "") (Or.inl (wi hw 25 rfl)) Via.refl e6 F_value_xb (g := (mkF m 41 #[.val (.ref xa), .val (.ref xb), .val (.ref xb)] [(.ref xb), (.ref ya)])) rfl rfl (hb hby d15_41)
  refine Goes.to (T' := T7.setTop (mkF m 44 #[.val (.ref xa), .val (.ref xb), .val (.ref xb)] [(.ref yb), (.ref ya)])) st7 ?_
  obtain ⟨_, _, ⟨T8, L8, k8, n8⟩, -, X8, ⟨Lc8, hQ8, l8, y8, z8⟩, st8⟩ := Jvm.LawKit.callS X7 hx (y := (⟨"java/lang/StringLatin1", "equals", "([B[B)Z"⟩ : MethodName)) hown (mvT hZ (wi hw 91 rfl)) (mvT hZ (wi hw 92 rfl)) (mvT hZ (wi hw 28 rfl)) (mvT hZ (wi hw 93 rfl)) (by decide) (backOf (W := 0) (rmL5 hw ya yb ka kb w0_ w1_ w2_ w3_ w4_ y0_ y1_ y2_ y3_ y4_ (if w0_ = y0_ ∧ w1_ = y1_ ∧ w2_ = y2_ ∧ w3_ = y3_ ∧ w4_ = y4_ then (1 : Int32) else 0) h0 n0 O0 NF V_ya V_yb rfl) hZ (wi hw 93 rfl) (wi hw 28 rfl) (by decide) (by decide)) (g := (mkF m 44 #[.val (.ref xa), .val (.ref xb), .val (.ref xb)] [(.ref yb), (.ref ya)])) rfl (by rw [hml]; rfl) (argsL := [(.ref ya), (.ref yb)]) (rest := []) (lenOf pd_105 rfl) rfl (by show 2 * 0 + _ ≤ _; exact Nat.le_of_eq rfl) (hb hby d15_44) (fun _ _ => ⟨rfl, e7, (by decide : 0 + 0 ≤ _), (by decide : 0 + 0 ≤ _)⟩)
  dsimp only [Pt.U, Pt.locs, Pt.cells, Pt.slots] at X8 l8 y8 z8 st8 hQ8
  subst l8 y8 z8
  obtain ⟨rfl, Nq8, e8⟩ := hQ8
  have N8 := Fr.app N0 Nq8
  refine Goes.to (T' := T8.setTop (mkF m 47 #[.val (.ref xa), .val (.ref xb), .val (.ref xb)] [(.int (if w0_ = y0_ ∧ w1_ = y1_ ∧ w2_ = y2_ ∧ w3_ = y3_ ∧ w4_ = y4_ then (1 : Int32) else 0))])) st8 ?_
  rcases Decidable.em (w0_ = y0_ ∧ w1_ = y1_ ∧ w2_ = y2_ ∧ w3_ = y3_ ∧ w4_ = y4_) with hs9 | hs9
  · rw [if_pos hs9]
    refine Goes.to (T' := T8.setTop (mkF m 50 #[.val (.ref xa), .val (.ref xb), .val (.ref xb)] [])) (fun t k => XS.ifNo X8.here hx rfl (hb hby d15_47) rfl ((if0 _ _).trans (feq (by decide)).1) k) ?_
    refine Goes.to (T' := T8.setTop (mkF m 51 #[.val (.ref xa), .val (.ref xb), .val (.ref xb)] [(.int (1 : Int32))])) (fun t k => XS.iconst X8.here hx rfl (hb hby d15_50) k) ?_
    refine Goes.to (T' := T8.setTop (mkF m 55 #[.val (.ref xa), .val (.ref xb), .val (.ref xb)] [(.int (1 : Int32))])) (fun t k => XS.goto X8.here hx rfl (pc0 := 51) (pc' := 55) rfl (hb hby d15_51) (by decide) (by decide) k) ?_
    obtain ⟨fs, hrL, hrun, hended, hW, hsame⟩ := X8.leave (v := some (.int (1 : Int32))) (fun h => by rw [Bd.returns] at h; cases h)
    subst hQf
    refine ⟨_, _, retN X8 hx (t := .boolean) Bd.returns (by simp) (hb hby d15_55) hrL, hrun, hended, _, _, rfl, ?_, ⟨_, rfl⟩, hW, hsame.mono (by decide) (by decide)⟩
    show Q_rmE5 r h0 n0 (some (.int (1 : Int32))) T8.heap _
    rw [e8]
    exact ⟨by rw [hr, if_pos hs9], N8, rfl⟩
  · rw [if_neg hs9]
    refine Goes.to (T' := T8.setTop (mkF m 54 #[.val (.ref xa), .val (.ref xb), .val (.ref xb)] [])) (fun t k => XS.ifYes X8.here hx rfl (pc0 := 47) (pc' := 54) rfl (hb hby d15_47) rfl ((if0 _ _).trans (teq (by decide)).1) (by decide) (by decide) k) ?_
    refine Goes.to (T' := T8.setTop (mkF m 55 #[.val (.ref xa), .val (.ref xb), .val (.ref xb)] [(.int (0 : Int32))])) (fun t k => XS.iconst X8.here hx rfl (hb hby d15_54) k) ?_
    obtain ⟨fs, hrL, hrun, hended, hW, hsame⟩ := X8.leave (v := some (.int (0 : Int32))) (fun h => by rw [Bd.returns] at h; cases h)
    subst hQf
    refine ⟨_, _, retN X8 hx (t := .boolean) Bd.returns (by simp) (hb hby d15_55) hrL, hrun, hended, _, _, rfl, ?_, ⟨_, rfl⟩, hW, hsame.mono (by decide) (by decide)⟩
    show Q_rmE5 r h0 n0 (some (.int (0 : Int32))) T8.heap _
    rw [e8]
    exact ⟨by rw [hr, if_neg hs9], N8, rfl⟩
def Q_rmEn  (h0 : Heap) (n0 : Nat) (v : Option Value) (h : Heap) (L : List Loc) : Prop := v = some (.int 0) ∧ Fr n0 L ∧ h = h0
theorem rmEn (hw : HW a0 Z) (xa : Addr) (xb : Addr) (ya : Addr) (yb : Addr) (ka : ClassId) (kb : ClassId) (w0_ : Int32) (w1_ : Int32) (w2_ : Int32) (w3_ : Int32) (w4_ : Int32) (zz : Int32) (vsx : List Value) (h0 : Heap) (n0 : Nat) (O0 : Old Z n0 h0) (NF : Nar Z w6 w7 w8 w9 w3 w0 w4 w1 w5 w2 k_w6 k_w0 k_w1 k_w2 z_cs fm) (E_xa : Exa Z h0 xa "java/lang/String") (F_coder_xa : Fld Z h0 xa "java/lang/String" "coder" "B" (.int (0 : Int32))) (F_value_xa : Fld Z h0 xa "java/lang/String" "value" "[B" (.ref ya)) (E_xb : Exa Z h0 xb "java/lang/String") (F_coder_xb : Fld Z h0 xb "java/lang/String" "coder" "B" (.int (0 : Int32))) (F_value_xb : Fld Z h0 xb "java/lang/String" "value" "[B" (.ref yb)) (V_ya : Arv Z h0 ya ka .byte (5 : Int32) [(.int w0_), (.int w1_), (.int w2_), (.int w3_), (.int w4_)] (.int (0 : Int32))) (V_yb : Arv Z h0 yb kb .byte zz vsx (.int (0 : Int32))) (hne : ¬ xa = xb) (hz5 : ¬ (5 : Int32) = zz) :
    Con l Z (⟨"java/lang/String", "equals", "(Ljava/lang/Object;)Z"⟩ : MethodName) jdk_42_method_66_code 3 (some .boolean) ws ({ frames := 1, cells := 0, slots := 0, locals := 32 } : Room) #[(.ref xa), (.ref xb)] h0 (Q_rmEn  h0 n0) := by
  refine Con.body (own := "java/lang/String") rfl (plainFor_of_name pn_15) (fun m => ef_rmL5 m _ _) ?_
  intro p e s m below meth c s₁ Bd hx hby hml hZ hown X0 e0 Qf hQf
  have N0 := Fr.nil n0
  obtain ⟨S_w6, E_w6, S_w7, E_w7, S_w8, E_w8, S_w9, E_w9, F_listName_w7, E_w3, F_value_w3, F_listName_w8, E_w4, F_value_w4, F_listName_w9, E_w5, F_value_w5, F_coder_w3, F_coder_w4, F_coder_w5, V_w6, V_w0, V_w1, V_w2, S_cs, nz_cs, S_fm, rf⟩ := id NF
  refine Goes.to (T' := s₁.setTop (mkF m 1 #[.val (.ref xa), .val (.ref xb), .unset] [(.ref xa)])) (fun t k => XS.aloadN X0.here hx rfl (hb hby d15_0) rfl rfl k) ?_
  refine Goes.to (T' := s₁.setTop (mkF m 2 #[.val (.ref xa), .val (.ref xb), .unset] [(.ref xb), (.ref xa)])) (fun t k => XS.aloadN X0.here hx rfl (hb hby d15_1) rfl rfl k) ?_
  refine Goes.to (T' := s₁.setTop (mkF m 7 #[.val (.ref xa), .val (.ref xb), .unset] [])) (fun t k => Jvm.RoadKit.acmp (g := (mkF m 2 #[.val (.ref xa), .val (.ref xb), .unset] [(.ref xb), (.ref xa)])) X0 hx rfl rfl rfl (pc0 := 2) (pc' := 7) (same := false) rfl (hb hby d15_2) rfl (decide_eq_false fun q => hne (Value.ref.inj q)) (by decide) (by decide) k) ?_
  refine Goes.to (T' := s₁.setTop (mkF m 8 #[.val (.ref xa), .val (.ref xb), .unset] [(.ref xb)])) (fun t k => XS.aloadN X0.here hx rfl (hb hby d15_7) rfl rfl k) ?_
  obtain ⟨T1, X1, e1, st1⟩ := instY X0 hx hZ hown (wi hw 90 rfl) e0 (Ins.self E_xb) (g := (mkF m 8 #[.val (.ref xa), .val (.ref xb), .unset] [(.ref xb)])) rfl rfl (hb hby d15_8)
  refine Goes.to (T' := T1.setTop (mkF m 11 #[.val (.ref xa), .val (.ref xb), .unset] [(.int (1 : Int32))])) st1 ?_
  refine Goes.to (T' := T1.setTop (mkF m 14 #[.val (.ref xa), .val (.ref xb), .unset] [])) (fun t k => XS.ifNo X1.here hx rfl (hb hby d15_11) rfl ((if0 _ _).trans (feq (by decide)).1) k) ?_
  refine Goes.to (T' := T1.setTop (mkF m 15 #[.val (.ref xa), .val (.ref xb), .unset] [(.ref xb)])) (fun t k => XS.aloadN X1.here hx rfl (hb hby d15_14) rfl rfl k) ?_
  obtain ⟨T2, X2, e2, st2⟩ := castY X1 hx hZ hown (wi hw 90 rfl) e1 (Ins.self E_xb) (g := (mkF m 15 #[.val (.ref xa), .val (.ref xb), .unset] [(.ref xb)])) rfl rfl (hb hby d15_15)
  refine Goes.to (T' := T2.setTop (mkF m 18 #[.val (.ref xa), .val (.ref xb), .unset] [(.ref xb)])) st2 ?_
  refine Goes.to (T' := T2.setTop (mkF m 19 #[.val (.ref xa), .val (.ref xb), .val (.ref xb)] [])) (fun t k => XS.astoreN X2.here hx rfl (hb hby d15_18) rfl rfl (l' := #[.val (.ref xa), .val (.ref xb), .val (.ref xb)]) rfl k) ?_
  obtain ⟨T3, X3, e3, st3⟩ := getS2 X2 hx hZ hown (host := "") (Or.inl (wi hw 23 rfl)) Via.refl e2 (S_cs.ext O0.2) (g := (mkF m 19 #[.val (.ref xa), .val (.ref xb), .val (.ref xb)] [])) rfl (hb hby d15_19)
  refine Goes.to (T' := T3.setTop (mkF m 22 #[.val (.ref xa), .val (.ref xb), .val (.ref xb)] [(.int z_cs)])) st3 ?_
  refine Goes.to (T' := T3.setTop (mkF m 25 #[.val (.ref xa), .val (.ref xb), .val (.ref xb)] [])) (fun t k => XS.ifNo X3.here hx rfl (hb hby d15_22) rfl ((if0 _ _).trans (feq nz_cs).1) k) ?_
  refine Goes.to (T' := T3.setTop (mkF m 26 #[.val (.ref xa), .val (.ref xb), .val (.ref xb)] [(.ref xa)])) (fun t k => XS.aloadN X3.here hx rfl (hb hby d15_25) rfl rfl k) ?_
  obtain ⟨T4, X4, e4, st4⟩ := getF X3 hx hZ hown (host := "") (Or.inl (wi hw 24 rfl)) Via.refl e3 F_coder_xa (g := (mkF m 26 #[.val (.ref xa), .val (.ref xb), .val (.ref xb)] [(.ref xa)])) rfl rfl (hb hby d15_26)
  refine Goes.to (T' := T4.setTop (mkF m 29 #[.val (.ref xa), .val (.ref xb), .val (.ref xb)] [(.int (0 : Int32))])) st4 ?_
  refine Goes.to (T' := T4.setTop (mkF m 30 #[.val (.ref xa), .val (.ref xb), .val (.ref xb)] [(.ref xb), (.int (0 : Int32))])) (fun t k => XS.aloadN X4.here hx rfl (hb hby d15_29) rfl rfl k) ?_
  obtain ⟨T5, X5, e5, st5⟩ := getF X4 hx hZ hown (host := "") (Or.inl (wi hw 24 rfl)) Via.refl e4 F_coder_xb (g := (mkF m 30 #[.val (.ref xa), .val (.ref xb), .val (.ref xb)] [(.ref xb), (.int (0 : Int32))])) rfl rfl (hb hby d15_30)
  refine Goes.to (T' := T5.setTop (mkF m 33 #[.val (.ref xa), .val (.ref xb), .val (.ref xb)] [(.int (0 : Int32)), (.int (0 : Int32))])) st5 ?_
  refine Goes.to (T' := T5.setTop (mkF m 36 #[.val (.ref xa), .val (.ref xb), .val (.ref xb)] [])) (fun t k => XS.icmpNo X5.here hx rfl (hb hby d15_33) rfl (teq (by decide)).2 k) ?_
  refine Goes.to (T' := T5.setTop (mkF m 37 #[.val (.ref xa), .val (.ref xb), .val (.ref xb)] [(.ref xa)])) (fun t k => XS.aloadN X5.here hx rfl (hb hby d15_36) rfl rfl k) ?_
  obtain ⟨T6, X6, e6, st6⟩ := getF X5 hx hZ hown (host := "") (Or.inl (wi hw 25 rfl)) Via.refl e5 F_value_xa (g := (mkF m 37 #[.val (.ref xa), .val (.ref xb), .val (.ref xb)] [(.ref xa)])) rfl rfl (hb hby d15_37)
  refine Goes.to (T' := T6.setTop (mkF m 40 #[.val (.ref xa), .val (.ref xb), .val (.ref xb)] [(.ref ya)])) st6 ?_
  refine Goes.to (T' := T6.setTop (mkF m 41 #[.val (.ref xa), .val (.ref xb), .val (.ref xb)] [(.ref xb), (.ref ya)])) (fun t k => XS.aloadN X6.here hx rfl (hb hby d15_40) rfl rfl k) ?_
  obtain ⟨T7, X7, e7, st7⟩ := getF X6 hx hZ hown (host := "") (Or.inl (wi hw 25 rfl)) Via.refl e6 F_value_xb (g := (mkF m 41 #[.val (.ref xa), .val (.ref xb), .val (.ref xb)] [(.ref xb), (.ref ya)])) rfl rfl (hb hby d15_41)
  refine Goes.to (T' := T7.setTop (mkF m 44 #[.val (.ref xa), .val (.ref xb), .val (.ref xb)] [(.ref yb), (.ref ya)])) st7 ?_
  obtain ⟨_, _, ⟨T8, L8, k8, n8⟩, -, X8, ⟨Lc8, hQ8, l8, y8, z8⟩, st8⟩ := Jvm.LawKit.callS X7 hx (y := (⟨"java/lang/StringLatin1", "equals", "([B[B)Z"⟩ : MethodName)) hown (mvT hZ (wi hw 91 rfl)) (mvT hZ (wi hw 92 rfl)) (mvT hZ (wi hw 28 rfl)) (mvT hZ (wi hw 93 rfl)) (by decide) (backOf (W := 0) (rmLn hw ya yb ka kb w0_ w1_ w2_ w3_ w4_ zz vsx h0 n0 O0 NF V_ya V_yb hz5) hZ (wi hw 93 rfl) (wi hw 28 rfl) (by decide) (by decide)) (g := (mkF m 44 #[.val (.ref xa), .val (.ref xb), .val (.ref xb)] [(.ref yb), (.ref ya)])) rfl (by rw [hml]; rfl) (argsL := [(.ref ya), (.ref yb)]) (rest := []) (lenOf pd_105 rfl) rfl (by show 2 * 0 + _ ≤ _; exact Nat.le_of_eq rfl) (hb hby d15_44) (fun _ _ => ⟨rfl, e7, (by decide : 0 + 0 ≤ _), (by decide : 0 + 0 ≤ _)⟩)
  dsimp only [Pt.U, Pt.locs, Pt.cells, Pt.slots] at X8 l8 y8 z8 st8 hQ8
  subst l8 y8 z8
  obtain ⟨rfl, Nq8, e8⟩ := hQ8
  have N8 := Fr.app N0 Nq8
  refine Goes.to (T' := T8.setTop (mkF m 47 #[.val (.ref xa), .val (.ref xb), .val (.ref xb)] [(.int (0 : Int32))])) st8 ?_
  refine Goes.to (T' := T8.setTop (mkF m 54 #[.val (.ref xa), .val (.ref xb), .val (.ref xb)] [])) (fun t k => XS.ifYes X8.here hx rfl (pc0 := 47) (pc' := 54) rfl (hb hby d15_47) rfl ((if0 _ _).trans (teq (by decide)).1) (by decide) (by decide) k) ?_
  refine Goes.to (T' := T8.setTop (mkF m 55 #[.val (.ref xa), .val (.ref xb), .val (.ref xb)] [(.int (0 : Int32))])) (fun t k => XS.iconst X8.here hx rfl (hb hby d15_54) k) ?_
  obtain ⟨fs, hrL, hrun, hended, hW, hsame⟩ := X8.leave (v := some (.int (0 : Int32))) (fun h => by rw [Bd.returns] at h; cases h)
  subst hQf
  refine ⟨_, _, retN X8 hx (t := .boolean) Bd.returns (by simp) (hb hby d15_55) hrL, hrun, hended, _, _, rfl, ?_, ⟨_, rfl⟩, hW, hsame.mono (by decide) (by decide)⟩
  show Q_rmEn  h0 n0 (some (.int (0 : Int32))) T8.heap _
  rw [e8]
  exact ⟨rfl, N8, rfl⟩
theorem ef_rmE0 (m : MethodId) (x0 : Addr) : entryFrame m #[(.ref x0), .null] 3 = mkF m 0 #[.val (.ref x0), .val .null, .unset] [] := by first | (simp [entryFrame, mkF, argsToLocals, Value.category]; done) | rfl
def Q_rmE0  (h0 : Heap) (n0 : Nat) (v : Option Value) (h : Heap) (L : List Loc) : Prop := v = some (.int 0) ∧ Fr n0 L ∧ h = h0
theorem rmE0 (hw : HW a0 Z) (xa : Addr) (h0 : Heap) (n0 : Nat) (O0 : Old Z n0 h0) (NF : Nar Z w6 w7 w8 w9 w3 w0 w4 w1 w5 w2 k_w6 k_w0 k_w1 k_w2 z_cs fm) :
    Con l Z (⟨"java/lang/String", "equals", "(Ljava/lang/Object;)Z"⟩ : MethodName) jdk_42_method_66_code 3 (some .boolean) ws ({ frames := 0, cells := 0, slots := 0, locals := 0 } : Room) #[(.ref xa), .null] h0 (Q_rmE0  h0 n0) := by
  refine Con.body (own := "java/lang/String") rfl (plainFor_of_name pn_15) (fun m => ef_rmE0 m _) ?_
  intro p e s m below meth c s₁ Bd hx hby hml hZ hown X0 e0 Qf hQf
  have N0 := Fr.nil n0
  obtain ⟨S_w6, E_w6, S_w7, E_w7, S_w8, E_w8, S_w9, E_w9, F_listName_w7, E_w3, F_value_w3, F_listName_w8, E_w4, F_value_w4, F_listName_w9, E_w5, F_value_w5, F_coder_w3, F_coder_w4, F_coder_w5, V_w6, V_w0, V_w1, V_w2, S_cs, nz_cs, S_fm, rf⟩ := id NF
  refine Goes.to (T' := s₁.setTop (mkF m 1 #[.val (.ref xa), .val .null, .unset] [(.ref xa)])) (fun t k => XS.aloadN X0.here hx rfl (hb hby d15_0) rfl rfl k) ?_
  refine Goes.to (T' := s₁.setTop (mkF m 2 #[.val (.ref xa), .val .null, .unset] [.null, (.ref xa)])) (fun t k => XS.aloadN X0.here hx rfl (hb hby d15_1) rfl rfl k) ?_
  refine Goes.to (T' := s₁.setTop (mkF m 7 #[.val (.ref xa), .val .null, .unset] [])) (fun t k => Jvm.RoadKit.acmp (g := (mkF m 2 #[.val (.ref xa), .val .null, .unset] [.null, (.ref xa)])) X0 hx rfl rfl rfl (pc0 := 2) (pc' := 7) (same := false) rfl (hb hby d15_2) rfl (decide_eq_false nofun) (by decide) (by decide) k) ?_
  refine Goes.to (T' := s₁.setTop (mkF m 8 #[.val (.ref xa), .val .null, .unset] [.null])) (fun t k => XS.aloadN X0.here hx rfl (hb hby d15_7) rfl rfl k) ?_
  refine Goes.to (T' := s₁.setTop (mkF m 11 #[.val (.ref xa), .val .null, .unset] [(.int (0 : Int32))])) (X0.instanceofNull hx (g := (mkF m 8 #[.val (.ref xa), .val .null, .unset] [.null])) rfl rfl (hb hby d15_8)) ?_
  refine Goes.to (T' := s₁.setTop (mkF m 54 #[.val (.ref xa), .val .null, .unset] [])) (fun t k => XS.ifYes X0.here hx rfl (pc0 := 11) (pc' := 54) rfl (hb hby d15_11) rfl ((if0 _ _).trans (teq (by decide)).1) (by decide) (by decide) k) ?_
  refine Goes.to (T' := s₁.setTop (mkF m 55 #[.val (.ref xa), .val .null, .unset] [(.int (0 : Int32))])) (fun t k => XS.iconst X0.here hx rfl (hb hby d15_54) k) ?_
  obtain ⟨fs, hrL, hrun, hended, hW, hsame⟩ := X0.leave (v := some (.int (0 : Int32))) (fun h => by rw [Bd.returns] at h; cases h)
  subst hQf
  refine ⟨_, _, retN X0 hx (t := .boolean) Bd.returns (by simp) (hb hby d15_55) hrL, hrun, hended, _, _, rfl, ?_, ⟨_, rfl⟩, hW, hsame.mono (by decide) (by decide)⟩
  show Q_rmE0  h0 n0 (some (.int (0 : Int32))) s₁.heap _
  rw [e0]
  exact ⟨rfl, N0, rfl⟩
theorem d14_0 : decode prog_1_method_1_code 0 = .ok (.getstatic 13, 3) := by decide +kernel
theorem d14_3 : decode prog_1_method_1_code 3 = .ok (.invokevirtual 17, 3) := by decide +kernel
theorem d14_6 : decode prog_1_method_1_code 6 = .ok (.checkcast 18, 3) := by decide +kernel
theorem d14_9 : decode prog_1_method_1_code 9 = .ok (.areturn, 1) := by decide +kernel
theorem pn_14 : plainName "com/example/issuer/issuer/blocklist/EntryKind" = true := by first | (simp [plainName, overriddenIn]; done) | decide +kernel
theorem ef_rmVs (m : MethodId)  : entryFrame m #[] 0 = mkF m 0 #[] [] := by first | (simp [entryFrame, mkF, argsToLocals, Value.category]; done) | rfl
def Q_rmVs (Z : State) (w7 : Addr) (w8 : Addr) (w9 : Addr) (k_w6 : ClassId) (h0 : Heap) (n0 : Nat) (v : Option Value) (h : Heap) (L : List Loc) : Prop := (∃ b : Addr, v = some (.ref b) ∧ n0 ≤ b ∧ h0.size ≤ b ∧ Arv Z h b k_w6 (.object "com/example/issuer/issuer/blocklist/EntryKind") (3 : Int32) [(.ref w7), (.ref w8), (.ref w9)] .null) ∧ Fr n0 L ∧ Ext h0 h
theorem rmVs (hw : HW a0 Z)  (h0 : Heap) (n0 : Nat) (O0 : Old Z n0 h0) (NF : Nar Z w6 w7 w8 w9 w3 w0 w4 w1 w5 w2 k_w6 k_w0 k_w1 k_w2 z_cs fm) :
    Con l Z (⟨"com/example/issuer/issuer/blocklist/EntryKind", "values", "()[Lcom/example/issuer/issuer/blocklist/EntryKind;"⟩ : MethodName) prog_1_method_1_code 0 (some (.array (.object "com/example/issuer/issuer/blocklist/EntryKind"))) ws ({ frames := 1, cells := 1, slots := 3, locals := 20 } : Room) #[] h0 (Q_rmVs Z w7 w8 w9 k_w6 h0 n0) := by
  refine Con.body (own := "com/example/issuer/issuer/blocklist/EntryKind") rfl (plainFor_of_name pn_14) (fun m => ef_rmVs m ) ?_
  intro p e s m below meth c s₁ Bd hx hby hml hZ hown X0 e0 Qf hQf
  have N0 := Fr.nil n0
  have K0 := Keep.refl h0 []
  obtain ⟨S_w6, E_w6, S_w7, E_w7, S_w8, E_w8, S_w9, E_w9, F_listName_w7, E_w3, F_value_w3, F_listName_w8, E_w4, F_value_w4, F_listName_w9, E_w5, F_value_w5, F_coder_w3, F_coder_w4, F_coder_w5, V_w6, V_w0, V_w1, V_w2, S_cs, nz_cs, S_fm, rf⟩ := id NF
  obtain ⟨T1, X1, e1, st1⟩ := getS2 X0 hx hZ hown (host := "") (Or.inl (wi hw 68 rfl)) Via.refl e0 (S_w6.ext O0.2) (g := (mkF m 0 #[] [])) rfl (hb hby d14_0)
  refine Goes.to (T' := T1.setTop (mkF m 3 #[] [(.ref w6)])) st1 ?_
  obtain ⟨T2, h2, X2, e2, E2, A2, Ea2, st2⟩ := own_cloneV X1 hx hZ hown (wi hw 70 rfl) (wi hw 71 rfl) (wi hw 75 rfl) (wi hw 73 rfl) (wi hw 74 rfl) (wi hw 76 rfl) e1 (V_w6.ext O0.2) (E_w6.ext O0.2) (g := (mkF m 3 #[] [(.ref w6)])) rfl (by rw [hml]; rfl) rfl (hb hby d14_3) (by decide) (W := 0) (by show 2 * 0 + _ ≤ _; exact Nat.le_of_eq rfl) (by decide) (cap := 3) (by decide) (by decide) (by decide)
  obtain ⟨b2, g2⟩ : ∃ z, z = h0.size := ⟨_, rfl⟩
  rw [← g2] at A2 Ea2 st2
  have g_b2 : n0 ≤ b2 := Nat.le_trans (own_old O0) (Nat.le_of_eq g2.symm)
  have sz_b2 : h0.size ≤ b2 := Nat.le_trans K0.1 (Nat.le_of_eq g2.symm)
  have O0 := O0.ext E2
  have K0 := K0.ext E2
  have V_b2 : Arv Z h2 b2 k_w6 (.object "com/example/issuer/issuer/blocklist/EntryKind") (3 : Int32) [(.ref w7), (.ref w8), (.ref w9)] .null := A2
  have E_b2 : Exa Z h2 b2 "[Lcom/example/issuer/issuer/blocklist/EntryKind;" := Ea2
  refine Goes.to (T' := T2.setTop (mkF m 6 #[] [(.ref b2)])) st2 ?_
  obtain ⟨T3, X3, e3, st3⟩ := castY X2 hx hZ hown (wi hw 81 rfl) e2 (Ins.self E_b2) (g := (mkF m 6 #[] [(.ref b2)])) rfl rfl (hb hby d14_6)
  refine Goes.to (T' := T3.setTop (mkF m 9 #[] [(.ref b2)])) st3 ?_
  obtain ⟨fs, hrL, hrun, hended, hW, hsame⟩ := X3.leave (v := some (.ref b2)) (fun h => by rw [Bd.returns] at h; cases h)
  subst hQf
  refine ⟨_, _, retOut X3 hx Bd.returns rfl (Or.inr (Or.inr (Or.inr (Or.inr ⟨rfl, rfl, rfl⟩)))) (hb hby d14_9) hrL, hrun, hended, _, _, rfl, ?_, ⟨_, rfl⟩, hW, hsame.mono (by decide) (by decide)⟩
  show Q_rmVs Z w7 w8 w9 k_w6 h0 n0 (some (.ref b2)) T3.heap _
  rw [e3]
  exact ⟨⟨b2, rfl, g_b2, sz_b2, V_b2⟩, N0, own_ext_keep K0⟩
theorem pd_140 : parseMethodDescriptor "()[Lcom/example/issuer/issuer/blocklist/EntryKind;" = some ⟨[], some (.array (.object "com/example/issuer/issuer/blocklist/EntryKind"))⟩ := by decide +kernel
def LA0 (v0 : Addr) (v1 : Addr) (v2 : Addr) : Array Slot := #[.val (.ref v0), .val (.ref v1), .val (.int (3 : Int32)), .val (.int (0 : Int32)), .val (.ref v2)]
theorem pd_142 : parseMethodDescriptor "(Ljava/lang/Object;)Z" = some ⟨[(.object "java/lang/Object")], some .boolean⟩ := by decide +kernel
def LA1 (v0 : Addr) (v1 : Addr) (v2 : Addr) : Array Slot := #[.val (.ref v0), .val (.ref v1), .val (.int (3 : Int32)), .val (.int (1 : Int32)), .val (.ref v2)]
def LA2 (v0 : Addr) (v1 : Addr) (v2 : Addr) : Array Slot := #[.val (.ref v0), .val (.ref v1), .val (.int (3 : Int32)), .val (.int (2 : Int32)), .val (.ref v2)]
def LA3 (v0 : Addr) (v1 : Addr) (v2 : Addr) : Array Slot := #[.val (.ref v0), .val (.ref v1), .val (.int (3 : Int32)), .val (.int (3 : Int32)), .val (.ref v2)]
theorem d13_0 : decode prog_1_method_4_code 0 = .ok (.invokestatic 43, 3) := by decide +kernel
theorem d13_3 : decode prog_1_method_4_code 3 = .ok (.astore_n 1, 1) := by decide +kernel
theorem d13_4 : decode prog_1_method_4_code 4 = .ok (.aload_n 1, 1) := by decide +kernel
theorem d13_5 : decode prog_1_method_4_code 5 = .ok (.arraylength, 1) := by decide +kernel
theorem d13_6 : decode prog_1_method_4_code 6 = .ok (.istore_n 2, 1) := by decide +kernel
theorem d13_7 : decode prog_1_method_4_code 7 = .ok (.iconst 0, 1) := by decide +kernel
theorem d13_8 : decode prog_1_method_4_code 8 = .ok (.istore_n 3, 1) := by decide +kernel
theorem d13_9 : decode prog_1_method_4_code 9 = .ok (.iload_n 3, 1) := by decide +kernel
theorem d13_10 : decode prog_1_method_4_code 10 = .ok (.iload_n 2, 1) := by decide +kernel
theorem d13_11 : decode prog_1_method_4_code 11 = .ok (.if_icmp .ge 29, 3) := by decide +kernel
theorem d13_14 : decode prog_1_method_4_code 14 = .ok (.aload_n 1, 1) := by decide +kernel
theorem d13_15 : decode prog_1_method_4_code 15 = .ok (.iload_n 3, 1) := by decide +kernel
theorem d13_16 : decode prog_1_method_4_code 16 = .ok (.aaload, 1) := by decide +kernel
theorem d13_17 : decode prog_1_method_4_code 17 = .ok (.astore 4, 2) := by decide +kernel
theorem d13_19 : decode prog_1_method_4_code 19 = .ok (.aload 4, 2) := by decide +kernel
theorem d13_21 : decode prog_1_method_4_code 21 = .ok (.getfield 36, 3) := by decide +kernel
theorem d13_24 : decode prog_1_method_4_code 24 = .ok (.aload_n 0, 1) := by decide +kernel
theorem d13_25 : decode prog_1_method_4_code 25 = .ok (.invokevirtual 47, 3) := by decide +kernel
theorem d13_28 : decode prog_1_method_4_code 28 = .ok (.ifCond .eq 6, 3) := by decide +kernel
theorem d13_31 : decode prog_1_method_4_code 31 = .ok (.aload 4, 2) := by decide +kernel
theorem d13_33 : decode prog_1_method_4_code 33 = .ok (.areturn, 1) := by decide +kernel
theorem d13_34 : decode prog_1_method_4_code 34 = .ok (.iinc 3 1, 3) := by decide +kernel
theorem d13_37 : decode prog_1_method_4_code 37 = .ok (.goto (-28), 3) := by decide +kernel
theorem d13_40 : decode prog_1_method_4_code 40 = .ok (.aconst_null, 1) := by decide +kernel
theorem d13_41 : decode prog_1_method_4_code 41 = .ok (.areturn, 1) := by decide +kernel
theorem pn_13 : plainName "com/example/issuer/issuer/blocklist/EntryKind" = true := by first | (simp [plainName, overriddenIn]; done) | decide +kernel
theorem ef_rmO5 (m : MethodId) (x0 : Addr) : entryFrame m #[(.ref x0)] 5 = mkF m 0 #[.val (.ref x0), .unset, .unset, .unset, .unset] [] := by first | (simp [entryFrame, mkF, argsToLocals, Value.category]; done) | rfl
def Q_rmO5 (r : Value) (h0 : Heap) (n0 : Nat) (v : Option Value) (h : Heap) (L : List Loc) : Prop := v = some r ∧ Fr n0 L ∧ Ext h0 h
theorem rmO5 (hw : HW a0 Z) (xs : Addr) (sv : Addr) (ks : ClassId) (y0_ : Int32) (y1_ : Int32) (y2_ : Int32) (y3_ : Int32) (y4_ : Int32) (r : Value) (h0 : Heap) (n0 : Nat) (O0 : Old Z n0 h0) (NF : Nar Z w6 w7 w8 w9 w3 w0 w4 w1 w5 w2 k_w6 k_w0 k_w1 k_w2 z_cs fm) (E_xs : Exa Z h0 xs "java/lang/String") (F_coder_xs : Fld Z h0 xs "java/lang/String" "coder" "B" (.int (0 : Int32))) (F_value_xs : Fld Z h0 xs "java/lang/String" "value" "[B" (.ref sv)) (V_sv : Arv Z h0 sv ks .byte (5 : Int32) [(.int y0_), (.int y1_), (.int y2_), (.int y3_), (.int y4_)] (.int (0 : Int32))) (g_xs : n0 ≤ xs) (hr : r = if (99 : Int32) = y0_ ∧ (97 : Int32) = y1_ ∧ (114 : Int32) = y2_ ∧ (100 : Int32) = y3_ ∧ (115 : Int32) = y4_ then Value.ref w7 else if (117 : Int32) = y0_ ∧ (115 : Int32) = y1_ ∧ (101 : Int32) = y2_ ∧ (114 : Int32) = y3_ ∧ (115 : Int32) = y4_ then Value.ref w8 else if (115 : Int32) = y0_ ∧ (105 : Int32) = y1_ ∧ (116 : Int32) = y2_ ∧ (101 : Int32) = y3_ ∧ (115 : Int32) = y4_ then Value.ref w9 else Value.null) :
    Con l Z (⟨"com/example/issuer/issuer/blocklist/EntryKind", "ofList", "(Ljava/lang/String;)Lcom/example/issuer/issuer/blocklist/EntryKind;"⟩ : MethodName) prog_1_method_4_code 5 (some (.object "com/example/issuer/issuer/blocklist/EntryKind")) ws ({ frames := 3, cells := 1, slots := 3, locals := 90 } : Room) #[(.ref xs)] h0 (Q_rmO5 r h0 n0) := by
  refine Con.body (own := "com/example/issuer/issuer/blocklist/EntryKind") rfl (plainFor_of_name pn_13) (fun m => ef_rmO5 m _) ?_
  intro p e s m below meth c s₁ Bd hx hby hml hZ hown X0 e0 Qf hQf
  have N0 := Fr.nil n0
  have K0 := Keep.refl h0 []
  obtain ⟨S_w6, E_w6, S_w7, E_w7, S_w8, E_w8, S_w9, E_w9, F_listName_w7, E_w3, F_value_w3, F_listName_w8, E_w4, F_value_w4, F_listName_w9, E_w5, F_value_w5, F_coder_w3, F_coder_w4, F_coder_w5, V_w6, V_w0, V_w1, V_w2, S_cs, nz_cs, S_fm, rf⟩ := id NF
  obtain ⟨_, _, ⟨T1, L1, k1, n1⟩, -, X1, ⟨Lc1, hQ1, l1, y1, z1⟩, st1⟩ := Jvm.LawKit.callS X0 hx (y := (⟨"com/example/issuer/issuer/blocklist/EntryKind", "values", "()[Lcom/example/issuer/issuer/blocklist/EntryKind;"⟩ : MethodName)) hown (mvT hZ (wi hw 65 rfl)) (mvT hZ (wi hw 66 rfl)) (mvT hZ (wi hw 63 rfl)) (mvT hZ (wi hw 67 rfl)) (by decide) (backOf (W := 0) (rmVs hw   h0 n0 O0 NF ) hZ (wi hw 67 rfl) (wi hw 63 rfl) (by decide) (by decide)) (g := (mkF m 0 #[.val (.ref xs), .unset, .unset, .unset, .unset] [])) rfl (by rw [hml]; rfl) (argsL := []) (rest := []) (lenOf pd_140 rfl) rfl (by show 2 * 0 + _ ≤ _; exact Nat.le_of_eq rfl) (hb hby d13_0) (fun _ _ => ⟨rfl, e0, (by decide : 0 + 1 ≤ _), (by decide : 0 + 3 ≤ _)⟩)
  dsimp only [Pt.U, Pt.locs, Pt.cells, Pt.slots] at X1 l1 y1 z1 st1 hQ1
  subst l1 y1 z1
  obtain ⟨⟨ar, rfl, ga1, sa1, V1⟩, Nq1, Ex1⟩ := hQ1
  have N1 := Fr.app N0 Nq1
  have g_ar : n0 ≤ ar := ga1
  have sz_ar : h0.size ≤ ar := Nat.le_trans K0.1 sa1
  have ne_xs_ar : xs ≠ ar := Nat.ne_of_lt (Nat.lt_of_lt_of_le E_xs.lt sa1)
  have ne_ar_xs := Ne.symm ne_xs_ar
  have ne_sv_ar : sv ≠ ar := Nat.ne_of_lt (Nat.lt_of_lt_of_le V_sv.lt sa1)
  have ne_ar_sv := Ne.symm ne_sv_ar
  have E_xs := E_xs.ext Ex1
  have F_coder_xs := F_coder_xs.ext Ex1
  have F_value_xs := F_value_xs.ext Ex1
  have V_sv := V_sv.ext Ex1
  have O0 := O0.ext Ex1
  have K0 := K0.ext Ex1
  have V_ar := V1
  refine Goes.to (T' := T1.setTop (mkF m 3 #[.val (.ref xs), .unset, .unset, .unset, .unset] [(.ref ar)])) st1 ?_
  refine Goes.to (T' := T1.setTop (mkF m 4 #[.val (.ref xs), .val (.ref ar), .unset, .unset, .unset] [])) (fun t k => XS.astoreN X1.here hx rfl (hb hby d13_3) rfl rfl (l' := #[.val (.ref xs), .val (.ref ar), .unset, .unset, .unset]) rfl k) ?_
  refine Goes.to (T' := T1.setTop (mkF m 5 #[.val (.ref xs), .val (.ref ar), .unset, .unset, .unset] [(.ref ar)])) (fun t k => XS.aloadN X1.here hx rfl (hb hby d13_4) rfl rfl k) ?_
  obtain ⟨cl2, Ar2, q2, S2, Ng2, H2, G2⟩ := id V_ar
  refine Goes.to (T' := T1.setTop (mkF m 6 #[.val (.ref xs), .val (.ref ar), .unset, .unset, .unset] [(.int (3 : Int32))])) (fun t k => X1.arraylength hx Ar2.1 (State.isArrayOf_alike hZ.alike Ar2.2.1) (g := (mkF m 5 #[.val (.ref xs), .val (.ref ar), .unset, .unset, .unset] [(.ref ar)])) rfl rfl (hb hby d13_5) _ (by rw [len_of S2 Ng2]; exact k)) ?_
  refine Goes.to (T' := T1.setTop (mkF m 7 #[.val (.ref xs), .val (.ref ar), .val (.int (3 : Int32)), .unset, .unset] [])) (fun t k => XS.istoreN X1.here hx rfl (hb hby d13_6) rfl (l' := #[.val (.ref xs), .val (.ref ar), .val (.int (3 : Int32)), .unset, .unset]) rfl k) ?_
  refine Goes.to (T' := T1.setTop (mkF m 8 #[.val (.ref xs), .val (.ref ar), .val (.int (3 : Int32)), .unset, .unset] [(.int (0 : Int32))])) (fun t k => XS.iconst X1.here hx rfl (hb hby d13_7) k) ?_
  refine Goes.to (T' := T1.setTop (mkF m 9 #[.val (.ref xs), .val (.ref ar), .val (.int (3 : Int32)), .val (.int (0 : Int32)), .unset] [])) (fun t k => XS.istoreN X1.here hx rfl (hb hby d13_8) rfl (l' := #[.val (.ref xs), .val (.ref ar), .val (.int (3 : Int32)), .val (.int (0 : Int32)), .unset]) rfl k) ?_
  refine Goes.to (T' := T1.setTop (mkF m 10 #[.val (.ref xs), .val (.ref ar), .val (.int (3 : Int32)), .val (.int (0 : Int32)), .unset] [(.int (0 : Int32))])) (fun t k => XS.iloadN X1.here hx rfl (hb hby d13_9) rfl k) ?_
  refine Goes.to (T' := T1.setTop (mkF m 11 #[.val (.ref xs), .val (.ref ar), .val (.int (3 : Int32)), .val (.int (0 : Int32)), .unset] [(.int (3 : Int32)), (.int (0 : Int32))])) (fun t k => XS.iloadN X1.here hx rfl (hb hby d13_10) rfl k) ?_
  refine Goes.to (T' := T1.setTop (mkF m 14 #[.val (.ref xs), .val (.ref ar), .val (.int (3 : Int32)), .val (.int (0 : Int32)), .unset] [])) (fun t k => XS.icmpNo X1.here hx rfl (hb hby d13_11) rfl (tlt (by decide)).2.1 k) ?_
  refine Goes.to (T' := T1.setTop (mkF m 15 #[.val (.ref xs), .val (.ref ar), .val (.int (3 : Int32)), .val (.int (0 : Int32)), .unset] [(.ref ar)])) (fun t k => XS.aloadN X1.here hx rfl (hb hby d13_14) rfl rfl k) ?_
  refine Goes.to (T' := T1.setTop (mkF m 16 #[.val (.ref xs), .val (.ref ar), .val (.int (3 : Int32)), .val (.int (0 : Int32)), .unset] [(.int (0 : Int32)), (.ref ar)])) (fun t k => XS.iloadN X1.here hx rfl (hb hby d13_15) rfl k) ?_
  obtain ⟨cl3, Ar3, q3, S3, Ng3, H3, G3⟩ := id V_ar
  have hin3 : ¬ ((0 : Int32) < 0 ∨ cl3.slots.size ≤ ((0 : Int32)).toNatClampNeg) := inb_of S3 ⟨by decide, by decide⟩
  refine Goes.to (T' := T1.setTop (mkF m 17 #[.val (.ref xs), .val (.ref ar), .val (.int (3 : Int32)), .val (.int (0 : Int32)), .unset] [(.ref w7)])) (X1.aaload hx (j := (0 : Int32)) (v := (.ref w7)) Ar3.1 (State.isArrayOf_alike hZ.alike Ar3.2.1) rfl Ar3.2.2 hin3 (H3.at hin3 rfl) (g := (mkF m 16 #[.val (.ref xs), .val (.ref ar), .val (.int (3 : Int32)), .val (.int (0 : Int32)), .unset] [(.int (0 : Int32)), (.ref ar)])) rfl rfl (hb hby d13_16)) ?_
  refine Goes.to (T' := T1.setTop (mkF m 19 (LA0 xs ar w7) [])) (fun t k => XS.astore X1.here hx rfl (hb hby d13_17) rfl rfl (l' := (LA0 xs ar w7)) rfl k) ?_
  refine Goes.to (T' := T1.setTop (mkF m 21 (LA0 xs ar w7) [(.ref w7)])) (fun t k => XS.aload X1.here hx rfl (hb hby d13_19) rfl rfl k) ?_
  obtain ⟨T4, X4, e4, st4⟩ := getF X1 hx hZ hown (host := "") (Or.inl (wi hw 83 rfl)) Via.refl rfl (F_listName_w7.ext O0.2) (g := (mkF m 21 (LA0 xs ar w7) [(.ref w7)])) rfl rfl (hb hby d13_21)
  refine Goes.to (T' := T4.setTop (mkF m 24 (LA0 xs ar w7) [(.ref w3)])) st4 ?_
  refine Goes.to (T' := T4.setTop (mkF m 25 (LA0 xs ar w7) [(.ref xs), (.ref w3)])) (fun t k => XS.aloadN X4.here hx rfl (hb hby d13_24) rfl rfl k) ?_
  obtain ⟨cq5, kq5, q5a, q5b, q5c⟩ := isOf hZ e4 (E_w3.ext O0.2)
  obtain ⟨_, _, ⟨T5, L5, k5, n5⟩, -, X5, ⟨Lc5, hQ5, l5, y5, z5⟩, st5⟩ := X4.virtualBack hx (y := (⟨"java/lang/String", "equals", "(Ljava/lang/Object;)Z"⟩ : MethodName)) (z := (⟨"java/lang/String", "equals", "(Ljava/lang/Object;)Z"⟩ : MethodName)) hown (mvT hZ (wi hw 85 rfl)) (mvT hZ (wi hw 86 rfl)) (notFace_of_selects (args := #[]) (mvT hZ (wi hw 88 rfl))) (mvT hZ (wi hw 88 rfl)) (mvT hZ (wi hw 87 rfl)) (by decide) (backOf (W := 0) (rmE5 hw w3 xs w0 sv k_w0 ks (99 : Int32) (97 : Int32) (114 : Int32) (100 : Int32) (115 : Int32) y0_ y1_ y2_ y3_ y4_ (if (99 : Int32) = y0_ ∧ (97 : Int32) = y1_ ∧ (114 : Int32) = y2_ ∧ (100 : Int32) = y3_ ∧ (115 : Int32) = y4_ then (1 : Int32) else 0) T1.heap n0 O0 NF (E_w3.ext O0.2) (F_coder_w3.ext O0.2) (F_value_w3.ext O0.2) E_xs F_coder_xs F_value_xs (V_w0.ext O0.2) V_sv (O0.ne E_w3.lt g_xs) rfl) hZ (wi hw 89 rfl) (wi hw 2 rfl) (by decide) (by decide)) q5a q5c (g := (mkF m 25 (LA0 xs ar w7) [(.ref xs), (.ref w3)])) rfl (by rw [hml]; rfl) (Steps.refl _) (argsL := [(.ref xs)]) (rest := []) (lenOf pd_142 rfl) rfl (by show 2 * 0 + _ ≤ _; exact Nat.le_of_eq rfl) (hb hby d13_25) (fun _ _ => ⟨rfl, e4, (by decide : 1 + 0 ≤ _), (by decide : 3 + 0 ≤ _)⟩)
  dsimp only [Pt.U, Pt.locs, Pt.cells, Pt.slots] at X5 l5 y5 z5 st5 hQ5
  subst l5 y5 z5
  obtain ⟨rfl, Nq5, e5⟩ := hQ5
  have N5 := Fr.app N1 Nq5
  refine Goes.thru (T' := T5.setTop (mkF m 28 (LA0 xs ar w7) [(.int (if (99 : Int32) = y0_ ∧ (97 : Int32) = y1_ ∧ (114 : Int32) = y2_ ∧ (100 : Int32) = y3_ ∧ (115 : Int32) = y4_ then (1 : Int32) else 0))])) st5 ?_
  rcases Decidable.em ((99 : Int32) = y0_ ∧ (97 : Int32) = y1_ ∧ (114 : Int32) = y2_ ∧ (100 : Int32) = y3_ ∧ (115 : Int32) = y4_) with hs6 | hs6
  · rw [if_pos hs6]
    refine Goes.to (T' := T5.setTop (mkF m 31 (LA0 xs ar w7) [])) (fun t k => XS.ifNo X5.here hx rfl (hb hby d13_28) rfl ((if0 _ _).trans (feq (by decide)).1) k) ?_
    refine Goes.to (T' := T5.setTop (mkF m 33 (LA0 xs ar w7) [(.ref w7)])) (fun t k => XS.aload X5.here hx rfl (hb hby d13_31) rfl rfl k) ?_
    obtain ⟨fs, hrL, hrun, hended, hW, hsame⟩ := X5.leave (v := some (.ref w7)) (fun h => by rw [Bd.returns] at h; cases h)
    subst hQf
    refine ⟨_, _, retOut X5 hx Bd.returns rfl (Or.inr (Or.inr (Or.inr (Or.inr ⟨rfl, rfl, rfl⟩)))) (hb hby d13_33) hrL, hrun, hended, _, _, rfl, ?_, ⟨_, rfl⟩, hW, hsame.mono (by decide) (by decide)⟩
    show Q_rmO5 r h0 n0 (some (.ref w7)) T5.heap _
    rw [e5]
    have hv : r = Value.ref w7 := hr.trans (if_pos hs6)
    exact ⟨by rw [hv], N5, own_ext_keep K0⟩
  · rw [if_neg hs6]
    refine Goes.to (T' := T5.setTop (mkF m 34 (LA0 xs ar w7) [])) (fun t k => XS.ifYes X5.here hx rfl (pc0 := 28) (pc' := 34) rfl (hb hby d13_28) rfl ((if0 _ _).trans (teq (by decide)).1) (by decide) (by decide) k) ?_
    refine Goes.to (T' := T5.setTop (mkF m 37 #[.val (.ref xs), .val (.ref ar), .val (.int (3 : Int32)), .val (.int ((0 : Int32) + (1 : Int32))), .val (.ref w7)] [])) (fun t k => XS.iinc X5.here hx rfl (hb hby d13_34) rfl (l' := #[.val (.ref xs), .val (.ref ar), .val (.int (3 : Int32)), .val (.int ((0 : Int32) + (1 : Int32))), .val (.ref w7)]) rfl k) ?_
    rw [show ((0 : Int32) + (1 : Int32)) = (1 : Int32) from by decide +kernel]
    refine Goes.to (T' := T5.setTop (mkF m 9 (LA1 xs ar w7) [])) (fun t k => XS.goto X5.here hx rfl (pc0 := 37) (pc' := 9) rfl (hb hby d13_37) (by decide) (by decide) k) ?_
    refine Goes.to (T' := T5.setTop (mkF m 10 (LA1 xs ar w7) [(.int (1 : Int32))])) (fun t k => XS.iloadN X5.here hx rfl (hb hby d13_9) rfl k) ?_
    refine Goes.to (T' := T5.setTop (mkF m 11 (LA1 xs ar w7) [(.int (3 : Int32)), (.int (1 : Int32))])) (fun t k => XS.iloadN X5.here hx rfl (hb hby d13_10) rfl k) ?_
    refine Goes.to (T' := T5.setTop (mkF m 14 (LA1 xs ar w7) [])) (fun t k => XS.icmpNo X5.here hx rfl (hb hby d13_11) rfl (tlt (by decide)).2.1 k) ?_
    refine Goes.to (T' := T5.setTop (mkF m 15 (LA1 xs ar w7) [(.ref ar)])) (fun t k => XS.aloadN X5.here hx rfl (hb hby d13_14) rfl rfl k) ?_
    refine Goes.to (T' := T5.setTop (mkF m 16 (LA1 xs ar w7) [(.int (1 : Int32)), (.ref ar)])) (fun t k => XS.iloadN X5.here hx rfl (hb hby d13_15) rfl k) ?_
    obtain ⟨cl7, Ar7, q7, S7, Ng7, H7, G7⟩ := id V_ar
    have hin7 : ¬ ((1 : Int32) < 0 ∨ cl7.slots.size ≤ ((1 : Int32)).toNatClampNeg) := inb_of S7 ⟨by decide, by decide⟩
    refine Goes.to (T' := T5.setTop (mkF m 17 (LA1 xs ar w7) [(.ref w8)])) (X5.aaload hx (j := (1 : Int32)) (v := (.ref w8)) (by rw [e5]; exact Ar7.1) (State.isArrayOf_alike hZ.alike Ar7.2.1) rfl Ar7.2.2 hin7 (H7.at hin7 rfl) (g := (mkF m 16 (LA1 xs ar w7) [(.int (1 : Int32)), (.ref ar)])) rfl rfl (hb hby d13_16)) ?_
    refine Goes.to (T' := T5.setTop (mkF m 19 (LA1 xs ar w8) [])) (fun t k => XS.astore X5.here hx rfl (hb hby d13_17) rfl rfl (l' := (LA1 xs ar w8)) rfl k) ?_
    refine Goes.to (T' := T5.setTop (mkF m 21 (LA1 xs ar w8) [(.ref w8)])) (fun t k => XS.aload X5.here hx rfl (hb hby d13_19) rfl rfl k) ?_
    obtain ⟨T8, X8, e8, st8⟩ := getF X5 hx hZ hown (host := "") (Or.inl (wi hw 83 rfl)) Via.refl e5 (F_listName_w8.ext O0.2) (g := (mkF m 21 (LA1 xs ar w8) [(.ref w8)])) rfl rfl (hb hby d13_21)
    refine Goes.to (T' := T8.setTop (mkF m 24 (LA1 xs ar w8) [(.ref w4)])) st8 ?_
    refine Goes.to (T' := T8.setTop (mkF m 25 (LA1 xs ar w8) [(.ref xs), (.ref w4)])) (fun t k => XS.aloadN X8.here hx rfl (hb hby d13_24) rfl rfl k) ?_
    obtain ⟨cq9, kq9, q9a, q9b, q9c⟩ := isOf hZ e8 (E_w4.ext O0.2)
    obtain ⟨_, _, ⟨T9, L9, k9, n9⟩, -, X9, ⟨Lc9, hQ9, l9, y9, z9⟩, st9⟩ := X8.virtualBack hx (y := (⟨"java/lang/String", "equals", "(Ljava/lang/Object;)Z"⟩ : MethodName)) (z := (⟨"java/lang/String", "equals", "(Ljava/lang/Object;)Z"⟩ : MethodName)) hown (mvT hZ (wi hw 85 rfl)) (mvT hZ (wi hw 86 rfl)) (notFace_of_selects (args := #[]) (mvT hZ (wi hw 88 rfl))) (mvT hZ (wi hw 88 rfl)) (mvT hZ (wi hw 87 rfl)) (by decide) (backOf (W := 0) (rmE5 hw w4 xs w1 sv k_w1 ks (117 : Int32) (115 : Int32) (101 : Int32) (114 : Int32) (115 : Int32) y0_ y1_ y2_ y3_ y4_ (if (117 : Int32) = y0_ ∧ (115 : Int32) = y1_ ∧ (101 : Int32) = y2_ ∧ (114 : Int32) = y3_ ∧ (115 : Int32) = y4_ then (1 : Int32) else 0) T1.heap n0 O0 NF (E_w4.ext O0.2) (F_coder_w4.ext O0.2) (F_value_w4.ext O0.2) E_xs F_coder_xs F_value_xs (V_w1.ext O0.2) V_sv (O0.ne E_w4.lt g_xs) rfl) hZ (wi hw 89 rfl) (wi hw 2 rfl) (by decide) (by decide)) q9a q9c (g := (mkF m 25 (LA1 xs ar w8) [(.ref xs), (.ref w4)])) rfl (by rw [hml]; rfl) (Steps.refl _) (argsL := [(.ref xs)]) (rest := []) (lenOf pd_142 rfl) rfl (by show 2 * 0 + _ ≤ _; exact Nat.le_of_eq rfl) (hb hby d13_25) (fun _ _ => ⟨rfl, e8, (by decide : 1 + 0 ≤ _), (by decide : 3 + 0 ≤ _)⟩)
    dsimp only [Pt.U, Pt.locs, Pt.cells, Pt.slots] at X9 l9 y9 z9 st9 hQ9
    subst l9 y9 z9
    obtain ⟨rfl, Nq9, e9⟩ := hQ9
    have N9 := Fr.app N5 Nq9
    refine Goes.thru (T' := T9.setTop (mkF m 28 (LA1 xs ar w8) [(.int (if (117 : Int32) = y0_ ∧ (115 : Int32) = y1_ ∧ (101 : Int32) = y2_ ∧ (114 : Int32) = y3_ ∧ (115 : Int32) = y4_ then (1 : Int32) else 0))])) st9 ?_
    rcases Decidable.em ((117 : Int32) = y0_ ∧ (115 : Int32) = y1_ ∧ (101 : Int32) = y2_ ∧ (114 : Int32) = y3_ ∧ (115 : Int32) = y4_) with hs10 | hs10
    · rw [if_pos hs10]
      refine Goes.to (T' := T9.setTop (mkF m 31 (LA1 xs ar w8) [])) (fun t k => XS.ifNo X9.here hx rfl (hb hby d13_28) rfl ((if0 _ _).trans (feq (by decide)).1) k) ?_
      refine Goes.to (T' := T9.setTop (mkF m 33 (LA1 xs ar w8) [(.ref w8)])) (fun t k => XS.aload X9.here hx rfl (hb hby d13_31) rfl rfl k) ?_
      obtain ⟨fs, hrL, hrun, hended, hW, hsame⟩ := X9.leave (v := some (.ref w8)) (fun h => by rw [Bd.returns] at h; cases h)
      subst hQf
      refine ⟨_, _, retOut X9 hx Bd.returns rfl (Or.inr (Or.inr (Or.inr (Or.inr ⟨rfl, rfl, rfl⟩)))) (hb hby d13_33) hrL, hrun, hended, _, _, rfl, ?_, ⟨_, rfl⟩, hW, hsame.mono (by decide) (by decide)⟩
      show Q_rmO5 r h0 n0 (some (.ref w8)) T9.heap _
      rw [e9]
      have hv : r = Value.ref w8 := hr.trans ((if_neg hs6).trans (if_pos hs10))
      exact ⟨by rw [hv], N9, own_ext_keep K0⟩
    · rw [if_neg hs10]
      refine Goes.to (T' := T9.setTop (mkF m 34 (LA1 xs ar w8) [])) (fun t k => XS.ifYes X9.here hx rfl (pc0 := 28) (pc' := 34) rfl (hb hby d13_28) rfl ((if0 _ _).trans (teq (by decide)).1) (by decide) (by decide) k) ?_
      refine Goes.to (T' := T9.setTop (mkF m 37 #[.val (.ref xs), .val (.ref ar), .val (.int (3 : Int32)), .val (.int ((1 : Int32) + (1 : Int32))), .val (.ref w8)] [])) (fun t k => XS.iinc X9.here hx rfl (hb hby d13_34) rfl (l' := #[.val (.ref xs), .val (.ref ar), .val (.int (3 : Int32)), .val (.int ((1 : Int32) + (1 : Int32))), .val (.ref w8)]) rfl k) ?_
      rw [show ((1 : Int32) + (1 : Int32)) = (2 : Int32) from by decide +kernel]
      refine Goes.to (T' := T9.setTop (mkF m 9 (LA2 xs ar w8) [])) (fun t k => XS.goto X9.here hx rfl (pc0 := 37) (pc' := 9) rfl (hb hby d13_37) (by decide) (by decide) k) ?_
      refine Goes.to (T' := T9.setTop (mkF m 10 (LA2 xs ar w8) [(.int (2 : Int32))])) (fun t k => XS.iloadN X9.here hx rfl (hb hby d13_9) rfl k) ?_
      refine Goes.to (T' := T9.setTop (mkF m 11 (LA2 xs ar w8) [(.int (3 : Int32)), (.int (2 : Int32))])) (fun t k => XS.iloadN X9.here hx rfl (hb hby d13_10) rfl k) ?_
      refine Goes.to (T' := T9.setTop (mkF m 14 (LA2 xs ar w8) [])) (fun t k => XS.icmpNo X9.here hx rfl (hb hby d13_11) rfl (tlt (by decide)).2.1 k) ?_
      refine Goes.to (T' := T9.setTop (mkF m 15 (LA2 xs ar w8) [(.ref ar)])) (fun t k => XS.aloadN X9.here hx rfl (hb hby d13_14) rfl rfl k) ?_
      refine Goes.to (T' := T9.setTop (mkF m 16 (LA2 xs ar w8) [(.int (2 : Int32)), (.ref ar)])) (fun t k => XS.iloadN X9.here hx rfl (hb hby d13_15) rfl k) ?_
      obtain ⟨cl11, Ar11, q11, S11, Ng11, H11, G11⟩ := id V_ar
      have hin11 : ¬ ((2 : Int32) < 0 ∨ cl11.slots.size ≤ ((2 : Int32)).toNatClampNeg) := inb_of S11 ⟨by decide, by decide⟩
      refine Goes.to (T' := T9.setTop (mkF m 17 (LA2 xs ar w8) [(.ref w9)])) (X9.aaload hx (j := (2 : Int32)) (v := (.ref w9)) (by rw [e9]; exact Ar11.1) (State.isArrayOf_alike hZ.alike Ar11.2.1) rfl Ar11.2.2 hin11 (H11.at hin11 rfl) (g := (mkF m 16 (LA2 xs ar w8) [(.int (2 : Int32)), (.ref ar)])) rfl rfl (hb hby d13_16)) ?_
      refine Goes.to (T' := T9.setTop (mkF m 19 (LA2 xs ar w9) [])) (fun t k => XS.astore X9.here hx rfl (hb hby d13_17) rfl rfl (l' := (LA2 xs ar w9)) rfl k) ?_
      refine Goes.to (T' := T9.setTop (mkF m 21 (LA2 xs ar w9) [(.ref w9)])) (fun t k => XS.aload X9.here hx rfl (hb hby d13_19) rfl rfl k) ?_
      obtain ⟨T12, X12, e12, st12⟩ := getF X9 hx hZ hown (host := "") (Or.inl (wi hw 83 rfl)) Via.refl e9 (F_listName_w9.ext O0.2) (g := (mkF m 21 (LA2 xs ar w9) [(.ref w9)])) rfl rfl (hb hby d13_21)
      refine Goes.to (T' := T12.setTop (mkF m 24 (LA2 xs ar w9) [(.ref w5)])) st12 ?_
      refine Goes.to (T' := T12.setTop (mkF m 25 (LA2 xs ar w9) [(.ref xs), (.ref w5)])) (fun t k => XS.aloadN X12.here hx rfl (hb hby d13_24) rfl rfl k) ?_
      obtain ⟨cq13, kq13, q13a, q13b, q13c⟩ := isOf hZ e12 (E_w5.ext O0.2)
      obtain ⟨_, _, ⟨T13, L13, k13, n13⟩, -, X13, ⟨Lc13, hQ13, l13, y13, z13⟩, st13⟩ := X12.virtualBack hx (y := (⟨"java/lang/String", "equals", "(Ljava/lang/Object;)Z"⟩ : MethodName)) (z := (⟨"java/lang/String", "equals", "(Ljava/lang/Object;)Z"⟩ : MethodName)) hown (mvT hZ (wi hw 85 rfl)) (mvT hZ (wi hw 86 rfl)) (notFace_of_selects (args := #[]) (mvT hZ (wi hw 88 rfl))) (mvT hZ (wi hw 88 rfl)) (mvT hZ (wi hw 87 rfl)) (by decide) (backOf (W := 0) (rmE5 hw w5 xs w2 sv k_w2 ks (115 : Int32) (105 : Int32) (116 : Int32) (101 : Int32) (115 : Int32) y0_ y1_ y2_ y3_ y4_ (if (115 : Int32) = y0_ ∧ (105 : Int32) = y1_ ∧ (116 : Int32) = y2_ ∧ (101 : Int32) = y3_ ∧ (115 : Int32) = y4_ then (1 : Int32) else 0) T1.heap n0 O0 NF (E_w5.ext O0.2) (F_coder_w5.ext O0.2) (F_value_w5.ext O0.2) E_xs F_coder_xs F_value_xs (V_w2.ext O0.2) V_sv (O0.ne E_w5.lt g_xs) rfl) hZ (wi hw 89 rfl) (wi hw 2 rfl) (by decide) (by decide)) q13a q13c (g := (mkF m 25 (LA2 xs ar w9) [(.ref xs), (.ref w5)])) rfl (by rw [hml]; rfl) (Steps.refl _) (argsL := [(.ref xs)]) (rest := []) (lenOf pd_142 rfl) rfl (by show 2 * 0 + _ ≤ _; exact Nat.le_of_eq rfl) (hb hby d13_25) (fun _ _ => ⟨rfl, e12, (by decide : 1 + 0 ≤ _), (by decide : 3 + 0 ≤ _)⟩)
      dsimp only [Pt.U, Pt.locs, Pt.cells, Pt.slots] at X13 l13 y13 z13 st13 hQ13
      subst l13 y13 z13
      obtain ⟨rfl, Nq13, e13⟩ := hQ13
      have N13 := Fr.app N9 Nq13
      refine Goes.thru (T' := T13.setTop (mkF m 28 (LA2 xs ar w9) [(.int (if (115 : Int32) = y0_ ∧ (105 : Int32) = y1_ ∧ (116 : Int32) = y2_ ∧ (101 : Int32) = y3_ ∧ (115 : Int32) = y4_ then (1 : Int32) else 0))])) st13 ?_
      rcases Decidable.em ((115 : Int32) = y0_ ∧ (105 : Int32) = y1_ ∧ (116 : Int32) = y2_ ∧ (101 : Int32) = y3_ ∧ (115 : Int32) = y4_) with hs14 | hs14
      · rw [if_pos hs14]
        refine Goes.to (T' := T13.setTop (mkF m 31 (LA2 xs ar w9) [])) (fun t k => XS.ifNo X13.here hx rfl (hb hby d13_28) rfl ((if0 _ _).trans (feq (by decide)).1) k) ?_
        refine Goes.to (T' := T13.setTop (mkF m 33 (LA2 xs ar w9) [(.ref w9)])) (fun t k => XS.aload X13.here hx rfl (hb hby d13_31) rfl rfl k) ?_
        obtain ⟨fs, hrL, hrun, hended, hW, hsame⟩ := X13.leave (v := some (.ref w9)) (fun h => by rw [Bd.returns] at h; cases h)
        subst hQf
        refine ⟨_, _, retOut X13 hx Bd.returns rfl (Or.inr (Or.inr (Or.inr (Or.inr ⟨rfl, rfl, rfl⟩)))) (hb hby d13_33) hrL, hrun, hended, _, _, rfl, ?_, ⟨_, rfl⟩, hW, hsame.mono (by decide) (by decide)⟩
        show Q_rmO5 r h0 n0 (some (.ref w9)) T13.heap _
        rw [e13]
        have hv : r = Value.ref w9 := hr.trans ((if_neg hs6).trans ((if_neg hs10).trans (if_pos hs14)))
        exact ⟨by rw [hv], N13, own_ext_keep K0⟩
      · rw [if_neg hs14]
        refine Goes.to (T' := T13.setTop (mkF m 34 (LA2 xs ar w9) [])) (fun t k => XS.ifYes X13.here hx rfl (pc0 := 28) (pc' := 34) rfl (hb hby d13_28) rfl ((if0 _ _).trans (teq (by decide)).1) (by decide) (by decide) k) ?_
        refine Goes.to (T' := T13.setTop (mkF m 37 #[.val (.ref xs), .val (.ref ar), .val (.int (3 : Int32)), .val (.int ((2 : Int32) + (1 : Int32))), .val (.ref w9)] [])) (fun t k => XS.iinc X13.here hx rfl (hb hby d13_34) rfl (l' := #[.val (.ref xs), .val (.ref ar), .val (.int (3 : Int32)), .val (.int ((2 : Int32) + (1 : Int32))), .val (.ref w9)]) rfl k) ?_
        rw [show ((2 : Int32) + (1 : Int32)) = (3 : Int32) from by decide +kernel]
        refine Goes.to (T' := T13.setTop (mkF m 9 (LA3 xs ar w9) [])) (fun t k => XS.goto X13.here hx rfl (pc0 := 37) (pc' := 9) rfl (hb hby d13_37) (by decide) (by decide) k) ?_
        refine Goes.to (T' := T13.setTop (mkF m 10 (LA3 xs ar w9) [(.int (3 : Int32))])) (fun t k => XS.iloadN X13.here hx rfl (hb hby d13_9) rfl k) ?_
        refine Goes.to (T' := T13.setTop (mkF m 11 (LA3 xs ar w9) [(.int (3 : Int32)), (.int (3 : Int32))])) (fun t k => XS.iloadN X13.here hx rfl (hb hby d13_10) rfl k) ?_
        refine Goes.to (T' := T13.setTop (mkF m 40 (LA3 xs ar w9) [])) (fun t k => XS.icmpYes X13.here hx rfl (pc0 := 11) (pc' := 40) rfl (hb hby d13_11) rfl (flt (by decide)).2.1 (by decide) (by decide) k) ?_
        refine Goes.to (T' := T13.setTop (mkF m 41 (LA3 xs ar w9) [.null])) (fun t k => XS.aconstNull X13.here hx rfl (hb hby d13_40) k) ?_
        obtain ⟨fs, hrL, hrun, hended, hW, hsame⟩ := X13.leave (v := some .null) (fun h => by rw [Bd.returns] at h; cases h)
        subst hQf
        refine ⟨_, _, retOut X13 hx Bd.returns rfl (Or.inr (Or.inr (Or.inr (Or.inr ⟨rfl, rfl, rfl⟩)))) (hb hby d13_41) hrL, hrun, hended, _, _, rfl, ?_, ⟨_, rfl⟩, hW, hsame.mono (by decide) (by decide)⟩
        show Q_rmO5 r h0 n0 (some .null) T13.heap _
        rw [e13]
        have hv : r = Value.null := hr.trans ((if_neg hs6).trans ((if_neg hs10).trans (if_neg hs14)))
        exact ⟨by rw [hv], N13, own_ext_keep K0⟩
def Q_rmOn  (h0 : Heap) (n0 : Nat) (v : Option Value) (h : Heap) (L : List Loc) : Prop := v = some .null ∧ Fr n0 L ∧ Ext h0 h
theorem rmOn (hw : HW a0 Z) (xs : Addr) (sv : Addr) (ks : ClassId) (zz : Int32) (vsx : List Value) (h0 : Heap) (n0 : Nat) (O0 : Old Z n0 h0) (NF : Nar Z w6 w7 w8 w9 w3 w0 w4 w1 w5 w2 k_w6 k_w0 k_w1 k_w2 z_cs fm) (E_xs : Exa Z h0 xs "java/lang/String") (F_coder_xs : Fld Z h0 xs "java/lang/String" "coder" "B" (.int (0 : Int32))) (F_value_xs : Fld Z h0 xs "java/lang/String" "value" "[B" (.ref sv)) (V_sv : Arv Z h0 sv ks .byte zz vsx (.int (0 : Int32))) (g_xs : n0 ≤ xs) (hz5 : ¬ (5 : Int32) = zz) :
    Con l Z (⟨"com/example/issuer/issuer/blocklist/EntryKind", "ofList", "(Ljava/lang/String;)Lcom/example/issuer/issuer/blocklist/EntryKind;"⟩ : MethodName) prog_1_method_4_code 5 (some (.object "com/example/issuer/issuer/blocklist/EntryKind")) ws ({ frames := 3, cells := 1, slots := 3, locals := 90 } : Room) #[(.ref xs)] h0 (Q_rmOn  h0 n0) := by
  refine Con.body (own := "com/example/issuer/issuer/blocklist/EntryKind") rfl (plainFor_of_name pn_13) (fun m => ef_rmO5 m _) ?_
  intro p e s m below meth c s₁ Bd hx hby hml hZ hown X0 e0 Qf hQf
  have N0 := Fr.nil n0
  have K0 := Keep.refl h0 []
  obtain ⟨S_w6, E_w6, S_w7, E_w7, S_w8, E_w8, S_w9, E_w9, F_listName_w7, E_w3, F_value_w3, F_listName_w8, E_w4, F_value_w4, F_listName_w9, E_w5, F_value_w5, F_coder_w3, F_coder_w4, F_coder_w5, V_w6, V_w0, V_w1, V_w2, S_cs, nz_cs, S_fm, rf⟩ := id NF
  obtain ⟨_, _, ⟨T1, L1, k1, n1⟩, -, X1, ⟨Lc1, hQ1, l1, y1, z1⟩, st1⟩ := Jvm.LawKit.callS X0 hx (y := (⟨"com/example/issuer/issuer/blocklist/EntryKind", "values", "()[Lcom/example/issuer/issuer/blocklist/EntryKind;"⟩ : MethodName)) hown (mvT hZ (wi hw 65 rfl)) (mvT hZ (wi hw 66 rfl)) (mvT hZ (wi hw 63 rfl)) (mvT hZ (wi hw 67 rfl)) (by decide) (backOf (W := 0) (rmVs hw   h0 n0 O0 NF ) hZ (wi hw 67 rfl) (wi hw 63 rfl) (by decide) (by decide)) (g := (mkF m 0 #[.val (.ref xs), .unset, .unset, .unset, .unset] [])) rfl (by rw [hml]; rfl) (argsL := []) (rest := []) (lenOf pd_140 rfl) rfl (by show 2 * 0 + _ ≤ _; exact Nat.le_of_eq rfl) (hb hby d13_0) (fun _ _ => ⟨rfl, e0, (by decide : 0 + 1 ≤ _), (by decide : 0 + 3 ≤ _)⟩)
  dsimp only [Pt.U, Pt.locs, Pt.cells, Pt.slots] at X1 l1 y1 z1 st1 hQ1
  subst l1 y1 z1
  obtain ⟨⟨ar, rfl, ga1, sa1, V1⟩, Nq1, Ex1⟩ := hQ1
  have N1 := Fr.app N0 Nq1
  have g_ar : n0 ≤ ar := ga1
  have sz_ar : h0.size ≤ ar := Nat.le_trans K0.1 sa1
  have ne_xs_ar : xs ≠ ar := Nat.ne_of_lt (Nat.lt_of_lt_of_le E_xs.lt sa1)
  have ne_ar_xs := Ne.symm ne_xs_ar
  have ne_sv_ar : sv ≠ ar := Nat.ne_of_lt (Nat.lt_of_lt_of_le V_sv.lt sa1)
  have ne_ar_sv := Ne.symm ne_sv_ar
  have E_xs := E_xs.ext Ex1
  have F_coder_xs := F_coder_xs.ext Ex1
  have F_value_xs := F_value_xs.ext Ex1
  have V_sv := V_sv.ext Ex1
  have O0 := O0.ext Ex1
  have K0 := K0.ext Ex1
  have V_ar := V1
  refine Goes.to (T' := T1.setTop (mkF m 3 #[.val (.ref xs), .unset, .unset, .unset, .unset] [(.ref ar)])) st1 ?_
  refine Goes.to (T' := T1.setTop (mkF m 4 #[.val (.ref xs), .val (.ref ar), .unset, .unset, .unset] [])) (fun t k => XS.astoreN X1.here hx rfl (hb hby d13_3) rfl rfl (l' := #[.val (.ref xs), .val (.ref ar), .unset, .unset, .unset]) rfl k) ?_
  refine Goes.to (T' := T1.setTop (mkF m 5 #[.val (.ref xs), .val (.ref ar), .unset, .unset, .unset] [(.ref ar)])) (fun t k => XS.aloadN X1.here hx rfl (hb hby d13_4) rfl rfl k) ?_
  obtain ⟨cl2, Ar2, q2, S2, Ng2, H2, G2⟩ := id V_ar
  refine Goes.to (T' := T1.setTop (mkF m 6 #[.val (.ref xs), .val (.ref ar), .unset, .unset, .unset] [(.int (3 : Int32))])) (fun t k => X1.arraylength hx Ar2.1 (State.isArrayOf_alike hZ.alike Ar2.2.1) (g := (mkF m 5 #[.val (.ref xs), .val (.ref ar), .unset, .unset, .unset] [(.ref ar)])) rfl rfl (hb hby d13_5) _ (by rw [len_of S2 Ng2]; exact k)) ?_
  refine Goes.to (T' := T1.setTop (mkF m 7 #[.val (.ref xs), .val (.ref ar), .val (.int (3 : Int32)), .unset, .unset] [])) (fun t k => XS.istoreN X1.here hx rfl (hb hby d13_6) rfl (l' := #[.val (.ref xs), .val (.ref ar), .val (.int (3 : Int32)), .unset, .unset]) rfl k) ?_
  refine Goes.to (T' := T1.setTop (mkF m 8 #[.val (.ref xs), .val (.ref ar), .val (.int (3 : Int32)), .unset, .unset] [(.int (0 : Int32))])) (fun t k => XS.iconst X1.here hx rfl (hb hby d13_7) k) ?_
  refine Goes.to (T' := T1.setTop (mkF m 9 #[.val (.ref xs), .val (.ref ar), .val (.int (3 : Int32)), .val (.int (0 : Int32)), .unset] [])) (fun t k => XS.istoreN X1.here hx rfl (hb hby d13_8) rfl (l' := #[.val (.ref xs), .val (.ref ar), .val (.int (3 : Int32)), .val (.int (0 : Int32)), .unset]) rfl k) ?_
  refine Goes.to (T' := T1.setTop (mkF m 10 #[.val (.ref xs), .val (.ref ar), .val (.int (3 : Int32)), .val (.int (0 : Int32)), .unset] [(.int (0 : Int32))])) (fun t k => XS.iloadN X1.here hx rfl (hb hby d13_9) rfl k) ?_
  refine Goes.to (T' := T1.setTop (mkF m 11 #[.val (.ref xs), .val (.ref ar), .val (.int (3 : Int32)), .val (.int (0 : Int32)), .unset] [(.int (3 : Int32)), (.int (0 : Int32))])) (fun t k => XS.iloadN X1.here hx rfl (hb hby d13_10) rfl k) ?_
  refine Goes.to (T' := T1.setTop (mkF m 14 #[.val (.ref xs), .val (.ref ar), .val (.int (3 : Int32)), .val (.int (0 : Int32)), .unset] [])) (fun t k => XS.icmpNo X1.here hx rfl (hb hby d13_11) rfl (tlt (by decide)).2.1 k) ?_
  refine Goes.to (T' := T1.setTop (mkF m 15 #[.val (.ref xs), .val (.ref ar), .val (.int (3 : Int32)), .val (.int (0 : Int32)), .unset] [(.ref ar)])) (fun t k => XS.aloadN X1.here hx rfl (hb hby d13_14) rfl rfl k) ?_
  refine Goes.to (T' := T1.setTop (mkF m 16 #[.val (.ref xs), .val (.ref ar), .val (.int (3 : Int32)), .val (.int (0 : Int32)), .unset] [(.int (0 : Int32)), (.ref ar)])) (fun t k => XS.iloadN X1.here hx rfl (hb hby d13_15) rfl k) ?_
  obtain ⟨cl3, Ar3, q3, S3, Ng3, H3, G3⟩ := id V_ar
  have hin3 : ¬ ((0 : Int32) < 0 ∨ cl3.slots.size ≤ ((0 : Int32)).toNatClampNeg) := inb_of S3 ⟨by decide, by decide⟩
  refine Goes.to (T' := T1.setTop (mkF m 17 #[.val (.ref xs), .val (.ref ar), .val (.int (3 : Int32)), .val (.int (0 : Int32)), .unset] [(.ref w7)])) (X1.aaload hx (j := (0 : Int32)) (v := (.ref w7)) Ar3.1 (State.isArrayOf_alike hZ.alike Ar3.2.1) rfl Ar3.2.2 hin3 (H3.at hin3 rfl) (g := (mkF m 16 #[.val (.ref xs), .val (.ref ar), .val (.int (3 : Int32)), .val (.int (0 : Int32)), .unset] [(.int (0 : Int32)), (.ref ar)])) rfl rfl (hb hby d13_16)) ?_
  refine Goes.to (T' := T1.setTop (mkF m 19 (LA0 xs ar w7) [])) (fun t k => XS.astore X1.here hx rfl (hb hby d13_17) rfl rfl (l' := (LA0 xs ar w7)) rfl k) ?_
  refine Goes.to (T' := T1.setTop (mkF m 21 (LA0 xs ar w7) [(.ref w7)])) (fun t k => XS.aload X1.here hx rfl (hb hby d13_19) rfl rfl k) ?_
  obtain ⟨T4, X4, e4, st4⟩ := getF X1 hx hZ hown (host := "") (Or.inl (wi hw 83 rfl)) Via.refl rfl (F_listName_w7.ext O0.2) (g := (mkF m 21 (LA0 xs ar w7) [(.ref w7)])) rfl rfl (hb hby d13_21)
  refine Goes.to (T' := T4.setTop (mkF m 24 (LA0 xs ar w7) [(.ref w3)])) st4 ?_
  refine Goes.to (T' := T4.setTop (mkF m 25 (LA0 xs ar w7) [(.ref xs), (.ref w3)])) (fun t k => XS.aloadN X4.here hx rfl (hb hby d13_24) rfl rfl k) ?_
  obtain ⟨cq5, kq5, q5a, q5b, q5c⟩ := isOf hZ e4 (E_w3.ext O0.2)
  obtain ⟨_, _, ⟨T5, L5, k5, n5⟩, -, X5, ⟨Lc5, hQ5, l5, y5, z5⟩, st5⟩ := X4.virtualBack hx (y := (⟨"java/lang/String", "equals", "(Ljava/lang/Object;)Z"⟩ : MethodName)) (z := (⟨"java/lang/String", "equals", "(Ljava/lang/Object;)Z"⟩ : MethodName)) hown (mvT hZ (wi hw 85 rfl)) (mvT hZ (wi hw 86 rfl)) (notFace_of_selects (args := #[]) (mvT hZ (wi hw 88 rfl))) (mvT hZ (wi hw 88 rfl)) (mvT hZ (wi hw 87 rfl)) (by decide) (backOf (W := 0) (rmEn hw w3 xs w0 sv k_w0 ks (99 : Int32) (97 : Int32) (114 : Int32) (100 : Int32) (115 : Int32) zz vsx T1.heap n0 O0 NF (E_w3.ext O0.2) (F_coder_w3.ext O0.2) (F_value_w3.ext O0.2) E_xs F_coder_xs F_value_xs (V_w0.ext O0.2) V_sv (O0.ne E_w3.lt g_xs) hz5) hZ (wi hw 89 rfl) (wi hw 2 rfl) (by decide) (by decide)) q5a q5c (g := (mkF m 25 (LA0 xs ar w7) [(.ref xs), (.ref w3)])) rfl (by rw [hml]; rfl) (Steps.refl _) (argsL := [(.ref xs)]) (rest := []) (lenOf pd_142 rfl) rfl (by show 2 * 0 + _ ≤ _; exact Nat.le_of_eq rfl) (hb hby d13_25) (fun _ _ => ⟨rfl, e4, (by decide : 1 + 0 ≤ _), (by decide : 3 + 0 ≤ _)⟩)
  dsimp only [Pt.U, Pt.locs, Pt.cells, Pt.slots] at X5 l5 y5 z5 st5 hQ5
  subst l5 y5 z5
  obtain ⟨rfl, Nq5, e5⟩ := hQ5
  have N5 := Fr.app N1 Nq5
  refine Goes.thru (T' := T5.setTop (mkF m 28 (LA0 xs ar w7) [(.int (0 : Int32))])) st5 ?_
  refine Goes.to (T' := T5.setTop (mkF m 34 (LA0 xs ar w7) [])) (fun t k => XS.ifYes X5.here hx rfl (pc0 := 28) (pc' := 34) rfl (hb hby d13_28) rfl ((if0 _ _).trans (teq (by decide)).1) (by decide) (by decide) k) ?_
  refine Goes.to (T' := T5.setTop (mkF m 37 #[.val (.ref xs), .val (.ref ar), .val (.int (3 : Int32)), .val (.int ((0 : Int32) + (1 : Int32))), .val (.ref w7)] [])) (fun t k => XS.iinc X5.here hx rfl (hb hby d13_34) rfl (l' := #[.val (.ref xs), .val (.ref ar), .val (.int (3 : Int32)), .val (.int ((0 : Int32) + (1 : Int32))), .val (.ref w7)]) rfl k) ?_
  rw [show ((0 : Int32) + (1 : Int32)) = (1 : Int32) from by decide +kernel]
  refine Goes.to (T' := T5.setTop (mkF m 9 (LA1 xs ar w7) [])) (fun t k => XS.goto X5.here hx rfl (pc0 := 37) (pc' := 9) rfl (hb hby d13_37) (by decide) (by decide) k) ?_
  refine Goes.to (T' := T5.setTop (mkF m 10 (LA1 xs ar w7) [(.int (1 : Int32))])) (fun t k => XS.iloadN X5.here hx rfl (hb hby d13_9) rfl k) ?_
  refine Goes.to (T' := T5.setTop (mkF m 11 (LA1 xs ar w7) [(.int (3 : Int32)), (.int (1 : Int32))])) (fun t k => XS.iloadN X5.here hx rfl (hb hby d13_10) rfl k) ?_
  refine Goes.to (T' := T5.setTop (mkF m 14 (LA1 xs ar w7) [])) (fun t k => XS.icmpNo X5.here hx rfl (hb hby d13_11) rfl (tlt (by decide)).2.1 k) ?_
  refine Goes.to (T' := T5.setTop (mkF m 15 (LA1 xs ar w7) [(.ref ar)])) (fun t k => XS.aloadN X5.here hx rfl (hb hby d13_14) rfl rfl k) ?_
  refine Goes.to (T' := T5.setTop (mkF m 16 (LA1 xs ar w7) [(.int (1 : Int32)), (.ref ar)])) (fun t k => XS.iloadN X5.here hx rfl (hb hby d13_15) rfl k) ?_
  obtain ⟨cl6, Ar6, q6, S6, Ng6, H6, G6⟩ := id V_ar
  have hin6 : ¬ ((1 : Int32) < 0 ∨ cl6.slots.size ≤ ((1 : Int32)).toNatClampNeg) := inb_of S6 ⟨by decide, by decide⟩
  refine Goes.to (T' := T5.setTop (mkF m 17 (LA1 xs ar w7) [(.ref w8)])) (X5.aaload hx (j := (1 : Int32)) (v := (.ref w8)) (by rw [e5]; exact Ar6.1) (State.isArrayOf_alike hZ.alike Ar6.2.1) rfl Ar6.2.2 hin6 (H6.at hin6 rfl) (g := (mkF m 16 (LA1 xs ar w7) [(.int (1 : Int32)), (.ref ar)])) rfl rfl (hb hby d13_16)) ?_
  refine Goes.to (T' := T5.setTop (mkF m 19 (LA1 xs ar w8) [])) (fun t k => XS.astore X5.here hx rfl (hb hby d13_17) rfl rfl (l' := (LA1 xs ar w8)) rfl k) ?_
  refine Goes.to (T' := T5.setTop (mkF m 21 (LA1 xs ar w8) [(.ref w8)])) (fun t k => XS.aload X5.here hx rfl (hb hby d13_19) rfl rfl k) ?_
  obtain ⟨T7, X7, e7, st7⟩ := getF X5 hx hZ hown (host := "") (Or.inl (wi hw 83 rfl)) Via.refl e5 (F_listName_w8.ext O0.2) (g := (mkF m 21 (LA1 xs ar w8) [(.ref w8)])) rfl rfl (hb hby d13_21)
  refine Goes.to (T' := T7.setTop (mkF m 24 (LA1 xs ar w8) [(.ref w4)])) st7 ?_
  refine Goes.to (T' := T7.setTop (mkF m 25 (LA1 xs ar w8) [(.ref xs), (.ref w4)])) (fun t k => XS.aloadN X7.here hx rfl (hb hby d13_24) rfl rfl k) ?_
  obtain ⟨cq8, kq8, q8a, q8b, q8c⟩ := isOf hZ e7 (E_w4.ext O0.2)
  obtain ⟨_, _, ⟨T8, L8, k8, n8⟩, -, X8, ⟨Lc8, hQ8, l8, y8, z8⟩, st8⟩ := X7.virtualBack hx (y := (⟨"java/lang/String", "equals", "(Ljava/lang/Object;)Z"⟩ : MethodName)) (z := (⟨"java/lang/String", "equals", "(Ljava/lang/Object;)Z"⟩ : MethodName)) hown (mvT hZ (wi hw 85 rfl)) (mvT hZ (wi hw 86 rfl)) (notFace_of_selects (args := #[]) (mvT hZ (wi hw 88 rfl))) (mvT hZ (wi hw 88 rfl)) (mvT hZ (wi hw 87 rfl)) (by decide) (backOf (W := 0) (rmEn hw w4 xs w1 sv k_w1 ks (117 : Int32) (115 : Int32) (101 : Int32) (114 : Int32) (115 : Int32) zz vsx T1.heap n0 O0 NF (E_w4.ext O0.2) (F_coder_w4.ext O0.2) (F_value_w4.ext O0.2) E_xs F_coder_xs F_value_xs (V_w1.ext O0.2) V_sv (O0.ne E_w4.lt g_xs) hz5) hZ (wi hw 89 rfl) (wi hw 2 rfl) (by decide) (by decide)) q8a q8c (g := (mkF m 25 (LA1 xs ar w8) [(.ref xs), (.ref w4)])) rfl (by rw [hml]; rfl) (Steps.refl _) (argsL := [(.ref xs)]) (rest := []) (lenOf pd_142 rfl) rfl (by show 2 * 0 + _ ≤ _; exact Nat.le_of_eq rfl) (hb hby d13_25) (fun _ _ => ⟨rfl, e7, (by decide : 1 + 0 ≤ _), (by decide : 3 + 0 ≤ _)⟩)
  dsimp only [Pt.U, Pt.locs, Pt.cells, Pt.slots] at X8 l8 y8 z8 st8 hQ8
  subst l8 y8 z8
  obtain ⟨rfl, Nq8, e8⟩ := hQ8
  have N8 := Fr.app N5 Nq8
  refine Goes.thru (T' := T8.setTop (mkF m 28 (LA1 xs ar w8) [(.int (0 : Int32))])) st8 ?_
  refine Goes.to (T' := T8.setTop (mkF m 34 (LA1 xs ar w8) [])) (fun t k => XS.ifYes X8.here hx rfl (pc0 := 28) (pc' := 34) rfl (hb hby d13_28) rfl ((if0 _ _).trans (teq (by decide)).1) (by decide) (by decide) k) ?_
  refine Goes.to (T' := T8.setTop (mkF m 37 #[.val (.ref xs), .val (.ref ar), .val (.int (3 : Int32)), .val (.int ((1 : Int32) + (1 : Int32))), .val (.ref w8)] [])) (fun t k => XS.iinc X8.here hx rfl (hb hby d13_34) rfl (l' := #[.val (.ref xs), .val (.ref ar), .val (.int (3 : Int32)), .val (.int ((1 : Int32) + (1 : Int32))), .val (.ref w8)]) rfl k) ?_
  rw [show ((1 : Int32) + (1 : Int32)) = (2 : Int32) from by decide +kernel]
  refine Goes.to (T' := T8.setTop (mkF m 9 (LA2 xs ar w8) [])) (fun t k => XS.goto X8.here hx rfl (pc0 := 37) (pc' := 9) rfl (hb hby d13_37) (by decide) (by decide) k) ?_
  refine Goes.to (T' := T8.setTop (mkF m 10 (LA2 xs ar w8) [(.int (2 : Int32))])) (fun t k => XS.iloadN X8.here hx rfl (hb hby d13_9) rfl k) ?_
  refine Goes.to (T' := T8.setTop (mkF m 11 (LA2 xs ar w8) [(.int (3 : Int32)), (.int (2 : Int32))])) (fun t k => XS.iloadN X8.here hx rfl (hb hby d13_10) rfl k) ?_
  refine Goes.to (T' := T8.setTop (mkF m 14 (LA2 xs ar w8) [])) (fun t k => XS.icmpNo X8.here hx rfl (hb hby d13_11) rfl (tlt (by decide)).2.1 k) ?_
  refine Goes.to (T' := T8.setTop (mkF m 15 (LA2 xs ar w8) [(.ref ar)])) (fun t k => XS.aloadN X8.here hx rfl (hb hby d13_14) rfl rfl k) ?_
  refine Goes.to (T' := T8.setTop (mkF m 16 (LA2 xs ar w8) [(.int (2 : Int32)), (.ref ar)])) (fun t k => XS.iloadN X8.here hx rfl (hb hby d13_15) rfl k) ?_
  obtain ⟨cl9, Ar9, q9, S9, Ng9, H9, G9⟩ := id V_ar
  have hin9 : ¬ ((2 : Int32) < 0 ∨ cl9.slots.size ≤ ((2 : Int32)).toNatClampNeg) := inb_of S9 ⟨by decide, by decide⟩
  refine Goes.to (T' := T8.setTop (mkF m 17 (LA2 xs ar w8) [(.ref w9)])) (X8.aaload hx (j := (2 : Int32)) (v := (.ref w9)) (by rw [e8]; exact Ar9.1) (State.isArrayOf_alike hZ.alike Ar9.2.1) rfl Ar9.2.2 hin9 (H9.at hin9 rfl) (g := (mkF m 16 (LA2 xs ar w8) [(.int (2 : Int32)), (.ref ar)])) rfl rfl (hb hby d13_16)) ?_
  refine Goes.to (T' := T8.setTop (mkF m 19 (LA2 xs ar w9) [])) (fun t k => XS.astore X8.here hx rfl (hb hby d13_17) rfl rfl (l' := (LA2 xs ar w9)) rfl k) ?_
  refine Goes.to (T' := T8.setTop (mkF m 21 (LA2 xs ar w9) [(.ref w9)])) (fun t k => XS.aload X8.here hx rfl (hb hby d13_19) rfl rfl k) ?_
  obtain ⟨T10, X10, e10, st10⟩ := getF X8 hx hZ hown (host := "") (Or.inl (wi hw 83 rfl)) Via.refl e8 (F_listName_w9.ext O0.2) (g := (mkF m 21 (LA2 xs ar w9) [(.ref w9)])) rfl rfl (hb hby d13_21)
  refine Goes.to (T' := T10.setTop (mkF m 24 (LA2 xs ar w9) [(.ref w5)])) st10 ?_
  refine Goes.to (T' := T10.setTop (mkF m 25 (LA2 xs ar w9) [(.ref xs), (.ref w5)])) (fun t k => XS.aloadN X10.here hx rfl (hb hby d13_24) rfl rfl k) ?_
  obtain ⟨cq11, kq11, q11a, q11b, q11c⟩ := isOf hZ e10 (E_w5.ext O0.2)
  obtain ⟨_, _, ⟨T11, L11, k11, n11⟩, -, X11, ⟨Lc11, hQ11, l11, y11, z11⟩, st11⟩ := X10.virtualBack hx (y := (⟨"java/lang/String", "equals", "(Ljava/lang/Object;)Z"⟩ : MethodName)) (z := (⟨"java/lang/String", "equals", "(Ljava/lang/Object;)Z"⟩ : MethodName)) hown (mvT hZ (wi hw 85 rfl)) (mvT hZ (wi hw 86 rfl)) (notFace_of_selects (args := #[]) (mvT hZ (wi hw 88 rfl))) (mvT hZ (wi hw 88 rfl)) (mvT hZ (wi hw 87 rfl)) (by decide) (backOf (W := 0) (rmEn hw w5 xs w2 sv k_w2 ks (115 : Int32) (105 : Int32) (116 : Int32) (101 : Int32) (115 : Int32) zz vsx T1.heap n0 O0 NF (E_w5.ext O0.2) (F_coder_w5.ext O0.2) (F_value_w5.ext O0.2) E_xs F_coder_xs F_value_xs (V_w2.ext O0.2) V_sv (O0.ne E_w5.lt g_xs) hz5) hZ (wi hw 89 rfl) (wi hw 2 rfl) (by decide) (by decide)) q11a q11c (g := (mkF m 25 (LA2 xs ar w9) [(.ref xs), (.ref w5)])) rfl (by rw [hml]; rfl) (Steps.refl _) (argsL := [(.ref xs)]) (rest := []) (lenOf pd_142 rfl) rfl (by show 2 * 0 + _ ≤ _; exact Nat.le_of_eq rfl) (hb hby d13_25) (fun _ _ => ⟨rfl, e10, (by decide : 1 + 0 ≤ _), (by decide : 3 + 0 ≤ _)⟩)
  dsimp only [Pt.U, Pt.locs, Pt.cells, Pt.slots] at X11 l11 y11 z11 st11 hQ11
  subst l11 y11 z11
  obtain ⟨rfl, Nq11, e11⟩ := hQ11
  have N11 := Fr.app N8 Nq11
  refine Goes.thru (T' := T11.setTop (mkF m 28 (LA2 xs ar w9) [(.int (0 : Int32))])) st11 ?_
  refine Goes.to (T' := T11.setTop (mkF m 34 (LA2 xs ar w9) [])) (fun t k => XS.ifYes X11.here hx rfl (pc0 := 28) (pc' := 34) rfl (hb hby d13_28) rfl ((if0 _ _).trans (teq (by decide)).1) (by decide) (by decide) k) ?_
  refine Goes.to (T' := T11.setTop (mkF m 37 #[.val (.ref xs), .val (.ref ar), .val (.int (3 : Int32)), .val (.int ((2 : Int32) + (1 : Int32))), .val (.ref w9)] [])) (fun t k => XS.iinc X11.here hx rfl (hb hby d13_34) rfl (l' := #[.val (.ref xs), .val (.ref ar), .val (.int (3 : Int32)), .val (.int ((2 : Int32) + (1 : Int32))), .val (.ref w9)]) rfl k) ?_
  rw [show ((2 : Int32) + (1 : Int32)) = (3 : Int32) from by decide +kernel]
  refine Goes.to (T' := T11.setTop (mkF m 9 (LA3 xs ar w9) [])) (fun t k => XS.goto X11.here hx rfl (pc0 := 37) (pc' := 9) rfl (hb hby d13_37) (by decide) (by decide) k) ?_
  refine Goes.to (T' := T11.setTop (mkF m 10 (LA3 xs ar w9) [(.int (3 : Int32))])) (fun t k => XS.iloadN X11.here hx rfl (hb hby d13_9) rfl k) ?_
  refine Goes.to (T' := T11.setTop (mkF m 11 (LA3 xs ar w9) [(.int (3 : Int32)), (.int (3 : Int32))])) (fun t k => XS.iloadN X11.here hx rfl (hb hby d13_10) rfl k) ?_
  refine Goes.to (T' := T11.setTop (mkF m 40 (LA3 xs ar w9) [])) (fun t k => XS.icmpYes X11.here hx rfl (pc0 := 11) (pc' := 40) rfl (hb hby d13_11) rfl (flt (by decide)).2.1 (by decide) (by decide) k) ?_
  refine Goes.to (T' := T11.setTop (mkF m 41 (LA3 xs ar w9) [.null])) (fun t k => XS.aconstNull X11.here hx rfl (hb hby d13_40) k) ?_
  obtain ⟨fs, hrL, hrun, hended, hW, hsame⟩ := X11.leave (v := some .null) (fun h => by rw [Bd.returns] at h; cases h)
  subst hQf
  refine ⟨_, _, retOut X11 hx Bd.returns rfl (Or.inr (Or.inr (Or.inr (Or.inr ⟨rfl, rfl, rfl⟩)))) (hb hby d13_41) hrL, hrun, hended, _, _, rfl, ?_, ⟨_, rfl⟩, hW, hsame.mono (by decide) (by decide)⟩
  show Q_rmOn  h0 n0 (some .null) T11.heap _
  rw [e11]
  exact ⟨rfl, N11, own_ext_keep K0⟩
theorem ef_rmO0 (m : MethodId)  : entryFrame m #[.null] 5 = mkF m 0 #[.val .null, .unset, .unset, .unset, .unset] [] := by first | (simp [entryFrame, mkF, argsToLocals, Value.category]; done) | rfl
def Q_rmO0  (h0 : Heap) (n0 : Nat) (v : Option Value) (h : Heap) (L : List Loc) : Prop := v = some .null ∧ Fr n0 L ∧ Ext h0 h
theorem rmO0 (hw : HW a0 Z)  (h0 : Heap) (n0 : Nat) (O0 : Old Z n0 h0) (NF : Nar Z w6 w7 w8 w9 w3 w0 w4 w1 w5 w2 k_w6 k_w0 k_w1 k_w2 z_cs fm) :
    Con l Z (⟨"com/example/issuer/issuer/blocklist/EntryKind", "ofList", "(Ljava/lang/String;)Lcom/example/issuer/issuer/blocklist/EntryKind;"⟩ : MethodName) prog_1_method_4_code 5 (some (.object "com/example/issuer/issuer/blocklist/EntryKind")) ws ({ frames := 3, cells := 1, slots := 3, locals := 90 } : Room) #[.null] h0 (Q_rmO0  h0 n0) := by
  refine Con.body (own := "com/example/issuer/issuer/blocklist/EntryKind") rfl (plainFor_of_name pn_13) (fun m => ef_rmO0 m ) ?_
  intro p e s m below meth c s₁ Bd hx hby hml hZ hown X0 e0 Qf hQf
  have N0 := Fr.nil n0
  have K0 := Keep.refl h0 []
  obtain ⟨S_w6, E_w6, S_w7, E_w7, S_w8, E_w8, S_w9, E_w9, F_listName_w7, E_w3, F_value_w3, F_listName_w8, E_w4, F_value_w4, F_listName_w9, E_w5, F_value_w5, F_coder_w3, F_coder_w4, F_coder_w5, V_w6, V_w0, V_w1, V_w2, S_cs, nz_cs, S_fm, rf⟩ := id NF
  obtain ⟨_, _, ⟨T1, L1, k1, n1⟩, -, X1, ⟨Lc1, hQ1, l1, y1, z1⟩, st1⟩ := Jvm.LawKit.callS X0 hx (y := (⟨"com/example/issuer/issuer/blocklist/EntryKind", "values", "()[Lcom/example/issuer/issuer/blocklist/EntryKind;"⟩ : MethodName)) hown (mvT hZ (wi hw 65 rfl)) (mvT hZ (wi hw 66 rfl)) (mvT hZ (wi hw 63 rfl)) (mvT hZ (wi hw 67 rfl)) (by decide) (backOf (W := 0) (rmVs hw   h0 n0 O0 NF ) hZ (wi hw 67 rfl) (wi hw 63 rfl) (by decide) (by decide)) (g := (mkF m 0 #[.val .null, .unset, .unset, .unset, .unset] [])) rfl (by rw [hml]; rfl) (argsL := []) (rest := []) (lenOf pd_140 rfl) rfl (by show 2 * 0 + _ ≤ _; exact Nat.le_of_eq rfl) (hb hby d13_0) (fun _ _ => ⟨rfl, e0, (by decide : 0 + 1 ≤ _), (by decide : 0 + 3 ≤ _)⟩)
  dsimp only [Pt.U, Pt.locs, Pt.cells, Pt.slots] at X1 l1 y1 z1 st1 hQ1
  subst l1 y1 z1
  obtain ⟨⟨ar, rfl, ga1, sa1, V1⟩, Nq1, Ex1⟩ := hQ1
  have N1 := Fr.app N0 Nq1
  have g_ar : n0 ≤ ar := ga1
  have sz_ar : h0.size ≤ ar := Nat.le_trans K0.1 sa1
  have O0 := O0.ext Ex1
  have K0 := K0.ext Ex1
  have V_ar := V1
  refine Goes.to (T' := T1.setTop (mkF m 3 #[.val .null, .unset, .unset, .unset, .unset] [(.ref ar)])) st1 ?_
  refine Goes.to (T' := T1.setTop (mkF m 4 #[.val .null, .val (.ref ar), .unset, .unset, .unset] [])) (fun t k => XS.astoreN X1.here hx rfl (hb hby d13_3) rfl rfl (l' := #[.val .null, .val (.ref ar), .unset, .unset, .unset]) rfl k) ?_
  refine Goes.to (T' := T1.setTop (mkF m 5 #[.val .null, .val (.ref ar), .unset, .unset, .unset] [(.ref ar)])) (fun t k => XS.aloadN X1.here hx rfl (hb hby d13_4) rfl rfl k) ?_
  obtain ⟨cl2, Ar2, q2, S2, Ng2, H2, G2⟩ := id V_ar
  refine Goes.to (T' := T1.setTop (mkF m 6 #[.val .null, .val (.ref ar), .unset, .unset, .unset] [(.int (3 : Int32))])) (fun t k => X1.arraylength hx Ar2.1 (State.isArrayOf_alike hZ.alike Ar2.2.1) (g := (mkF m 5 #[.val .null, .val (.ref ar), .unset, .unset, .unset] [(.ref ar)])) rfl rfl (hb hby d13_5) _ (by rw [len_of S2 Ng2]; exact k)) ?_
  refine Goes.to (T' := T1.setTop (mkF m 7 #[.val .null, .val (.ref ar), .val (.int (3 : Int32)), .unset, .unset] [])) (fun t k => XS.istoreN X1.here hx rfl (hb hby d13_6) rfl (l' := #[.val .null, .val (.ref ar), .val (.int (3 : Int32)), .unset, .unset]) rfl k) ?_
  refine Goes.to (T' := T1.setTop (mkF m 8 #[.val .null, .val (.ref ar), .val (.int (3 : Int32)), .unset, .unset] [(.int (0 : Int32))])) (fun t k => XS.iconst X1.here hx rfl (hb hby d13_7) k) ?_
  refine Goes.to (T' := T1.setTop (mkF m 9 #[.val .null, .val (.ref ar), .val (.int (3 : Int32)), .val (.int (0 : Int32)), .unset] [])) (fun t k => XS.istoreN X1.here hx rfl (hb hby d13_8) rfl (l' := #[.val .null, .val (.ref ar), .val (.int (3 : Int32)), .val (.int (0 : Int32)), .unset]) rfl k) ?_
  refine Goes.to (T' := T1.setTop (mkF m 10 #[.val .null, .val (.ref ar), .val (.int (3 : Int32)), .val (.int (0 : Int32)), .unset] [(.int (0 : Int32))])) (fun t k => XS.iloadN X1.here hx rfl (hb hby d13_9) rfl k) ?_
  refine Goes.to (T' := T1.setTop (mkF m 11 #[.val .null, .val (.ref ar), .val (.int (3 : Int32)), .val (.int (0 : Int32)), .unset] [(.int (3 : Int32)), (.int (0 : Int32))])) (fun t k => XS.iloadN X1.here hx rfl (hb hby d13_10) rfl k) ?_
  refine Goes.to (T' := T1.setTop (mkF m 14 #[.val .null, .val (.ref ar), .val (.int (3 : Int32)), .val (.int (0 : Int32)), .unset] [])) (fun t k => XS.icmpNo X1.here hx rfl (hb hby d13_11) rfl (tlt (by decide)).2.1 k) ?_
  refine Goes.to (T' := T1.setTop (mkF m 15 #[.val .null, .val (.ref ar), .val (.int (3 : Int32)), .val (.int (0 : Int32)), .unset] [(.ref ar)])) (fun t k => XS.aloadN X1.here hx rfl (hb hby d13_14) rfl rfl k) ?_
  refine Goes.to (T' := T1.setTop (mkF m 16 #[.val .null, .val (.ref ar), .val (.int (3 : Int32)), .val (.int (0 : Int32)), .unset] [(.int (0 : Int32)), (.ref ar)])) (fun t k => XS.iloadN X1.here hx rfl (hb hby d13_15) rfl k) ?_
  obtain ⟨cl3, Ar3, q3, S3, Ng3, H3, G3⟩ := id V_ar
  have hin3 : ¬ ((0 : Int32) < 0 ∨ cl3.slots.size ≤ ((0 : Int32)).toNatClampNeg) := inb_of S3 ⟨by decide, by decide⟩
  refine Goes.to (T' := T1.setTop (mkF m 17 #[.val .null, .val (.ref ar), .val (.int (3 : Int32)), .val (.int (0 : Int32)), .unset] [(.ref w7)])) (X1.aaload hx (j := (0 : Int32)) (v := (.ref w7)) Ar3.1 (State.isArrayOf_alike hZ.alike Ar3.2.1) rfl Ar3.2.2 hin3 (H3.at hin3 rfl) (g := (mkF m 16 #[.val .null, .val (.ref ar), .val (.int (3 : Int32)), .val (.int (0 : Int32)), .unset] [(.int (0 : Int32)), (.ref ar)])) rfl rfl (hb hby d13_16)) ?_
  refine Goes.to (T' := T1.setTop (mkF m 19 #[.val .null, .val (.ref ar), .val (.int (3 : Int32)), .val (.int (0 : Int32)), .val (.ref w7)] [])) (fun t k => XS.astore X1.here hx rfl (hb hby d13_17) rfl rfl (l' := #[.val .null, .val (.ref ar), .val (.int (3 : Int32)), .val (.int (0 : Int32)), .val (.ref w7)]) rfl k) ?_
  refine Goes.to (T' := T1.setTop (mkF m 21 #[.val .null, .val (.ref ar), .val (.int (3 : Int32)), .val (.int (0 : Int32)), .val (.ref w7)] [(.ref w7)])) (fun t k => XS.aload X1.here hx rfl (hb hby d13_19) rfl rfl k) ?_
  obtain ⟨T4, X4, e4, st4⟩ := getF X1 hx hZ hown (host := "") (Or.inl (wi hw 83 rfl)) Via.refl rfl (F_listName_w7.ext O0.2) (g := (mkF m 21 #[.val .null, .val (.ref ar), .val (.int (3 : Int32)), .val (.int (0 : Int32)), .val (.ref w7)] [(.ref w7)])) rfl rfl (hb hby d13_21)
  refine Goes.to (T' := T4.setTop (mkF m 24 #[.val .null, .val (.ref ar), .val (.int (3 : Int32)), .val (.int (0 : Int32)), .val (.ref w7)] [(.ref w3)])) st4 ?_
  refine Goes.to (T' := T4.setTop (mkF m 25 #[.val .null, .val (.ref ar), .val (.int (3 : Int32)), .val (.int (0 : Int32)), .val (.ref w7)] [.null, (.ref w3)])) (fun t k => XS.aloadN X4.here hx rfl (hb hby d13_24) rfl rfl k) ?_
  obtain ⟨cq5, kq5, q5a, q5b, q5c⟩ := isOf hZ e4 (E_w3.ext O0.2)
  obtain ⟨_, _, ⟨T5, L5, k5, n5⟩, -, X5, ⟨Lc5, hQ5, l5, y5, z5⟩, st5⟩ := X4.virtualBack hx (y := (⟨"java/lang/String", "equals", "(Ljava/lang/Object;)Z"⟩ : MethodName)) (z := (⟨"java/lang/String", "equals", "(Ljava/lang/Object;)Z"⟩ : MethodName)) hown (mvT hZ (wi hw 85 rfl)) (mvT hZ (wi hw 86 rfl)) (notFace_of_selects (args := #[]) (mvT hZ (wi hw 88 rfl))) (mvT hZ (wi hw 88 rfl)) (mvT hZ (wi hw 87 rfl)) (by decide) (backOf (W := 0) (rmE0 hw w3  T1.heap n0 O0 NF ) hZ (wi hw 89 rfl) (wi hw 2 rfl) (by decide) (by decide)) q5a q5c (g := (mkF m 25 #[.val .null, .val (.ref ar), .val (.int (3 : Int32)), .val (.int (0 : Int32)), .val (.ref w7)] [.null, (.ref w3)])) rfl (by rw [hml]; rfl) (Steps.refl _) (argsL := [.null]) (rest := []) (lenOf pd_142 rfl) rfl (by show 2 * 0 + _ ≤ _; exact Nat.le_of_eq rfl) (hb hby d13_25) (fun _ _ => ⟨rfl, e4, (by decide : 1 + 0 ≤ _), (by decide : 3 + 0 ≤ _)⟩)
  dsimp only [Pt.U, Pt.locs, Pt.cells, Pt.slots] at X5 l5 y5 z5 st5 hQ5
  subst l5 y5 z5
  obtain ⟨rfl, Nq5, e5⟩ := hQ5
  have N5 := Fr.app N1 Nq5
  refine Goes.thru (T' := T5.setTop (mkF m 28 #[.val .null, .val (.ref ar), .val (.int (3 : Int32)), .val (.int (0 : Int32)), .val (.ref w7)] [(.int (0 : Int32))])) st5 ?_
  refine Goes.to (T' := T5.setTop (mkF m 34 #[.val .null, .val (.ref ar), .val (.int (3 : Int32)), .val (.int (0 : Int32)), .val (.ref w7)] [])) (fun t k => XS.ifYes X5.here hx rfl (pc0 := 28) (pc' := 34) rfl (hb hby d13_28) rfl ((if0 _ _).trans (teq (by decide)).1) (by decide) (by decide) k) ?_
  refine Goes.to (T' := T5.setTop (mkF m 37 #[.val .null, .val (.ref ar), .val (.int (3 : Int32)), .val (.int ((0 : Int32) + (1 : Int32))), .val (.ref w7)] [])) (fun t k => XS.iinc X5.here hx rfl (hb hby d13_34) rfl (l' := #[.val .null, .val (.ref ar), .val (.int (3 : Int32)), .val (.int ((0 : Int32) + (1 : Int32))), .val (.ref w7)]) rfl k) ?_
  rw [show ((0 : Int32) + (1 : Int32)) = (1 : Int32) from by decide +kernel]
  refine Goes.to (T' := T5.setTop (mkF m 9 #[.val .null, .val (.ref ar), .val (.int (3 : Int32)), .val (.int (1 : Int32)), .val (.ref w7)] [])) (fun t k => XS.goto X5.here hx rfl (pc0 := 37) (pc' := 9) rfl (hb hby d13_37) (by decide) (by decide) k) ?_
  refine Goes.to (T' := T5.setTop (mkF m 10 #[.val .null, .val (.ref ar), .val (.int (3 : Int32)), .val (.int (1 : Int32)), .val (.ref w7)] [(.int (1 : Int32))])) (fun t k => XS.iloadN X5.here hx rfl (hb hby d13_9) rfl k) ?_
  refine Goes.to (T' := T5.setTop (mkF m 11 #[.val .null, .val (.ref ar), .val (.int (3 : Int32)), .val (.int (1 : Int32)), .val (.ref w7)] [(.int (3 : Int32)), (.int (1 : Int32))])) (fun t k => XS.iloadN X5.here hx rfl (hb hby d13_10) rfl k) ?_
  refine Goes.to (T' := T5.setTop (mkF m 14 #[.val .null, .val (.ref ar), .val (.int (3 : Int32)), .val (.int (1 : Int32)), .val (.ref w7)] [])) (fun t k => XS.icmpNo X5.here hx rfl (hb hby d13_11) rfl (tlt (by decide)).2.1 k) ?_
  refine Goes.to (T' := T5.setTop (mkF m 15 #[.val .null, .val (.ref ar), .val (.int (3 : Int32)), .val (.int (1 : Int32)), .val (.ref w7)] [(.ref ar)])) (fun t k => XS.aloadN X5.here hx rfl (hb hby d13_14) rfl rfl k) ?_
  refine Goes.to (T' := T5.setTop (mkF m 16 #[.val .null, .val (.ref ar), .val (.int (3 : Int32)), .val (.int (1 : Int32)), .val (.ref w7)] [(.int (1 : Int32)), (.ref ar)])) (fun t k => XS.iloadN X5.here hx rfl (hb hby d13_15) rfl k) ?_
  obtain ⟨cl6, Ar6, q6, S6, Ng6, H6, G6⟩ := id V_ar
  have hin6 : ¬ ((1 : Int32) < 0 ∨ cl6.slots.size ≤ ((1 : Int32)).toNatClampNeg) := inb_of S6 ⟨by decide, by decide⟩
  refine Goes.to (T' := T5.setTop (mkF m 17 #[.val .null, .val (.ref ar), .val (.int (3 : Int32)), .val (.int (1 : Int32)), .val (.ref w7)] [(.ref w8)])) (X5.aaload hx (j := (1 : Int32)) (v := (.ref w8)) (by rw [e5]; exact Ar6.1) (State.isArrayOf_alike hZ.alike Ar6.2.1) rfl Ar6.2.2 hin6 (H6.at hin6 rfl) (g := (mkF m 16 #[.val .null, .val (.ref ar), .val (.int (3 : Int32)), .val (.int (1 : Int32)), .val (.ref w7)] [(.int (1 : Int32)), (.ref ar)])) rfl rfl (hb hby d13_16)) ?_
  refine Goes.to (T' := T5.setTop (mkF m 19 #[.val .null, .val (.ref ar), .val (.int (3 : Int32)), .val (.int (1 : Int32)), .val (.ref w8)] [])) (fun t k => XS.astore X5.here hx rfl (hb hby d13_17) rfl rfl (l' := #[.val .null, .val (.ref ar), .val (.int (3 : Int32)), .val (.int (1 : Int32)), .val (.ref w8)]) rfl k) ?_
  refine Goes.to (T' := T5.setTop (mkF m 21 #[.val .null, .val (.ref ar), .val (.int (3 : Int32)), .val (.int (1 : Int32)), .val (.ref w8)] [(.ref w8)])) (fun t k => XS.aload X5.here hx rfl (hb hby d13_19) rfl rfl k) ?_
  obtain ⟨T7, X7, e7, st7⟩ := getF X5 hx hZ hown (host := "") (Or.inl (wi hw 83 rfl)) Via.refl e5 (F_listName_w8.ext O0.2) (g := (mkF m 21 #[.val .null, .val (.ref ar), .val (.int (3 : Int32)), .val (.int (1 : Int32)), .val (.ref w8)] [(.ref w8)])) rfl rfl (hb hby d13_21)
  refine Goes.to (T' := T7.setTop (mkF m 24 #[.val .null, .val (.ref ar), .val (.int (3 : Int32)), .val (.int (1 : Int32)), .val (.ref w8)] [(.ref w4)])) st7 ?_
  refine Goes.to (T' := T7.setTop (mkF m 25 #[.val .null, .val (.ref ar), .val (.int (3 : Int32)), .val (.int (1 : Int32)), .val (.ref w8)] [.null, (.ref w4)])) (fun t k => XS.aloadN X7.here hx rfl (hb hby d13_24) rfl rfl k) ?_
  obtain ⟨cq8, kq8, q8a, q8b, q8c⟩ := isOf hZ e7 (E_w4.ext O0.2)
  obtain ⟨_, _, ⟨T8, L8, k8, n8⟩, -, X8, ⟨Lc8, hQ8, l8, y8, z8⟩, st8⟩ := X7.virtualBack hx (y := (⟨"java/lang/String", "equals", "(Ljava/lang/Object;)Z"⟩ : MethodName)) (z := (⟨"java/lang/String", "equals", "(Ljava/lang/Object;)Z"⟩ : MethodName)) hown (mvT hZ (wi hw 85 rfl)) (mvT hZ (wi hw 86 rfl)) (notFace_of_selects (args := #[]) (mvT hZ (wi hw 88 rfl))) (mvT hZ (wi hw 88 rfl)) (mvT hZ (wi hw 87 rfl)) (by decide) (backOf (W := 0) (rmE0 hw w4  T1.heap n0 O0 NF ) hZ (wi hw 89 rfl) (wi hw 2 rfl) (by decide) (by decide)) q8a q8c (g := (mkF m 25 #[.val .null, .val (.ref ar), .val (.int (3 : Int32)), .val (.int (1 : Int32)), .val (.ref w8)] [.null, (.ref w4)])) rfl (by rw [hml]; rfl) (Steps.refl _) (argsL := [.null]) (rest := []) (lenOf pd_142 rfl) rfl (by show 2 * 0 + _ ≤ _; exact Nat.le_of_eq rfl) (hb hby d13_25) (fun _ _ => ⟨rfl, e7, (by decide : 1 + 0 ≤ _), (by decide : 3 + 0 ≤ _)⟩)
  dsimp only [Pt.U, Pt.locs, Pt.cells, Pt.slots] at X8 l8 y8 z8 st8 hQ8
  subst l8 y8 z8
  obtain ⟨rfl, Nq8, e8⟩ := hQ8
  have N8 := Fr.app N5 Nq8
  refine Goes.thru (T' := T8.setTop (mkF m 28 #[.val .null, .val (.ref ar), .val (.int (3 : Int32)), .val (.int (1 : Int32)), .val (.ref w8)] [(.int (0 : Int32))])) st8 ?_
  refine Goes.to (T' := T8.setTop (mkF m 34 #[.val .null, .val (.ref ar), .val (.int (3 : Int32)), .val (.int (1 : Int32)), .val (.ref w8)] [])) (fun t k => XS.ifYes X8.here hx rfl (pc0 := 28) (pc' := 34) rfl (hb hby d13_28) rfl ((if0 _ _).trans (teq (by decide)).1) (by decide) (by decide) k) ?_
  refine Goes.to (T' := T8.setTop (mkF m 37 #[.val .null, .val (.ref ar), .val (.int (3 : Int32)), .val (.int ((1 : Int32) + (1 : Int32))), .val (.ref w8)] [])) (fun t k => XS.iinc X8.here hx rfl (hb hby d13_34) rfl (l' := #[.val .null, .val (.ref ar), .val (.int (3 : Int32)), .val (.int ((1 : Int32) + (1 : Int32))), .val (.ref w8)]) rfl k) ?_
  rw [show ((1 : Int32) + (1 : Int32)) = (2 : Int32) from by decide +kernel]
  refine Goes.to (T' := T8.setTop (mkF m 9 #[.val .null, .val (.ref ar), .val (.int (3 : Int32)), .val (.int (2 : Int32)), .val (.ref w8)] [])) (fun t k => XS.goto X8.here hx rfl (pc0 := 37) (pc' := 9) rfl (hb hby d13_37) (by decide) (by decide) k) ?_
  refine Goes.to (T' := T8.setTop (mkF m 10 #[.val .null, .val (.ref ar), .val (.int (3 : Int32)), .val (.int (2 : Int32)), .val (.ref w8)] [(.int (2 : Int32))])) (fun t k => XS.iloadN X8.here hx rfl (hb hby d13_9) rfl k) ?_
  refine Goes.to (T' := T8.setTop (mkF m 11 #[.val .null, .val (.ref ar), .val (.int (3 : Int32)), .val (.int (2 : Int32)), .val (.ref w8)] [(.int (3 : Int32)), (.int (2 : Int32))])) (fun t k => XS.iloadN X8.here hx rfl (hb hby d13_10) rfl k) ?_
  refine Goes.to (T' := T8.setTop (mkF m 14 #[.val .null, .val (.ref ar), .val (.int (3 : Int32)), .val (.int (2 : Int32)), .val (.ref w8)] [])) (fun t k => XS.icmpNo X8.here hx rfl (hb hby d13_11) rfl (tlt (by decide)).2.1 k) ?_
  refine Goes.to (T' := T8.setTop (mkF m 15 #[.val .null, .val (.ref ar), .val (.int (3 : Int32)), .val (.int (2 : Int32)), .val (.ref w8)] [(.ref ar)])) (fun t k => XS.aloadN X8.here hx rfl (hb hby d13_14) rfl rfl k) ?_
  refine Goes.to (T' := T8.setTop (mkF m 16 #[.val .null, .val (.ref ar), .val (.int (3 : Int32)), .val (.int (2 : Int32)), .val (.ref w8)] [(.int (2 : Int32)), (.ref ar)])) (fun t k => XS.iloadN X8.here hx rfl (hb hby d13_15) rfl k) ?_
  obtain ⟨cl9, Ar9, q9, S9, Ng9, H9, G9⟩ := id V_ar
  have hin9 : ¬ ((2 : Int32) < 0 ∨ cl9.slots.size ≤ ((2 : Int32)).toNatClampNeg) := inb_of S9 ⟨by decide, by decide⟩
  refine Goes.to (T' := T8.setTop (mkF m 17 #[.val .null, .val (.ref ar), .val (.int (3 : Int32)), .val (.int (2 : Int32)), .val (.ref w8)] [(.ref w9)])) (X8.aaload hx (j := (2 : Int32)) (v := (.ref w9)) (by rw [e8]; exact Ar9.1) (State.isArrayOf_alike hZ.alike Ar9.2.1) rfl Ar9.2.2 hin9 (H9.at hin9 rfl) (g := (mkF m 16 #[.val .null, .val (.ref ar), .val (.int (3 : Int32)), .val (.int (2 : Int32)), .val (.ref w8)] [(.int (2 : Int32)), (.ref ar)])) rfl rfl (hb hby d13_16)) ?_
  refine Goes.to (T' := T8.setTop (mkF m 19 #[.val .null, .val (.ref ar), .val (.int (3 : Int32)), .val (.int (2 : Int32)), .val (.ref w9)] [])) (fun t k => XS.astore X8.here hx rfl (hb hby d13_17) rfl rfl (l' := #[.val .null, .val (.ref ar), .val (.int (3 : Int32)), .val (.int (2 : Int32)), .val (.ref w9)]) rfl k) ?_
  refine Goes.to (T' := T8.setTop (mkF m 21 #[.val .null, .val (.ref ar), .val (.int (3 : Int32)), .val (.int (2 : Int32)), .val (.ref w9)] [(.ref w9)])) (fun t k => XS.aload X8.here hx rfl (hb hby d13_19) rfl rfl k) ?_
  obtain ⟨T10, X10, e10, st10⟩ := getF X8 hx hZ hown (host := "") (Or.inl (wi hw 83 rfl)) Via.refl e8 (F_listName_w9.ext O0.2) (g := (mkF m 21 #[.val .null, .val (.ref ar), .val (.int (3 : Int32)), .val (.int (2 : Int32)), .val (.ref w9)] [(.ref w9)])) rfl rfl (hb hby d13_21)
  refine Goes.to (T' := T10.setTop (mkF m 24 #[.val .null, .val (.ref ar), .val (.int (3 : Int32)), .val (.int (2 : Int32)), .val (.ref w9)] [(.ref w5)])) st10 ?_
  refine Goes.to (T' := T10.setTop (mkF m 25 #[.val .null, .val (.ref ar), .val (.int (3 : Int32)), .val (.int (2 : Int32)), .val (.ref w9)] [.null, (.ref w5)])) (fun t k => XS.aloadN X10.here hx rfl (hb hby d13_24) rfl rfl k) ?_
  obtain ⟨cq11, kq11, q11a, q11b, q11c⟩ := isOf hZ e10 (E_w5.ext O0.2)
  obtain ⟨_, _, ⟨T11, L11, k11, n11⟩, -, X11, ⟨Lc11, hQ11, l11, y11, z11⟩, st11⟩ := X10.virtualBack hx (y := (⟨"java/lang/String", "equals", "(Ljava/lang/Object;)Z"⟩ : MethodName)) (z := (⟨"java/lang/String", "equals", "(Ljava/lang/Object;)Z"⟩ : MethodName)) hown (mvT hZ (wi hw 85 rfl)) (mvT hZ (wi hw 86 rfl)) (notFace_of_selects (args := #[]) (mvT hZ (wi hw 88 rfl))) (mvT hZ (wi hw 88 rfl)) (mvT hZ (wi hw 87 rfl)) (by decide) (backOf (W := 0) (rmE0 hw w5  T1.heap n0 O0 NF ) hZ (wi hw 89 rfl) (wi hw 2 rfl) (by decide) (by decide)) q11a q11c (g := (mkF m 25 #[.val .null, .val (.ref ar), .val (.int (3 : Int32)), .val (.int (2 : Int32)), .val (.ref w9)] [.null, (.ref w5)])) rfl (by rw [hml]; rfl) (Steps.refl _) (argsL := [.null]) (rest := []) (lenOf pd_142 rfl) rfl (by show 2 * 0 + _ ≤ _; exact Nat.le_of_eq rfl) (hb hby d13_25) (fun _ _ => ⟨rfl, e10, (by decide : 1 + 0 ≤ _), (by decide : 3 + 0 ≤ _)⟩)
  dsimp only [Pt.U, Pt.locs, Pt.cells, Pt.slots] at X11 l11 y11 z11 st11 hQ11
  subst l11 y11 z11
  obtain ⟨rfl, Nq11, e11⟩ := hQ11
  have N11 := Fr.app N8 Nq11
  refine Goes.thru (T' := T11.setTop (mkF m 28 #[.val .null, .val (.ref ar), .val (.int (3 : Int32)), .val (.int (2 : Int32)), .val (.ref w9)] [(.int (0 : Int32))])) st11 ?_
  refine Goes.to (T' := T11.setTop (mkF m 34 #[.val .null, .val (.ref ar), .val (.int (3 : Int32)), .val (.int (2 : Int32)), .val (.ref w9)] [])) (fun t k => XS.ifYes X11.here hx rfl (pc0 := 28) (pc' := 34) rfl (hb hby d13_28) rfl ((if0 _ _).trans (teq (by decide)).1) (by decide) (by decide) k) ?_
  refine Goes.to (T' := T11.setTop (mkF m 37 #[.val .null, .val (.ref ar), .val (.int (3 : Int32)), .val (.int ((2 : Int32) + (1 : Int32))), .val (.ref w9)] [])) (fun t k => XS.iinc X11.here hx rfl (hb hby d13_34) rfl (l' := #[.val .null, .val (.ref ar), .val (.int (3 : Int32)), .val (.int ((2 : Int32) + (1 : Int32))), .val (.ref w9)]) rfl k) ?_
  rw [show ((2 : Int32) + (1 : Int32)) = (3 : Int32) from by decide +kernel]
  refine Goes.to (T' := T11.setTop (mkF m 9 #[.val .null, .val (.ref ar), .val (.int (3 : Int32)), .val (.int (3 : Int32)), .val (.ref w9)] [])) (fun t k => XS.goto X11.here hx rfl (pc0 := 37) (pc' := 9) rfl (hb hby d13_37) (by decide) (by decide) k) ?_
  refine Goes.to (T' := T11.setTop (mkF m 10 #[.val .null, .val (.ref ar), .val (.int (3 : Int32)), .val (.int (3 : Int32)), .val (.ref w9)] [(.int (3 : Int32))])) (fun t k => XS.iloadN X11.here hx rfl (hb hby d13_9) rfl k) ?_
  refine Goes.to (T' := T11.setTop (mkF m 11 #[.val .null, .val (.ref ar), .val (.int (3 : Int32)), .val (.int (3 : Int32)), .val (.ref w9)] [(.int (3 : Int32)), (.int (3 : Int32))])) (fun t k => XS.iloadN X11.here hx rfl (hb hby d13_10) rfl k) ?_
  refine Goes.to (T' := T11.setTop (mkF m 40 #[.val .null, .val (.ref ar), .val (.int (3 : Int32)), .val (.int (3 : Int32)), .val (.ref w9)] [])) (fun t k => XS.icmpYes X11.here hx rfl (pc0 := 11) (pc' := 40) rfl (hb hby d13_11) rfl (flt (by decide)).2.1 (by decide) (by decide) k) ?_
  refine Goes.to (T' := T11.setTop (mkF m 41 #[.val .null, .val (.ref ar), .val (.int (3 : Int32)), .val (.int (3 : Int32)), .val (.ref w9)] [.null])) (fun t k => XS.aconstNull X11.here hx rfl (hb hby d13_40) k) ?_
  obtain ⟨fs, hrL, hrun, hended, hW, hsame⟩ := X11.leave (v := some .null) (fun h => by rw [Bd.returns] at h; cases h)
  subst hQf
  refine ⟨_, _, retOut X11 hx Bd.returns rfl (Or.inr (Or.inr (Or.inr (Or.inr ⟨rfl, rfl, rfl⟩)))) (hb hby d13_41) hrL, hrun, hended, _, _, rfl, ?_, ⟨_, rfl⟩, hW, hsame.mono (by decide) (by decide)⟩
  show Q_rmO0  h0 n0 (some .null) T11.heap _
  rw [e11]
  exact ⟨rfl, N11, own_ext_keep K0⟩
theorem d8_0 : decode jdk_42_method_149_code 0 = .ok (.aload_n 0, 1) := by decide +kernel
theorem d8_1 : decode jdk_42_method_149_code 1 = .ok (.invokespecial 1, 3) := by decide +kernel
theorem d8_4 : decode jdk_42_method_149_code 4 = .ok (.iload_n 3, 1) := by decide +kernel
theorem d8_5 : decode jdk_42_method_149_code 5 = .ok (.ifCond .ne 22, 3) := by decide +kernel
theorem d8_8 : decode jdk_42_method_149_code 8 = .ok (.aload_n 0, 1) := by decide +kernel
theorem d8_9 : decode jdk_42_method_149_code 9 = .ok (.ldc 7, 2) := by decide +kernel
theorem d8_11 : decode jdk_42_method_149_code 11 = .ok (.getfield 9, 3) := by decide +kernel
theorem d8_14 : decode jdk_42_method_149_code 14 = .ok (.putfield 9, 3) := by decide +kernel
theorem d8_17 : decode jdk_42_method_149_code 17 = .ok (.aload_n 0, 1) := by decide +kernel
theorem d8_18 : decode jdk_42_method_149_code 18 = .ok (.ldc 7, 2) := by decide +kernel
theorem d8_20 : decode jdk_42_method_149_code 20 = .ok (.getfield 15, 3) := by decide +kernel
theorem d8_23 : decode jdk_42_method_149_code 23 = .ok (.putfield 15, 3) := by decide +kernel
theorem d8_26 : decode jdk_42_method_149_code 26 = .ok (.return_, 1) := by decide +kernel
theorem pn_8 : plainName "java/lang/String" = true := by first | (simp [plainName, overriddenIn]; done) | decide +kernel
theorem ef_rmV0 (m : MethodId) (x0 : Addr) (x1 : Addr) (x2 : Int32) (x3 : Int32) : entryFrame m #[(.ref x0), (.ref x1), (.int x2), (.int x3), .null] 6 = mkF m 0 #[.val (.ref x0), .val (.ref x1), .val (.int x2), .val (.int x3), .val .null, .unset] [] := by first | (simp [entryFrame, mkF, argsToLocals, Value.category]; done) | rfl
def Q_rmV0 (Z : State) (xa : Addr) (h0 : Heap) (n0 : Nat) (v : Option Value) (h : Heap) (L : List Loc) : Prop := (v = none ∧ ∃ (te : Addr) (ke : ClassId), Exa Z h xa "java/lang/String" ∧ Fld Z h xa "java/lang/String" "coder" "B" (.int (0 : Int32)) ∧ Fld Z h xa "java/lang/String" "value" "[B" (.ref te) ∧ Arv Z h te ke .byte (0 : Int32) [] (.int (0 : Int32))) ∧ Fr n0 L ∧ Keep h0 h [xa]
theorem rmV0 (hw : HW a0 Z) (xa : Addr) (yc : Addr) (vmC : Vm) (h0 : Heap) (n0 : Nat) (O0 : Old Z n0 h0) (NF : Nar Z w6 w7 w8 w9 w3 w0 w4 w1 w5 w2 k_w6 k_w0 k_w1 k_w2 z_cs fm) (E_xa : Exa Z h0 xa "java/lang/String") (F_value_xa : Fld Z h0 xa "java/lang/String" "value" "[B" .null) (F_coder_xa : Fld Z h0 xa "java/lang/String" "coder" "B" (.int (0 : Int32))) (g_xa : n0 ≤ xa) (SC_xa : Safe Z consts_1 vmC h0 xa) :
    MetFree l (⟨"java/lang/String", "<init>", "([CIILjava/lang/Void;)V"⟩ : MethodName) (head1 (Jvm.Cond.code (⟨"java/lang/String", "<init>", "([CIILjava/lang/Void;)V"⟩ : MethodName) jdk_42_method_149_code 6 none :: ws) ({ frames := 1, cells := 4, slots := 8, locals := 20 } : Room)) (fun a U => a = #[(.ref xa), (.ref yc), (.int (0 : Int32)), (.int (0 : Int32)), .null] ∧ Z.Warmed39 U.vm ∧ U.heap = h0 ∧ CHr Z consts_1 vmC h0 U.vm h0) (fun _ _ _ _ _ => True) (fun _ U o U' => ∃ v L, o = .returned v ∧ Q_rmV0 Z xa h0 n0 v U'.heap L ∧ CHr Z consts_1 U.vm U.heap U'.vm U'.heap ∧ ReturnedEndW U o U' L ({ frames := 1, cells := 4, slots := 8, locals := 20 } : Room).cells ({ frames := 1, cells := 4, slots := 8, locals := 20 } : Room).slots) := by
  refine MetFree.of_bodySF (plainFor_of_name pn_8) hisR ?_
  intro p e s m args below meth c s₁ Bd hml0 hP hK
  obtain ⟨rfl, hZ, hh, hCR⟩ := hP
  have hx := Bd.exec
  have hby := Bd.bytes
  have hml : c.maxLocals = 6 := hml0
  have hown : s.vm.findClass "java/lang/String" = some m.cls := findClass_of_methodNamed Bd.named
  have hnm := (name_of_methodNamed Bd.named Bd.method).1
  have X0 : Stand p l e ({ frames := 1, cells := 4, slots := 8, locals := 20 } : Room) (s.setVm s.vm) m #[(.ref xa), (.ref yc), (.int (0 : Int32)), (.int (0 : Int32)), .null] below meth c s₁ [] 0 0 := Stand.of_body Bd
  have e0 : s₁.heap = h0 := by rw [← hh, Bd.state]; rfl
  have N0 := Fr.nil n0
  have hZ : Z.Warmed39 (s.setVm s.vm).vm := hZ
  have hown : (s.setVm s.vm).vm.findClass "java/lang/String" = some m.cls := hown
  have hS : s.Since s.vm h0.size := (State.WarmedH.refl s).since _
  have hk : h0.size ≤ h0.size := Nat.le_refl _
  have own_strw : ∀ a ∈ Bundle.stringAtoms, a.before a0 Z = true := fun d hd => hw d ((by decide +kernel : ∀ d ∈ Bundle.stringAtoms, d ∈ tables_1) d hd)
  have hEL : EW Z a0 consts_1 := (EW.cons (wi hw 1 rfl) (by decide) (EW.cons (wi hw 95 rfl) (by decide) (EW.cons (wi hw 96 rfl) (by decide) (EW.cons (wi hw 100 rfl) (by decide) EW.nil))))
  have CR : CHr Z consts_1 s.vm h0 s.vm h0 := CHr.refl hCR.1
  have S_xa : Safe Z consts_1 s.vm h0 xa := hCR.safe E_xa.lt SC_xa
  have K0 := Keep.refl h0 [xa]
  suffices G : ∀ (Qf : Outcome → State → Prop), Qf = (fun (_ : Array Value) (U : State) (o : Outcome) (U' : State) => ∃ v L, o = .returned v ∧ Q_rmV0 Z xa h0 n0 v U'.heap L ∧ CHr Z consts_1 U.vm U.heap U'.vm U'.heap ∧ ReturnedEndW U o U' L ({ frames := 1, cells := 4, slots := 8, locals := 20 } : Room).cells ({ frames := 1, cells := 4, slots := 8, locals := 20 } : Room).slots) #[] s → Goes p.tables e below Qf (s₁.setTop (mkF m 0 #[.val (.ref xa), .val (.ref yc), .val (.int (0 : Int32)), .val (.int (0 : Int32)), .val .null, .unset] [])) by
    obtain ⟨s₂, o, g1, g2, g3, g4⟩ := G _ rfl
    exact ⟨s₂, o, castTop (ef_rmV0 m _ _ _ _) g1, g2, g3, g4⟩
  intro Qf hQf
  obtain ⟨S_w6, E_w6, S_w7, E_w7, S_w8, E_w8, S_w9, E_w9, F_listName_w7, E_w3, F_value_w3, F_listName_w8, E_w4, F_value_w4, F_listName_w9, E_w5, F_value_w5, F_coder_w3, F_coder_w4, F_coder_w5, V_w6, V_w0, V_w1, V_w2, S_cs, nz_cs, S_fm, rf⟩ := id NF
  refine Goes.to (T' := s₁.setTop (mkF m 1 #[.val (.ref xa), .val (.ref yc), .val (.int (0 : Int32)), .val (.int (0 : Int32)), .val .null, .unset] [(.ref xa)])) (fun t k => XS.aloadN X0.here hx rfl (hb hby d8_0) rfl rfl k) ?_
  obtain ⟨T1, X1, e1, st1⟩ := initO X0 hx hZ hown (wi hw 48 rfl) (wi hw 49 rfl) (wi hw 50 rfl) e0 (g := (mkF m 1 #[.val (.ref xa), .val (.ref yc), .val (.int (0 : Int32)), .val (.int (0 : Int32)), .val .null, .unset] [(.ref xa)])) rfl (by rw [hml]; rfl) rfl (hb hby d8_1) (by decide) (W := 0) (by show 2 * 0 + _ ≤ _; exact Nat.le_of_eq rfl) (by decide)
  refine Goes.to (T' := T1.setTop (mkF m 4 #[.val (.ref xa), .val (.ref yc), .val (.int (0 : Int32)), .val (.int (0 : Int32)), .val .null, .unset] [])) st1 ?_
  refine Goes.to (T' := T1.setTop (mkF m 5 #[.val (.ref xa), .val (.ref yc), .val (.int (0 : Int32)), .val (.int (0 : Int32)), .val .null, .unset] [(.int (0 : Int32))])) (fun t k => XS.iloadN X1.here hx rfl (hb hby d8_4) rfl k) ?_
  refine Goes.to (T' := T1.setTop (mkF m 8 #[.val (.ref xa), .val (.ref yc), .val (.int (0 : Int32)), .val (.int (0 : Int32)), .val .null, .unset] [])) (fun t k => XS.ifNo X1.here hx rfl (hb hby d8_5) rfl ((if0 _ _).trans (teq (by decide)).2) k) ?_
  refine Goes.to (T' := T1.setTop (mkF m 9 #[.val (.ref xa), .val (.ref yc), .val (.int (0 : Int32)), .val (.int (0 : Int32)), .val .null, .unset] [(.ref xa)])) (fun t k => XS.aloadN X1.here hx rfl (hb hby d8_8) rfl rfl k) ?_
  obtain ⟨b2, T2, h2, kS2, t2, kb2, X2, e2, E2, hS, hk, hZ, hown, Ea2, Fc2, Fv2, Av2, -, -, hC2, -, hne2, st2⟩ := ldcCH X1 hx hZ hown (wi hw 100 rfl) own_strw e1 hS hk hEL (List.mem_of_getElem? (i := 3) rfl) CR.1 (vs := []) (z := 0) ⟨by decide, rfl⟩ (by decide) (by decide) (g := (mkF m 9 #[.val (.ref xa), .val (.ref yc), .val (.int (0 : Int32)), .val (.int (0 : Int32)), .val .null, .unset] [(.ref xa)])) rfl (hb hby d8_9) (n := 0) (by decide) (by decide) (by decide) (by decide)
  have S_xa := hC2.safe E_xa.lt S_xa
  have CR := CR.trans hC2
  have E_xa := E_xa.ext E2
  have F_value_xa := F_value_xa.ext E2
  have F_coder_xa := F_coder_xa.ext E2
  have O0 := O0.ext E2
  have K0 := K0.ext E2
  have E_b2 : Exa Z h2 b2 "java/lang/String" := Ea2
  have F_coder_b2 : Fld Z h2 b2 "java/lang/String" "coder" "B" (.int (0 : Int32)) := Fc2
  have F_value_b2 : Fld Z h2 b2 "java/lang/String" "value" "[B" (.ref t2) := Fv2
  have V_t2 : Arv Z h2 t2 kb2 .byte (0 : Int32) [] (.int (0 : Int32)) := Av2
  have ne_xa_b2 : xa ≠ b2 := (hne2 _ S_xa).1
  have ne_b2_xa := Ne.symm ne_xa_b2
  have ne_xa_t2 : xa ≠ t2 := (hne2 _ S_xa).2
  have ne_t2_xa := Ne.symm ne_xa_t2
  refine Goes.to (T' := T2.setTop (mkF m 11 #[.val (.ref xa), .val (.ref yc), .val (.int (0 : Int32)), .val (.int (0 : Int32)), .val .null, .unset] [(.ref b2), (.ref xa)])) st2 ?_
  obtain ⟨T3, X3, e3, st3⟩ := getF X2 hx hZ hown (host := "") (Or.inl (wi hw 25 rfl)) Via.refl e2 F_value_b2 (g := (mkF m 11 #[.val (.ref xa), .val (.ref yc), .val (.int (0 : Int32)), .val (.int (0 : Int32)), .val .null, .unset] [(.ref b2), (.ref xa)])) rfl rfl (hb hby d8_11)
  refine Goes.to (T' := T3.setTop (mkF m 14 #[.val (.ref xa), .val (.ref yc), .val (.int (0 : Int32)), .val (.int (0 : Int32)), .val .null, .unset] [(.ref t2), (.ref xa)])) st3 ?_
  obtain ⟨T4, h4, X4, e4, W4, st4⟩ := putF X3 hx hZ hown (host := "") (Or.inl (wi hw 25 rfl)) Via.refl e3 F_value_xa E_xa (Or.inr ⟨(wi hw 5 rfl), rfl, hnm⟩) (wi hw 3 rfl) (ty := (.array .byte)) (by decide) rfl rfl (g := (mkF m 14 #[.val (.ref xa), .val (.ref yc), .val (.int (0 : Int32)), .val (.int (0 : Int32)), .val .null, .unset] [(.ref t2), (.ref xa)])) rfl rfl (hb hby d8_14)
  have F_value_xa := F_value_xa.same W4
  have CRn := CR.trans (CHr.wr W4 S_xa CR.1)
  have S_xa := Safe.wr W4 S_xa CR.1 S_xa
  have CR := CRn
  have E_xa := E_xa.wr W4
  have F_coder_xa := F_coder_xa.other W4 (Or.inr (slot_ne (Or.inr (wi hw 6 rfl)) (Or.inr (wi hw 5 rfl)) (by decide) (t := .byte) (t' := (.array .byte)) (by decide) (by decide)))
  have E_b2 := E_b2.wr W4
  have F_coder_b2 := F_coder_b2.other W4 (Or.inl (ne_b2_xa))
  have F_value_b2 := F_value_b2.other W4 (Or.inl (ne_b2_xa))
  have V_t2 := V_t2.other W4 (ne_t2_xa)
  have O0 := O0.wr W4 g_xa
  have hk := Nat.le_trans hk (Keep.of_wr W4).1
  have K0 := K0.wr W4 (Or.inl (List.mem_of_getElem? (i := 0) rfl))
  have N4 := Fr.snoc X4 N0 g_xa
  refine Goes.to (T' := T4.setTop (mkF m 17 #[.val (.ref xa), .val (.ref yc), .val (.int (0 : Int32)), .val (.int (0 : Int32)), .val .null, .unset] [])) st4 ?_
  refine Goes.to (T' := T4.setTop (mkF m 18 #[.val (.ref xa), .val (.ref yc), .val (.int (0 : Int32)), .val (.int (0 : Int32)), .val .null, .unset] [(.ref xa)])) (fun t k => XS.aloadN X4.here hx rfl (hb hby d8_17) rfl rfl k) ?_
  obtain ⟨b5, T5, h5, kS5, t5, kb5, X5, e5, E5, hS, hk, hZ, hown, Ea5, Fc5, Fv5, Av5, -, -, hC5, -, hne5, st5⟩ := ldcCH X4 hx hZ hown (wi hw 100 rfl) own_strw e4 hS hk hEL (List.mem_of_getElem? (i := 3) rfl) CR.1 (vs := []) (z := 0) ⟨by decide, rfl⟩ (by decide) (by decide) (g := (mkF m 18 #[.val (.ref xa), .val (.ref yc), .val (.int (0 : Int32)), .val (.int (0 : Int32)), .val .null, .unset] [(.ref xa)])) rfl (hb hby d8_18) (n := 0) (by decide) (by decide) (by decide) (by decide)
  have S_xa := hC5.safe E_xa.lt S_xa
  have CR := CR.trans hC5
  have E_xa := E_xa.ext E5
  have F_value_xa := F_value_xa.ext E5
  have F_coder_xa := F_coder_xa.ext E5
  have E_b2 := E_b2.ext E5
  have F_coder_b2 := F_coder_b2.ext E5
  have F_value_b2 := F_value_b2.ext E5
  have V_t2 := V_t2.ext E5
  have O0 := O0.ext E5
  have K0 := K0.ext E5
  have E_b5 : Exa Z h5 b5 "java/lang/String" := Ea5
  have F_coder_b5 : Fld Z h5 b5 "java/lang/String" "coder" "B" (.int (0 : Int32)) := Fc5
  have F_value_b5 : Fld Z h5 b5 "java/lang/String" "value" "[B" (.ref t5) := Fv5
  have V_t5 : Arv Z h5 t5 kb5 .byte (0 : Int32) [] (.int (0 : Int32)) := Av5
  have ne_xa_b5 : xa ≠ b5 := (hne5 _ S_xa).1
  have ne_b5_xa := Ne.symm ne_xa_b5
  have ne_xa_t5 : xa ≠ t5 := (hne5 _ S_xa).2
  have ne_t5_xa := Ne.symm ne_xa_t5
  refine Goes.to (T' := T5.setTop (mkF m 20 #[.val (.ref xa), .val (.ref yc), .val (.int (0 : Int32)), .val (.int (0 : Int32)), .val .null, .unset] [(.ref b5), (.ref xa)])) st5 ?_
  obtain ⟨T6, X6, e6, st6⟩ := getF X5 hx hZ hown (host := "") (Or.inl (wi hw 24 rfl)) Via.refl e5 F_coder_b5 (g := (mkF m 20 #[.val (.ref xa), .val (.ref yc), .val (.int (0 : Int32)), .val (.int (0 : Int32)), .val .null, .unset] [(.ref b5), (.ref xa)])) rfl rfl (hb hby d8_20)
  refine Goes.to (T' := T6.setTop (mkF m 23 #[.val (.ref xa), .val (.ref yc), .val (.int (0 : Int32)), .val (.int (0 : Int32)), .val .null, .unset] [(.int (0 : Int32)), (.ref xa)])) st6 ?_
  obtain ⟨T7, h7, X7, e7, W7, st7⟩ := putFN X6 hx hZ hown (wi hw 24 rfl) Via.refl e6 F_coder_xa E_xa (Or.inr ⟨(wi hw 6 rfl), rfl, hnm⟩) (wi hw 3 rfl) (ty := .byte) (v' := (.int ((0 : Int32).toInt8.toInt32))) (by decide) rfl (fits_nar_byte _) (g := (mkF m 23 #[.val (.ref xa), .val (.ref yc), .val (.int (0 : Int32)), .val (.int (0 : Int32)), .val .null, .unset] [(.int (0 : Int32)), (.ref xa)])) rfl rfl (hb hby d8_23)
  have F_coder_xa := F_coder_xa.same W7
  have CRn := CR.trans (CHr.wr W7 S_xa CR.1)
  have S_xa := Safe.wr W7 S_xa CR.1 S_xa
  have CR := CRn
  have E_xa := E_xa.wr W7
  have F_value_xa := F_value_xa.other W7 (Or.inr (slot_ne (Or.inr (wi hw 5 rfl)) (Or.inr (wi hw 6 rfl)) (by decide) (t := (.array .byte)) (t' := .byte) (by decide) (by decide)))
  have E_b2 := E_b2.wr W7
  have F_coder_b2 := F_coder_b2.other W7 (Or.inl (ne_b2_xa))
  have F_value_b2 := F_value_b2.other W7 (Or.inl (ne_b2_xa))
  have V_t2 := V_t2.other W7 (ne_t2_xa)
  have E_b5 := E_b5.wr W7
  have F_coder_b5 := F_coder_b5.other W7 (Or.inl (ne_b5_xa))
  have F_value_b5 := F_value_b5.other W7 (Or.inl (ne_b5_xa))
  have V_t5 := V_t5.other W7 (ne_t5_xa)
  have O0 := O0.wr W7 g_xa
  have hk := Nat.le_trans hk (Keep.of_wr W7).1
  have K0 := K0.wr W7 (Or.inl (List.mem_of_getElem? (i := 0) rfl))
  have N7 := Fr.snoc X7 N4 g_xa
  refine Goes.to (T' := T7.setTop (mkF m 26 #[.val (.ref xa), .val (.ref yc), .val (.int (0 : Int32)), .val (.int (0 : Int32)), .val .null, .unset] [])) st7 ?_
  obtain ⟨fs, hrL, hrun, hended, hRW⟩ := X7.leaveW hS (by rw [e7]; exact hk) (v := none) (fun _ => rfl)
  have hCRz : CHr Z consts_1 s.vm s.heap T7.vm T7.heap := by rw [hh, e7]; exact CR.trans (CHv.at X7 hZ hEL CR.1)
  subst hQf
  refine ⟨_, _, X7.returnOut hx Bd.returns (hb hby d8_26) hrL, hrun, hended, _, _, rfl, ?_, hCRz, hRW.1, hRW.2.1, hRW.2.2.1, hRW.2.2.2.mono (by decide) (by decide)⟩
  show Q_rmV0 Z xa h0 n0 (none) T7.heap _
  rw [e7]
  rw [show ((0 : Int32).toInt8.toInt32) = (0 : Int32) from by decide +kernel] at F_coder_xa
  exact ⟨⟨rfl, t2, _, E_xa, F_coder_xa, F_value_xa, V_t2⟩, N7, K0⟩
theorem pd_189 : parseMethodDescriptor "([CIILjava/lang/Void;)V" = some ⟨[(.array .char), .int, .int, (.object "java/lang/Void")], none⟩ := by decide +kernel
theorem d7_0 : decode jdk_42_method_3_code 0 = .ok (.aload_n 0, 1) := by decide +kernel
theorem d7_1 : decode jdk_42_method_3_code 1 = .ok (.aload_n 1, 1) := by decide +kernel
theorem d7_2 : decode jdk_42_method_3_code 2 = .ok (.iconst 0, 1) := by decide +kernel
theorem d7_3 : decode jdk_42_method_3_code 3 = .ok (.aload_n 1, 1) := by decide +kernel
theorem d7_4 : decode jdk_42_method_3_code 4 = .ok (.arraylength, 1) := by decide +kernel
theorem d7_5 : decode jdk_42_method_3_code 5 = .ok (.aconst_null, 1) := by decide +kernel
theorem d7_6 : decode jdk_42_method_3_code 6 = .ok (.invokespecial 27, 3) := by decide +kernel
theorem d7_9 : decode jdk_42_method_3_code 9 = .ok (.return_, 1) := by decide +kernel
theorem pn_7 : plainName "java/lang/String" = true := by first | (simp [plainName, overriddenIn]; done) | decide +kernel
theorem ef_rmC0 (m : MethodId) (x0 : Addr) (x1 : Addr) : entryFrame m #[(.ref x0), (.ref x1)] 2 = mkF m 0 #[.val (.ref x0), .val (.ref x1)] [] := by first | (simp [entryFrame, mkF, argsToLocals, Value.category]; done) | rfl
def Q_rmC0 (Z : State) (xa : Addr) (h0 : Heap) (n0 : Nat) (v : Option Value) (h : Heap) (L : List Loc) : Prop := (v = none ∧ ∃ (te : Addr) (ke : ClassId), Exa Z h xa "java/lang/String" ∧ Fld Z h xa "java/lang/String" "coder" "B" (.int (0 : Int32)) ∧ Fld Z h xa "java/lang/String" "value" "[B" (.ref te) ∧ Arv Z h te ke .byte (0 : Int32) [] (.int (0 : Int32))) ∧ Fr n0 L ∧ Keep h0 h [xa]
theorem rmC0 (hw : HW a0 Z) (xa : Addr) (yc : Addr) (kc : ClassId) (vmC : Vm) (h0 : Heap) (n0 : Nat) (O0 : Old Z n0 h0) (NF : Nar Z w6 w7 w8 w9 w3 w0 w4 w1 w5 w2 k_w6 k_w0 k_w1 k_w2 z_cs fm) (E_xa : Exa Z h0 xa "java/lang/String") (F_value_xa : Fld Z h0 xa "java/lang/String" "value" "[B" .null) (F_coder_xa : Fld Z h0 xa "java/lang/String" "coder" "B" (.int (0 : Int32))) (V_yc : Arv Z h0 yc kc .char (0 : Int32) [] (.int (0 : Int32))) (g_xa : n0 ≤ xa) (ne_yc_xa : yc ≠ xa) (SC_xa : Safe Z consts_1 vmC h0 xa) :
    MetFree l (⟨"java/lang/String", "<init>", "([C)V"⟩ : MethodName) (head1 (Jvm.Cond.code (⟨"java/lang/String", "<init>", "([C)V"⟩ : MethodName) jdk_42_method_3_code 2 none :: ws) ({ frames := 2, cells := 4, slots := 8, locals := 50 } : Room)) (fun a U => a = #[(.ref xa), (.ref yc)] ∧ Z.Warmed39 U.vm ∧ U.heap = h0 ∧ CHr Z consts_1 vmC h0 U.vm h0) (fun _ _ _ _ _ => True) (fun _ U o U' => ∃ v L, o = .returned v ∧ Q_rmC0 Z xa h0 n0 v U'.heap L ∧ CHr Z consts_1 U.vm U.heap U'.vm U'.heap ∧ ReturnedEndW U o U' L ({ frames := 2, cells := 4, slots := 8, locals := 50 } : Room).cells ({ frames := 2, cells := 4, slots := 8, locals := 50 } : Room).slots) := by
  refine MetFree.of_bodySF (plainFor_of_name pn_7) hisR ?_
  intro p e s m args below meth c s₁ Bd hml0 hP hK
  obtain ⟨rfl, hZ, hh, hCR⟩ := hP
  have hx := Bd.exec
  have hby := Bd.bytes
  have hml : c.maxLocals = 2 := hml0
  have hown : s.vm.findClass "java/lang/String" = some m.cls := findClass_of_methodNamed Bd.named
  have hnm := (name_of_methodNamed Bd.named Bd.method).1
  have X0 : Stand p l e ({ frames := 2, cells := 4, slots := 8, locals := 50 } : Room) (s.setVm s.vm) m #[(.ref xa), (.ref yc)] below meth c s₁ [] 0 0 := Stand.of_body Bd
  have e0 : s₁.heap = h0 := by rw [← hh, Bd.state]; rfl
  have N0 := Fr.nil n0
  have hZ : Z.Warmed39 (s.setVm s.vm).vm := hZ
  have hown : (s.setVm s.vm).vm.findClass "java/lang/String" = some m.cls := hown
  have hS : s.Since s.vm h0.size := (State.WarmedH.refl s).since _
  have hk : h0.size ≤ h0.size := Nat.le_refl _
  have own_strw : ∀ a ∈ Bundle.stringAtoms, a.before a0 Z = true := fun d hd => hw d ((by decide +kernel : ∀ d ∈ Bundle.stringAtoms, d ∈ tables_1) d hd)
  have hEL : EW Z a0 consts_1 := (EW.cons (wi hw 1 rfl) (by decide) (EW.cons (wi hw 95 rfl) (by decide) (EW.cons (wi hw 96 rfl) (by decide) (EW.cons (wi hw 100 rfl) (by decide) EW.nil))))
  have CR : CHr Z consts_1 s.vm h0 s.vm h0 := CHr.refl hCR.1
  have S_xa : Safe Z consts_1 s.vm h0 xa := hCR.safe E_xa.lt SC_xa
  have K0 := Keep.refl h0 [xa]
  suffices G : ∀ (Qf : Outcome → State → Prop), Qf = (fun (_ : Array Value) (U : State) (o : Outcome) (U' : State) => ∃ v L, o = .returned v ∧ Q_rmC0 Z xa h0 n0 v U'.heap L ∧ CHr Z consts_1 U.vm U.heap U'.vm U'.heap ∧ ReturnedEndW U o U' L ({ frames := 2, cells := 4, slots := 8, locals := 50 } : Room).cells ({ frames := 2, cells := 4, slots := 8, locals := 50 } : Room).slots) #[] s → Goes p.tables e below Qf (s₁.setTop (mkF m 0 #[.val (.ref xa), .val (.ref yc)] [])) by
    obtain ⟨s₂, o, g1, g2, g3, g4⟩ := G _ rfl
    exact ⟨s₂, o, castTop (ef_rmC0 m _ _) g1, g2, g3, g4⟩
  intro Qf hQf
  obtain ⟨S_w6, E_w6, S_w7, E_w7, S_w8, E_w8, S_w9, E_w9, F_listName_w7, E_w3, F_value_w3, F_listName_w8, E_w4, F_value_w4, F_listName_w9, E_w5, F_value_w5, F_coder_w3, F_coder_w4, F_coder_w5, V_w6, V_w0, V_w1, V_w2, S_cs, nz_cs, S_fm, rf⟩ := id NF
  refine Goes.to (T' := s₁.setTop (mkF m 1 #[.val (.ref xa), .val (.ref yc)] [(.ref xa)])) (fun t k => XS.aloadN X0.here hx rfl (hb hby d7_0) rfl rfl k) ?_
  refine Goes.to (T' := s₁.setTop (mkF m 2 #[.val (.ref xa), .val (.ref yc)] [(.ref yc), (.ref xa)])) (fun t k => XS.aloadN X0.here hx rfl (hb hby d7_1) rfl rfl k) ?_
  refine Goes.to (T' := s₁.setTop (mkF m 3 #[.val (.ref xa), .val (.ref yc)] [(.int (0 : Int32)), (.ref yc), (.ref xa)])) (fun t k => XS.iconst X0.here hx rfl (hb hby d7_2) k) ?_
  refine Goes.to (T' := s₁.setTop (mkF m 4 #[.val (.ref xa), .val (.ref yc)] [(.ref yc), (.int (0 : Int32)), (.ref yc), (.ref xa)])) (fun t k => XS.aloadN X0.here hx rfl (hb hby d7_3) rfl rfl k) ?_
  obtain ⟨cl1, Ar1, q1, S1, Ng1, H1, G1⟩ := id V_yc
  refine Goes.to (T' := s₁.setTop (mkF m 5 #[.val (.ref xa), .val (.ref yc)] [(.int (0 : Int32)), (.int (0 : Int32)), (.ref yc), (.ref xa)])) (fun t k => X0.arraylength hx (by rw [e0]; exact Ar1.1) (State.isArrayOf_alike hZ.alike Ar1.2.1) (g := (mkF m 4 #[.val (.ref xa), .val (.ref yc)] [(.ref yc), (.int (0 : Int32)), (.ref yc), (.ref xa)])) rfl rfl (hb hby d7_4) _ (by rw [len_of S1 Ng1]; exact k)) ?_
  refine Goes.to (T' := s₁.setTop (mkF m 6 #[.val (.ref xa), .val (.ref yc)] [.null, (.int (0 : Int32)), (.int (0 : Int32)), (.ref yc), (.ref xa)])) (fun t k => XS.aconstNull X0.here hx rfl (hb hby d7_5) k) ?_
  obtain ⟨_, _, ⟨T2, L2, k2, n2⟩, -, X2, hS2, hg2, ⟨Lc2, hQ2, l2, y2, z2, hC2⟩, st2⟩ := X0.specialBackS hx (y := (⟨"java/lang/String", "<init>", "([CIILjava/lang/Void;)V"⟩ : MethodName)) rfl hown (mvT hZ (wi hw 44 rfl)) (mvT hZ (wi hw 45 rfl)) (mvT hZ (wi hw 47 rfl)) (by decide) (own_backSH (W := 0) (rmV0 hw xa yc s.vm h0 n0 O0 NF E_xa F_value_xa F_coder_xa g_xa S_xa) hZ (wi hw 47 rfl) (wi hw 2 rfl) (by decide) (by decide) hEL CR.1) (g := (mkF m 6 #[.val (.ref xa), .val (.ref yc)] [.null, (.int (0 : Int32)), (.int (0 : Int32)), (.ref yc), (.ref xa)])) rfl (by rw [hml]; rfl) (Steps.refl _) (a := xa) (argsL := [(.ref yc), (.int (0 : Int32)), (.int (0 : Int32)), .null]) (rest := []) (lenOf pd_189 rfl) rfl (by show 2 * 0 + _ ≤ _; exact Nat.le_of_eq rfl) (hb hby d7_6) (fun _ _ => ⟨rfl, e0, (by decide : 0 + 4 ≤ _), (by decide : 0 + 8 ≤ _)⟩)
  dsimp only [Pt.U, Pt.locs, Pt.cells, Pt.slots] at X2 l2 y2 z2 st2 hQ2 hS2 hg2 hC2
  subst l2 y2 z2
  obtain ⟨⟨rfl, te, ke, Ea2, Fc2, Fv2, Av2⟩, Nq2, K2⟩ := hQ2
  have N2 := Fr.app N0 Nq2
  have hS := hS.trans hS2 (Nat.le_trans hk (by rw [← e0]; exact hg2))
  have hk : T2.heap.size ≤ T2.heap.size := Nat.le_refl _
  have hZ : Z.Warmed39 (s.setVm T2.vm).vm := State.Warmed39.trans (t := (s.setVm s.vm)) hZ hS2.1
  have hown : (s.setVm T2.vm).vm.findClass "java/lang/String" = some m.cls := by rw [show (s.setVm T2.vm).vm = T2.vm from rfl, hS2.1.alike.findClass]; exact hown
  have hC2 : CHr Z consts_1 s.vm h0 T2.vm T2.heap := hC2
  have S_xa := hC2.safe E_xa.lt S_xa
  have CR := CR.trans hC2
  have E_xa := E_xa.keep K2
  have V_yc := V_yc.keep K2 (ninS (ne_yc_xa) nin0)
  have O0 := O0.keep K2 (allS g_xa all0)
  have K0 := K0.trans K2 (allS (Or.inl (List.mem_of_getElem? (i := 0) rfl)) all0)
  have E_xa := Ea2
  have F_coder_xa := Fc2
  have F_value_xa := Fv2
  have V_te := Av2
  refine Goes.thru (T' := T2.setTop (mkF m 9 #[.val (.ref xa), .val (.ref yc)] [])) st2 ?_
  obtain ⟨fs, hrL, hrun, hended, hRW⟩ := X2.leaveW hS hk (v := none) (fun _ => rfl)
  have hCRz : CHr Z consts_1 s.vm s.heap T2.vm T2.heap := by rw [hh]; exact CR.trans (CHv.at X2 hZ hEL CR.1)
  subst hQf
  refine ⟨_, _, X2.returnOut hx Bd.returns (hb hby d7_9) hrL, hrun, hended, _, _, rfl, ?_, hCRz, hRW.1, hRW.2.1, hRW.2.2.1, hRW.2.2.2.mono (by decide) (by decide)⟩
  show Q_rmC0 Z xa h0 n0 (none) T2.heap _
  exact ⟨⟨rfl, te, ke, E_xa, F_coder_xa, F_value_xa, V_te⟩, N2, K0⟩
def LA4 (v0 : Int32) (v1 : Int32) (v2 : Int32) (v3 : Int64) : Array Slot := #[.val (.int v0), .val (.int v1), .val (.int v2), .val (.long v3), .second, .unset, .unset, .unset, .unset, .unset, .unset, .unset, .unset, .unset, .unset, .unset, .unset, .unset]
def LA5 (v0 : Int32) (v1 : Int32) (v2 : Int32) (v3 : Int64) (v4 : Int32) : Array Slot := #[.val (.int v0), .val (.int v1), .val (.int v2), .val (.long v3), .second, .val (.int v4), .unset, .unset, .unset, .unset, .unset, .unset, .unset, .unset, .unset, .unset, .unset, .unset]
def LA6 (v0 : Int32) (v1 : Int32) (v2 : Int32) (v3 : Int64) (v4 : Int32) (v5 : Addr) : Array Slot := #[.val (.int v0), .val (.int v1), .val (.int v2), .val (.long v3), .second, .val (.int v4), .val (.ref v5), .unset, .unset, .unset, .unset, .unset, .unset, .unset, .unset, .unset, .unset, .unset]
def LA7 (v0 : Int32) (v1 : Int32) (v2 : Int32) (v3 : Int64) (v4 : Int32) (v5 : Addr) (v6 : Int32) : Array Slot := #[.val (.int v0), .val (.int v1), .val (.int v2), .val (.long v3), .second, .val (.int v4), .val (.ref v5), .val (.int v6), .unset, .unset, .unset, .unset, .unset, .unset, .unset, .unset, .unset, .unset]
theorem pd_204 : parseMethodDescriptor "(Ljava/lang/String;IIJ)C" = some ⟨[(.object "java/lang/String"), .int, .int, .long], some .char⟩ := by decide +kernel
def LA8 (v0 : Int32) (v1 : Int32) (v2 : Int32) (v3 : Int64) (v4 : Int32) (v5 : Addr) (v6 : Int32) (v7 : Int32) : Array Slot := #[.val (.int v0), .val (.int v1), .val (.int v2), .val (.long v3), .second, .val (.int v4), .val (.ref v5), .val (.int v6), .val (.int v7), .unset, .unset, .unset, .unset, .unset, .unset, .unset, .unset, .unset]
def LA9 (v0 : Int32) (v1 : Int32) (v2 : Int32) (v3 : Int64) (v4 : Int32) (v5 : Addr) (v6 : Int32) (v7 : Int32) (v8 : Int32) : Array Slot := #[.val (.int v0), .val (.int v1), .val (.int v2), .val (.long v3), .second, .val (.int v4), .val (.ref v5), .val (.int v6), .val (.int v7), .val (.int v8), .unset, .unset, .unset, .unset, .unset, .unset, .unset, .unset]
def LA10 (v0 : Int32) (v1 : Int32) (v2 : Int32) (v3 : Int64) (v4 : Int32) (v5 : Addr) (v6 : Int32) (v7 : Int32) (v8 : Int32) (v9 : Int32) : Array Slot := #[.val (.int v0), .val (.int v1), .val (.int v2), .val (.long v3), .second, .val (.int v4), .val (.ref v5), .val (.int v6), .val (.int v7), .val (.int v8), .val (.int v9), .unset, .unset, .unset, .unset, .unset, .unset, .unset]
def LA11 (v0 : Int32) (v1 : Int32) (v2 : Int32) (v3 : Int64) (v4 : Int32) (v5 : Addr) (v6 : Int32) (v7 : Int32) (v8 : Int32) (v9 : Int32) (v10 : Int32) : Array Slot := #[.val (.int v0), .val (.int v1), .val (.int v2), .val (.long v3), .second, .val (.int v4), .val (.ref v5), .val (.int v6), .val (.int v7), .val (.int v8), .val (.int v9), .val (.int v10), .unset, .unset, .unset, .unset, .unset, .unset]
def LA12 (v0 : Int32) (v1 : Int32) (v2 : Int32) (v3 : Int64) (v4 : Int32) (v5 : Addr) (v6 : Int32) (v7 : Int32) (v8 : Int32) (v9 : Int32) (v10 : Int32) (v11 : Int32) : Array Slot := #[.val (.int v0), .val (.int v1), .val (.int v2), .val (.long v3), .second, .val (.int v4), .val (.ref v5), .val (.int v6), .val (.int v7), .val (.int v8), .val (.int v9), .val (.int v10), .val (.int v11), .unset, .unset, .unset, .unset, .unset]
def LA13 (v0 : Int32) (v1 : Int32) (v2 : Int32) (v3 : Int64) (v4 : Int32) (v5 : Addr) (v6 : Int32) (v7 : Int32) (v8 : Int32) (v9 : Int32) (v10 : Int32) (v11 : Int32) (v12 : Int32) : Array Slot := #[.val (.int v0), .val (.int v1), .val (.int v2), .val (.long v3), .second, .val (.int v4), .val (.ref v5), .val (.int v6), .val (.int v7), .val (.int v8), .val (.int v9), .val (.int v10), .val (.int v11), .val (.int v12), .unset, .unset, .unset, .unset]
def LA14 (v0 : Int32) (v1 : Int32) (v2 : Int32) (v3 : Int64) (v4 : Int32) (v5 : Addr) (v6 : Int32) (v7 : Int32) (v8 : Int32) (v9 : Int32) (v10 : Int32) (v11 : Int32) (v12 : Int32) (v13 : Int32) : Array Slot := #[.val (.int v0), .val (.int v1), .val (.int v2), .val (.long v3), .second, .val (.int v4), .val (.ref v5), .val (.int v6), .val (.int v7), .val (.int v8), .val (.int v9), .val (.int v10), .val (.int v11), .val (.int v12), .val (.int v13), .val .null, .unset, .unset]
theorem pd_212 : parseMethodDescriptor "(Ljava/lang/String;)Lcom/example/issuer/issuer/blocklist/EntryKind;" = some ⟨[(.object "java/lang/String")], some (.object "com/example/issuer/issuer/blocklist/EntryKind")⟩ := by decide +kernel
def LA15 (v0 : Int32) (v1 : Int32) (v2 : Int32) (v3 : Int64) (v4 : Int32) (v5 : Addr) (v6 : Int32) (v7 : Int32) (v8 : Int32) (v9 : Int32) (v10 : Int32) (v11 : Int32) (v12 : Int32) (v13 : Int32) : Array Slot := #[.val (.int v0), .val (.int v1), .val (.int v2), .val (.long v3), .second, .val (.int v4), .val (.ref v5), .val (.int v6), .val (.int v7), .val (.int v8), .val (.int v9), .val (.int v10), .val (.int v11), .val (.int v12), .val (.int v13), .val .null, .val .null, .unset]
def LA16 (v0 : Int32) (v1 : Int32) (v2 : Int32) (v3 : Int64) (v4 : Int32) (v5 : Addr) (v6 : Int32) (v7 : Int32) (v8 : Int32) (v9 : Int32) (v10 : Int32) (v11 : Int32) (v12 : Int32) (v13 : Int32) : Array Slot := #[.val (.int v0), .val (.int v1), .val (.int v2), .val (.long v3), .second, .val (.int v4), .val (.ref v5), .val (.int v6), .val (.int v7), .val (.int v8), .val (.int v9), .val (.int v10), .val (.int v11), .val (.int v12), .val (.int v13), .val .null, .val .null, .val .null]
def Q_rm0  (h0 : Heap) (n0 : Nat) (v : Option Value) (h : Heap) (L : List Loc) : Prop := v = some (.int 1) ∧ Fr n0 L
theorem rm0_T0 (hw : HW a0 Z) (p0 : Int32) (p1 : Int32) (p2 : Int32) (q3 : Int64) (vmC : Vm) (h0 : Heap) (n0 : Nat) (NF : Nar Z w6 w7 w8 w9 w3 w0 w4 w1 w5 w2 k_w6 k_w0 k_w1 k_w2 z_cs fm) (p : Program) (e : Env) (s : State) (m : MethodId) (below : List Frame) (meth : _) (c : _) (s₁ : State) (Bd : BodyLoose p l x (head1 (Jvm.Cond.code x code maxLocals ret :: ws) room_1) code maxLocals ret e s m #[(.int p0), (.int p1), (.int p2), (.long q3)] below meth c s₁) (hml : c.maxLocals = 18) (vmB : Vm) (kS : Nat) (hS : s.Since vmB kS) (hZ : Z.Warmed39 (s.setVm vmB).vm) (hown : (s.setVm vmB).vm.findClass "com/example/issuer/issuer/blocklist/EntryKindOfListPinLaw" = some m.cls) (own_strw : ∀ a ∈ Bundle.stringAtoms, a.before a0 Z = true) (hEL : EW Z a0 consts_1) (Qf : Outcome → State → Prop) (hQf : Qf = (fun (_ : Array Value) (U : State) (o : Outcome) (U' : State) => ∃ v L, o = .returned v ∧ Q_rm0  h0 n0 v U'.heap L ∧ ReturnedEndW U o U' L room_1.cells room_1.slots) #[] s) (bs : Addr) (pb : Int32) (pm : Int32) (pk : Int32) (c0_ : Int32) (c1_ : Int32) (c2_ : Int32) (c3_ : Int32) (c4_ : Int32) (c5_ : Int32) (TC : State) (locsC : List Loc) (hC : Heap) (XC : Stand p l e room_1 (s.setVm vmB) m #[(.int p0), (.int p1), (.int p2), (.long q3)] below meth c TC locsC 8 48) (eC : TC.heap = hC) (hk : kS ≤ hC.size) (OC : Old Z n0 hC) (CR : CHr Z consts_1 s.vm h0 vmB hC) (NC : Fr n0 locsC) : Goes p.tables e below Qf (TC.setTop (mkF m 286 (LA14 p0 p1 p2 q3 pb bs pm c0_ c1_ c2_ c3_ c4_ c5_ pk) [])) := by
  have hx := Bd.exec
  have hby := Bd.bytes
  have hnm := (name_of_methodNamed Bd.named Bd.method).1
  obtain ⟨S_w6, E_w6, S_w7, E_w7, S_w8, E_w8, S_w9, E_w9, F_listName_w7, E_w3, F_value_w3, F_listName_w8, E_w4, F_value_w4, F_listName_w9, E_w5, F_value_w5, F_coder_w3, F_coder_w4, F_coder_w5, V_w6, V_w0, V_w1, V_w2, S_cs, nz_cs, S_fm, rf⟩ := id NF
  refine Goes.to (T' := TC.setTop (mkF m 288 (LA14 p0 p1 p2 q3 pb bs pm c0_ c1_ c2_ c3_ c4_ c5_ pk) [.null])) (fun t k => XS.aload XC.here hx rfl (hb hby at_286) rfl rfl k) ?_
  obtain ⟨_, _, ⟨T7, L7, k7, n7⟩, -, X7, ⟨Lc7, hQ7, l7, y7, z7⟩, st7⟩ := Jvm.LawKit.callS XC hx (y := (⟨"com/example/issuer/issuer/blocklist/EntryKind", "ofList", "(Ljava/lang/String;)Lcom/example/issuer/issuer/blocklist/EntryKind;"⟩ : MethodName)) hown (mvT hZ (wi hw 61 rfl)) (mvT hZ (wi hw 62 rfl)) (mvT hZ (wi hw 63 rfl)) (mvT hZ (wi hw 64 rfl)) (by decide) (backOf (W := 0) (rmO0 hw   hC n0 OC NF ) hZ (wi hw 64 rfl) (wi hw 63 rfl) (by decide) (by decide)) (g := (mkF m 288 (LA14 p0 p1 p2 q3 pb bs pm c0_ c1_ c2_ c3_ c4_ c5_ pk) [.null])) rfl (by rw [hml]; rfl) (argsL := [.null]) (rest := []) (lenOf pd_212 rfl) rfl (by show 2 * 0 + _ ≤ _; exact Nat.le_of_eq rfl) (hb hby at_288) (fun _ _ => ⟨rfl, eC, (by decide : 8 + 1 ≤ _), (by decide : 48 + 3 ≤ _)⟩)
  dsimp only [Pt.U, Pt.locs, Pt.cells, Pt.slots] at X7 l7 y7 z7 st7 hQ7
  subst l7 y7 z7
  obtain ⟨rfl, Nq7, Ex7⟩ := hQ7
  have N7 := Fr.app NC Nq7
  have CR := CR.trans (CHr.ext Ex7 CR.1)
  have OC := OC.ext Ex7
  have hk := Nat.le_trans hk Ex7.1
  refine Goes.to (T' := T7.setTop (mkF m 291 (LA14 p0 p1 p2 q3 pb bs pm c0_ c1_ c2_ c3_ c4_ c5_ pk) [.null])) st7 ?_
  refine Goes.to (T' := T7.setTop (mkF m 293 (LA15 p0 p1 p2 q3 pb bs pm c0_ c1_ c2_ c3_ c4_ c5_ pk) [])) (fun t k => XS.astore X7.here hx rfl (hb hby at_291) rfl rfl (l' := (LA15 p0 p1 p2 q3 pb bs pm c0_ c1_ c2_ c3_ c4_ c5_ pk)) rfl k) ?_
  obtain ⟨b8, T8, h8, kS8, t8, kb8, X8, e8, E8, hS, hk, hZ, hown, Ea8, Fc8, Fv8, Av8, -, -, hC8, -, hne8, st8⟩ := ldcCH X7 hx hZ hown (wi hw 1 rfl) own_strw rfl hS hk hEL (List.mem_of_getElem? (i := 0) rfl) CR.1 (vs := [(.int (99 : Int32)), (.int (97 : Int32)), (.int (114 : Int32)), (.int (100 : Int32)), (.int (115 : Int32))]) (z := 5) ⟨by decide, rfl⟩ (by decide) (by decide) (g := (mkF m 293 (LA15 p0 p1 p2 q3 pb bs pm c0_ c1_ c2_ c3_ c4_ c5_ pk) [])) rfl (hb hby at_293) (n := 20) (by decide) (by decide) (by decide) (by decide)
  have CR := CR.trans hC8
  have OC := OC.ext E8
  have E_b8 : Exa Z h8 b8 "java/lang/String" := Ea8
  have F_coder_b8 : Fld Z h8 b8 "java/lang/String" "coder" "B" (.int (0 : Int32)) := Fc8
  have F_value_b8 : Fld Z h8 b8 "java/lang/String" "value" "[B" (.ref t8) := Fv8
  have V_t8 : Arv Z h8 t8 kb8 .byte (5 : Int32) [(.int (99 : Int32)), (.int (97 : Int32)), (.int (114 : Int32)), (.int (100 : Int32)), (.int (115 : Int32))] (.int (0 : Int32)) := Av8
  refine Goes.to (T' := T8.setTop (mkF m 295 (LA15 p0 p1 p2 q3 pb bs pm c0_ c1_ c2_ c3_ c4_ c5_ pk) [(.ref b8)])) st8 ?_
  refine Goes.to (T' := T8.setTop (mkF m 297 (LA15 p0 p1 p2 q3 pb bs pm c0_ c1_ c2_ c3_ c4_ c5_ pk) [.null, (.ref b8)])) (fun t k => XS.aload X8.here hx rfl (hb hby at_295) rfl rfl k) ?_
  obtain ⟨cq9, kq9, q9a, q9b, q9c⟩ := isOf hZ e8 E_b8
  obtain ⟨_, _, ⟨T9, L9, k9, n9⟩, -, X9, ⟨Lc9, hQ9, l9, y9, z9⟩, st9⟩ := X8.virtualBack hx (y := (⟨"java/lang/String", "equals", "(Ljava/lang/Object;)Z"⟩ : MethodName)) (z := (⟨"java/lang/String", "equals", "(Ljava/lang/Object;)Z"⟩ : MethodName)) hown (mvT hZ (wi hw 94 rfl)) (mvT hZ (wi hw 86 rfl)) (notFace_of_selects (args := #[]) (mvT hZ (wi hw 88 rfl))) (mvT hZ (wi hw 88 rfl)) (mvT hZ (wi hw 87 rfl)) (by decide) (backOf (W := 0) (rmE0 hw b8  h8 n0 OC NF ) hZ (wi hw 89 rfl) (wi hw 2 rfl) (by decide) (by decide)) q9a q9c (g := (mkF m 297 (LA15 p0 p1 p2 q3 pb bs pm c0_ c1_ c2_ c3_ c4_ c5_ pk) [.null, (.ref b8)])) rfl (by rw [hml]; rfl) (Steps.refl _) (argsL := [.null]) (rest := []) (lenOf pd_142 rfl) rfl (by show 2 * 0 + _ ≤ _; exact Nat.le_of_eq rfl) (hb hby at_297) (fun _ _ => ⟨rfl, e8, (by decide : 11 + 0 ≤ _), (by decide : 75 + 0 ≤ _)⟩)
  dsimp only [Pt.U, Pt.locs, Pt.cells, Pt.slots] at X9 l9 y9 z9 st9 hQ9
  subst l9 y9 z9
  obtain ⟨rfl, Nq9, e9⟩ := hQ9
  have N9 := Fr.app N7 Nq9
  refine Goes.thru (T' := T9.setTop (mkF m 300 (LA15 p0 p1 p2 q3 pb bs pm c0_ c1_ c2_ c3_ c4_ c5_ pk) [(.int (0 : Int32))])) st9 ?_
  refine Goes.to (T' := T9.setTop (mkF m 311 (LA15 p0 p1 p2 q3 pb bs pm c0_ c1_ c2_ c3_ c4_ c5_ pk) [])) (fun t k => XS.ifYes X9.here hx rfl (pc0 := 300) (pc' := 311) rfl (hb hby at_300) rfl ((if0 _ _).trans (teq (by decide)).1) (by decide) (by decide) k) ?_
  obtain ⟨b10, T10, h10, kS10, t10, kb10, X10, e10, E10, hS, hk, hZ, hown, Ea10, Fc10, Fv10, Av10, -, -, hC10, -, hne10, st10⟩ := ldcCH X9 hx hZ hown (wi hw 95 rfl) own_strw e9 hS hk hEL (List.mem_of_getElem? (i := 1) rfl) CR.1 (vs := [(.int (117 : Int32)), (.int (115 : Int32)), (.int (101 : Int32)), (.int (114 : Int32)), (.int (115 : Int32))]) (z := 5) ⟨by decide, rfl⟩ (by decide) (by decide) (g := (mkF m 311 (LA15 p0 p1 p2 q3 pb bs pm c0_ c1_ c2_ c3_ c4_ c5_ pk) [])) rfl (hb hby at_311) (n := 20) (by decide) (by decide) (by decide) (by decide)
  have CR := CR.trans hC10
  have E_b8 := E_b8.ext E10
  have F_coder_b8 := F_coder_b8.ext E10
  have F_value_b8 := F_value_b8.ext E10
  have V_t8 := V_t8.ext E10
  have OC := OC.ext E10
  have E_b10 : Exa Z h10 b10 "java/lang/String" := Ea10
  have F_coder_b10 : Fld Z h10 b10 "java/lang/String" "coder" "B" (.int (0 : Int32)) := Fc10
  have F_value_b10 : Fld Z h10 b10 "java/lang/String" "value" "[B" (.ref t10) := Fv10
  have V_t10 : Arv Z h10 t10 kb10 .byte (5 : Int32) [(.int (117 : Int32)), (.int (115 : Int32)), (.int (101 : Int32)), (.int (114 : Int32)), (.int (115 : Int32))] (.int (0 : Int32)) := Av10
  refine Goes.to (T' := T10.setTop (mkF m 313 (LA15 p0 p1 p2 q3 pb bs pm c0_ c1_ c2_ c3_ c4_ c5_ pk) [(.ref b10)])) st10 ?_
  refine Goes.to (T' := T10.setTop (mkF m 315 (LA15 p0 p1 p2 q3 pb bs pm c0_ c1_ c2_ c3_ c4_ c5_ pk) [.null, (.ref b10)])) (fun t k => XS.aload X10.here hx rfl (hb hby at_313) rfl rfl k) ?_
  obtain ⟨cq11, kq11, q11a, q11b, q11c⟩ := isOf hZ e10 E_b10
  obtain ⟨_, _, ⟨T11, L11, k11, n11⟩, -, X11, ⟨Lc11, hQ11, l11, y11, z11⟩, st11⟩ := X10.virtualBack hx (y := (⟨"java/lang/String", "equals", "(Ljava/lang/Object;)Z"⟩ : MethodName)) (z := (⟨"java/lang/String", "equals", "(Ljava/lang/Object;)Z"⟩ : MethodName)) hown (mvT hZ (wi hw 94 rfl)) (mvT hZ (wi hw 86 rfl)) (notFace_of_selects (args := #[]) (mvT hZ (wi hw 88 rfl))) (mvT hZ (wi hw 88 rfl)) (mvT hZ (wi hw 87 rfl)) (by decide) (backOf (W := 0) (rmE0 hw b10  h10 n0 OC NF ) hZ (wi hw 89 rfl) (wi hw 2 rfl) (by decide) (by decide)) q11a q11c (g := (mkF m 315 (LA15 p0 p1 p2 q3 pb bs pm c0_ c1_ c2_ c3_ c4_ c5_ pk) [.null, (.ref b10)])) rfl (by rw [hml]; rfl) (Steps.refl _) (argsL := [.null]) (rest := []) (lenOf pd_142 rfl) rfl (by show 2 * 0 + _ ≤ _; exact Nat.le_of_eq rfl) (hb hby at_315) (fun _ _ => ⟨rfl, e10, (by decide : 13 + 0 ≤ _), (by decide : 99 + 0 ≤ _)⟩)
  dsimp only [Pt.U, Pt.locs, Pt.cells, Pt.slots] at X11 l11 y11 z11 st11 hQ11
  subst l11 y11 z11
  obtain ⟨rfl, Nq11, e11⟩ := hQ11
  have N11 := Fr.app N9 Nq11
  refine Goes.thru (T' := T11.setTop (mkF m 318 (LA15 p0 p1 p2 q3 pb bs pm c0_ c1_ c2_ c3_ c4_ c5_ pk) [(.int (0 : Int32))])) st11 ?_
  refine Goes.to (T' := T11.setTop (mkF m 329 (LA15 p0 p1 p2 q3 pb bs pm c0_ c1_ c2_ c3_ c4_ c5_ pk) [])) (fun t k => XS.ifYes X11.here hx rfl (pc0 := 318) (pc' := 329) rfl (hb hby at_318) rfl ((if0 _ _).trans (teq (by decide)).1) (by decide) (by decide) k) ?_
  obtain ⟨b12, T12, h12, kS12, t12, kb12, X12, e12, E12, hS, hk, hZ, hown, Ea12, Fc12, Fv12, Av12, -, -, hC12, -, hne12, st12⟩ := ldcCH X11 hx hZ hown (wi hw 96 rfl) own_strw e11 hS hk hEL (List.mem_of_getElem? (i := 2) rfl) CR.1 (vs := [(.int (115 : Int32)), (.int (105 : Int32)), (.int (116 : Int32)), (.int (101 : Int32)), (.int (115 : Int32))]) (z := 5) ⟨by decide, rfl⟩ (by decide) (by decide) (g := (mkF m 329 (LA15 p0 p1 p2 q3 pb bs pm c0_ c1_ c2_ c3_ c4_ c5_ pk) [])) rfl (hb hby at_329) (n := 20) (by decide) (by decide) (by decide) (by decide)
  have CR := CR.trans hC12
  have E_b8 := E_b8.ext E12
  have F_coder_b8 := F_coder_b8.ext E12
  have F_value_b8 := F_value_b8.ext E12
  have V_t8 := V_t8.ext E12
  have E_b10 := E_b10.ext E12
  have F_coder_b10 := F_coder_b10.ext E12
  have F_value_b10 := F_value_b10.ext E12
  have V_t10 := V_t10.ext E12
  have OC := OC.ext E12
  have E_b12 : Exa Z h12 b12 "java/lang/String" := Ea12
  have F_coder_b12 : Fld Z h12 b12 "java/lang/String" "coder" "B" (.int (0 : Int32)) := Fc12
  have F_value_b12 : Fld Z h12 b12 "java/lang/String" "value" "[B" (.ref t12) := Fv12
  have V_t12 : Arv Z h12 t12 kb12 .byte (5 : Int32) [(.int (115 : Int32)), (.int (105 : Int32)), (.int (116 : Int32)), (.int (101 : Int32)), (.int (115 : Int32))] (.int (0 : Int32)) := Av12
  refine Goes.to (T' := T12.setTop (mkF m 331 (LA15 p0 p1 p2 q3 pb bs pm c0_ c1_ c2_ c3_ c4_ c5_ pk) [(.ref b12)])) st12 ?_
  refine Goes.to (T' := T12.setTop (mkF m 333 (LA15 p0 p1 p2 q3 pb bs pm c0_ c1_ c2_ c3_ c4_ c5_ pk) [.null, (.ref b12)])) (fun t k => XS.aload X12.here hx rfl (hb hby at_331) rfl rfl k) ?_
  obtain ⟨cq13, kq13, q13a, q13b, q13c⟩ := isOf hZ e12 E_b12
  obtain ⟨_, _, ⟨T13, L13, k13, n13⟩, -, X13, ⟨Lc13, hQ13, l13, y13, z13⟩, st13⟩ := X12.virtualBack hx (y := (⟨"java/lang/String", "equals", "(Ljava/lang/Object;)Z"⟩ : MethodName)) (z := (⟨"java/lang/String", "equals", "(Ljava/lang/Object;)Z"⟩ : MethodName)) hown (mvT hZ (wi hw 94 rfl)) (mvT hZ (wi hw 86 rfl)) (notFace_of_selects (args := #[]) (mvT hZ (wi hw 88 rfl))) (mvT hZ (wi hw 88 rfl)) (mvT hZ (wi hw 87 rfl)) (by decide) (backOf (W := 0) (rmE0 hw b12  h12 n0 OC NF ) hZ (wi hw 89 rfl) (wi hw 2 rfl) (by decide) (by decide)) q13a q13c (g := (mkF m 333 (LA15 p0 p1 p2 q3 pb bs pm c0_ c1_ c2_ c3_ c4_ c5_ pk) [.null, (.ref b12)])) rfl (by rw [hml]; rfl) (Steps.refl _) (argsL := [.null]) (rest := []) (lenOf pd_142 rfl) rfl (by show 2 * 0 + _ ≤ _; exact Nat.le_of_eq rfl) (hb hby at_333) (fun _ _ => ⟨rfl, e12, (by decide : 15 + 0 ≤ _), (by decide : 123 + 0 ≤ _)⟩)
  dsimp only [Pt.U, Pt.locs, Pt.cells, Pt.slots] at X13 l13 y13 z13 st13 hQ13
  subst l13 y13 z13
  obtain ⟨rfl, Nq13, e13⟩ := hQ13
  have N13 := Fr.app N11 Nq13
  refine Goes.thru (T' := T13.setTop (mkF m 336 (LA15 p0 p1 p2 q3 pb bs pm c0_ c1_ c2_ c3_ c4_ c5_ pk) [(.int (0 : Int32))])) st13 ?_
  refine Goes.to (T' := T13.setTop (mkF m 347 (LA15 p0 p1 p2 q3 pb bs pm c0_ c1_ c2_ c3_ c4_ c5_ pk) [])) (fun t k => XS.ifYes X13.here hx rfl (pc0 := 336) (pc' := 347) rfl (hb hby at_336) rfl ((if0 _ _).trans (teq (by decide)).1) (by decide) (by decide) k) ?_
  refine Goes.to (T' := T13.setTop (mkF m 348 (LA15 p0 p1 p2 q3 pb bs pm c0_ c1_ c2_ c3_ c4_ c5_ pk) [.null])) (fun t k => XS.aconstNull X13.here hx rfl (hb hby at_347) k) ?_
  refine Goes.to (T' := T13.setTop (mkF m 350 (LA16 p0 p1 p2 q3 pb bs pm c0_ c1_ c2_ c3_ c4_ c5_ pk) [])) (fun t k => XS.astore X13.here hx rfl (hb hby at_348) rfl rfl (l' := (LA16 p0 p1 p2 q3 pb bs pm c0_ c1_ c2_ c3_ c4_ c5_ pk)) rfl k) ?_
  refine Goes.to (T' := T13.setTop (mkF m 352 (LA16 p0 p1 p2 q3 pb bs pm c0_ c1_ c2_ c3_ c4_ c5_ pk) [.null])) (fun t k => XS.aload X13.here hx rfl (hb hby at_350) rfl rfl k) ?_
  refine Goes.to (T' := T13.setTop (mkF m 354 (LA16 p0 p1 p2 q3 pb bs pm c0_ c1_ c2_ c3_ c4_ c5_ pk) [.null, .null])) (fun t k => XS.aload X13.here hx rfl (hb hby at_352) rfl rfl k) ?_
  refine Goes.to (T' := T13.setTop (mkF m 357 (LA16 p0 p1 p2 q3 pb bs pm c0_ c1_ c2_ c3_ c4_ c5_ pk) [])) (fun t k => Jvm.RoadKit.acmp (g := (mkF m 354 (LA16 p0 p1 p2 q3 pb bs pm c0_ c1_ c2_ c3_ c4_ c5_ pk) [.null, .null])) X13 hx rfl rfl rfl (pc0 := 354) (pc' := 357) (same := true) rfl (hb hby at_354) rfl (decide_eq_true rfl) (by decide) (by decide) k) ?_
  refine Goes.to (T' := T13.setTop (mkF m 358 (LA16 p0 p1 p2 q3 pb bs pm c0_ c1_ c2_ c3_ c4_ c5_ pk) [(.int (1 : Int32))])) (fun t k => XS.iconst X13.here hx rfl (hb hby at_357) k) ?_
  refine Goes.to (T' := T13.setTop (mkF m 362 (LA16 p0 p1 p2 q3 pb bs pm c0_ c1_ c2_ c3_ c4_ c5_ pk) [(.int (1 : Int32))])) (fun t k => XS.goto X13.here hx rfl (pc0 := 358) (pc' := 362) rfl (hb hby at_358) (by decide) (by decide) k) ?_
  obtain ⟨fs, hrL, hrun, hended, hRW⟩ := X13.leaveW hS (by rw [e13]; exact hk) (v := some (.int (1 : Int32))) (fun h => by rw [Bd.returns] at h; cases h)
  subst hQf
  refine ⟨_, _, retN X13 hx (t := .boolean) Bd.returns (by simp) (hb hby at_362) hrL, hrun, hended, _, _, rfl, ?_, hRW.1, hRW.2.1, hRW.2.2.1, hRW.2.2.2.mono (by decide) (by decide)⟩
  show Q_rm0  h0 n0 (some (.int (1 : Int32))) T13.heap _
  rw [e13]
  exact ⟨rfl, N13⟩
def LA17 (v0 : Int32) (v1 : Int32) (v2 : Int32) (v3 : Int64) (v4 : Int32) (v5 : Addr) (v6 : Int32) (v7 : Int32) (v8 : Int32) (v9 : Int32) (v10 : Int32) (v11 : Int32) (v12 : Int32) (v13 : Int32) (v14 : Addr) : Array Slot := #[.val (.int v0), .val (.int v1), .val (.int v2), .val (.long v3), .second, .val (.int v4), .val (.ref v5), .val (.int v6), .val (.int v7), .val (.int v8), .val (.int v9), .val (.int v10), .val (.int v11), .val (.int v12), .val (.int v13), .val (.ref v14), .unset, .unset]
def LA18 (v0 : Int32) (v1 : Int32) (v2 : Int32) (v3 : Int64) (v4 : Int32) (v5 : Addr) (v6 : Int32) (v7 : Int32) (v8 : Int32) (v9 : Int32) (v10 : Int32) (v11 : Int32) (v12 : Int32) (v13 : Int32) (v14 : Addr) : Array Slot := #[.val (.int v0), .val (.int v1), .val (.int v2), .val (.long v3), .second, .val (.int v4), .val (.ref v5), .val (.int v6), .val (.int v7), .val (.int v8), .val (.int v9), .val (.int v10), .val (.int v11), .val (.int v12), .val (.int v13), .val (.ref v14), .val .null, .unset]
def LA19 (v0 : Int32) (v1 : Int32) (v2 : Int32) (v3 : Int64) (v4 : Int32) (v5 : Addr) (v6 : Int32) (v7 : Int32) (v8 : Int32) (v9 : Int32) (v10 : Int32) (v11 : Int32) (v12 : Int32) (v13 : Int32) (v14 : Addr) : Array Slot := #[.val (.int v0), .val (.int v1), .val (.int v2), .val (.long v3), .second, .val (.int v4), .val (.ref v5), .val (.int v6), .val (.int v7), .val (.int v8), .val (.int v9), .val (.int v10), .val (.int v11), .val (.int v12), .val (.int v13), .val (.ref v14), .val .null, .val .null]
theorem rm0_Tn (hw : HW a0 Z) (p0 : Int32) (p1 : Int32) (p2 : Int32) (q3 : Int64) (vmC : Vm) (h0 : Heap) (n0 : Nat) (NF : Nar Z w6 w7 w8 w9 w3 w0 w4 w1 w5 w2 k_w6 k_w0 k_w1 k_w2 z_cs fm) (p : Program) (e : Env) (s : State) (m : MethodId) (below : List Frame) (meth : _) (c : _) (s₁ : State) (Bd : BodyLoose p l x (head1 (Jvm.Cond.code x code maxLocals ret :: ws) room_1) code maxLocals ret e s m #[(.int p0), (.int p1), (.int p2), (.long q3)] below meth c s₁) (hml : c.maxLocals = 18) (vmB : Vm) (kS : Nat) (hS : s.Since vmB kS) (hZ : Z.Warmed39 (s.setVm vmB).vm) (hown : (s.setVm vmB).vm.findClass "com/example/issuer/issuer/blocklist/EntryKindOfListPinLaw" = some m.cls) (own_strw : ∀ a ∈ Bundle.stringAtoms, a.before a0 Z = true) (hEL : EW Z a0 consts_1) (Qf : Outcome → State → Prop) (hQf : Qf = (fun (_ : Array Value) (U : State) (o : Outcome) (U' : State) => ∃ v L, o = .returned v ∧ Q_rm0  h0 n0 v U'.heap L ∧ ReturnedEndW U o U' L room_1.cells room_1.slots) #[] s) (bs : Addr) (pb : Int32) (pm : Int32) (pk : Int32) (c0_ : Int32) (c1_ : Int32) (c2_ : Int32) (c3_ : Int32) (c4_ : Int32) (c5_ : Int32) (TC : State) (locsC : List Loc) (hC : Heap) (xs : Addr) (sv : Addr) (ks : ClassId) (zz : Int32) (vsx : List Value) (XC : Stand p l e room_1 (s.setVm vmB) m #[(.int p0), (.int p1), (.int p2), (.long q3)] below meth c TC locsC 8 48) (eC : TC.heap = hC) (hk : kS ≤ hC.size) (OC : Old Z n0 hC) (E_xs : Exa Z hC xs "java/lang/String") (F_coder_xs : Fld Z hC xs "java/lang/String" "coder" "B" (.int (0 : Int32))) (F_value_xs : Fld Z hC xs "java/lang/String" "value" "[B" (.ref sv)) (V_sv : Arv Z hC sv ks .byte zz vsx (.int (0 : Int32))) (CR : CHr Z consts_1 s.vm h0 vmB hC) (S_xs : Safe Z consts_1 vmB hC xs) (NC : Fr n0 locsC) (g_xs : n0 ≤ xs) (hz5 : ¬ (5 : Int32) = zz) : Goes p.tables e below Qf (TC.setTop (mkF m 286 (LA17 p0 p1 p2 q3 pb bs pm c0_ c1_ c2_ c3_ c4_ c5_ pk xs) [])) := by
  have hx := Bd.exec
  have hby := Bd.bytes
  have hnm := (name_of_methodNamed Bd.named Bd.method).1
  obtain ⟨S_w6, E_w6, S_w7, E_w7, S_w8, E_w8, S_w9, E_w9, F_listName_w7, E_w3, F_value_w3, F_listName_w8, E_w4, F_value_w4, F_listName_w9, E_w5, F_value_w5, F_coder_w3, F_coder_w4, F_coder_w5, V_w6, V_w0, V_w1, V_w2, S_cs, nz_cs, S_fm, rf⟩ := id NF
  refine Goes.to (T' := TC.setTop (mkF m 288 (LA17 p0 p1 p2 q3 pb bs pm c0_ c1_ c2_ c3_ c4_ c5_ pk xs) [(.ref xs)])) (fun t k => XS.aload XC.here hx rfl (hb hby at_286) rfl rfl k) ?_
  obtain ⟨_, _, ⟨T14, L14, k14, n14⟩, -, X14, ⟨Lc14, hQ14, l14, y14, z14⟩, st14⟩ := Jvm.LawKit.callS XC hx (y := (⟨"com/example/issuer/issuer/blocklist/EntryKind", "ofList", "(Ljava/lang/String;)Lcom/example/issuer/issuer/blocklist/EntryKind;"⟩ : MethodName)) hown (mvT hZ (wi hw 61 rfl)) (mvT hZ (wi hw 62 rfl)) (mvT hZ (wi hw 63 rfl)) (mvT hZ (wi hw 64 rfl)) (by decide) (backOf (W := 0) (rmOn hw xs sv ks zz vsx hC n0 OC NF E_xs F_coder_xs F_value_xs V_sv g_xs hz5) hZ (wi hw 64 rfl) (wi hw 63 rfl) (by decide) (by decide)) (g := (mkF m 288 (LA17 p0 p1 p2 q3 pb bs pm c0_ c1_ c2_ c3_ c4_ c5_ pk xs) [(.ref xs)])) rfl (by rw [hml]; rfl) (argsL := [(.ref xs)]) (rest := []) (lenOf pd_212 rfl) rfl (by show 2 * 0 + _ ≤ _; exact Nat.le_of_eq rfl) (hb hby at_288) (fun _ _ => ⟨rfl, eC, (by decide : 8 + 1 ≤ _), (by decide : 48 + 3 ≤ _)⟩)
  dsimp only [Pt.U, Pt.locs, Pt.cells, Pt.slots] at X14 l14 y14 z14 st14 hQ14
  subst l14 y14 z14
  obtain ⟨rfl, Nq14, Ex14⟩ := hQ14
  have N14 := Fr.app NC Nq14
  have S_xs := Safe.ext Ex14 CR.1 S_xs
  have CR := CR.trans (CHr.ext Ex14 CR.1)
  have E_xs := E_xs.ext Ex14
  have F_coder_xs := F_coder_xs.ext Ex14
  have F_value_xs := F_value_xs.ext Ex14
  have V_sv := V_sv.ext Ex14
  have OC := OC.ext Ex14
  have hk := Nat.le_trans hk Ex14.1
  refine Goes.to (T' := T14.setTop (mkF m 291 (LA17 p0 p1 p2 q3 pb bs pm c0_ c1_ c2_ c3_ c4_ c5_ pk xs) [.null])) st14 ?_
  refine Goes.to (T' := T14.setTop (mkF m 293 (LA18 p0 p1 p2 q3 pb bs pm c0_ c1_ c2_ c3_ c4_ c5_ pk xs) [])) (fun t k => XS.astore X14.here hx rfl (hb hby at_291) rfl rfl (l' := (LA18 p0 p1 p2 q3 pb bs pm c0_ c1_ c2_ c3_ c4_ c5_ pk xs)) rfl k) ?_
  obtain ⟨b15, T15, h15, kS15, t15, kb15, X15, e15, E15, hS, hk, hZ, hown, Ea15, Fc15, Fv15, Av15, -, -, hC15, -, hne15, st15⟩ := ldcCH X14 hx hZ hown (wi hw 1 rfl) own_strw rfl hS hk hEL (List.mem_of_getElem? (i := 0) rfl) CR.1 (vs := [(.int (99 : Int32)), (.int (97 : Int32)), (.int (114 : Int32)), (.int (100 : Int32)), (.int (115 : Int32))]) (z := 5) ⟨by decide, rfl⟩ (by decide) (by decide) (g := (mkF m 293 (LA18 p0 p1 p2 q3 pb bs pm c0_ c1_ c2_ c3_ c4_ c5_ pk xs) [])) rfl (hb hby at_293) (n := 20) (by decide) (by decide) (by decide) (by decide)
  have S_xs := hC15.safe E_xs.lt S_xs
  have CR := CR.trans hC15
  have E_xs := E_xs.ext E15
  have F_coder_xs := F_coder_xs.ext E15
  have F_value_xs := F_value_xs.ext E15
  have V_sv := V_sv.ext E15
  have OC := OC.ext E15
  have E_b15 : Exa Z h15 b15 "java/lang/String" := Ea15
  have F_coder_b15 : Fld Z h15 b15 "java/lang/String" "coder" "B" (.int (0 : Int32)) := Fc15
  have F_value_b15 : Fld Z h15 b15 "java/lang/String" "value" "[B" (.ref t15) := Fv15
  have V_t15 : Arv Z h15 t15 kb15 .byte (5 : Int32) [(.int (99 : Int32)), (.int (97 : Int32)), (.int (114 : Int32)), (.int (100 : Int32)), (.int (115 : Int32))] (.int (0 : Int32)) := Av15
  have ne_xs_b15 : xs ≠ b15 := (hne15 _ S_xs).1
  have ne_b15_xs := Ne.symm ne_xs_b15
  have ne_xs_t15 : xs ≠ t15 := (hne15 _ S_xs).2
  have ne_t15_xs := Ne.symm ne_xs_t15
  refine Goes.to (T' := T15.setTop (mkF m 295 (LA18 p0 p1 p2 q3 pb bs pm c0_ c1_ c2_ c3_ c4_ c5_ pk xs) [(.ref b15)])) st15 ?_
  refine Goes.to (T' := T15.setTop (mkF m 297 (LA18 p0 p1 p2 q3 pb bs pm c0_ c1_ c2_ c3_ c4_ c5_ pk xs) [(.ref xs), (.ref b15)])) (fun t k => XS.aload X15.here hx rfl (hb hby at_295) rfl rfl k) ?_
  obtain ⟨cq16, kq16, q16a, q16b, q16c⟩ := isOf hZ e15 E_b15
  obtain ⟨_, _, ⟨T16, L16, k16, n16⟩, -, X16, ⟨Lc16, hQ16, l16, y16, z16⟩, st16⟩ := X15.virtualBack hx (y := (⟨"java/lang/String", "equals", "(Ljava/lang/Object;)Z"⟩ : MethodName)) (z := (⟨"java/lang/String", "equals", "(Ljava/lang/Object;)Z"⟩ : MethodName)) hown (mvT hZ (wi hw 94 rfl)) (mvT hZ (wi hw 86 rfl)) (notFace_of_selects (args := #[]) (mvT hZ (wi hw 88 rfl))) (mvT hZ (wi hw 88 rfl)) (mvT hZ (wi hw 87 rfl)) (by decide) (backOf (W := 0) (rmEn hw b15 xs t15 sv kb15 ks (99 : Int32) (97 : Int32) (114 : Int32) (100 : Int32) (115 : Int32) zz vsx h15 n0 OC NF E_b15 F_coder_b15 F_value_b15 E_xs F_coder_xs F_value_xs V_t15 V_sv ne_b15_xs hz5) hZ (wi hw 89 rfl) (wi hw 2 rfl) (by decide) (by decide)) q16a q16c (g := (mkF m 297 (LA18 p0 p1 p2 q3 pb bs pm c0_ c1_ c2_ c3_ c4_ c5_ pk xs) [(.ref xs), (.ref b15)])) rfl (by rw [hml]; rfl) (Steps.refl _) (argsL := [(.ref xs)]) (rest := []) (lenOf pd_142 rfl) rfl (by show 2 * 0 + _ ≤ _; exact Nat.le_of_eq rfl) (hb hby at_297) (fun _ _ => ⟨rfl, e15, (by decide : 11 + 0 ≤ _), (by decide : 75 + 0 ≤ _)⟩)
  dsimp only [Pt.U, Pt.locs, Pt.cells, Pt.slots] at X16 l16 y16 z16 st16 hQ16
  subst l16 y16 z16
  obtain ⟨rfl, Nq16, e16⟩ := hQ16
  have N16 := Fr.app N14 Nq16
  refine Goes.thru (T' := T16.setTop (mkF m 300 (LA18 p0 p1 p2 q3 pb bs pm c0_ c1_ c2_ c3_ c4_ c5_ pk xs) [(.int (0 : Int32))])) st16 ?_
  refine Goes.to (T' := T16.setTop (mkF m 311 (LA18 p0 p1 p2 q3 pb bs pm c0_ c1_ c2_ c3_ c4_ c5_ pk xs) [])) (fun t k => XS.ifYes X16.here hx rfl (pc0 := 300) (pc' := 311) rfl (hb hby at_300) rfl ((if0 _ _).trans (teq (by decide)).1) (by decide) (by decide) k) ?_
  obtain ⟨b17, T17, h17, kS17, t17, kb17, X17, e17, E17, hS, hk, hZ, hown, Ea17, Fc17, Fv17, Av17, -, -, hC17, -, hne17, st17⟩ := ldcCH X16 hx hZ hown (wi hw 95 rfl) own_strw e16 hS hk hEL (List.mem_of_getElem? (i := 1) rfl) CR.1 (vs := [(.int (117 : Int32)), (.int (115 : Int32)), (.int (101 : Int32)), (.int (114 : Int32)), (.int (115 : Int32))]) (z := 5) ⟨by decide, rfl⟩ (by decide) (by decide) (g := (mkF m 311 (LA18 p0 p1 p2 q3 pb bs pm c0_ c1_ c2_ c3_ c4_ c5_ pk xs) [])) rfl (hb hby at_311) (n := 20) (by decide) (by decide) (by decide) (by decide)
  have S_xs := hC17.safe E_xs.lt S_xs
  have CR := CR.trans hC17
  have E_xs := E_xs.ext E17
  have F_coder_xs := F_coder_xs.ext E17
  have F_value_xs := F_value_xs.ext E17
  have V_sv := V_sv.ext E17
  have E_b15 := E_b15.ext E17
  have F_coder_b15 := F_coder_b15.ext E17
  have F_value_b15 := F_value_b15.ext E17
  have V_t15 := V_t15.ext E17
  have OC := OC.ext E17
  have E_b17 : Exa Z h17 b17 "java/lang/String" := Ea17
  have F_coder_b17 : Fld Z h17 b17 "java/lang/String" "coder" "B" (.int (0 : Int32)) := Fc17
  have F_value_b17 : Fld Z h17 b17 "java/lang/String" "value" "[B" (.ref t17) := Fv17
  have V_t17 : Arv Z h17 t17 kb17 .byte (5 : Int32) [(.int (117 : Int32)), (.int (115 : Int32)), (.int (101 : Int32)), (.int (114 : Int32)), (.int (115 : Int32))] (.int (0 : Int32)) := Av17
  have ne_xs_b17 : xs ≠ b17 := (hne17 _ S_xs).1
  have ne_b17_xs := Ne.symm ne_xs_b17
  have ne_xs_t17 : xs ≠ t17 := (hne17 _ S_xs).2
  have ne_t17_xs := Ne.symm ne_xs_t17
  refine Goes.to (T' := T17.setTop (mkF m 313 (LA18 p0 p1 p2 q3 pb bs pm c0_ c1_ c2_ c3_ c4_ c5_ pk xs) [(.ref b17)])) st17 ?_
  refine Goes.to (T' := T17.setTop (mkF m 315 (LA18 p0 p1 p2 q3 pb bs pm c0_ c1_ c2_ c3_ c4_ c5_ pk xs) [(.ref xs), (.ref b17)])) (fun t k => XS.aload X17.here hx rfl (hb hby at_313) rfl rfl k) ?_
  obtain ⟨cq18, kq18, q18a, q18b, q18c⟩ := isOf hZ e17 E_b17
  obtain ⟨_, _, ⟨T18, L18, k18, n18⟩, -, X18, ⟨Lc18, hQ18, l18, y18, z18⟩, st18⟩ := X17.virtualBack hx (y := (⟨"java/lang/String", "equals", "(Ljava/lang/Object;)Z"⟩ : MethodName)) (z := (⟨"java/lang/String", "equals", "(Ljava/lang/Object;)Z"⟩ : MethodName)) hown (mvT hZ (wi hw 94 rfl)) (mvT hZ (wi hw 86 rfl)) (notFace_of_selects (args := #[]) (mvT hZ (wi hw 88 rfl))) (mvT hZ (wi hw 88 rfl)) (mvT hZ (wi hw 87 rfl)) (by decide) (backOf (W := 0) (rmEn hw b17 xs t17 sv kb17 ks (117 : Int32) (115 : Int32) (101 : Int32) (114 : Int32) (115 : Int32) zz vsx h17 n0 OC NF E_b17 F_coder_b17 F_value_b17 E_xs F_coder_xs F_value_xs V_t17 V_sv ne_b17_xs hz5) hZ (wi hw 89 rfl) (wi hw 2 rfl) (by decide) (by decide)) q18a q18c (g := (mkF m 315 (LA18 p0 p1 p2 q3 pb bs pm c0_ c1_ c2_ c3_ c4_ c5_ pk xs) [(.ref xs), (.ref b17)])) rfl (by rw [hml]; rfl) (Steps.refl _) (argsL := [(.ref xs)]) (rest := []) (lenOf pd_142 rfl) rfl (by show 2 * 0 + _ ≤ _; exact Nat.le_of_eq rfl) (hb hby at_315) (fun _ _ => ⟨rfl, e17, (by decide : 13 + 0 ≤ _), (by decide : 99 + 0 ≤ _)⟩)
  dsimp only [Pt.U, Pt.locs, Pt.cells, Pt.slots] at X18 l18 y18 z18 st18 hQ18
  subst l18 y18 z18
  obtain ⟨rfl, Nq18, e18⟩ := hQ18
  have N18 := Fr.app N16 Nq18
  refine Goes.thru (T' := T18.setTop (mkF m 318 (LA18 p0 p1 p2 q3 pb bs pm c0_ c1_ c2_ c3_ c4_ c5_ pk xs) [(.int (0 : Int32))])) st18 ?_
  refine Goes.to (T' := T18.setTop (mkF m 329 (LA18 p0 p1 p2 q3 pb bs pm c0_ c1_ c2_ c3_ c4_ c5_ pk xs) [])) (fun t k => XS.ifYes X18.here hx rfl (pc0 := 318) (pc' := 329) rfl (hb hby at_318) rfl ((if0 _ _).trans (teq (by decide)).1) (by decide) (by decide) k) ?_
  obtain ⟨b19, T19, h19, kS19, t19, kb19, X19, e19, E19, hS, hk, hZ, hown, Ea19, Fc19, Fv19, Av19, -, -, hC19, -, hne19, st19⟩ := ldcCH X18 hx hZ hown (wi hw 96 rfl) own_strw e18 hS hk hEL (List.mem_of_getElem? (i := 2) rfl) CR.1 (vs := [(.int (115 : Int32)), (.int (105 : Int32)), (.int (116 : Int32)), (.int (101 : Int32)), (.int (115 : Int32))]) (z := 5) ⟨by decide, rfl⟩ (by decide) (by decide) (g := (mkF m 329 (LA18 p0 p1 p2 q3 pb bs pm c0_ c1_ c2_ c3_ c4_ c5_ pk xs) [])) rfl (hb hby at_329) (n := 20) (by decide) (by decide) (by decide) (by decide)
  have S_xs := hC19.safe E_xs.lt S_xs
  have CR := CR.trans hC19
  have E_xs := E_xs.ext E19
  have F_coder_xs := F_coder_xs.ext E19
  have F_value_xs := F_value_xs.ext E19
  have V_sv := V_sv.ext E19
  have E_b15 := E_b15.ext E19
  have F_coder_b15 := F_coder_b15.ext E19
  have F_value_b15 := F_value_b15.ext E19
  have V_t15 := V_t15.ext E19
  have E_b17 := E_b17.ext E19
  have F_coder_b17 := F_coder_b17.ext E19
  have F_value_b17 := F_value_b17.ext E19
  have V_t17 := V_t17.ext E19
  have OC := OC.ext E19
  have E_b19 : Exa Z h19 b19 "java/lang/String" := Ea19
  have F_coder_b19 : Fld Z h19 b19 "java/lang/String" "coder" "B" (.int (0 : Int32)) := Fc19
  have F_value_b19 : Fld Z h19 b19 "java/lang/String" "value" "[B" (.ref t19) := Fv19
  have V_t19 : Arv Z h19 t19 kb19 .byte (5 : Int32) [(.int (115 : Int32)), (.int (105 : Int32)), (.int (116 : Int32)), (.int (101 : Int32)), (.int (115 : Int32))] (.int (0 : Int32)) := Av19
  have ne_xs_b19 : xs ≠ b19 := (hne19 _ S_xs).1
  have ne_b19_xs := Ne.symm ne_xs_b19
  have ne_xs_t19 : xs ≠ t19 := (hne19 _ S_xs).2
  have ne_t19_xs := Ne.symm ne_xs_t19
  refine Goes.to (T' := T19.setTop (mkF m 331 (LA18 p0 p1 p2 q3 pb bs pm c0_ c1_ c2_ c3_ c4_ c5_ pk xs) [(.ref b19)])) st19 ?_
  refine Goes.to (T' := T19.setTop (mkF m 333 (LA18 p0 p1 p2 q3 pb bs pm c0_ c1_ c2_ c3_ c4_ c5_ pk xs) [(.ref xs), (.ref b19)])) (fun t k => XS.aload X19.here hx rfl (hb hby at_331) rfl rfl k) ?_
  obtain ⟨cq20, kq20, q20a, q20b, q20c⟩ := isOf hZ e19 E_b19
  obtain ⟨_, _, ⟨T20, L20, k20, n20⟩, -, X20, ⟨Lc20, hQ20, l20, y20, z20⟩, st20⟩ := X19.virtualBack hx (y := (⟨"java/lang/String", "equals", "(Ljava/lang/Object;)Z"⟩ : MethodName)) (z := (⟨"java/lang/String", "equals", "(Ljava/lang/Object;)Z"⟩ : MethodName)) hown (mvT hZ (wi hw 94 rfl)) (mvT hZ (wi hw 86 rfl)) (notFace_of_selects (args := #[]) (mvT hZ (wi hw 88 rfl))) (mvT hZ (wi hw 88 rfl)) (mvT hZ (wi hw 87 rfl)) (by decide) (backOf (W := 0) (rmEn hw b19 xs t19 sv kb19 ks (115 : Int32) (105 : Int32) (116 : Int32) (101 : Int32) (115 : Int32) zz vsx h19 n0 OC NF E_b19 F_coder_b19 F_value_b19 E_xs F_coder_xs F_value_xs V_t19 V_sv ne_b19_xs hz5) hZ (wi hw 89 rfl) (wi hw 2 rfl) (by decide) (by decide)) q20a q20c (g := (mkF m 333 (LA18 p0 p1 p2 q3 pb bs pm c0_ c1_ c2_ c3_ c4_ c5_ pk xs) [(.ref xs), (.ref b19)])) rfl (by rw [hml]; rfl) (Steps.refl _) (argsL := [(.ref xs)]) (rest := []) (lenOf pd_142 rfl) rfl (by show 2 * 0 + _ ≤ _; exact Nat.le_of_eq rfl) (hb hby at_333) (fun _ _ => ⟨rfl, e19, (by decide : 15 + 0 ≤ _), (by decide : 123 + 0 ≤ _)⟩)
  dsimp only [Pt.U, Pt.locs, Pt.cells, Pt.slots] at X20 l20 y20 z20 st20 hQ20
  subst l20 y20 z20
  obtain ⟨rfl, Nq20, e20⟩ := hQ20
  have N20 := Fr.app N18 Nq20
  refine Goes.thru (T' := T20.setTop (mkF m 336 (LA18 p0 p1 p2 q3 pb bs pm c0_ c1_ c2_ c3_ c4_ c5_ pk xs) [(.int (0 : Int32))])) st20 ?_
  refine Goes.to (T' := T20.setTop (mkF m 347 (LA18 p0 p1 p2 q3 pb bs pm c0_ c1_ c2_ c3_ c4_ c5_ pk xs) [])) (fun t k => XS.ifYes X20.here hx rfl (pc0 := 336) (pc' := 347) rfl (hb hby at_336) rfl ((if0 _ _).trans (teq (by decide)).1) (by decide) (by decide) k) ?_
  refine Goes.to (T' := T20.setTop (mkF m 348 (LA18 p0 p1 p2 q3 pb bs pm c0_ c1_ c2_ c3_ c4_ c5_ pk xs) [.null])) (fun t k => XS.aconstNull X20.here hx rfl (hb hby at_347) k) ?_
  refine Goes.to (T' := T20.setTop (mkF m 350 (LA19 p0 p1 p2 q3 pb bs pm c0_ c1_ c2_ c3_ c4_ c5_ pk xs) [])) (fun t k => XS.astore X20.here hx rfl (hb hby at_348) rfl rfl (l' := (LA19 p0 p1 p2 q3 pb bs pm c0_ c1_ c2_ c3_ c4_ c5_ pk xs)) rfl k) ?_
  refine Goes.to (T' := T20.setTop (mkF m 352 (LA19 p0 p1 p2 q3 pb bs pm c0_ c1_ c2_ c3_ c4_ c5_ pk xs) [.null])) (fun t k => XS.aload X20.here hx rfl (hb hby at_350) rfl rfl k) ?_
  refine Goes.to (T' := T20.setTop (mkF m 354 (LA19 p0 p1 p2 q3 pb bs pm c0_ c1_ c2_ c3_ c4_ c5_ pk xs) [.null, .null])) (fun t k => XS.aload X20.here hx rfl (hb hby at_352) rfl rfl k) ?_
  refine Goes.to (T' := T20.setTop (mkF m 357 (LA19 p0 p1 p2 q3 pb bs pm c0_ c1_ c2_ c3_ c4_ c5_ pk xs) [])) (fun t k => Jvm.RoadKit.acmp (g := (mkF m 354 (LA19 p0 p1 p2 q3 pb bs pm c0_ c1_ c2_ c3_ c4_ c5_ pk xs) [.null, .null])) X20 hx rfl rfl rfl (pc0 := 354) (pc' := 357) (same := true) rfl (hb hby at_354) rfl (decide_eq_true rfl) (by decide) (by decide) k) ?_
  refine Goes.to (T' := T20.setTop (mkF m 358 (LA19 p0 p1 p2 q3 pb bs pm c0_ c1_ c2_ c3_ c4_ c5_ pk xs) [(.int (1 : Int32))])) (fun t k => XS.iconst X20.here hx rfl (hb hby at_357) k) ?_
  refine Goes.to (T' := T20.setTop (mkF m 362 (LA19 p0 p1 p2 q3 pb bs pm c0_ c1_ c2_ c3_ c4_ c5_ pk xs) [(.int (1 : Int32))])) (fun t k => XS.goto X20.here hx rfl (pc0 := 358) (pc' := 362) rfl (hb hby at_358) (by decide) (by decide) k) ?_
  obtain ⟨fs, hrL, hrun, hended, hRW⟩ := X20.leaveW hS (by rw [e20]; exact hk) (v := some (.int (1 : Int32))) (fun h => by rw [Bd.returns] at h; cases h)
  subst hQf
  refine ⟨_, _, retN X20 hx (t := .boolean) Bd.returns (by simp) (hb hby at_362) hrL, hrun, hended, _, _, rfl, ?_, hRW.1, hRW.2.1, hRW.2.2.1, hRW.2.2.2.mono (by decide) (by decide)⟩
  show Q_rm0  h0 n0 (some (.int (1 : Int32))) T20.heap _
  rw [e20]
  exact ⟨rfl, N20⟩
def LA20 (v0 : Int32) (v1 : Int32) (v2 : Int32) (v3 : Int64) (v4 : Int32) (v5 : Addr) (v6 : Int32) (v7 : Int32) (v8 : Int32) (v9 : Int32) (v10 : Int32) (v11 : Int32) (v12 : Int32) (v13 : Int32) (v14 : Addr) (v15 : Addr) : Array Slot := #[.val (.int v0), .val (.int v1), .val (.int v2), .val (.long v3), .second, .val (.int v4), .val (.ref v5), .val (.int v6), .val (.int v7), .val (.int v8), .val (.int v9), .val (.int v10), .val (.int v11), .val (.int v12), .val (.int v13), .val (.ref v14), .val (.ref v15), .unset]
def LA21 (v0 : Int32) (v1 : Int32) (v2 : Int32) (v3 : Int64) (v4 : Int32) (v5 : Addr) (v6 : Int32) (v7 : Int32) (v8 : Int32) (v9 : Int32) (v10 : Int32) (v11 : Int32) (v12 : Int32) (v13 : Int32) (v14 : Addr) (v15 : Addr) : Array Slot := #[.val (.int v0), .val (.int v1), .val (.int v2), .val (.long v3), .second, .val (.int v4), .val (.ref v5), .val (.int v6), .val (.int v7), .val (.int v8), .val (.int v9), .val (.int v10), .val (.int v11), .val (.int v12), .val (.int v13), .val (.ref v14), .val (.ref v15), .val (.ref v15)]
theorem rm0_T5 (hw : HW a0 Z) (p0 : Int32) (p1 : Int32) (p2 : Int32) (q3 : Int64) (vmC : Vm) (h0 : Heap) (n0 : Nat) (NF : Nar Z w6 w7 w8 w9 w3 w0 w4 w1 w5 w2 k_w6 k_w0 k_w1 k_w2 z_cs fm) (p : Program) (e : Env) (s : State) (m : MethodId) (below : List Frame) (meth : _) (c : _) (s₁ : State) (Bd : BodyLoose p l x (head1 (Jvm.Cond.code x code maxLocals ret :: ws) room_1) code maxLocals ret e s m #[(.int p0), (.int p1), (.int p2), (.long q3)] below meth c s₁) (hml : c.maxLocals = 18) (vmB : Vm) (kS : Nat) (hS : s.Since vmB kS) (hZ : Z.Warmed39 (s.setVm vmB).vm) (hown : (s.setVm vmB).vm.findClass "com/example/issuer/issuer/blocklist/EntryKindOfListPinLaw" = some m.cls) (own_strw : ∀ a ∈ Bundle.stringAtoms, a.before a0 Z = true) (hEL : EW Z a0 consts_1) (Qf : Outcome → State → Prop) (hQf : Qf = (fun (_ : Array Value) (U : State) (o : Outcome) (U' : State) => ∃ v L, o = .returned v ∧ Q_rm0  h0 n0 v U'.heap L ∧ ReturnedEndW U o U' L room_1.cells room_1.slots) #[] s) (bs : Addr) (pb : Int32) (pm : Int32) (pk : Int32) (c0_ : Int32) (c1_ : Int32) (c2_ : Int32) (c3_ : Int32) (c4_ : Int32) (c5_ : Int32) (TC : State) (locsC : List Loc) (hC : Heap) (xs : Addr) (sv : Addr) (ks : ClassId) (y0_ : Int32) (y1_ : Int32) (y2_ : Int32) (y3_ : Int32) (y4_ : Int32) (XC : Stand p l e room_1 (s.setVm vmB) m #[(.int p0), (.int p1), (.int p2), (.long q3)] below meth c TC locsC 8 48) (eC : TC.heap = hC) (hk : kS ≤ hC.size) (OC : Old Z n0 hC) (E_xs : Exa Z hC xs "java/lang/String") (F_coder_xs : Fld Z hC xs "java/lang/String" "coder" "B" (.int (0 : Int32))) (F_value_xs : Fld Z hC xs "java/lang/String" "value" "[B" (.ref sv)) (V_sv : Arv Z hC sv ks .byte (5 : Int32) [(.int y0_), (.int y1_), (.int y2_), (.int y3_), (.int y4_)] (.int (0 : Int32))) (CR : CHr Z consts_1 s.vm h0 vmB hC) (S_xs : Safe Z consts_1 vmB hC xs) (NC : Fr n0 locsC) (g_xs : n0 ≤ xs) : Goes p.tables e below Qf (TC.setTop (mkF m 286 (LA17 p0 p1 p2 q3 pb bs pm c0_ c1_ c2_ c3_ c4_ c5_ pk xs) [])) := by
  have hx := Bd.exec
  have hby := Bd.bytes
  have hnm := (name_of_methodNamed Bd.named Bd.method).1
  obtain ⟨S_w6, E_w6, S_w7, E_w7, S_w8, E_w8, S_w9, E_w9, F_listName_w7, E_w3, F_value_w3, F_listName_w8, E_w4, F_value_w4, F_listName_w9, E_w5, F_value_w5, F_coder_w3, F_coder_w4, F_coder_w5, V_w6, V_w0, V_w1, V_w2, S_cs, nz_cs, S_fm, rf⟩ := id NF
  rcases Decidable.em ((99 : Int32) = y0_ ∧ (97 : Int32) = y1_ ∧ (114 : Int32) = y2_ ∧ (100 : Int32) = y3_ ∧ (115 : Int32) = y4_) with hp0_21 | hp0_21
  · skip
    refine Goes.to (T' := TC.setTop (mkF m 288 (LA17 p0 p1 p2 q3 pb bs pm c0_ c1_ c2_ c3_ c4_ c5_ pk xs) [(.ref xs)])) (fun t k => XS.aload XC.here hx rfl (hb hby at_286) rfl rfl k) ?_
    obtain ⟨_, _, ⟨T22, L22, k22, n22⟩, -, X22, ⟨Lc22, hQ22, l22, y22, z22⟩, st22⟩ := Jvm.LawKit.callS XC hx (y := (⟨"com/example/issuer/issuer/blocklist/EntryKind", "ofList", "(Ljava/lang/String;)Lcom/example/issuer/issuer/blocklist/EntryKind;"⟩ : MethodName)) hown (mvT hZ (wi hw 61 rfl)) (mvT hZ (wi hw 62 rfl)) (mvT hZ (wi hw 63 rfl)) (mvT hZ (wi hw 64 rfl)) (by decide) (backOf (W := 0) (rmO5 hw xs sv ks y0_ y1_ y2_ y3_ y4_ (Value.ref w7) hC n0 OC NF E_xs F_coder_xs F_value_xs V_sv g_xs (Eq.symm (if_pos hp0_21))) hZ (wi hw 64 rfl) (wi hw 63 rfl) (by decide) (by decide)) (g := (mkF m 288 (LA17 p0 p1 p2 q3 pb bs pm c0_ c1_ c2_ c3_ c4_ c5_ pk xs) [(.ref xs)])) rfl (by rw [hml]; rfl) (argsL := [(.ref xs)]) (rest := []) (lenOf pd_212 rfl) rfl (by show 2 * 0 + _ ≤ _; exact Nat.le_of_eq rfl) (hb hby at_288) (fun _ _ => ⟨rfl, eC, (by decide : 8 + 1 ≤ _), (by decide : 48 + 3 ≤ _)⟩)
    dsimp only [Pt.U, Pt.locs, Pt.cells, Pt.slots] at X22 l22 y22 z22 st22 hQ22
    subst l22 y22 z22
    obtain ⟨rfl, Nq22, Ex22⟩ := hQ22
    have N22 := Fr.app NC Nq22
    have S_xs := Safe.ext Ex22 CR.1 S_xs
    have CR := CR.trans (CHr.ext Ex22 CR.1)
    have E_xs := E_xs.ext Ex22
    have F_coder_xs := F_coder_xs.ext Ex22
    have F_value_xs := F_value_xs.ext Ex22
    have V_sv := V_sv.ext Ex22
    have OC := OC.ext Ex22
    have hk := Nat.le_trans hk Ex22.1
    refine Goes.to (T' := T22.setTop (mkF m 291 (LA17 p0 p1 p2 q3 pb bs pm c0_ c1_ c2_ c3_ c4_ c5_ pk xs) [(.ref w7)])) st22 ?_
    refine Goes.to (T' := T22.setTop (mkF m 293 (LA20 p0 p1 p2 q3 pb bs pm c0_ c1_ c2_ c3_ c4_ c5_ pk xs w7) [])) (fun t k => XS.astore X22.here hx rfl (hb hby at_291) rfl rfl (l' := (LA20 p0 p1 p2 q3 pb bs pm c0_ c1_ c2_ c3_ c4_ c5_ pk xs w7)) rfl k) ?_
    obtain ⟨b23, T23, h23, kS23, t23, kb23, X23, e23, E23, hS, hk, hZ, hown, Ea23, Fc23, Fv23, Av23, -, -, hC23, -, hne23, st23⟩ := ldcCH X22 hx hZ hown (wi hw 1 rfl) own_strw rfl hS hk hEL (List.mem_of_getElem? (i := 0) rfl) CR.1 (vs := [(.int (99 : Int32)), (.int (97 : Int32)), (.int (114 : Int32)), (.int (100 : Int32)), (.int (115 : Int32))]) (z := 5) ⟨by decide, rfl⟩ (by decide) (by decide) (g := (mkF m 293 (LA20 p0 p1 p2 q3 pb bs pm c0_ c1_ c2_ c3_ c4_ c5_ pk xs w7) [])) rfl (hb hby at_293) (n := 20) (by decide) (by decide) (by decide) (by decide)
    have S_xs := hC23.safe E_xs.lt S_xs
    have CR := CR.trans hC23
    have E_xs := E_xs.ext E23
    have F_coder_xs := F_coder_xs.ext E23
    have F_value_xs := F_value_xs.ext E23
    have V_sv := V_sv.ext E23
    have OC := OC.ext E23
    have E_b23 : Exa Z h23 b23 "java/lang/String" := Ea23
    have F_coder_b23 : Fld Z h23 b23 "java/lang/String" "coder" "B" (.int (0 : Int32)) := Fc23
    have F_value_b23 : Fld Z h23 b23 "java/lang/String" "value" "[B" (.ref t23) := Fv23
    have V_t23 : Arv Z h23 t23 kb23 .byte (5 : Int32) [(.int (99 : Int32)), (.int (97 : Int32)), (.int (114 : Int32)), (.int (100 : Int32)), (.int (115 : Int32))] (.int (0 : Int32)) := Av23
    have ne_xs_b23 : xs ≠ b23 := (hne23 _ S_xs).1
    have ne_b23_xs := Ne.symm ne_xs_b23
    have ne_xs_t23 : xs ≠ t23 := (hne23 _ S_xs).2
    have ne_t23_xs := Ne.symm ne_xs_t23
    refine Goes.to (T' := T23.setTop (mkF m 295 (LA20 p0 p1 p2 q3 pb bs pm c0_ c1_ c2_ c3_ c4_ c5_ pk xs w7) [(.ref b23)])) st23 ?_
    refine Goes.to (T' := T23.setTop (mkF m 297 (LA20 p0 p1 p2 q3 pb bs pm c0_ c1_ c2_ c3_ c4_ c5_ pk xs w7) [(.ref xs), (.ref b23)])) (fun t k => XS.aload X23.here hx rfl (hb hby at_295) rfl rfl k) ?_
    obtain ⟨cq24, kq24, q24a, q24b, q24c⟩ := isOf hZ e23 E_b23
    obtain ⟨_, _, ⟨T24, L24, k24, n24⟩, -, X24, ⟨Lc24, hQ24, l24, y24, z24⟩, st24⟩ := X23.virtualBack hx (y := (⟨"java/lang/String", "equals", "(Ljava/lang/Object;)Z"⟩ : MethodName)) (z := (⟨"java/lang/String", "equals", "(Ljava/lang/Object;)Z"⟩ : MethodName)) hown (mvT hZ (wi hw 94 rfl)) (mvT hZ (wi hw 86 rfl)) (notFace_of_selects (args := #[]) (mvT hZ (wi hw 88 rfl))) (mvT hZ (wi hw 88 rfl)) (mvT hZ (wi hw 87 rfl)) (by decide) (backOf (W := 0) (rmE5 hw b23 xs t23 sv kb23 ks (99 : Int32) (97 : Int32) (114 : Int32) (100 : Int32) (115 : Int32) y0_ y1_ y2_ y3_ y4_ (1 : Int32) h23 n0 OC NF E_b23 F_coder_b23 F_value_b23 E_xs F_coder_xs F_value_xs V_t23 V_sv ne_b23_xs (Eq.symm (if_pos hp0_21))) hZ (wi hw 89 rfl) (wi hw 2 rfl) (by decide) (by decide)) q24a q24c (g := (mkF m 297 (LA20 p0 p1 p2 q3 pb bs pm c0_ c1_ c2_ c3_ c4_ c5_ pk xs w7) [(.ref xs), (.ref b23)])) rfl (by rw [hml]; rfl) (Steps.refl _) (argsL := [(.ref xs)]) (rest := []) (lenOf pd_142 rfl) rfl (by show 2 * 0 + _ ≤ _; exact Nat.le_of_eq rfl) (hb hby at_297) (fun _ _ => ⟨rfl, e23, (by decide : 11 + 0 ≤ _), (by decide : 75 + 0 ≤ _)⟩)
    dsimp only [Pt.U, Pt.locs, Pt.cells, Pt.slots] at X24 l24 y24 z24 st24 hQ24
    subst l24 y24 z24
    obtain ⟨rfl, Nq24, e24⟩ := hQ24
    have N24 := Fr.app N22 Nq24
    refine Goes.thru (T' := T24.setTop (mkF m 300 (LA20 p0 p1 p2 q3 pb bs pm c0_ c1_ c2_ c3_ c4_ c5_ pk xs w7) [(.int (1 : Int32))])) st24 ?_
    refine Goes.to (T' := T24.setTop (mkF m 303 (LA20 p0 p1 p2 q3 pb bs pm c0_ c1_ c2_ c3_ c4_ c5_ pk xs w7) [])) (fun t k => XS.ifNo X24.here hx rfl (hb hby at_300) rfl ((if0 _ _).trans (feq (by decide)).1) k) ?_
    obtain ⟨T25, X25, e25, st25⟩ := getS2 X24 hx hZ hown (host := "") (Or.inl (wi hw 99 rfl)) Via.refl e24 (S_w7.ext OC.2) (g := (mkF m 303 (LA20 p0 p1 p2 q3 pb bs pm c0_ c1_ c2_ c3_ c4_ c5_ pk xs w7) [])) rfl (hb hby at_303)
    refine Goes.to (T' := T25.setTop (mkF m 306 (LA20 p0 p1 p2 q3 pb bs pm c0_ c1_ c2_ c3_ c4_ c5_ pk xs w7) [(.ref w7)])) st25 ?_
    refine Goes.to (T' := T25.setTop (mkF m 308 (LA21 p0 p1 p2 q3 pb bs pm c0_ c1_ c2_ c3_ c4_ c5_ pk xs w7) [])) (fun t k => XS.astore X25.here hx rfl (hb hby at_306) rfl rfl (l' := (LA21 p0 p1 p2 q3 pb bs pm c0_ c1_ c2_ c3_ c4_ c5_ pk xs w7)) rfl k) ?_
    refine Goes.to (T' := T25.setTop (mkF m 350 (LA21 p0 p1 p2 q3 pb bs pm c0_ c1_ c2_ c3_ c4_ c5_ pk xs w7) [])) (fun t k => XS.goto X25.here hx rfl (pc0 := 308) (pc' := 350) rfl (hb hby at_308) (by decide) (by decide) k) ?_
    refine Goes.to (T' := T25.setTop (mkF m 352 (LA21 p0 p1 p2 q3 pb bs pm c0_ c1_ c2_ c3_ c4_ c5_ pk xs w7) [(.ref w7)])) (fun t k => XS.aload X25.here hx rfl (hb hby at_350) rfl rfl k) ?_
    refine Goes.to (T' := T25.setTop (mkF m 354 (LA21 p0 p1 p2 q3 pb bs pm c0_ c1_ c2_ c3_ c4_ c5_ pk xs w7) [(.ref w7), (.ref w7)])) (fun t k => XS.aload X25.here hx rfl (hb hby at_352) rfl rfl k) ?_
    refine Goes.to (T' := T25.setTop (mkF m 357 (LA21 p0 p1 p2 q3 pb bs pm c0_ c1_ c2_ c3_ c4_ c5_ pk xs w7) [])) (fun t k => Jvm.RoadKit.acmp (g := (mkF m 354 (LA21 p0 p1 p2 q3 pb bs pm c0_ c1_ c2_ c3_ c4_ c5_ pk xs w7) [(.ref w7), (.ref w7)])) X25 hx rfl rfl rfl (pc0 := 354) (pc' := 357) (same := true) rfl (hb hby at_354) rfl (decide_eq_true rfl) (by decide) (by decide) k) ?_
    refine Goes.to (T' := T25.setTop (mkF m 358 (LA21 p0 p1 p2 q3 pb bs pm c0_ c1_ c2_ c3_ c4_ c5_ pk xs w7) [(.int (1 : Int32))])) (fun t k => XS.iconst X25.here hx rfl (hb hby at_357) k) ?_
    refine Goes.to (T' := T25.setTop (mkF m 362 (LA21 p0 p1 p2 q3 pb bs pm c0_ c1_ c2_ c3_ c4_ c5_ pk xs w7) [(.int (1 : Int32))])) (fun t k => XS.goto X25.here hx rfl (pc0 := 358) (pc' := 362) rfl (hb hby at_358) (by decide) (by decide) k) ?_
    obtain ⟨fs, hrL, hrun, hended, hRW⟩ := X25.leaveW hS (by rw [e25]; exact hk) (v := some (.int (1 : Int32))) (fun h => by rw [Bd.returns] at h; cases h)
    subst hQf
    refine ⟨_, _, retN X25 hx (t := .boolean) Bd.returns (by simp) (hb hby at_362) hrL, hrun, hended, _, _, rfl, ?_, hRW.1, hRW.2.1, hRW.2.2.1, hRW.2.2.2.mono (by decide) (by decide)⟩
    show Q_rm0  h0 n0 (some (.int (1 : Int32))) T25.heap _
    rw [e25]
    exact ⟨rfl, N24⟩
  · skip
    rcases Decidable.em ((117 : Int32) = y0_ ∧ (115 : Int32) = y1_ ∧ (101 : Int32) = y2_ ∧ (114 : Int32) = y3_ ∧ (115 : Int32) = y4_) with hp1_26 | hp1_26
    · skip
      refine Goes.to (T' := TC.setTop (mkF m 288 (LA17 p0 p1 p2 q3 pb bs pm c0_ c1_ c2_ c3_ c4_ c5_ pk xs) [(.ref xs)])) (fun t k => XS.aload XC.here hx rfl (hb hby at_286) rfl rfl k) ?_
      obtain ⟨_, _, ⟨T27, L27, k27, n27⟩, -, X27, ⟨Lc27, hQ27, l27, y27, z27⟩, st27⟩ := Jvm.LawKit.callS XC hx (y := (⟨"com/example/issuer/issuer/blocklist/EntryKind", "ofList", "(Ljava/lang/String;)Lcom/example/issuer/issuer/blocklist/EntryKind;"⟩ : MethodName)) hown (mvT hZ (wi hw 61 rfl)) (mvT hZ (wi hw 62 rfl)) (mvT hZ (wi hw 63 rfl)) (mvT hZ (wi hw 64 rfl)) (by decide) (backOf (W := 0) (rmO5 hw xs sv ks y0_ y1_ y2_ y3_ y4_ (Value.ref w8) hC n0 OC NF E_xs F_coder_xs F_value_xs V_sv g_xs (Eq.symm ((if_neg hp0_21).trans (if_pos hp1_26)))) hZ (wi hw 64 rfl) (wi hw 63 rfl) (by decide) (by decide)) (g := (mkF m 288 (LA17 p0 p1 p2 q3 pb bs pm c0_ c1_ c2_ c3_ c4_ c5_ pk xs) [(.ref xs)])) rfl (by rw [hml]; rfl) (argsL := [(.ref xs)]) (rest := []) (lenOf pd_212 rfl) rfl (by show 2 * 0 + _ ≤ _; exact Nat.le_of_eq rfl) (hb hby at_288) (fun _ _ => ⟨rfl, eC, (by decide : 8 + 1 ≤ _), (by decide : 48 + 3 ≤ _)⟩)
      dsimp only [Pt.U, Pt.locs, Pt.cells, Pt.slots] at X27 l27 y27 z27 st27 hQ27
      subst l27 y27 z27
      obtain ⟨rfl, Nq27, Ex27⟩ := hQ27
      have N27 := Fr.app NC Nq27
      have S_xs := Safe.ext Ex27 CR.1 S_xs
      have CR := CR.trans (CHr.ext Ex27 CR.1)
      have E_xs := E_xs.ext Ex27
      have F_coder_xs := F_coder_xs.ext Ex27
      have F_value_xs := F_value_xs.ext Ex27
      have V_sv := V_sv.ext Ex27
      have OC := OC.ext Ex27
      have hk := Nat.le_trans hk Ex27.1
      refine Goes.to (T' := T27.setTop (mkF m 291 (LA17 p0 p1 p2 q3 pb bs pm c0_ c1_ c2_ c3_ c4_ c5_ pk xs) [(.ref w8)])) st27 ?_
      refine Goes.to (T' := T27.setTop (mkF m 293 (LA20 p0 p1 p2 q3 pb bs pm c0_ c1_ c2_ c3_ c4_ c5_ pk xs w8) [])) (fun t k => XS.astore X27.here hx rfl (hb hby at_291) rfl rfl (l' := (LA20 p0 p1 p2 q3 pb bs pm c0_ c1_ c2_ c3_ c4_ c5_ pk xs w8)) rfl k) ?_
      obtain ⟨b28, T28, h28, kS28, t28, kb28, X28, e28, E28, hS, hk, hZ, hown, Ea28, Fc28, Fv28, Av28, -, -, hC28, -, hne28, st28⟩ := ldcCH X27 hx hZ hown (wi hw 1 rfl) own_strw rfl hS hk hEL (List.mem_of_getElem? (i := 0) rfl) CR.1 (vs := [(.int (99 : Int32)), (.int (97 : Int32)), (.int (114 : Int32)), (.int (100 : Int32)), (.int (115 : Int32))]) (z := 5) ⟨by decide, rfl⟩ (by decide) (by decide) (g := (mkF m 293 (LA20 p0 p1 p2 q3 pb bs pm c0_ c1_ c2_ c3_ c4_ c5_ pk xs w8) [])) rfl (hb hby at_293) (n := 20) (by decide) (by decide) (by decide) (by decide)
      have S_xs := hC28.safe E_xs.lt S_xs
      have CR := CR.trans hC28
      have E_xs := E_xs.ext E28
      have F_coder_xs := F_coder_xs.ext E28
      have F_value_xs := F_value_xs.ext E28
      have V_sv := V_sv.ext E28
      have OC := OC.ext E28
      have E_b28 : Exa Z h28 b28 "java/lang/String" := Ea28
      have F_coder_b28 : Fld Z h28 b28 "java/lang/String" "coder" "B" (.int (0 : Int32)) := Fc28
      have F_value_b28 : Fld Z h28 b28 "java/lang/String" "value" "[B" (.ref t28) := Fv28
      have V_t28 : Arv Z h28 t28 kb28 .byte (5 : Int32) [(.int (99 : Int32)), (.int (97 : Int32)), (.int (114 : Int32)), (.int (100 : Int32)), (.int (115 : Int32))] (.int (0 : Int32)) := Av28
      have ne_xs_b28 : xs ≠ b28 := (hne28 _ S_xs).1
      have ne_b28_xs := Ne.symm ne_xs_b28
      have ne_xs_t28 : xs ≠ t28 := (hne28 _ S_xs).2
      have ne_t28_xs := Ne.symm ne_xs_t28
      refine Goes.to (T' := T28.setTop (mkF m 295 (LA20 p0 p1 p2 q3 pb bs pm c0_ c1_ c2_ c3_ c4_ c5_ pk xs w8) [(.ref b28)])) st28 ?_
      refine Goes.to (T' := T28.setTop (mkF m 297 (LA20 p0 p1 p2 q3 pb bs pm c0_ c1_ c2_ c3_ c4_ c5_ pk xs w8) [(.ref xs), (.ref b28)])) (fun t k => XS.aload X28.here hx rfl (hb hby at_295) rfl rfl k) ?_
      obtain ⟨cq29, kq29, q29a, q29b, q29c⟩ := isOf hZ e28 E_b28
      obtain ⟨_, _, ⟨T29, L29, k29, n29⟩, -, X29, ⟨Lc29, hQ29, l29, y29, z29⟩, st29⟩ := X28.virtualBack hx (y := (⟨"java/lang/String", "equals", "(Ljava/lang/Object;)Z"⟩ : MethodName)) (z := (⟨"java/lang/String", "equals", "(Ljava/lang/Object;)Z"⟩ : MethodName)) hown (mvT hZ (wi hw 94 rfl)) (mvT hZ (wi hw 86 rfl)) (notFace_of_selects (args := #[]) (mvT hZ (wi hw 88 rfl))) (mvT hZ (wi hw 88 rfl)) (mvT hZ (wi hw 87 rfl)) (by decide) (backOf (W := 0) (rmE5 hw b28 xs t28 sv kb28 ks (99 : Int32) (97 : Int32) (114 : Int32) (100 : Int32) (115 : Int32) y0_ y1_ y2_ y3_ y4_ (0 : Int32) h28 n0 OC NF E_b28 F_coder_b28 F_value_b28 E_xs F_coder_xs F_value_xs V_t28 V_sv ne_b28_xs (Eq.symm (if_neg hp0_21))) hZ (wi hw 89 rfl) (wi hw 2 rfl) (by decide) (by decide)) q29a q29c (g := (mkF m 297 (LA20 p0 p1 p2 q3 pb bs pm c0_ c1_ c2_ c3_ c4_ c5_ pk xs w8) [(.ref xs), (.ref b28)])) rfl (by rw [hml]; rfl) (Steps.refl _) (argsL := [(.ref xs)]) (rest := []) (lenOf pd_142 rfl) rfl (by show 2 * 0 + _ ≤ _; exact Nat.le_of_eq rfl) (hb hby at_297) (fun _ _ => ⟨rfl, e28, (by decide : 11 + 0 ≤ _), (by decide : 75 + 0 ≤ _)⟩)
      dsimp only [Pt.U, Pt.locs, Pt.cells, Pt.slots] at X29 l29 y29 z29 st29 hQ29
      subst l29 y29 z29
      obtain ⟨rfl, Nq29, e29⟩ := hQ29
      have N29 := Fr.app N27 Nq29
      refine Goes.thru (T' := T29.setTop (mkF m 300 (LA20 p0 p1 p2 q3 pb bs pm c0_ c1_ c2_ c3_ c4_ c5_ pk xs w8) [(.int (0 : Int32))])) st29 ?_
      refine Goes.to (T' := T29.setTop (mkF m 311 (LA20 p0 p1 p2 q3 pb bs pm c0_ c1_ c2_ c3_ c4_ c5_ pk xs w8) [])) (fun t k => XS.ifYes X29.here hx rfl (pc0 := 300) (pc' := 311) rfl (hb hby at_300) rfl ((if0 _ _).trans (teq (by decide)).1) (by decide) (by decide) k) ?_
      obtain ⟨b30, T30, h30, kS30, t30, kb30, X30, e30, E30, hS, hk, hZ, hown, Ea30, Fc30, Fv30, Av30, -, -, hC30, -, hne30, st30⟩ := ldcCH X29 hx hZ hown (wi hw 95 rfl) own_strw e29 hS hk hEL (List.mem_of_getElem? (i := 1) rfl) CR.1 (vs := [(.int (117 : Int32)), (.int (115 : Int32)), (.int (101 : Int32)), (.int (114 : Int32)), (.int (115 : Int32))]) (z := 5) ⟨by decide, rfl⟩ (by decide) (by decide) (g := (mkF m 311 (LA20 p0 p1 p2 q3 pb bs pm c0_ c1_ c2_ c3_ c4_ c5_ pk xs w8) [])) rfl (hb hby at_311) (n := 20) (by decide) (by decide) (by decide) (by decide)
      have S_xs := hC30.safe E_xs.lt S_xs
      have CR := CR.trans hC30
      have E_xs := E_xs.ext E30
      have F_coder_xs := F_coder_xs.ext E30
      have F_value_xs := F_value_xs.ext E30
      have V_sv := V_sv.ext E30
      have E_b28 := E_b28.ext E30
      have F_coder_b28 := F_coder_b28.ext E30
      have F_value_b28 := F_value_b28.ext E30
      have V_t28 := V_t28.ext E30
      have OC := OC.ext E30
      have E_b30 : Exa Z h30 b30 "java/lang/String" := Ea30
      have F_coder_b30 : Fld Z h30 b30 "java/lang/String" "coder" "B" (.int (0 : Int32)) := Fc30
      have F_value_b30 : Fld Z h30 b30 "java/lang/String" "value" "[B" (.ref t30) := Fv30
      have V_t30 : Arv Z h30 t30 kb30 .byte (5 : Int32) [(.int (117 : Int32)), (.int (115 : Int32)), (.int (101 : Int32)), (.int (114 : Int32)), (.int (115 : Int32))] (.int (0 : Int32)) := Av30
      have ne_xs_b30 : xs ≠ b30 := (hne30 _ S_xs).1
      have ne_b30_xs := Ne.symm ne_xs_b30
      have ne_xs_t30 : xs ≠ t30 := (hne30 _ S_xs).2
      have ne_t30_xs := Ne.symm ne_xs_t30
      refine Goes.to (T' := T30.setTop (mkF m 313 (LA20 p0 p1 p2 q3 pb bs pm c0_ c1_ c2_ c3_ c4_ c5_ pk xs w8) [(.ref b30)])) st30 ?_
      refine Goes.to (T' := T30.setTop (mkF m 315 (LA20 p0 p1 p2 q3 pb bs pm c0_ c1_ c2_ c3_ c4_ c5_ pk xs w8) [(.ref xs), (.ref b30)])) (fun t k => XS.aload X30.here hx rfl (hb hby at_313) rfl rfl k) ?_
      obtain ⟨cq31, kq31, q31a, q31b, q31c⟩ := isOf hZ e30 E_b30
      obtain ⟨_, _, ⟨T31, L31, k31, n31⟩, -, X31, ⟨Lc31, hQ31, l31, y31, z31⟩, st31⟩ := X30.virtualBack hx (y := (⟨"java/lang/String", "equals", "(Ljava/lang/Object;)Z"⟩ : MethodName)) (z := (⟨"java/lang/String", "equals", "(Ljava/lang/Object;)Z"⟩ : MethodName)) hown (mvT hZ (wi hw 94 rfl)) (mvT hZ (wi hw 86 rfl)) (notFace_of_selects (args := #[]) (mvT hZ (wi hw 88 rfl))) (mvT hZ (wi hw 88 rfl)) (mvT hZ (wi hw 87 rfl)) (by decide) (backOf (W := 0) (rmE5 hw b30 xs t30 sv kb30 ks (117 : Int32) (115 : Int32) (101 : Int32) (114 : Int32) (115 : Int32) y0_ y1_ y2_ y3_ y4_ (1 : Int32) h30 n0 OC NF E_b30 F_coder_b30 F_value_b30 E_xs F_coder_xs F_value_xs V_t30 V_sv ne_b30_xs (Eq.symm (if_pos hp1_26))) hZ (wi hw 89 rfl) (wi hw 2 rfl) (by decide) (by decide)) q31a q31c (g := (mkF m 315 (LA20 p0 p1 p2 q3 pb bs pm c0_ c1_ c2_ c3_ c4_ c5_ pk xs w8) [(.ref xs), (.ref b30)])) rfl (by rw [hml]; rfl) (Steps.refl _) (argsL := [(.ref xs)]) (rest := []) (lenOf pd_142 rfl) rfl (by show 2 * 0 + _ ≤ _; exact Nat.le_of_eq rfl) (hb hby at_315) (fun _ _ => ⟨rfl, e30, (by decide : 13 + 0 ≤ _), (by decide : 99 + 0 ≤ _)⟩)
      dsimp only [Pt.U, Pt.locs, Pt.cells, Pt.slots] at X31 l31 y31 z31 st31 hQ31
      subst l31 y31 z31
      obtain ⟨rfl, Nq31, e31⟩ := hQ31
      have N31 := Fr.app N29 Nq31
      refine Goes.thru (T' := T31.setTop (mkF m 318 (LA20 p0 p1 p2 q3 pb bs pm c0_ c1_ c2_ c3_ c4_ c5_ pk xs w8) [(.int (1 : Int32))])) st31 ?_
      refine Goes.to (T' := T31.setTop (mkF m 321 (LA20 p0 p1 p2 q3 pb bs pm c0_ c1_ c2_ c3_ c4_ c5_ pk xs w8) [])) (fun t k => XS.ifNo X31.here hx rfl (hb hby at_318) rfl ((if0 _ _).trans (feq (by decide)).1) k) ?_
      obtain ⟨T32, X32, e32, st32⟩ := getS2 X31 hx hZ hown (host := "") (Or.inl (wi hw 97 rfl)) Via.refl e31 (S_w8.ext OC.2) (g := (mkF m 321 (LA20 p0 p1 p2 q3 pb bs pm c0_ c1_ c2_ c3_ c4_ c5_ pk xs w8) [])) rfl (hb hby at_321)
      refine Goes.to (T' := T32.setTop (mkF m 324 (LA20 p0 p1 p2 q3 pb bs pm c0_ c1_ c2_ c3_ c4_ c5_ pk xs w8) [(.ref w8)])) st32 ?_
      refine Goes.to (T' := T32.setTop (mkF m 326 (LA21 p0 p1 p2 q3 pb bs pm c0_ c1_ c2_ c3_ c4_ c5_ pk xs w8) [])) (fun t k => XS.astore X32.here hx rfl (hb hby at_324) rfl rfl (l' := (LA21 p0 p1 p2 q3 pb bs pm c0_ c1_ c2_ c3_ c4_ c5_ pk xs w8)) rfl k) ?_
      refine Goes.to (T' := T32.setTop (mkF m 350 (LA21 p0 p1 p2 q3 pb bs pm c0_ c1_ c2_ c3_ c4_ c5_ pk xs w8) [])) (fun t k => XS.goto X32.here hx rfl (pc0 := 326) (pc' := 350) rfl (hb hby at_326) (by decide) (by decide) k) ?_
      refine Goes.to (T' := T32.setTop (mkF m 352 (LA21 p0 p1 p2 q3 pb bs pm c0_ c1_ c2_ c3_ c4_ c5_ pk xs w8) [(.ref w8)])) (fun t k => XS.aload X32.here hx rfl (hb hby at_350) rfl rfl k) ?_
      refine Goes.to (T' := T32.setTop (mkF m 354 (LA21 p0 p1 p2 q3 pb bs pm c0_ c1_ c2_ c3_ c4_ c5_ pk xs w8) [(.ref w8), (.ref w8)])) (fun t k => XS.aload X32.here hx rfl (hb hby at_352) rfl rfl k) ?_
      refine Goes.to (T' := T32.setTop (mkF m 357 (LA21 p0 p1 p2 q3 pb bs pm c0_ c1_ c2_ c3_ c4_ c5_ pk xs w8) [])) (fun t k => Jvm.RoadKit.acmp (g := (mkF m 354 (LA21 p0 p1 p2 q3 pb bs pm c0_ c1_ c2_ c3_ c4_ c5_ pk xs w8) [(.ref w8), (.ref w8)])) X32 hx rfl rfl rfl (pc0 := 354) (pc' := 357) (same := true) rfl (hb hby at_354) rfl (decide_eq_true rfl) (by decide) (by decide) k) ?_
      refine Goes.to (T' := T32.setTop (mkF m 358 (LA21 p0 p1 p2 q3 pb bs pm c0_ c1_ c2_ c3_ c4_ c5_ pk xs w8) [(.int (1 : Int32))])) (fun t k => XS.iconst X32.here hx rfl (hb hby at_357) k) ?_
      refine Goes.to (T' := T32.setTop (mkF m 362 (LA21 p0 p1 p2 q3 pb bs pm c0_ c1_ c2_ c3_ c4_ c5_ pk xs w8) [(.int (1 : Int32))])) (fun t k => XS.goto X32.here hx rfl (pc0 := 358) (pc' := 362) rfl (hb hby at_358) (by decide) (by decide) k) ?_
      obtain ⟨fs, hrL, hrun, hended, hRW⟩ := X32.leaveW hS (by rw [e32]; exact hk) (v := some (.int (1 : Int32))) (fun h => by rw [Bd.returns] at h; cases h)
      subst hQf
      refine ⟨_, _, retN X32 hx (t := .boolean) Bd.returns (by simp) (hb hby at_362) hrL, hrun, hended, _, _, rfl, ?_, hRW.1, hRW.2.1, hRW.2.2.1, hRW.2.2.2.mono (by decide) (by decide)⟩
      show Q_rm0  h0 n0 (some (.int (1 : Int32))) T32.heap _
      rw [e32]
      exact ⟨rfl, N31⟩
    · skip
      rcases Decidable.em ((115 : Int32) = y0_ ∧ (105 : Int32) = y1_ ∧ (116 : Int32) = y2_ ∧ (101 : Int32) = y3_ ∧ (115 : Int32) = y4_) with hp2_33 | hp2_33
      · skip
        refine Goes.to (T' := TC.setTop (mkF m 288 (LA17 p0 p1 p2 q3 pb bs pm c0_ c1_ c2_ c3_ c4_ c5_ pk xs) [(.ref xs)])) (fun t k => XS.aload XC.here hx rfl (hb hby at_286) rfl rfl k) ?_
        obtain ⟨_, _, ⟨T34, L34, k34, n34⟩, -, X34, ⟨Lc34, hQ34, l34, y34, z34⟩, st34⟩ := Jvm.LawKit.callS XC hx (y := (⟨"com/example/issuer/issuer/blocklist/EntryKind", "ofList", "(Ljava/lang/String;)Lcom/example/issuer/issuer/blocklist/EntryKind;"⟩ : MethodName)) hown (mvT hZ (wi hw 61 rfl)) (mvT hZ (wi hw 62 rfl)) (mvT hZ (wi hw 63 rfl)) (mvT hZ (wi hw 64 rfl)) (by decide) (backOf (W := 0) (rmO5 hw xs sv ks y0_ y1_ y2_ y3_ y4_ (Value.ref w9) hC n0 OC NF E_xs F_coder_xs F_value_xs V_sv g_xs (Eq.symm ((if_neg hp0_21).trans ((if_neg hp1_26).trans (if_pos hp2_33))))) hZ (wi hw 64 rfl) (wi hw 63 rfl) (by decide) (by decide)) (g := (mkF m 288 (LA17 p0 p1 p2 q3 pb bs pm c0_ c1_ c2_ c3_ c4_ c5_ pk xs) [(.ref xs)])) rfl (by rw [hml]; rfl) (argsL := [(.ref xs)]) (rest := []) (lenOf pd_212 rfl) rfl (by show 2 * 0 + _ ≤ _; exact Nat.le_of_eq rfl) (hb hby at_288) (fun _ _ => ⟨rfl, eC, (by decide : 8 + 1 ≤ _), (by decide : 48 + 3 ≤ _)⟩)
        dsimp only [Pt.U, Pt.locs, Pt.cells, Pt.slots] at X34 l34 y34 z34 st34 hQ34
        subst l34 y34 z34
        obtain ⟨rfl, Nq34, Ex34⟩ := hQ34
        have N34 := Fr.app NC Nq34
        have S_xs := Safe.ext Ex34 CR.1 S_xs
        have CR := CR.trans (CHr.ext Ex34 CR.1)
        have E_xs := E_xs.ext Ex34
        have F_coder_xs := F_coder_xs.ext Ex34
        have F_value_xs := F_value_xs.ext Ex34
        have V_sv := V_sv.ext Ex34
        have OC := OC.ext Ex34
        have hk := Nat.le_trans hk Ex34.1
        refine Goes.to (T' := T34.setTop (mkF m 291 (LA17 p0 p1 p2 q3 pb bs pm c0_ c1_ c2_ c3_ c4_ c5_ pk xs) [(.ref w9)])) st34 ?_
        refine Goes.to (T' := T34.setTop (mkF m 293 (LA20 p0 p1 p2 q3 pb bs pm c0_ c1_ c2_ c3_ c4_ c5_ pk xs w9) [])) (fun t k => XS.astore X34.here hx rfl (hb hby at_291) rfl rfl (l' := (LA20 p0 p1 p2 q3 pb bs pm c0_ c1_ c2_ c3_ c4_ c5_ pk xs w9)) rfl k) ?_
        obtain ⟨b35, T35, h35, kS35, t35, kb35, X35, e35, E35, hS, hk, hZ, hown, Ea35, Fc35, Fv35, Av35, -, -, hC35, -, hne35, st35⟩ := ldcCH X34 hx hZ hown (wi hw 1 rfl) own_strw rfl hS hk hEL (List.mem_of_getElem? (i := 0) rfl) CR.1 (vs := [(.int (99 : Int32)), (.int (97 : Int32)), (.int (114 : Int32)), (.int (100 : Int32)), (.int (115 : Int32))]) (z := 5) ⟨by decide, rfl⟩ (by decide) (by decide) (g := (mkF m 293 (LA20 p0 p1 p2 q3 pb bs pm c0_ c1_ c2_ c3_ c4_ c5_ pk xs w9) [])) rfl (hb hby at_293) (n := 20) (by decide) (by decide) (by decide) (by decide)
        have S_xs := hC35.safe E_xs.lt S_xs
        have CR := CR.trans hC35
        have E_xs := E_xs.ext E35
        have F_coder_xs := F_coder_xs.ext E35
        have F_value_xs := F_value_xs.ext E35
        have V_sv := V_sv.ext E35
        have OC := OC.ext E35
        have E_b35 : Exa Z h35 b35 "java/lang/String" := Ea35
        have F_coder_b35 : Fld Z h35 b35 "java/lang/String" "coder" "B" (.int (0 : Int32)) := Fc35
        have F_value_b35 : Fld Z h35 b35 "java/lang/String" "value" "[B" (.ref t35) := Fv35
        have V_t35 : Arv Z h35 t35 kb35 .byte (5 : Int32) [(.int (99 : Int32)), (.int (97 : Int32)), (.int (114 : Int32)), (.int (100 : Int32)), (.int (115 : Int32))] (.int (0 : Int32)) := Av35
        have ne_xs_b35 : xs ≠ b35 := (hne35 _ S_xs).1
        have ne_b35_xs := Ne.symm ne_xs_b35
        have ne_xs_t35 : xs ≠ t35 := (hne35 _ S_xs).2
        have ne_t35_xs := Ne.symm ne_xs_t35
        refine Goes.to (T' := T35.setTop (mkF m 295 (LA20 p0 p1 p2 q3 pb bs pm c0_ c1_ c2_ c3_ c4_ c5_ pk xs w9) [(.ref b35)])) st35 ?_
        refine Goes.to (T' := T35.setTop (mkF m 297 (LA20 p0 p1 p2 q3 pb bs pm c0_ c1_ c2_ c3_ c4_ c5_ pk xs w9) [(.ref xs), (.ref b35)])) (fun t k => XS.aload X35.here hx rfl (hb hby at_295) rfl rfl k) ?_
        obtain ⟨cq36, kq36, q36a, q36b, q36c⟩ := isOf hZ e35 E_b35
        obtain ⟨_, _, ⟨T36, L36, k36, n36⟩, -, X36, ⟨Lc36, hQ36, l36, y36, z36⟩, st36⟩ := X35.virtualBack hx (y := (⟨"java/lang/String", "equals", "(Ljava/lang/Object;)Z"⟩ : MethodName)) (z := (⟨"java/lang/String", "equals", "(Ljava/lang/Object;)Z"⟩ : MethodName)) hown (mvT hZ (wi hw 94 rfl)) (mvT hZ (wi hw 86 rfl)) (notFace_of_selects (args := #[]) (mvT hZ (wi hw 88 rfl))) (mvT hZ (wi hw 88 rfl)) (mvT hZ (wi hw 87 rfl)) (by decide) (backOf (W := 0) (rmE5 hw b35 xs t35 sv kb35 ks (99 : Int32) (97 : Int32) (114 : Int32) (100 : Int32) (115 : Int32) y0_ y1_ y2_ y3_ y4_ (0 : Int32) h35 n0 OC NF E_b35 F_coder_b35 F_value_b35 E_xs F_coder_xs F_value_xs V_t35 V_sv ne_b35_xs (Eq.symm (if_neg hp0_21))) hZ (wi hw 89 rfl) (wi hw 2 rfl) (by decide) (by decide)) q36a q36c (g := (mkF m 297 (LA20 p0 p1 p2 q3 pb bs pm c0_ c1_ c2_ c3_ c4_ c5_ pk xs w9) [(.ref xs), (.ref b35)])) rfl (by rw [hml]; rfl) (Steps.refl _) (argsL := [(.ref xs)]) (rest := []) (lenOf pd_142 rfl) rfl (by show 2 * 0 + _ ≤ _; exact Nat.le_of_eq rfl) (hb hby at_297) (fun _ _ => ⟨rfl, e35, (by decide : 11 + 0 ≤ _), (by decide : 75 + 0 ≤ _)⟩)
        dsimp only [Pt.U, Pt.locs, Pt.cells, Pt.slots] at X36 l36 y36 z36 st36 hQ36
        subst l36 y36 z36
        obtain ⟨rfl, Nq36, e36⟩ := hQ36
        have N36 := Fr.app N34 Nq36
        refine Goes.thru (T' := T36.setTop (mkF m 300 (LA20 p0 p1 p2 q3 pb bs pm c0_ c1_ c2_ c3_ c4_ c5_ pk xs w9) [(.int (0 : Int32))])) st36 ?_
        refine Goes.to (T' := T36.setTop (mkF m 311 (LA20 p0 p1 p2 q3 pb bs pm c0_ c1_ c2_ c3_ c4_ c5_ pk xs w9) [])) (fun t k => XS.ifYes X36.here hx rfl (pc0 := 300) (pc' := 311) rfl (hb hby at_300) rfl ((if0 _ _).trans (teq (by decide)).1) (by decide) (by decide) k) ?_
        obtain ⟨b37, T37, h37, kS37, t37, kb37, X37, e37, E37, hS, hk, hZ, hown, Ea37, Fc37, Fv37, Av37, -, -, hC37, -, hne37, st37⟩ := ldcCH X36 hx hZ hown (wi hw 95 rfl) own_strw e36 hS hk hEL (List.mem_of_getElem? (i := 1) rfl) CR.1 (vs := [(.int (117 : Int32)), (.int (115 : Int32)), (.int (101 : Int32)), (.int (114 : Int32)), (.int (115 : Int32))]) (z := 5) ⟨by decide, rfl⟩ (by decide) (by decide) (g := (mkF m 311 (LA20 p0 p1 p2 q3 pb bs pm c0_ c1_ c2_ c3_ c4_ c5_ pk xs w9) [])) rfl (hb hby at_311) (n := 20) (by decide) (by decide) (by decide) (by decide)
        have S_xs := hC37.safe E_xs.lt S_xs
        have CR := CR.trans hC37
        have E_xs := E_xs.ext E37
        have F_coder_xs := F_coder_xs.ext E37
        have F_value_xs := F_value_xs.ext E37
        have V_sv := V_sv.ext E37
        have E_b35 := E_b35.ext E37
        have F_coder_b35 := F_coder_b35.ext E37
        have F_value_b35 := F_value_b35.ext E37
        have V_t35 := V_t35.ext E37
        have OC := OC.ext E37
        have E_b37 : Exa Z h37 b37 "java/lang/String" := Ea37
        have F_coder_b37 : Fld Z h37 b37 "java/lang/String" "coder" "B" (.int (0 : Int32)) := Fc37
        have F_value_b37 : Fld Z h37 b37 "java/lang/String" "value" "[B" (.ref t37) := Fv37
        have V_t37 : Arv Z h37 t37 kb37 .byte (5 : Int32) [(.int (117 : Int32)), (.int (115 : Int32)), (.int (101 : Int32)), (.int (114 : Int32)), (.int (115 : Int32))] (.int (0 : Int32)) := Av37
        have ne_xs_b37 : xs ≠ b37 := (hne37 _ S_xs).1
        have ne_b37_xs := Ne.symm ne_xs_b37
        have ne_xs_t37 : xs ≠ t37 := (hne37 _ S_xs).2
        have ne_t37_xs := Ne.symm ne_xs_t37
        refine Goes.to (T' := T37.setTop (mkF m 313 (LA20 p0 p1 p2 q3 pb bs pm c0_ c1_ c2_ c3_ c4_ c5_ pk xs w9) [(.ref b37)])) st37 ?_
        refine Goes.to (T' := T37.setTop (mkF m 315 (LA20 p0 p1 p2 q3 pb bs pm c0_ c1_ c2_ c3_ c4_ c5_ pk xs w9) [(.ref xs), (.ref b37)])) (fun t k => XS.aload X37.here hx rfl (hb hby at_313) rfl rfl k) ?_
        obtain ⟨cq38, kq38, q38a, q38b, q38c⟩ := isOf hZ e37 E_b37
        obtain ⟨_, _, ⟨T38, L38, k38, n38⟩, -, X38, ⟨Lc38, hQ38, l38, y38, z38⟩, st38⟩ := X37.virtualBack hx (y := (⟨"java/lang/String", "equals", "(Ljava/lang/Object;)Z"⟩ : MethodName)) (z := (⟨"java/lang/String", "equals", "(Ljava/lang/Object;)Z"⟩ : MethodName)) hown (mvT hZ (wi hw 94 rfl)) (mvT hZ (wi hw 86 rfl)) (notFace_of_selects (args := #[]) (mvT hZ (wi hw 88 rfl))) (mvT hZ (wi hw 88 rfl)) (mvT hZ (wi hw 87 rfl)) (by decide) (backOf (W := 0) (rmE5 hw b37 xs t37 sv kb37 ks (117 : Int32) (115 : Int32) (101 : Int32) (114 : Int32) (115 : Int32) y0_ y1_ y2_ y3_ y4_ (0 : Int32) h37 n0 OC NF E_b37 F_coder_b37 F_value_b37 E_xs F_coder_xs F_value_xs V_t37 V_sv ne_b37_xs (Eq.symm (if_neg hp1_26))) hZ (wi hw 89 rfl) (wi hw 2 rfl) (by decide) (by decide)) q38a q38c (g := (mkF m 315 (LA20 p0 p1 p2 q3 pb bs pm c0_ c1_ c2_ c3_ c4_ c5_ pk xs w9) [(.ref xs), (.ref b37)])) rfl (by rw [hml]; rfl) (Steps.refl _) (argsL := [(.ref xs)]) (rest := []) (lenOf pd_142 rfl) rfl (by show 2 * 0 + _ ≤ _; exact Nat.le_of_eq rfl) (hb hby at_315) (fun _ _ => ⟨rfl, e37, (by decide : 13 + 0 ≤ _), (by decide : 99 + 0 ≤ _)⟩)
        dsimp only [Pt.U, Pt.locs, Pt.cells, Pt.slots] at X38 l38 y38 z38 st38 hQ38
        subst l38 y38 z38
        obtain ⟨rfl, Nq38, e38⟩ := hQ38
        have N38 := Fr.app N36 Nq38
        refine Goes.thru (T' := T38.setTop (mkF m 318 (LA20 p0 p1 p2 q3 pb bs pm c0_ c1_ c2_ c3_ c4_ c5_ pk xs w9) [(.int (0 : Int32))])) st38 ?_
        refine Goes.to (T' := T38.setTop (mkF m 329 (LA20 p0 p1 p2 q3 pb bs pm c0_ c1_ c2_ c3_ c4_ c5_ pk xs w9) [])) (fun t k => XS.ifYes X38.here hx rfl (pc0 := 318) (pc' := 329) rfl (hb hby at_318) rfl ((if0 _ _).trans (teq (by decide)).1) (by decide) (by decide) k) ?_
        obtain ⟨b39, T39, h39, kS39, t39, kb39, X39, e39, E39, hS, hk, hZ, hown, Ea39, Fc39, Fv39, Av39, -, -, hC39, -, hne39, st39⟩ := ldcCH X38 hx hZ hown (wi hw 96 rfl) own_strw e38 hS hk hEL (List.mem_of_getElem? (i := 2) rfl) CR.1 (vs := [(.int (115 : Int32)), (.int (105 : Int32)), (.int (116 : Int32)), (.int (101 : Int32)), (.int (115 : Int32))]) (z := 5) ⟨by decide, rfl⟩ (by decide) (by decide) (g := (mkF m 329 (LA20 p0 p1 p2 q3 pb bs pm c0_ c1_ c2_ c3_ c4_ c5_ pk xs w9) [])) rfl (hb hby at_329) (n := 20) (by decide) (by decide) (by decide) (by decide)
        have S_xs := hC39.safe E_xs.lt S_xs
        have CR := CR.trans hC39
        have E_xs := E_xs.ext E39
        have F_coder_xs := F_coder_xs.ext E39
        have F_value_xs := F_value_xs.ext E39
        have V_sv := V_sv.ext E39
        have E_b35 := E_b35.ext E39
        have F_coder_b35 := F_coder_b35.ext E39
        have F_value_b35 := F_value_b35.ext E39
        have V_t35 := V_t35.ext E39
        have E_b37 := E_b37.ext E39
        have F_coder_b37 := F_coder_b37.ext E39
        have F_value_b37 := F_value_b37.ext E39
        have V_t37 := V_t37.ext E39
        have OC := OC.ext E39
        have E_b39 : Exa Z h39 b39 "java/lang/String" := Ea39
        have F_coder_b39 : Fld Z h39 b39 "java/lang/String" "coder" "B" (.int (0 : Int32)) := Fc39
        have F_value_b39 : Fld Z h39 b39 "java/lang/String" "value" "[B" (.ref t39) := Fv39
        have V_t39 : Arv Z h39 t39 kb39 .byte (5 : Int32) [(.int (115 : Int32)), (.int (105 : Int32)), (.int (116 : Int32)), (.int (101 : Int32)), (.int (115 : Int32))] (.int (0 : Int32)) := Av39
        have ne_xs_b39 : xs ≠ b39 := (hne39 _ S_xs).1
        have ne_b39_xs := Ne.symm ne_xs_b39
        have ne_xs_t39 : xs ≠ t39 := (hne39 _ S_xs).2
        have ne_t39_xs := Ne.symm ne_xs_t39
        refine Goes.to (T' := T39.setTop (mkF m 331 (LA20 p0 p1 p2 q3 pb bs pm c0_ c1_ c2_ c3_ c4_ c5_ pk xs w9) [(.ref b39)])) st39 ?_
        refine Goes.to (T' := T39.setTop (mkF m 333 (LA20 p0 p1 p2 q3 pb bs pm c0_ c1_ c2_ c3_ c4_ c5_ pk xs w9) [(.ref xs), (.ref b39)])) (fun t k => XS.aload X39.here hx rfl (hb hby at_331) rfl rfl k) ?_
        obtain ⟨cq40, kq40, q40a, q40b, q40c⟩ := isOf hZ e39 E_b39
        obtain ⟨_, _, ⟨T40, L40, k40, n40⟩, -, X40, ⟨Lc40, hQ40, l40, y40, z40⟩, st40⟩ := X39.virtualBack hx (y := (⟨"java/lang/String", "equals", "(Ljava/lang/Object;)Z"⟩ : MethodName)) (z := (⟨"java/lang/String", "equals", "(Ljava/lang/Object;)Z"⟩ : MethodName)) hown (mvT hZ (wi hw 94 rfl)) (mvT hZ (wi hw 86 rfl)) (notFace_of_selects (args := #[]) (mvT hZ (wi hw 88 rfl))) (mvT hZ (wi hw 88 rfl)) (mvT hZ (wi hw 87 rfl)) (by decide) (backOf (W := 0) (rmE5 hw b39 xs t39 sv kb39 ks (115 : Int32) (105 : Int32) (116 : Int32) (101 : Int32) (115 : Int32) y0_ y1_ y2_ y3_ y4_ (1 : Int32) h39 n0 OC NF E_b39 F_coder_b39 F_value_b39 E_xs F_coder_xs F_value_xs V_t39 V_sv ne_b39_xs (Eq.symm (if_pos hp2_33))) hZ (wi hw 89 rfl) (wi hw 2 rfl) (by decide) (by decide)) q40a q40c (g := (mkF m 333 (LA20 p0 p1 p2 q3 pb bs pm c0_ c1_ c2_ c3_ c4_ c5_ pk xs w9) [(.ref xs), (.ref b39)])) rfl (by rw [hml]; rfl) (Steps.refl _) (argsL := [(.ref xs)]) (rest := []) (lenOf pd_142 rfl) rfl (by show 2 * 0 + _ ≤ _; exact Nat.le_of_eq rfl) (hb hby at_333) (fun _ _ => ⟨rfl, e39, (by decide : 15 + 0 ≤ _), (by decide : 123 + 0 ≤ _)⟩)
        dsimp only [Pt.U, Pt.locs, Pt.cells, Pt.slots] at X40 l40 y40 z40 st40 hQ40
        subst l40 y40 z40
        obtain ⟨rfl, Nq40, e40⟩ := hQ40
        have N40 := Fr.app N38 Nq40
        refine Goes.thru (T' := T40.setTop (mkF m 336 (LA20 p0 p1 p2 q3 pb bs pm c0_ c1_ c2_ c3_ c4_ c5_ pk xs w9) [(.int (1 : Int32))])) st40 ?_
        refine Goes.to (T' := T40.setTop (mkF m 339 (LA20 p0 p1 p2 q3 pb bs pm c0_ c1_ c2_ c3_ c4_ c5_ pk xs w9) [])) (fun t k => XS.ifNo X40.here hx rfl (hb hby at_336) rfl ((if0 _ _).trans (feq (by decide)).1) k) ?_
        obtain ⟨T41, X41, e41, st41⟩ := getS2 X40 hx hZ hown (host := "") (Or.inl (wi hw 98 rfl)) Via.refl e40 (S_w9.ext OC.2) (g := (mkF m 339 (LA20 p0 p1 p2 q3 pb bs pm c0_ c1_ c2_ c3_ c4_ c5_ pk xs w9) [])) rfl (hb hby at_339)
        refine Goes.to (T' := T41.setTop (mkF m 342 (LA20 p0 p1 p2 q3 pb bs pm c0_ c1_ c2_ c3_ c4_ c5_ pk xs w9) [(.ref w9)])) st41 ?_
        refine Goes.to (T' := T41.setTop (mkF m 344 (LA21 p0 p1 p2 q3 pb bs pm c0_ c1_ c2_ c3_ c4_ c5_ pk xs w9) [])) (fun t k => XS.astore X41.here hx rfl (hb hby at_342) rfl rfl (l' := (LA21 p0 p1 p2 q3 pb bs pm c0_ c1_ c2_ c3_ c4_ c5_ pk xs w9)) rfl k) ?_
        refine Goes.to (T' := T41.setTop (mkF m 350 (LA21 p0 p1 p2 q3 pb bs pm c0_ c1_ c2_ c3_ c4_ c5_ pk xs w9) [])) (fun t k => XS.goto X41.here hx rfl (pc0 := 344) (pc' := 350) rfl (hb hby at_344) (by decide) (by decide) k) ?_
        refine Goes.to (T' := T41.setTop (mkF m 352 (LA21 p0 p1 p2 q3 pb bs pm c0_ c1_ c2_ c3_ c4_ c5_ pk xs w9) [(.ref w9)])) (fun t k => XS.aload X41.here hx rfl (hb hby at_350) rfl rfl k) ?_
        refine Goes.to (T' := T41.setTop (mkF m 354 (LA21 p0 p1 p2 q3 pb bs pm c0_ c1_ c2_ c3_ c4_ c5_ pk xs w9) [(.ref w9), (.ref w9)])) (fun t k => XS.aload X41.here hx rfl (hb hby at_352) rfl rfl k) ?_
        refine Goes.to (T' := T41.setTop (mkF m 357 (LA21 p0 p1 p2 q3 pb bs pm c0_ c1_ c2_ c3_ c4_ c5_ pk xs w9) [])) (fun t k => Jvm.RoadKit.acmp (g := (mkF m 354 (LA21 p0 p1 p2 q3 pb bs pm c0_ c1_ c2_ c3_ c4_ c5_ pk xs w9) [(.ref w9), (.ref w9)])) X41 hx rfl rfl rfl (pc0 := 354) (pc' := 357) (same := true) rfl (hb hby at_354) rfl (decide_eq_true rfl) (by decide) (by decide) k) ?_
        refine Goes.to (T' := T41.setTop (mkF m 358 (LA21 p0 p1 p2 q3 pb bs pm c0_ c1_ c2_ c3_ c4_ c5_ pk xs w9) [(.int (1 : Int32))])) (fun t k => XS.iconst X41.here hx rfl (hb hby at_357) k) ?_
        refine Goes.to (T' := T41.setTop (mkF m 362 (LA21 p0 p1 p2 q3 pb bs pm c0_ c1_ c2_ c3_ c4_ c5_ pk xs w9) [(.int (1 : Int32))])) (fun t k => XS.goto X41.here hx rfl (pc0 := 358) (pc' := 362) rfl (hb hby at_358) (by decide) (by decide) k) ?_
        obtain ⟨fs, hrL, hrun, hended, hRW⟩ := X41.leaveW hS (by rw [e41]; exact hk) (v := some (.int (1 : Int32))) (fun h => by rw [Bd.returns] at h; cases h)
        subst hQf
        refine ⟨_, _, retN X41 hx (t := .boolean) Bd.returns (by simp) (hb hby at_362) hrL, hrun, hended, _, _, rfl, ?_, hRW.1, hRW.2.1, hRW.2.2.1, hRW.2.2.2.mono (by decide) (by decide)⟩
        show Q_rm0  h0 n0 (some (.int (1 : Int32))) T41.heap _
        rw [e41]
        exact ⟨rfl, N40⟩
      · skip
        refine Goes.to (T' := TC.setTop (mkF m 288 (LA17 p0 p1 p2 q3 pb bs pm c0_ c1_ c2_ c3_ c4_ c5_ pk xs) [(.ref xs)])) (fun t k => XS.aload XC.here hx rfl (hb hby at_286) rfl rfl k) ?_
        obtain ⟨_, _, ⟨T42, L42, k42, n42⟩, -, X42, ⟨Lc42, hQ42, l42, y42, z42⟩, st42⟩ := Jvm.LawKit.callS XC hx (y := (⟨"com/example/issuer/issuer/blocklist/EntryKind", "ofList", "(Ljava/lang/String;)Lcom/example/issuer/issuer/blocklist/EntryKind;"⟩ : MethodName)) hown (mvT hZ (wi hw 61 rfl)) (mvT hZ (wi hw 62 rfl)) (mvT hZ (wi hw 63 rfl)) (mvT hZ (wi hw 64 rfl)) (by decide) (backOf (W := 0) (rmO5 hw xs sv ks y0_ y1_ y2_ y3_ y4_ (Value.null) hC n0 OC NF E_xs F_coder_xs F_value_xs V_sv g_xs (Eq.symm ((if_neg hp0_21).trans ((if_neg hp1_26).trans (if_neg hp2_33))))) hZ (wi hw 64 rfl) (wi hw 63 rfl) (by decide) (by decide)) (g := (mkF m 288 (LA17 p0 p1 p2 q3 pb bs pm c0_ c1_ c2_ c3_ c4_ c5_ pk xs) [(.ref xs)])) rfl (by rw [hml]; rfl) (argsL := [(.ref xs)]) (rest := []) (lenOf pd_212 rfl) rfl (by show 2 * 0 + _ ≤ _; exact Nat.le_of_eq rfl) (hb hby at_288) (fun _ _ => ⟨rfl, eC, (by decide : 8 + 1 ≤ _), (by decide : 48 + 3 ≤ _)⟩)
        dsimp only [Pt.U, Pt.locs, Pt.cells, Pt.slots] at X42 l42 y42 z42 st42 hQ42
        subst l42 y42 z42
        obtain ⟨rfl, Nq42, Ex42⟩ := hQ42
        have N42 := Fr.app NC Nq42
        have S_xs := Safe.ext Ex42 CR.1 S_xs
        have CR := CR.trans (CHr.ext Ex42 CR.1)
        have E_xs := E_xs.ext Ex42
        have F_coder_xs := F_coder_xs.ext Ex42
        have F_value_xs := F_value_xs.ext Ex42
        have V_sv := V_sv.ext Ex42
        have OC := OC.ext Ex42
        have hk := Nat.le_trans hk Ex42.1
        refine Goes.to (T' := T42.setTop (mkF m 291 (LA17 p0 p1 p2 q3 pb bs pm c0_ c1_ c2_ c3_ c4_ c5_ pk xs) [.null])) st42 ?_
        refine Goes.to (T' := T42.setTop (mkF m 293 (LA18 p0 p1 p2 q3 pb bs pm c0_ c1_ c2_ c3_ c4_ c5_ pk xs) [])) (fun t k => XS.astore X42.here hx rfl (hb hby at_291) rfl rfl (l' := (LA18 p0 p1 p2 q3 pb bs pm c0_ c1_ c2_ c3_ c4_ c5_ pk xs)) rfl k) ?_
        obtain ⟨b43, T43, h43, kS43, t43, kb43, X43, e43, E43, hS, hk, hZ, hown, Ea43, Fc43, Fv43, Av43, -, -, hC43, -, hne43, st43⟩ := ldcCH X42 hx hZ hown (wi hw 1 rfl) own_strw rfl hS hk hEL (List.mem_of_getElem? (i := 0) rfl) CR.1 (vs := [(.int (99 : Int32)), (.int (97 : Int32)), (.int (114 : Int32)), (.int (100 : Int32)), (.int (115 : Int32))]) (z := 5) ⟨by decide, rfl⟩ (by decide) (by decide) (g := (mkF m 293 (LA18 p0 p1 p2 q3 pb bs pm c0_ c1_ c2_ c3_ c4_ c5_ pk xs) [])) rfl (hb hby at_293) (n := 20) (by decide) (by decide) (by decide) (by decide)
        have S_xs := hC43.safe E_xs.lt S_xs
        have CR := CR.trans hC43
        have E_xs := E_xs.ext E43
        have F_coder_xs := F_coder_xs.ext E43
        have F_value_xs := F_value_xs.ext E43
        have V_sv := V_sv.ext E43
        have OC := OC.ext E43
        have E_b43 : Exa Z h43 b43 "java/lang/String" := Ea43
        have F_coder_b43 : Fld Z h43 b43 "java/lang/String" "coder" "B" (.int (0 : Int32)) := Fc43
        have F_value_b43 : Fld Z h43 b43 "java/lang/String" "value" "[B" (.ref t43) := Fv43
        have V_t43 : Arv Z h43 t43 kb43 .byte (5 : Int32) [(.int (99 : Int32)), (.int (97 : Int32)), (.int (114 : Int32)), (.int (100 : Int32)), (.int (115 : Int32))] (.int (0 : Int32)) := Av43
        have ne_xs_b43 : xs ≠ b43 := (hne43 _ S_xs).1
        have ne_b43_xs := Ne.symm ne_xs_b43
        have ne_xs_t43 : xs ≠ t43 := (hne43 _ S_xs).2
        have ne_t43_xs := Ne.symm ne_xs_t43
        refine Goes.to (T' := T43.setTop (mkF m 295 (LA18 p0 p1 p2 q3 pb bs pm c0_ c1_ c2_ c3_ c4_ c5_ pk xs) [(.ref b43)])) st43 ?_
        refine Goes.to (T' := T43.setTop (mkF m 297 (LA18 p0 p1 p2 q3 pb bs pm c0_ c1_ c2_ c3_ c4_ c5_ pk xs) [(.ref xs), (.ref b43)])) (fun t k => XS.aload X43.here hx rfl (hb hby at_295) rfl rfl k) ?_
        obtain ⟨cq44, kq44, q44a, q44b, q44c⟩ := isOf hZ e43 E_b43
        obtain ⟨_, _, ⟨T44, L44, k44, n44⟩, -, X44, ⟨Lc44, hQ44, l44, y44, z44⟩, st44⟩ := X43.virtualBack hx (y := (⟨"java/lang/String", "equals", "(Ljava/lang/Object;)Z"⟩ : MethodName)) (z := (⟨"java/lang/String", "equals", "(Ljava/lang/Object;)Z"⟩ : MethodName)) hown (mvT hZ (wi hw 94 rfl)) (mvT hZ (wi hw 86 rfl)) (notFace_of_selects (args := #[]) (mvT hZ (wi hw 88 rfl))) (mvT hZ (wi hw 88 rfl)) (mvT hZ (wi hw 87 rfl)) (by decide) (backOf (W := 0) (rmE5 hw b43 xs t43 sv kb43 ks (99 : Int32) (97 : Int32) (114 : Int32) (100 : Int32) (115 : Int32) y0_ y1_ y2_ y3_ y4_ (0 : Int32) h43 n0 OC NF E_b43 F_coder_b43 F_value_b43 E_xs F_coder_xs F_value_xs V_t43 V_sv ne_b43_xs (Eq.symm (if_neg hp0_21))) hZ (wi hw 89 rfl) (wi hw 2 rfl) (by decide) (by decide)) q44a q44c (g := (mkF m 297 (LA18 p0 p1 p2 q3 pb bs pm c0_ c1_ c2_ c3_ c4_ c5_ pk xs) [(.ref xs), (.ref b43)])) rfl (by rw [hml]; rfl) (Steps.refl _) (argsL := [(.ref xs)]) (rest := []) (lenOf pd_142 rfl) rfl (by show 2 * 0 + _ ≤ _; exact Nat.le_of_eq rfl) (hb hby at_297) (fun _ _ => ⟨rfl, e43, (by decide : 11 + 0 ≤ _), (by decide : 75 + 0 ≤ _)⟩)
        dsimp only [Pt.U, Pt.locs, Pt.cells, Pt.slots] at X44 l44 y44 z44 st44 hQ44
        subst l44 y44 z44
        obtain ⟨rfl, Nq44, e44⟩ := hQ44
        have N44 := Fr.app N42 Nq44
        refine Goes.thru (T' := T44.setTop (mkF m 300 (LA18 p0 p1 p2 q3 pb bs pm c0_ c1_ c2_ c3_ c4_ c5_ pk xs) [(.int (0 : Int32))])) st44 ?_
        refine Goes.to (T' := T44.setTop (mkF m 311 (LA18 p0 p1 p2 q3 pb bs pm c0_ c1_ c2_ c3_ c4_ c5_ pk xs) [])) (fun t k => XS.ifYes X44.here hx rfl (pc0 := 300) (pc' := 311) rfl (hb hby at_300) rfl ((if0 _ _).trans (teq (by decide)).1) (by decide) (by decide) k) ?_
        obtain ⟨b45, T45, h45, kS45, t45, kb45, X45, e45, E45, hS, hk, hZ, hown, Ea45, Fc45, Fv45, Av45, -, -, hC45, -, hne45, st45⟩ := ldcCH X44 hx hZ hown (wi hw 95 rfl) own_strw e44 hS hk hEL (List.mem_of_getElem? (i := 1) rfl) CR.1 (vs := [(.int (117 : Int32)), (.int (115 : Int32)), (.int (101 : Int32)), (.int (114 : Int32)), (.int (115 : Int32))]) (z := 5) ⟨by decide, rfl⟩ (by decide) (by decide) (g := (mkF m 311 (LA18 p0 p1 p2 q3 pb bs pm c0_ c1_ c2_ c3_ c4_ c5_ pk xs) [])) rfl (hb hby at_311) (n := 20) (by decide) (by decide) (by decide) (by decide)
        have S_xs := hC45.safe E_xs.lt S_xs
        have CR := CR.trans hC45
        have E_xs := E_xs.ext E45
        have F_coder_xs := F_coder_xs.ext E45
        have F_value_xs := F_value_xs.ext E45
        have V_sv := V_sv.ext E45
        have E_b43 := E_b43.ext E45
        have F_coder_b43 := F_coder_b43.ext E45
        have F_value_b43 := F_value_b43.ext E45
        have V_t43 := V_t43.ext E45
        have OC := OC.ext E45
        have E_b45 : Exa Z h45 b45 "java/lang/String" := Ea45
        have F_coder_b45 : Fld Z h45 b45 "java/lang/String" "coder" "B" (.int (0 : Int32)) := Fc45
        have F_value_b45 : Fld Z h45 b45 "java/lang/String" "value" "[B" (.ref t45) := Fv45
        have V_t45 : Arv Z h45 t45 kb45 .byte (5 : Int32) [(.int (117 : Int32)), (.int (115 : Int32)), (.int (101 : Int32)), (.int (114 : Int32)), (.int (115 : Int32))] (.int (0 : Int32)) := Av45
        have ne_xs_b45 : xs ≠ b45 := (hne45 _ S_xs).1
        have ne_b45_xs := Ne.symm ne_xs_b45
        have ne_xs_t45 : xs ≠ t45 := (hne45 _ S_xs).2
        have ne_t45_xs := Ne.symm ne_xs_t45
        refine Goes.to (T' := T45.setTop (mkF m 313 (LA18 p0 p1 p2 q3 pb bs pm c0_ c1_ c2_ c3_ c4_ c5_ pk xs) [(.ref b45)])) st45 ?_
        refine Goes.to (T' := T45.setTop (mkF m 315 (LA18 p0 p1 p2 q3 pb bs pm c0_ c1_ c2_ c3_ c4_ c5_ pk xs) [(.ref xs), (.ref b45)])) (fun t k => XS.aload X45.here hx rfl (hb hby at_313) rfl rfl k) ?_
        obtain ⟨cq46, kq46, q46a, q46b, q46c⟩ := isOf hZ e45 E_b45
        obtain ⟨_, _, ⟨T46, L46, k46, n46⟩, -, X46, ⟨Lc46, hQ46, l46, y46, z46⟩, st46⟩ := X45.virtualBack hx (y := (⟨"java/lang/String", "equals", "(Ljava/lang/Object;)Z"⟩ : MethodName)) (z := (⟨"java/lang/String", "equals", "(Ljava/lang/Object;)Z"⟩ : MethodName)) hown (mvT hZ (wi hw 94 rfl)) (mvT hZ (wi hw 86 rfl)) (notFace_of_selects (args := #[]) (mvT hZ (wi hw 88 rfl))) (mvT hZ (wi hw 88 rfl)) (mvT hZ (wi hw 87 rfl)) (by decide) (backOf (W := 0) (rmE5 hw b45 xs t45 sv kb45 ks (117 : Int32) (115 : Int32) (101 : Int32) (114 : Int32) (115 : Int32) y0_ y1_ y2_ y3_ y4_ (0 : Int32) h45 n0 OC NF E_b45 F_coder_b45 F_value_b45 E_xs F_coder_xs F_value_xs V_t45 V_sv ne_b45_xs (Eq.symm (if_neg hp1_26))) hZ (wi hw 89 rfl) (wi hw 2 rfl) (by decide) (by decide)) q46a q46c (g := (mkF m 315 (LA18 p0 p1 p2 q3 pb bs pm c0_ c1_ c2_ c3_ c4_ c5_ pk xs) [(.ref xs), (.ref b45)])) rfl (by rw [hml]; rfl) (Steps.refl _) (argsL := [(.ref xs)]) (rest := []) (lenOf pd_142 rfl) rfl (by show 2 * 0 + _ ≤ _; exact Nat.le_of_eq rfl) (hb hby at_315) (fun _ _ => ⟨rfl, e45, (by decide : 13 + 0 ≤ _), (by decide : 99 + 0 ≤ _)⟩)
        dsimp only [Pt.U, Pt.locs, Pt.cells, Pt.slots] at X46 l46 y46 z46 st46 hQ46
        subst l46 y46 z46
        obtain ⟨rfl, Nq46, e46⟩ := hQ46
        have N46 := Fr.app N44 Nq46
        refine Goes.thru (T' := T46.setTop (mkF m 318 (LA18 p0 p1 p2 q3 pb bs pm c0_ c1_ c2_ c3_ c4_ c5_ pk xs) [(.int (0 : Int32))])) st46 ?_
        refine Goes.to (T' := T46.setTop (mkF m 329 (LA18 p0 p1 p2 q3 pb bs pm c0_ c1_ c2_ c3_ c4_ c5_ pk xs) [])) (fun t k => XS.ifYes X46.here hx rfl (pc0 := 318) (pc' := 329) rfl (hb hby at_318) rfl ((if0 _ _).trans (teq (by decide)).1) (by decide) (by decide) k) ?_
        obtain ⟨b47, T47, h47, kS47, t47, kb47, X47, e47, E47, hS, hk, hZ, hown, Ea47, Fc47, Fv47, Av47, -, -, hC47, -, hne47, st47⟩ := ldcCH X46 hx hZ hown (wi hw 96 rfl) own_strw e46 hS hk hEL (List.mem_of_getElem? (i := 2) rfl) CR.1 (vs := [(.int (115 : Int32)), (.int (105 : Int32)), (.int (116 : Int32)), (.int (101 : Int32)), (.int (115 : Int32))]) (z := 5) ⟨by decide, rfl⟩ (by decide) (by decide) (g := (mkF m 329 (LA18 p0 p1 p2 q3 pb bs pm c0_ c1_ c2_ c3_ c4_ c5_ pk xs) [])) rfl (hb hby at_329) (n := 20) (by decide) (by decide) (by decide) (by decide)
        have S_xs := hC47.safe E_xs.lt S_xs
        have CR := CR.trans hC47
        have E_xs := E_xs.ext E47
        have F_coder_xs := F_coder_xs.ext E47
        have F_value_xs := F_value_xs.ext E47
        have V_sv := V_sv.ext E47
        have E_b43 := E_b43.ext E47
        have F_coder_b43 := F_coder_b43.ext E47
        have F_value_b43 := F_value_b43.ext E47
        have V_t43 := V_t43.ext E47
        have E_b45 := E_b45.ext E47
        have F_coder_b45 := F_coder_b45.ext E47
        have F_value_b45 := F_value_b45.ext E47
        have V_t45 := V_t45.ext E47
        have OC := OC.ext E47
        have E_b47 : Exa Z h47 b47 "java/lang/String" := Ea47
        have F_coder_b47 : Fld Z h47 b47 "java/lang/String" "coder" "B" (.int (0 : Int32)) := Fc47
        have F_value_b47 : Fld Z h47 b47 "java/lang/String" "value" "[B" (.ref t47) := Fv47
        have V_t47 : Arv Z h47 t47 kb47 .byte (5 : Int32) [(.int (115 : Int32)), (.int (105 : Int32)), (.int (116 : Int32)), (.int (101 : Int32)), (.int (115 : Int32))] (.int (0 : Int32)) := Av47
        have ne_xs_b47 : xs ≠ b47 := (hne47 _ S_xs).1
        have ne_b47_xs := Ne.symm ne_xs_b47
        have ne_xs_t47 : xs ≠ t47 := (hne47 _ S_xs).2
        have ne_t47_xs := Ne.symm ne_xs_t47
        refine Goes.to (T' := T47.setTop (mkF m 331 (LA18 p0 p1 p2 q3 pb bs pm c0_ c1_ c2_ c3_ c4_ c5_ pk xs) [(.ref b47)])) st47 ?_
        refine Goes.to (T' := T47.setTop (mkF m 333 (LA18 p0 p1 p2 q3 pb bs pm c0_ c1_ c2_ c3_ c4_ c5_ pk xs) [(.ref xs), (.ref b47)])) (fun t k => XS.aload X47.here hx rfl (hb hby at_331) rfl rfl k) ?_
        obtain ⟨cq48, kq48, q48a, q48b, q48c⟩ := isOf hZ e47 E_b47
        obtain ⟨_, _, ⟨T48, L48, k48, n48⟩, -, X48, ⟨Lc48, hQ48, l48, y48, z48⟩, st48⟩ := X47.virtualBack hx (y := (⟨"java/lang/String", "equals", "(Ljava/lang/Object;)Z"⟩ : MethodName)) (z := (⟨"java/lang/String", "equals", "(Ljava/lang/Object;)Z"⟩ : MethodName)) hown (mvT hZ (wi hw 94 rfl)) (mvT hZ (wi hw 86 rfl)) (notFace_of_selects (args := #[]) (mvT hZ (wi hw 88 rfl))) (mvT hZ (wi hw 88 rfl)) (mvT hZ (wi hw 87 rfl)) (by decide) (backOf (W := 0) (rmE5 hw b47 xs t47 sv kb47 ks (115 : Int32) (105 : Int32) (116 : Int32) (101 : Int32) (115 : Int32) y0_ y1_ y2_ y3_ y4_ (0 : Int32) h47 n0 OC NF E_b47 F_coder_b47 F_value_b47 E_xs F_coder_xs F_value_xs V_t47 V_sv ne_b47_xs (Eq.symm (if_neg hp2_33))) hZ (wi hw 89 rfl) (wi hw 2 rfl) (by decide) (by decide)) q48a q48c (g := (mkF m 333 (LA18 p0 p1 p2 q3 pb bs pm c0_ c1_ c2_ c3_ c4_ c5_ pk xs) [(.ref xs), (.ref b47)])) rfl (by rw [hml]; rfl) (Steps.refl _) (argsL := [(.ref xs)]) (rest := []) (lenOf pd_142 rfl) rfl (by show 2 * 0 + _ ≤ _; exact Nat.le_of_eq rfl) (hb hby at_333) (fun _ _ => ⟨rfl, e47, (by decide : 15 + 0 ≤ _), (by decide : 123 + 0 ≤ _)⟩)
        dsimp only [Pt.U, Pt.locs, Pt.cells, Pt.slots] at X48 l48 y48 z48 st48 hQ48
        subst l48 y48 z48
        obtain ⟨rfl, Nq48, e48⟩ := hQ48
        have N48 := Fr.app N46 Nq48
        refine Goes.thru (T' := T48.setTop (mkF m 336 (LA18 p0 p1 p2 q3 pb bs pm c0_ c1_ c2_ c3_ c4_ c5_ pk xs) [(.int (0 : Int32))])) st48 ?_
        refine Goes.to (T' := T48.setTop (mkF m 347 (LA18 p0 p1 p2 q3 pb bs pm c0_ c1_ c2_ c3_ c4_ c5_ pk xs) [])) (fun t k => XS.ifYes X48.here hx rfl (pc0 := 336) (pc' := 347) rfl (hb hby at_336) rfl ((if0 _ _).trans (teq (by decide)).1) (by decide) (by decide) k) ?_
        refine Goes.to (T' := T48.setTop (mkF m 348 (LA18 p0 p1 p2 q3 pb bs pm c0_ c1_ c2_ c3_ c4_ c5_ pk xs) [.null])) (fun t k => XS.aconstNull X48.here hx rfl (hb hby at_347) k) ?_
        refine Goes.to (T' := T48.setTop (mkF m 350 (LA19 p0 p1 p2 q3 pb bs pm c0_ c1_ c2_ c3_ c4_ c5_ pk xs) [])) (fun t k => XS.astore X48.here hx rfl (hb hby at_348) rfl rfl (l' := (LA19 p0 p1 p2 q3 pb bs pm c0_ c1_ c2_ c3_ c4_ c5_ pk xs)) rfl k) ?_
        refine Goes.to (T' := T48.setTop (mkF m 352 (LA19 p0 p1 p2 q3 pb bs pm c0_ c1_ c2_ c3_ c4_ c5_ pk xs) [.null])) (fun t k => XS.aload X48.here hx rfl (hb hby at_350) rfl rfl k) ?_
        refine Goes.to (T' := T48.setTop (mkF m 354 (LA19 p0 p1 p2 q3 pb bs pm c0_ c1_ c2_ c3_ c4_ c5_ pk xs) [.null, .null])) (fun t k => XS.aload X48.here hx rfl (hb hby at_352) rfl rfl k) ?_
        refine Goes.to (T' := T48.setTop (mkF m 357 (LA19 p0 p1 p2 q3 pb bs pm c0_ c1_ c2_ c3_ c4_ c5_ pk xs) [])) (fun t k => Jvm.RoadKit.acmp (g := (mkF m 354 (LA19 p0 p1 p2 q3 pb bs pm c0_ c1_ c2_ c3_ c4_ c5_ pk xs) [.null, .null])) X48 hx rfl rfl rfl (pc0 := 354) (pc' := 357) (same := true) rfl (hb hby at_354) rfl (decide_eq_true rfl) (by decide) (by decide) k) ?_
        refine Goes.to (T' := T48.setTop (mkF m 358 (LA19 p0 p1 p2 q3 pb bs pm c0_ c1_ c2_ c3_ c4_ c5_ pk xs) [(.int (1 : Int32))])) (fun t k => XS.iconst X48.here hx rfl (hb hby at_357) k) ?_
        refine Goes.to (T' := T48.setTop (mkF m 362 (LA19 p0 p1 p2 q3 pb bs pm c0_ c1_ c2_ c3_ c4_ c5_ pk xs) [(.int (1 : Int32))])) (fun t k => XS.goto X48.here hx rfl (pc0 := 358) (pc' := 362) rfl (hb hby at_358) (by decide) (by decide) k) ?_
        obtain ⟨fs, hrL, hrun, hended, hRW⟩ := X48.leaveW hS (by rw [e48]; exact hk) (v := some (.int (1 : Int32))) (fun h => by rw [Bd.returns] at h; cases h)
        subst hQf
        refine ⟨_, _, retN X48 hx (t := .boolean) Bd.returns (by simp) (hb hby at_362) hrL, hrun, hended, _, _, rfl, ?_, hRW.1, hRW.2.1, hRW.2.2.1, hRW.2.2.2.mono (by decide) (by decide)⟩
        show Q_rm0  h0 n0 (some (.int (1 : Int32))) T48.heap _
        rw [e48]
        exact ⟨rfl, N48⟩
def LA22 (v0 : Int32) (v1 : Int32) (v2 : Int32) (v3 : Int64) (v4 : Int32) (v5 : Addr) (v6 : Int32) (v7 : Int32) (v8 : Int32) (v9 : Int32) (v10 : Int32) (v11 : Int32) (v12 : Int32) (v13 : Int32) : Array Slot := #[.val (.int v0), .val (.int v1), .val (.int v2), .val (.long v3), .second, .val (.int v4), .val (.ref v5), .val (.int v6), .val (.int v7), .val (.int v8), .val (.int v9), .val (.int v10), .val (.int v11), .val (.int v12), .val (.int v13), .unset, .unset, .unset]
theorem pd_221 : parseMethodDescriptor "([C)V" = some ⟨[(.array .char)], none⟩ := by decide +kernel
theorem rm0_k0 (hw : HW a0 Z) (p0 : Int32) (p1 : Int32) (p2 : Int32) (q3 : Int64) (vmC : Vm) (h0 : Heap) (n0 : Nat) (NF : Nar Z w6 w7 w8 w9 w3 w0 w4 w1 w5 w2 k_w6 k_w0 k_w1 k_w2 z_cs fm) (p : Program) (e : Env) (s : State) (m : MethodId) (below : List Frame) (meth : _) (c : _) (s₁ : State) (Bd : BodyLoose p l x (head1 (Jvm.Cond.code x code maxLocals ret :: ws) room_1) code maxLocals ret e s m #[(.int p0), (.int p1), (.int p2), (.long q3)] below meth c s₁) (hml : c.maxLocals = 18) (vmB : Vm) (kS : Nat) (hS : s.Since vmB kS) (hZ : Z.Warmed39 (s.setVm vmB).vm) (hown : (s.setVm vmB).vm.findClass "com/example/issuer/issuer/blocklist/EntryKindOfListPinLaw" = some m.cls) (own_strw : ∀ a ∈ Bundle.stringAtoms, a.before a0 Z = true) (hEL : EW Z a0 consts_1) (Qf : Outcome → State → Prop) (hQf : Qf = (fun (_ : Array Value) (U : State) (o : Outcome) (U' : State) => ∃ v L, o = .returned v ∧ Q_rm0  h0 n0 v U'.heap L ∧ ReturnedEndW U o U' L room_1.cells room_1.slots) #[] s) (bs : Addr) (pb : Int32) (pm : Int32) (pk : Int32) (c0_ : Int32) (c1_ : Int32) (c2_ : Int32) (c3_ : Int32) (c4_ : Int32) (c5_ : Int32) (h_c0_ : ¬ c0_ < 0 ∧ ¬ (255 : Int32) < c0_) (h_c1_ : ¬ c1_ < 0 ∧ ¬ (255 : Int32) < c1_) (h_c2_ : ¬ c2_ < 0 ∧ ¬ (255 : Int32) < c2_) (h_c3_ : ¬ c3_ < 0 ∧ ¬ (255 : Int32) < c3_) (h_c4_ : ¬ c4_ < 0 ∧ ¬ (255 : Int32) < c4_) (h_c5_ : ¬ c5_ < 0 ∧ ¬ (255 : Int32) < c5_) (TC : State) (locsC : List Loc) (hC : Heap) (XC : Stand p l e room_1 (s.setVm vmB) m #[(.int p0), (.int p1), (.int p2), (.long q3)] below meth c TC locsC 2 24) (eC : TC.heap = hC) (hk : kS ≤ hC.size) (OC : Old Z n0 hC) (CR : CHr Z consts_1 s.vm h0 vmB hC) (NC : Fr n0 locsC) : Goes p.tables e below Qf (TC.setTop (mkF m 129 (LA22 p0 p1 p2 q3 pb bs pm c0_ c1_ c2_ c3_ c4_ c5_ pk) [])) := by
  have hx := Bd.exec
  have hby := Bd.bytes
  have hnm := (name_of_methodNamed Bd.named Bd.method).1
  obtain ⟨S_w6, E_w6, S_w7, E_w7, S_w8, E_w8, S_w9, E_w9, F_listName_w7, E_w3, F_value_w3, F_listName_w8, E_w4, F_value_w4, F_listName_w9, E_w5, F_value_w5, F_coder_w3, F_coder_w4, F_coder_w5, V_w6, V_w0, V_w1, V_w2, S_cs, nz_cs, S_fm, rf⟩ := id NF
  obtain ⟨T50, h50, X50, e50, E50, A50, D50, -, st50⟩ := newO XC hx hZ hown (wi hw 39 rfl) (wi hw 3 rfl) (wi hw 2 rfl) eC (g := (mkF m 129 (LA22 p0 p1 p2 q3 pb bs pm c0_ c1_ c2_ c3_ c4_ c5_ pk) [])) rfl (hb hby at_129) (by decide) (by decide)
  obtain ⟨b50, g50⟩ : ∃ z, z = hC.size := ⟨_, rfl⟩
  rw [← g50] at A50 D50 st50
  have g_b50 : n0 ≤ b50 := Nat.le_trans (own_old OC) (Nat.le_of_eq g50.symm)
  have S_b50 : Safe Z consts_1 vmB hC b50 := Safe.new (Nat.le_of_eq g50.symm)
  have S_b50 := Safe.ext E50 CR.1 S_b50
  have CR := CR.trans (CHr.ext E50 CR.1)
  have OC := OC.ext E50
  have hk := Nat.le_trans hk E50.1
  have E_b50 := A50
  have F_value_b50 : Fld Z h50 b50 "java/lang/String" "value" "[B" .null := D50 (Or.inr (wi hw 5 rfl)) (ty := (.array .byte)) (by decide)
  have F_coder_b50 : Fld Z h50 b50 "java/lang/String" "coder" "B" (.int (0 : Int32)) := D50 (Or.inr (wi hw 6 rfl)) (ty := .byte) (by decide)
  refine Goes.to (T' := T50.setTop (mkF m 132 (LA22 p0 p1 p2 q3 pb bs pm c0_ c1_ c2_ c3_ c4_ c5_ pk) [(.ref b50)])) st50 ?_
  refine Goes.to (T' := T50.setTop (mkF m 133 (LA22 p0 p1 p2 q3 pb bs pm c0_ c1_ c2_ c3_ c4_ c5_ pk) [(.ref b50), (.ref b50)])) (fun t k => XS.dup X50.here hx rfl (hb hby at_132) rfl rfl k) ?_
  refine Goes.to (T' := T50.setTop (mkF m 134 (LA22 p0 p1 p2 q3 pb bs pm c0_ c1_ c2_ c3_ c4_ c5_ pk) [(.int (0 : Int32)), (.ref b50), (.ref b50)])) (fun t k => XS.iconst X50.here hx rfl (hb hby at_133) k) ?_
  obtain ⟨T51, h51, k51, X51, e51, E51, A51, st51⟩ := newP X50 hx hZ (wi hw 40 rfl) e50 (g := (mkF m 134 (LA22 p0 p1 p2 q3 pb bs pm c0_ c1_ c2_ c3_ c4_ c5_ pk) [(.int (0 : Int32)), (.ref b50), (.ref b50)])) rfl (hb hby at_134) rfl (by decide) (cap := 0) (by decide) (by decide) (by decide) (by decide)
  obtain ⟨b51, g51⟩ : ∃ z, z = h50.size := ⟨_, rfl⟩
  rw [← g51] at A51 st51
  have g_b51 : n0 ≤ b51 := Nat.le_trans (own_old OC) (Nat.le_of_eq g51.symm)
  have ne_b50_b51 : b50 ≠ b51 := Nat.ne_of_lt (Nat.lt_of_lt_of_le E_b50.lt (Nat.le_of_eq g51.symm))
  have ne_b51_b50 := Ne.symm ne_b50_b51
  have S_b51 : Safe Z consts_1 vmB h50 b51 := Safe.new (Nat.le_of_eq g51.symm)
  have S_b50 := Safe.ext E51 CR.1 S_b50
  have S_b51 := Safe.ext E51 CR.1 S_b51
  have CR := CR.trans (CHr.ext E51 CR.1)
  have E_b50 := E_b50.ext E51
  have F_value_b50 := F_value_b50.ext E51
  have F_coder_b50 := F_coder_b50.ext E51
  have OC := OC.ext E51
  have hk := Nat.le_trans hk E51.1
  have V_b51 : Arv Z h51 b51 k51 .char (0 : Int32) [] (.int (0 : Int32)) := (Arv.new A51 (by decide)).pad (pad_rep [] (.int (0 : Int32)) 0)
  refine Goes.to (T' := T51.setTop (mkF m 136 (LA22 p0 p1 p2 q3 pb bs pm c0_ c1_ c2_ c3_ c4_ c5_ pk) [(.ref b51), (.ref b50), (.ref b50)])) st51 ?_
  obtain ⟨_, _, ⟨T52, L52, k52, n52⟩, -, X52, hS52, hg52, ⟨Lc52, hQ52, l52, y52, z52, hC52⟩, st52⟩ := X51.specialBackS hx (y := (⟨"java/lang/String", "<init>", "([C)V"⟩ : MethodName)) rfl hown (mvT hZ (wi hw 41 rfl)) (mvT hZ (wi hw 42 rfl)) (mvT hZ (wi hw 43 rfl)) (by decide) (own_backSH (W := 1) (rmC0 hw b50 b51 k51 vmB h51 n0 OC NF E_b50 F_value_b50 F_coder_b50 V_b51 g_b50 ne_b51_b50 S_b50) hZ (wi hw 43 rfl) (wi hw 2 rfl) (by decide) (by decide) hEL CR.1) (g := (mkF m 136 (LA22 p0 p1 p2 q3 pb bs pm c0_ c1_ c2_ c3_ c4_ c5_ pk) [(.ref b51), (.ref b50), (.ref b50)])) rfl (by rw [hml]; rfl) (Steps.refl _) (a := b50) (argsL := [(.ref b51)]) (rest := [(.ref b50)]) (lenOf pd_221 rfl) rfl (by show 2 * 0 + _ ≤ _; exact Nat.le_of_eq rfl) (hb hby at_136) (fun _ _ => ⟨rfl, e51, (by decide : 4 + 4 ≤ _), (by decide : 28 + 8 ≤ _)⟩)
  dsimp only [Pt.U, Pt.locs, Pt.cells, Pt.slots] at X52 l52 y52 z52 st52 hQ52 hS52 hg52 hC52
  subst l52 y52 z52
  obtain ⟨⟨rfl, te, ke, Ea52, Fc52, Fv52, Av52⟩, Nq52, K52⟩ := hQ52
  have N52 := Fr.app NC Nq52
  have hS := hS.trans hS52 (Nat.le_trans hk (by rw [← e51]; exact hg52))
  have hk : T52.heap.size ≤ T52.heap.size := Nat.le_refl _
  have hZ : Z.Warmed39 (s.setVm T52.vm).vm := State.Warmed39.trans (t := (s.setVm vmB)) hZ hS52.1
  have hown : (s.setVm T52.vm).vm.findClass "com/example/issuer/issuer/blocklist/EntryKindOfListPinLaw" = some m.cls := by rw [show (s.setVm T52.vm).vm = T52.vm from rfl, hS52.1.alike.findClass]; exact hown
  have hC52 : CHr Z consts_1 vmB h51 T52.vm T52.heap := hC52
  have S_b50 := hC52.safe E_b50.lt S_b50
  have S_b51 := hC52.safe V_b51.lt S_b51
  have CR := CR.trans hC52
  have E_b50 := E_b50.keep K52
  have V_b51 := V_b51.keep K52 (ninS (ne_b51_b50) nin0)
  have OC := OC.keep K52 (allS g_b50 all0)
  have E_b50 := Ea52
  have F_coder_b50 := Fc52
  have F_value_b50 := Fv52
  have V_te := Av52
  refine Goes.thru (T' := T52.setTop (mkF m 139 (LA22 p0 p1 p2 q3 pb bs pm c0_ c1_ c2_ c3_ c4_ c5_ pk) [(.ref b50)])) st52 ?_
  refine Goes.to (T' := T52.setTop (mkF m 141 (LA17 p0 p1 p2 q3 pb bs pm c0_ c1_ c2_ c3_ c4_ c5_ pk b50) [])) (fun t k => XS.astore X52.here hx rfl (hb hby at_139) rfl rfl (l' := (LA17 p0 p1 p2 q3 pb bs pm c0_ c1_ c2_ c3_ c4_ c5_ pk b50)) rfl k) ?_
  refine Goes.to (T' := T52.setTop (mkF m 286 (LA17 p0 p1 p2 q3 pb bs pm c0_ c1_ c2_ c3_ c4_ c5_ pk b50) [])) (fun t k => XS.goto X52.here hx rfl (pc0 := 141) (pc' := 286) rfl (hb hby at_141) (by decide) (by decide) k) ?_
  have E_xs := E_b50
  have F_coder_xs := F_coder_b50
  have F_value_xs := F_value_b50
  have V_sv := V_te
  have S_xs := S_b50
  exact rm0_Tn hw p0 p1 p2 q3 vmC h0 n0 NF  p e s m below meth c s₁ Bd hml _ _ hS hZ hown own_strw hEL Qf hQf bs pb pm pk c0_ c1_ c2_ c3_ c4_ c5_ _ _ _ b50 te ke (0 : Int32) [] (Stand.mono X52 (by decide) (by decide)) rfl hk OC E_xs F_coder_xs F_value_xs V_sv CR S_xs N52 g_b50 (by decide) 
theorem rm0_k4 (hw : HW a0 Z) (p0 : Int32) (p1 : Int32) (p2 : Int32) (q3 : Int64) (vmC : Vm) (h0 : Heap) (n0 : Nat) (NF : Nar Z w6 w7 w8 w9 w3 w0 w4 w1 w5 w2 k_w6 k_w0 k_w1 k_w2 z_cs fm) (p : Program) (e : Env) (s : State) (m : MethodId) (below : List Frame) (meth : _) (c : _) (s₁ : State) (Bd : BodyLoose p l x (head1 (Jvm.Cond.code x code maxLocals ret :: ws) room_1) code maxLocals ret e s m #[(.int p0), (.int p1), (.int p2), (.long q3)] below meth c s₁) (hml : c.maxLocals = 18) (vmB : Vm) (kS : Nat) (hS : s.Since vmB kS) (hZ : Z.Warmed39 (s.setVm vmB).vm) (hown : (s.setVm vmB).vm.findClass "com/example/issuer/issuer/blocklist/EntryKindOfListPinLaw" = some m.cls) (own_strw : ∀ a ∈ Bundle.stringAtoms, a.before a0 Z = true) (hEL : EW Z a0 consts_1) (Qf : Outcome → State → Prop) (hQf : Qf = (fun (_ : Array Value) (U : State) (o : Outcome) (U' : State) => ∃ v L, o = .returned v ∧ Q_rm0  h0 n0 v U'.heap L ∧ ReturnedEndW U o U' L room_1.cells room_1.slots) #[] s) (bs : Addr) (pb : Int32) (pm : Int32) (pk : Int32) (c0_ : Int32) (c1_ : Int32) (c2_ : Int32) (c3_ : Int32) (c4_ : Int32) (c5_ : Int32) (h_c0_ : ¬ c0_ < 0 ∧ ¬ (255 : Int32) < c0_) (h_c1_ : ¬ c1_ < 0 ∧ ¬ (255 : Int32) < c1_) (h_c2_ : ¬ c2_ < 0 ∧ ¬ (255 : Int32) < c2_) (h_c3_ : ¬ c3_ < 0 ∧ ¬ (255 : Int32) < c3_) (h_c4_ : ¬ c4_ < 0 ∧ ¬ (255 : Int32) < c4_) (h_c5_ : ¬ c5_ < 0 ∧ ¬ (255 : Int32) < c5_) (TC : State) (locsC : List Loc) (hC : Heap) (XC : Stand p l e room_1 (s.setVm vmB) m #[(.int p0), (.int p1), (.int p2), (.long q3)] below meth c TC locsC 2 24) (eC : TC.heap = hC) (hk : kS ≤ hC.size) (OC : Old Z n0 hC) (CR : CHr Z consts_1 s.vm h0 vmB hC) (NC : Fr n0 locsC) : Goes p.tables e below Qf (TC.setTop (mkF m 150 (LA22 p0 p1 p2 q3 pb bs pm c0_ c1_ c2_ c3_ c4_ c5_ pk) [])) := by
  have hx := Bd.exec
  have hby := Bd.bytes
  have hnm := (name_of_methodNamed Bd.named Bd.method).1
  obtain ⟨S_w6, E_w6, S_w7, E_w7, S_w8, E_w8, S_w9, E_w9, F_listName_w7, E_w3, F_value_w3, F_listName_w8, E_w4, F_value_w4, F_listName_w9, E_w5, F_value_w5, F_coder_w3, F_coder_w4, F_coder_w5, V_w6, V_w0, V_w1, V_w2, S_cs, nz_cs, S_fm, rf⟩ := id NF
  obtain ⟨T54, h54, X54, e54, E54, A54, D54, -, st54⟩ := newO XC hx hZ hown (wi hw 39 rfl) (wi hw 3 rfl) (wi hw 2 rfl) eC (g := (mkF m 150 (LA22 p0 p1 p2 q3 pb bs pm c0_ c1_ c2_ c3_ c4_ c5_ pk) [])) rfl (hb hby at_150) (by decide) (by decide)
  obtain ⟨b54, g54⟩ : ∃ z, z = hC.size := ⟨_, rfl⟩
  rw [← g54] at A54 D54 st54
  have g_b54 : n0 ≤ b54 := Nat.le_trans (own_old OC) (Nat.le_of_eq g54.symm)
  have S_b54 : Safe Z consts_1 vmB hC b54 := Safe.new (Nat.le_of_eq g54.symm)
  have S_b54 := Safe.ext E54 CR.1 S_b54
  have CR := CR.trans (CHr.ext E54 CR.1)
  have OC := OC.ext E54
  have hk := Nat.le_trans hk E54.1
  have E_b54 := A54
  have F_value_b54 : Fld Z h54 b54 "java/lang/String" "value" "[B" .null := D54 (Or.inr (wi hw 5 rfl)) (ty := (.array .byte)) (by decide)
  have F_coder_b54 : Fld Z h54 b54 "java/lang/String" "coder" "B" (.int (0 : Int32)) := D54 (Or.inr (wi hw 6 rfl)) (ty := .byte) (by decide)
  refine Goes.to (T' := T54.setTop (mkF m 153 (LA22 p0 p1 p2 q3 pb bs pm c0_ c1_ c2_ c3_ c4_ c5_ pk) [(.ref b54)])) st54 ?_
  refine Goes.to (T' := T54.setTop (mkF m 154 (LA22 p0 p1 p2 q3 pb bs pm c0_ c1_ c2_ c3_ c4_ c5_ pk) [(.ref b54), (.ref b54)])) (fun t k => XS.dup X54.here hx rfl (hb hby at_153) rfl rfl k) ?_
  refine Goes.to (T' := T54.setTop (mkF m 155 (LA22 p0 p1 p2 q3 pb bs pm c0_ c1_ c2_ c3_ c4_ c5_ pk) [(.int (4 : Int32)), (.ref b54), (.ref b54)])) (fun t k => XS.iconst X54.here hx rfl (hb hby at_154) k) ?_
  obtain ⟨T55, h55, k55, X55, e55, E55, A55, st55⟩ := newP X54 hx hZ (wi hw 40 rfl) e54 (g := (mkF m 155 (LA22 p0 p1 p2 q3 pb bs pm c0_ c1_ c2_ c3_ c4_ c5_ pk) [(.int (4 : Int32)), (.ref b54), (.ref b54)])) rfl (hb hby at_155) rfl (by decide) (cap := 4) (by decide) (by decide) (by decide) (by decide)
  obtain ⟨b55, g55⟩ : ∃ z, z = h54.size := ⟨_, rfl⟩
  rw [← g55] at A55 st55
  have g_b55 : n0 ≤ b55 := Nat.le_trans (own_old OC) (Nat.le_of_eq g55.symm)
  have ne_b54_b55 : b54 ≠ b55 := Nat.ne_of_lt (Nat.lt_of_lt_of_le E_b54.lt (Nat.le_of_eq g55.symm))
  have ne_b55_b54 := Ne.symm ne_b54_b55
  have S_b55 : Safe Z consts_1 vmB h54 b55 := Safe.new (Nat.le_of_eq g55.symm)
  have S_b54 := Safe.ext E55 CR.1 S_b54
  have S_b55 := Safe.ext E55 CR.1 S_b55
  have CR := CR.trans (CHr.ext E55 CR.1)
  have E_b54 := E_b54.ext E55
  have F_value_b54 := F_value_b54.ext E55
  have F_coder_b54 := F_coder_b54.ext E55
  have OC := OC.ext E55
  have hk := Nat.le_trans hk E55.1
  have V_b55 : Arv Z h55 b55 k55 .char (4 : Int32) [(.int (0 : Int32)), (.int (0 : Int32)), (.int (0 : Int32)), (.int (0 : Int32))] (.int (0 : Int32)) := (Arv.new A55 (by decide)).pad (pad_rep [] (.int (0 : Int32)) 4)
  refine Goes.to (T' := T55.setTop (mkF m 157 (LA22 p0 p1 p2 q3 pb bs pm c0_ c1_ c2_ c3_ c4_ c5_ pk) [(.ref b55), (.ref b54), (.ref b54)])) st55 ?_
  refine Goes.to (T' := T55.setTop (mkF m 158 (LA22 p0 p1 p2 q3 pb bs pm c0_ c1_ c2_ c3_ c4_ c5_ pk) [(.ref b55), (.ref b55), (.ref b54), (.ref b54)])) (fun t k => XS.dup X55.here hx rfl (hb hby at_157) rfl rfl k) ?_
  refine Goes.to (T' := T55.setTop (mkF m 159 (LA22 p0 p1 p2 q3 pb bs pm c0_ c1_ c2_ c3_ c4_ c5_ pk) [(.int (0 : Int32)), (.ref b55), (.ref b55), (.ref b54), (.ref b54)])) (fun t k => XS.iconst X55.here hx rfl (hb hby at_158) k) ?_
  refine Goes.to (T' := T55.setTop (mkF m 161 (LA22 p0 p1 p2 q3 pb bs pm c0_ c1_ c2_ c3_ c4_ c5_ pk) [(.int c0_), (.int (0 : Int32)), (.ref b55), (.ref b55), (.ref b54), (.ref b54)])) (fun t k => XS.iload X55.here hx rfl (hb hby at_159) rfl k) ?_
  obtain ⟨cl56, Ar56, q56, S56, Ng56, H56, G56⟩ := V_b55
  have hin56 : ¬ ((0 : Int32) < 0 ∨ cl56.slots.size ≤ ((0 : Int32)).toNatClampNeg) := inb_of S56 ⟨by decide, by decide⟩
  obtain ⟨T57, h57, X57, e57, W57, st57⟩ := stC X55 hx hZ e55 Ar56 (j := (0 : Int32)) hin56 (g := (mkF m 161 (LA22 p0 p1 p2 q3 pb bs pm c0_ c1_ c2_ c3_ c4_ c5_ pk) [(.int c0_), (.int (0 : Int32)), (.ref b55), (.ref b55), (.ref b54), (.ref b54)])) rfl rfl (hb hby at_161)
  have V_b55 : Arv Z h57 b55 k55 .char (4 : Int32) [(.int (nar .char c0_)), (.int (0 : Int32)), (.int (0 : Int32)), (.int (0 : Int32))] (.int (0 : Int32)) := Arv.set Ar56 q56 S56 Ng56 H56 G56 (fits_nar_char _) W57 0 rfl (Nat.le_of_ble_eq_true rfl)
  have CRn := CR.trans (CHr.wr W57 S_b55 CR.1)
  have S_b54 := Safe.wr W57 S_b55 CR.1 S_b54
  have S_b55 := Safe.wr W57 S_b55 CR.1 S_b55
  have CR := CRn
  have E_b54 := E_b54.wr W57
  have F_value_b54 := F_value_b54.other W57 (Or.inl (ne_b54_b55))
  have F_coder_b54 := F_coder_b54.other W57 (Or.inl (ne_b54_b55))
  have OC := OC.wr W57 g_b55
  have hk := Nat.le_trans hk (Keep.of_wr W57).1
  have N57 := Fr.snoc X57 NC g_b55
  refine Goes.to (T' := T57.setTop (mkF m 162 (LA22 p0 p1 p2 q3 pb bs pm c0_ c1_ c2_ c3_ c4_ c5_ pk) [(.ref b55), (.ref b54), (.ref b54)])) st57 ?_
  refine Goes.to (T' := T57.setTop (mkF m 163 (LA22 p0 p1 p2 q3 pb bs pm c0_ c1_ c2_ c3_ c4_ c5_ pk) [(.ref b55), (.ref b55), (.ref b54), (.ref b54)])) (fun t k => XS.dup X57.here hx rfl (hb hby at_162) rfl rfl k) ?_
  refine Goes.to (T' := T57.setTop (mkF m 164 (LA22 p0 p1 p2 q3 pb bs pm c0_ c1_ c2_ c3_ c4_ c5_ pk) [(.int (1 : Int32)), (.ref b55), (.ref b55), (.ref b54), (.ref b54)])) (fun t k => XS.iconst X57.here hx rfl (hb hby at_163) k) ?_
  refine Goes.to (T' := T57.setTop (mkF m 166 (LA22 p0 p1 p2 q3 pb bs pm c0_ c1_ c2_ c3_ c4_ c5_ pk) [(.int c1_), (.int (1 : Int32)), (.ref b55), (.ref b55), (.ref b54), (.ref b54)])) (fun t k => XS.iload X57.here hx rfl (hb hby at_164) rfl k) ?_
  obtain ⟨cl58, Ar58, q58, S58, Ng58, H58, G58⟩ := V_b55
  have hin58 : ¬ ((1 : Int32) < 0 ∨ cl58.slots.size ≤ ((1 : Int32)).toNatClampNeg) := inb_of S58 ⟨by decide, by decide⟩
  obtain ⟨T59, h59, X59, e59, W59, st59⟩ := stC X57 hx hZ e57 Ar58 (j := (1 : Int32)) hin58 (g := (mkF m 166 (LA22 p0 p1 p2 q3 pb bs pm c0_ c1_ c2_ c3_ c4_ c5_ pk) [(.int c1_), (.int (1 : Int32)), (.ref b55), (.ref b55), (.ref b54), (.ref b54)])) rfl rfl (hb hby at_166)
  have V_b55 : Arv Z h59 b55 k55 .char (4 : Int32) [(.int (nar .char c0_)), (.int (nar .char c1_)), (.int (0 : Int32)), (.int (0 : Int32))] (.int (0 : Int32)) := Arv.set Ar58 q58 S58 Ng58 H58 G58 (fits_nar_char _) W59 1 rfl (Nat.le_of_ble_eq_true rfl)
  have CRn := CR.trans (CHr.wr W59 S_b55 CR.1)
  have S_b54 := Safe.wr W59 S_b55 CR.1 S_b54
  have S_b55 := Safe.wr W59 S_b55 CR.1 S_b55
  have CR := CRn
  have E_b54 := E_b54.wr W59
  have F_value_b54 := F_value_b54.other W59 (Or.inl (ne_b54_b55))
  have F_coder_b54 := F_coder_b54.other W59 (Or.inl (ne_b54_b55))
  have OC := OC.wr W59 g_b55
  have hk := Nat.le_trans hk (Keep.of_wr W59).1
  have N59 := Fr.snoc X59 N57 g_b55
  refine Goes.to (T' := T59.setTop (mkF m 167 (LA22 p0 p1 p2 q3 pb bs pm c0_ c1_ c2_ c3_ c4_ c5_ pk) [(.ref b55), (.ref b54), (.ref b54)])) st59 ?_
  refine Goes.to (T' := T59.setTop (mkF m 168 (LA22 p0 p1 p2 q3 pb bs pm c0_ c1_ c2_ c3_ c4_ c5_ pk) [(.ref b55), (.ref b55), (.ref b54), (.ref b54)])) (fun t k => XS.dup X59.here hx rfl (hb hby at_167) rfl rfl k) ?_
  refine Goes.to (T' := T59.setTop (mkF m 169 (LA22 p0 p1 p2 q3 pb bs pm c0_ c1_ c2_ c3_ c4_ c5_ pk) [(.int (2 : Int32)), (.ref b55), (.ref b55), (.ref b54), (.ref b54)])) (fun t k => XS.iconst X59.here hx rfl (hb hby at_168) k) ?_
  refine Goes.to (T' := T59.setTop (mkF m 171 (LA22 p0 p1 p2 q3 pb bs pm c0_ c1_ c2_ c3_ c4_ c5_ pk) [(.int c2_), (.int (2 : Int32)), (.ref b55), (.ref b55), (.ref b54), (.ref b54)])) (fun t k => XS.iload X59.here hx rfl (hb hby at_169) rfl k) ?_
  obtain ⟨cl60, Ar60, q60, S60, Ng60, H60, G60⟩ := V_b55
  have hin60 : ¬ ((2 : Int32) < 0 ∨ cl60.slots.size ≤ ((2 : Int32)).toNatClampNeg) := inb_of S60 ⟨by decide, by decide⟩
  obtain ⟨T61, h61, X61, e61, W61, st61⟩ := stC X59 hx hZ e59 Ar60 (j := (2 : Int32)) hin60 (g := (mkF m 171 (LA22 p0 p1 p2 q3 pb bs pm c0_ c1_ c2_ c3_ c4_ c5_ pk) [(.int c2_), (.int (2 : Int32)), (.ref b55), (.ref b55), (.ref b54), (.ref b54)])) rfl rfl (hb hby at_171)
  have V_b55 : Arv Z h61 b55 k55 .char (4 : Int32) [(.int (nar .char c0_)), (.int (nar .char c1_)), (.int (nar .char c2_)), (.int (0 : Int32))] (.int (0 : Int32)) := Arv.set Ar60 q60 S60 Ng60 H60 G60 (fits_nar_char _) W61 2 rfl (Nat.le_of_ble_eq_true rfl)
  have CRn := CR.trans (CHr.wr W61 S_b55 CR.1)
  have S_b54 := Safe.wr W61 S_b55 CR.1 S_b54
  have S_b55 := Safe.wr W61 S_b55 CR.1 S_b55
  have CR := CRn
  have E_b54 := E_b54.wr W61
  have F_value_b54 := F_value_b54.other W61 (Or.inl (ne_b54_b55))
  have F_coder_b54 := F_coder_b54.other W61 (Or.inl (ne_b54_b55))
  have OC := OC.wr W61 g_b55
  have hk := Nat.le_trans hk (Keep.of_wr W61).1
  have N61 := Fr.snoc X61 N59 g_b55
  refine Goes.to (T' := T61.setTop (mkF m 172 (LA22 p0 p1 p2 q3 pb bs pm c0_ c1_ c2_ c3_ c4_ c5_ pk) [(.ref b55), (.ref b54), (.ref b54)])) st61 ?_
  refine Goes.to (T' := T61.setTop (mkF m 173 (LA22 p0 p1 p2 q3 pb bs pm c0_ c1_ c2_ c3_ c4_ c5_ pk) [(.ref b55), (.ref b55), (.ref b54), (.ref b54)])) (fun t k => XS.dup X61.here hx rfl (hb hby at_172) rfl rfl k) ?_
  refine Goes.to (T' := T61.setTop (mkF m 174 (LA22 p0 p1 p2 q3 pb bs pm c0_ c1_ c2_ c3_ c4_ c5_ pk) [(.int (3 : Int32)), (.ref b55), (.ref b55), (.ref b54), (.ref b54)])) (fun t k => XS.iconst X61.here hx rfl (hb hby at_173) k) ?_
  refine Goes.to (T' := T61.setTop (mkF m 176 (LA22 p0 p1 p2 q3 pb bs pm c0_ c1_ c2_ c3_ c4_ c5_ pk) [(.int c3_), (.int (3 : Int32)), (.ref b55), (.ref b55), (.ref b54), (.ref b54)])) (fun t k => XS.iload X61.here hx rfl (hb hby at_174) rfl k) ?_
  obtain ⟨cl62, Ar62, q62, S62, Ng62, H62, G62⟩ := V_b55
  have hin62 : ¬ ((3 : Int32) < 0 ∨ cl62.slots.size ≤ ((3 : Int32)).toNatClampNeg) := inb_of S62 ⟨by decide, by decide⟩
  obtain ⟨T63, h63, X63, e63, W63, st63⟩ := stC X61 hx hZ e61 Ar62 (j := (3 : Int32)) hin62 (g := (mkF m 176 (LA22 p0 p1 p2 q3 pb bs pm c0_ c1_ c2_ c3_ c4_ c5_ pk) [(.int c3_), (.int (3 : Int32)), (.ref b55), (.ref b55), (.ref b54), (.ref b54)])) rfl rfl (hb hby at_176)
  have V_b55 : Arv Z h63 b55 k55 .char (4 : Int32) [(.int (nar .char c0_)), (.int (nar .char c1_)), (.int (nar .char c2_)), (.int (nar .char c3_))] (.int (0 : Int32)) := Arv.set Ar62 q62 S62 Ng62 H62 G62 (fits_nar_char _) W63 3 rfl (Nat.le_of_ble_eq_true rfl)
  have CRn := CR.trans (CHr.wr W63 S_b55 CR.1)
  have S_b54 := Safe.wr W63 S_b55 CR.1 S_b54
  have S_b55 := Safe.wr W63 S_b55 CR.1 S_b55
  have CR := CRn
  have E_b54 := E_b54.wr W63
  have F_value_b54 := F_value_b54.other W63 (Or.inl (ne_b54_b55))
  have F_coder_b54 := F_coder_b54.other W63 (Or.inl (ne_b54_b55))
  have OC := OC.wr W63 g_b55
  have hk := Nat.le_trans hk (Keep.of_wr W63).1
  have N63 := Fr.snoc X63 N61 g_b55
  refine Goes.to (T' := T63.setTop (mkF m 177 (LA22 p0 p1 p2 q3 pb bs pm c0_ c1_ c2_ c3_ c4_ c5_ pk) [(.ref b55), (.ref b54), (.ref b54)])) st63 ?_
  rw [own_narc h_c0_] at V_b55
  rw [own_narc h_c1_] at V_b55
  rw [own_narc h_c2_] at V_b55
  rw [own_narc h_c3_] at V_b55
  have hws : ∀ d ∈ StrChars.Road.words, d.before a0 Z = true := fun d hd => hw d ((by decide +kernel : ∀ d ∈ StrChars.Road.words, d ∈ tables_1) d hd)
  have hlat : ∀ c ∈ [c0_, c1_, c2_, c3_], ¬ c < 0 ∧ ¬ (255 : Int32) < c := by
    intro c hc
    simp only [List.mem_cons, List.not_mem_nil, or_false] at hc
    rcases hc with rfl | rfl | rfl | rfl
    · exact h_c0_
    · exact h_c1_
    · exact h_c2_
    · exact h_c3_
  obtain ⟨_, _, ⟨T64, L64, k64, n64⟩, -, X64, ⟨Lc64, hQ64, l64, y64, z64⟩, st64⟩ := X63.specialBack hx (y := (⟨"java/lang/String", "<init>", "([C)V"⟩ : MethodName)) rfl hown (mvT hZ (wi hw 41 rfl)) (mvT hZ (wi hw 42 rfl)) (mvT hZ (wi hw 43 rfl)) (by decide) (StrChars.Road.backV (W := 1) hZ hws (kI := 4) (wi hw 3 rfl) (cs := [c0_, c1_, c2_, c3_]) (bs := [c0_.toInt8.toInt32, c1_.toInt8.toInt32, c2_.toInt8.toInt32, c3_.toInt8.toInt32]) (n := 4) g_b54 (own_old OC) E_b54 F_value_b54 F_coder_b54 V_b55 (S_cs.ext OC.2) nz_cs rfl rfl (by decide) (by decide) hlat rfl (by decide) (by decide)) (g := (mkF m 177 (LA22 p0 p1 p2 q3 pb bs pm c0_ c1_ c2_ c3_ c4_ c5_ pk) [(.ref b55), (.ref b54), (.ref b54)])) rfl (by rw [hml]; rfl) (Steps.refl _) (a := b54) (argsL := [(.ref b55)]) (rest := [(.ref b54)]) (lenOf pd_221 rfl) rfl (by show 2 * 0 + _ ≤ _; exact Nat.le_of_eq rfl) (hb hby at_177) (fun _ _ => ⟨rfl, e63, (by decide : 4 + 1 ≤ _), (by decide : 32 + 4 ≤ _)⟩)
  dsimp only [Pt.U, Pt.locs, Pt.cells, Pt.slots] at X64 l64 y64 z64 st64 hQ64
  subst l64 y64 z64
  obtain ⟨rfl, Nq64, K64, -, Fc64, t64, kb64, gt64, szt64, net64, Fv64, Av64⟩ := hQ64
  have N64 := Fr.app N63 Nq64
  have g_t64 : n0 ≤ t64 := gt64
  have ne_b54_t64 : b54 ≠ t64 := Nat.ne_of_lt (Nat.lt_of_lt_of_le E_b54.lt szt64)
  have ne_t64_b54 := Ne.symm ne_b54_t64
  have ne_b55_t64 : b55 ≠ t64 := Nat.ne_of_lt (Nat.lt_of_lt_of_le V_b55.lt szt64)
  have ne_t64_b55 := Ne.symm ne_b55_t64
  have S_t64 : Safe Z consts_1 vmB h63 t64 := Safe.new szt64
  have CRn := CR.trans (CHr.keep K64 (allS S_b54 all0) CR.1)
  have S_b55' := Safe.keep K64 (allS S_b54 all0) CR.1 S_b55
  have S_t64' := Safe.keep K64 (allS S_b54 all0) CR.1 S_t64
  have S_b54' := Safe.keep K64 (allS S_b54 all0) CR.1 S_b54
  have S_b54 := S_b54'
  have S_b55 := S_b55'
  have S_t64 := S_t64'
  have CR := CRn
  have E_b54 := E_b54.keep K64
  have V_b55 := V_b55.keep K64 (ninS (ne_b55_b54) nin0)
  have OC := OC.keep K64 (allS g_b54 all0)
  have hk := Nat.le_trans hk K64.1
  have F_coder_b54 := Fc64
  have F_value_b54 := Fv64
  have V_t64 : Arv Z T64.heap t64 kb64 .byte (4 : Int32) [(.int c0_.toInt8.toInt32), (.int c1_.toInt8.toInt32), (.int c2_.toInt8.toInt32), (.int c3_.toInt8.toInt32)] (.int (0 : Int32)) := Av64
  refine Goes.thru (T' := T64.setTop (mkF m 180 (LA22 p0 p1 p2 q3 pb bs pm c0_ c1_ c2_ c3_ c4_ c5_ pk) [(.ref b54)])) st64 ?_
  refine Goes.to (T' := T64.setTop (mkF m 182 (LA17 p0 p1 p2 q3 pb bs pm c0_ c1_ c2_ c3_ c4_ c5_ pk b54) [])) (fun t k => XS.astore X64.here hx rfl (hb hby at_180) rfl rfl (l' := (LA17 p0 p1 p2 q3 pb bs pm c0_ c1_ c2_ c3_ c4_ c5_ pk b54)) rfl k) ?_
  refine Goes.to (T' := T64.setTop (mkF m 286 (LA17 p0 p1 p2 q3 pb bs pm c0_ c1_ c2_ c3_ c4_ c5_ pk b54) [])) (fun t k => XS.goto X64.here hx rfl (pc0 := 182) (pc' := 286) rfl (hb hby at_182) (by decide) (by decide) k) ?_
  have E_xs := E_b54
  have F_coder_xs := F_coder_b54
  have F_value_xs := F_value_b54
  have V_sv := V_t64
  have S_xs := S_b54
  exact rm0_Tn hw p0 p1 p2 q3 vmC h0 n0 NF  p e s m below meth c s₁ Bd hml _ _ hS hZ hown own_strw hEL Qf hQf bs pb pm pk c0_ c1_ c2_ c3_ c4_ c5_ _ _ _ b54 t64 kb64 (4 : Int32) [(.int c0_.toInt8.toInt32), (.int c1_.toInt8.toInt32), (.int c2_.toInt8.toInt32), (.int c3_.toInt8.toInt32)] (Stand.mono X64 (by decide) (by decide)) rfl hk OC E_xs F_coder_xs F_value_xs V_sv CR S_xs N64 g_b54 (by decide) 
theorem rm0_k6 (hw : HW a0 Z) (p0 : Int32) (p1 : Int32) (p2 : Int32) (q3 : Int64) (vmC : Vm) (h0 : Heap) (n0 : Nat) (NF : Nar Z w6 w7 w8 w9 w3 w0 w4 w1 w5 w2 k_w6 k_w0 k_w1 k_w2 z_cs fm) (p : Program) (e : Env) (s : State) (m : MethodId) (below : List Frame) (meth : _) (c : _) (s₁ : State) (Bd : BodyLoose p l x (head1 (Jvm.Cond.code x code maxLocals ret :: ws) room_1) code maxLocals ret e s m #[(.int p0), (.int p1), (.int p2), (.long q3)] below meth c s₁) (hml : c.maxLocals = 18) (vmB : Vm) (kS : Nat) (hS : s.Since vmB kS) (hZ : Z.Warmed39 (s.setVm vmB).vm) (hown : (s.setVm vmB).vm.findClass "com/example/issuer/issuer/blocklist/EntryKindOfListPinLaw" = some m.cls) (own_strw : ∀ a ∈ Bundle.stringAtoms, a.before a0 Z = true) (hEL : EW Z a0 consts_1) (Qf : Outcome → State → Prop) (hQf : Qf = (fun (_ : Array Value) (U : State) (o : Outcome) (U' : State) => ∃ v L, o = .returned v ∧ Q_rm0  h0 n0 v U'.heap L ∧ ReturnedEndW U o U' L room_1.cells room_1.slots) #[] s) (bs : Addr) (pb : Int32) (pm : Int32) (pk : Int32) (c0_ : Int32) (c1_ : Int32) (c2_ : Int32) (c3_ : Int32) (c4_ : Int32) (c5_ : Int32) (h_c0_ : ¬ c0_ < 0 ∧ ¬ (255 : Int32) < c0_) (h_c1_ : ¬ c1_ < 0 ∧ ¬ (255 : Int32) < c1_) (h_c2_ : ¬ c2_ < 0 ∧ ¬ (255 : Int32) < c2_) (h_c3_ : ¬ c3_ < 0 ∧ ¬ (255 : Int32) < c3_) (h_c4_ : ¬ c4_ < 0 ∧ ¬ (255 : Int32) < c4_) (h_c5_ : ¬ c5_ < 0 ∧ ¬ (255 : Int32) < c5_) (TC : State) (locsC : List Loc) (hC : Heap) (XC : Stand p l e room_1 (s.setVm vmB) m #[(.int p0), (.int p1), (.int p2), (.long q3)] below meth c TC locsC 2 24) (eC : TC.heap = hC) (hk : kS ≤ hC.size) (OC : Old Z n0 hC) (CR : CHr Z consts_1 s.vm h0 vmB hC) (NC : Fr n0 locsC) : Goes p.tables e below Qf (TC.setTop (mkF m 191 (LA22 p0 p1 p2 q3 pb bs pm c0_ c1_ c2_ c3_ c4_ c5_ pk) [])) := by
  have hx := Bd.exec
  have hby := Bd.bytes
  have hnm := (name_of_methodNamed Bd.named Bd.method).1
  obtain ⟨S_w6, E_w6, S_w7, E_w7, S_w8, E_w8, S_w9, E_w9, F_listName_w7, E_w3, F_value_w3, F_listName_w8, E_w4, F_value_w4, F_listName_w9, E_w5, F_value_w5, F_coder_w3, F_coder_w4, F_coder_w5, V_w6, V_w0, V_w1, V_w2, S_cs, nz_cs, S_fm, rf⟩ := id NF
  obtain ⟨T66, h66, X66, e66, E66, A66, D66, -, st66⟩ := newO XC hx hZ hown (wi hw 39 rfl) (wi hw 3 rfl) (wi hw 2 rfl) eC (g := (mkF m 191 (LA22 p0 p1 p2 q3 pb bs pm c0_ c1_ c2_ c3_ c4_ c5_ pk) [])) rfl (hb hby at_191) (by decide) (by decide)
  obtain ⟨b66, g66⟩ : ∃ z, z = hC.size := ⟨_, rfl⟩
  rw [← g66] at A66 D66 st66
  have g_b66 : n0 ≤ b66 := Nat.le_trans (own_old OC) (Nat.le_of_eq g66.symm)
  have S_b66 : Safe Z consts_1 vmB hC b66 := Safe.new (Nat.le_of_eq g66.symm)
  have S_b66 := Safe.ext E66 CR.1 S_b66
  have CR := CR.trans (CHr.ext E66 CR.1)
  have OC := OC.ext E66
  have hk := Nat.le_trans hk E66.1
  have E_b66 := A66
  have F_value_b66 : Fld Z h66 b66 "java/lang/String" "value" "[B" .null := D66 (Or.inr (wi hw 5 rfl)) (ty := (.array .byte)) (by decide)
  have F_coder_b66 : Fld Z h66 b66 "java/lang/String" "coder" "B" (.int (0 : Int32)) := D66 (Or.inr (wi hw 6 rfl)) (ty := .byte) (by decide)
  refine Goes.to (T' := T66.setTop (mkF m 194 (LA22 p0 p1 p2 q3 pb bs pm c0_ c1_ c2_ c3_ c4_ c5_ pk) [(.ref b66)])) st66 ?_
  refine Goes.to (T' := T66.setTop (mkF m 195 (LA22 p0 p1 p2 q3 pb bs pm c0_ c1_ c2_ c3_ c4_ c5_ pk) [(.ref b66), (.ref b66)])) (fun t k => XS.dup X66.here hx rfl (hb hby at_194) rfl rfl k) ?_
  refine Goes.to (T' := T66.setTop (mkF m 197 (LA22 p0 p1 p2 q3 pb bs pm c0_ c1_ c2_ c3_ c4_ c5_ pk) [(.int (6 : Int32)), (.ref b66), (.ref b66)])) (fun t k => XS.bipush X66.here hx rfl (hb hby at_195) k) ?_
  obtain ⟨T67, h67, k67, X67, e67, E67, A67, st67⟩ := newP X66 hx hZ (wi hw 40 rfl) e66 (g := (mkF m 197 (LA22 p0 p1 p2 q3 pb bs pm c0_ c1_ c2_ c3_ c4_ c5_ pk) [(.int (6 : Int32)), (.ref b66), (.ref b66)])) rfl (hb hby at_197) rfl (by decide) (cap := 6) (by decide) (by decide) (by decide) (by decide)
  obtain ⟨b67, g67⟩ : ∃ z, z = h66.size := ⟨_, rfl⟩
  rw [← g67] at A67 st67
  have g_b67 : n0 ≤ b67 := Nat.le_trans (own_old OC) (Nat.le_of_eq g67.symm)
  have ne_b66_b67 : b66 ≠ b67 := Nat.ne_of_lt (Nat.lt_of_lt_of_le E_b66.lt (Nat.le_of_eq g67.symm))
  have ne_b67_b66 := Ne.symm ne_b66_b67
  have S_b67 : Safe Z consts_1 vmB h66 b67 := Safe.new (Nat.le_of_eq g67.symm)
  have S_b66 := Safe.ext E67 CR.1 S_b66
  have S_b67 := Safe.ext E67 CR.1 S_b67
  have CR := CR.trans (CHr.ext E67 CR.1)
  have E_b66 := E_b66.ext E67
  have F_value_b66 := F_value_b66.ext E67
  have F_coder_b66 := F_coder_b66.ext E67
  have OC := OC.ext E67
  have hk := Nat.le_trans hk E67.1
  have V_b67 : Arv Z h67 b67 k67 .char (6 : Int32) [(.int (0 : Int32)), (.int (0 : Int32)), (.int (0 : Int32)), (.int (0 : Int32)), (.int (0 : Int32)), (.int (0 : Int32))] (.int (0 : Int32)) := (Arv.new A67 (by decide)).pad (pad_rep [] (.int (0 : Int32)) 6)
  refine Goes.to (T' := T67.setTop (mkF m 199 (LA22 p0 p1 p2 q3 pb bs pm c0_ c1_ c2_ c3_ c4_ c5_ pk) [(.ref b67), (.ref b66), (.ref b66)])) st67 ?_
  refine Goes.to (T' := T67.setTop (mkF m 200 (LA22 p0 p1 p2 q3 pb bs pm c0_ c1_ c2_ c3_ c4_ c5_ pk) [(.ref b67), (.ref b67), (.ref b66), (.ref b66)])) (fun t k => XS.dup X67.here hx rfl (hb hby at_199) rfl rfl k) ?_
  refine Goes.to (T' := T67.setTop (mkF m 201 (LA22 p0 p1 p2 q3 pb bs pm c0_ c1_ c2_ c3_ c4_ c5_ pk) [(.int (0 : Int32)), (.ref b67), (.ref b67), (.ref b66), (.ref b66)])) (fun t k => XS.iconst X67.here hx rfl (hb hby at_200) k) ?_
  refine Goes.to (T' := T67.setTop (mkF m 203 (LA22 p0 p1 p2 q3 pb bs pm c0_ c1_ c2_ c3_ c4_ c5_ pk) [(.int c0_), (.int (0 : Int32)), (.ref b67), (.ref b67), (.ref b66), (.ref b66)])) (fun t k => XS.iload X67.here hx rfl (hb hby at_201) rfl k) ?_
  obtain ⟨cl68, Ar68, q68, S68, Ng68, H68, G68⟩ := V_b67
  have hin68 : ¬ ((0 : Int32) < 0 ∨ cl68.slots.size ≤ ((0 : Int32)).toNatClampNeg) := inb_of S68 ⟨by decide, by decide⟩
  obtain ⟨T69, h69, X69, e69, W69, st69⟩ := stC X67 hx hZ e67 Ar68 (j := (0 : Int32)) hin68 (g := (mkF m 203 (LA22 p0 p1 p2 q3 pb bs pm c0_ c1_ c2_ c3_ c4_ c5_ pk) [(.int c0_), (.int (0 : Int32)), (.ref b67), (.ref b67), (.ref b66), (.ref b66)])) rfl rfl (hb hby at_203)
  have V_b67 : Arv Z h69 b67 k67 .char (6 : Int32) [(.int (nar .char c0_)), (.int (0 : Int32)), (.int (0 : Int32)), (.int (0 : Int32)), (.int (0 : Int32)), (.int (0 : Int32))] (.int (0 : Int32)) := Arv.set Ar68 q68 S68 Ng68 H68 G68 (fits_nar_char _) W69 0 rfl (Nat.le_of_ble_eq_true rfl)
  have CRn := CR.trans (CHr.wr W69 S_b67 CR.1)
  have S_b66 := Safe.wr W69 S_b67 CR.1 S_b66
  have S_b67 := Safe.wr W69 S_b67 CR.1 S_b67
  have CR := CRn
  have E_b66 := E_b66.wr W69
  have F_value_b66 := F_value_b66.other W69 (Or.inl (ne_b66_b67))
  have F_coder_b66 := F_coder_b66.other W69 (Or.inl (ne_b66_b67))
  have OC := OC.wr W69 g_b67
  have hk := Nat.le_trans hk (Keep.of_wr W69).1
  have N69 := Fr.snoc X69 NC g_b67
  refine Goes.to (T' := T69.setTop (mkF m 204 (LA22 p0 p1 p2 q3 pb bs pm c0_ c1_ c2_ c3_ c4_ c5_ pk) [(.ref b67), (.ref b66), (.ref b66)])) st69 ?_
  refine Goes.to (T' := T69.setTop (mkF m 205 (LA22 p0 p1 p2 q3 pb bs pm c0_ c1_ c2_ c3_ c4_ c5_ pk) [(.ref b67), (.ref b67), (.ref b66), (.ref b66)])) (fun t k => XS.dup X69.here hx rfl (hb hby at_204) rfl rfl k) ?_
  refine Goes.to (T' := T69.setTop (mkF m 206 (LA22 p0 p1 p2 q3 pb bs pm c0_ c1_ c2_ c3_ c4_ c5_ pk) [(.int (1 : Int32)), (.ref b67), (.ref b67), (.ref b66), (.ref b66)])) (fun t k => XS.iconst X69.here hx rfl (hb hby at_205) k) ?_
  refine Goes.to (T' := T69.setTop (mkF m 208 (LA22 p0 p1 p2 q3 pb bs pm c0_ c1_ c2_ c3_ c4_ c5_ pk) [(.int c1_), (.int (1 : Int32)), (.ref b67), (.ref b67), (.ref b66), (.ref b66)])) (fun t k => XS.iload X69.here hx rfl (hb hby at_206) rfl k) ?_
  obtain ⟨cl70, Ar70, q70, S70, Ng70, H70, G70⟩ := V_b67
  have hin70 : ¬ ((1 : Int32) < 0 ∨ cl70.slots.size ≤ ((1 : Int32)).toNatClampNeg) := inb_of S70 ⟨by decide, by decide⟩
  obtain ⟨T71, h71, X71, e71, W71, st71⟩ := stC X69 hx hZ e69 Ar70 (j := (1 : Int32)) hin70 (g := (mkF m 208 (LA22 p0 p1 p2 q3 pb bs pm c0_ c1_ c2_ c3_ c4_ c5_ pk) [(.int c1_), (.int (1 : Int32)), (.ref b67), (.ref b67), (.ref b66), (.ref b66)])) rfl rfl (hb hby at_208)
  have V_b67 : Arv Z h71 b67 k67 .char (6 : Int32) [(.int (nar .char c0_)), (.int (nar .char c1_)), (.int (0 : Int32)), (.int (0 : Int32)), (.int (0 : Int32)), (.int (0 : Int32))] (.int (0 : Int32)) := Arv.set Ar70 q70 S70 Ng70 H70 G70 (fits_nar_char _) W71 1 rfl (Nat.le_of_ble_eq_true rfl)
  have CRn := CR.trans (CHr.wr W71 S_b67 CR.1)
  have S_b66 := Safe.wr W71 S_b67 CR.1 S_b66
  have S_b67 := Safe.wr W71 S_b67 CR.1 S_b67
  have CR := CRn
  have E_b66 := E_b66.wr W71
  have F_value_b66 := F_value_b66.other W71 (Or.inl (ne_b66_b67))
  have F_coder_b66 := F_coder_b66.other W71 (Or.inl (ne_b66_b67))
  have OC := OC.wr W71 g_b67
  have hk := Nat.le_trans hk (Keep.of_wr W71).1
  have N71 := Fr.snoc X71 N69 g_b67
  refine Goes.to (T' := T71.setTop (mkF m 209 (LA22 p0 p1 p2 q3 pb bs pm c0_ c1_ c2_ c3_ c4_ c5_ pk) [(.ref b67), (.ref b66), (.ref b66)])) st71 ?_
  refine Goes.to (T' := T71.setTop (mkF m 210 (LA22 p0 p1 p2 q3 pb bs pm c0_ c1_ c2_ c3_ c4_ c5_ pk) [(.ref b67), (.ref b67), (.ref b66), (.ref b66)])) (fun t k => XS.dup X71.here hx rfl (hb hby at_209) rfl rfl k) ?_
  refine Goes.to (T' := T71.setTop (mkF m 211 (LA22 p0 p1 p2 q3 pb bs pm c0_ c1_ c2_ c3_ c4_ c5_ pk) [(.int (2 : Int32)), (.ref b67), (.ref b67), (.ref b66), (.ref b66)])) (fun t k => XS.iconst X71.here hx rfl (hb hby at_210) k) ?_
  refine Goes.to (T' := T71.setTop (mkF m 213 (LA22 p0 p1 p2 q3 pb bs pm c0_ c1_ c2_ c3_ c4_ c5_ pk) [(.int c2_), (.int (2 : Int32)), (.ref b67), (.ref b67), (.ref b66), (.ref b66)])) (fun t k => XS.iload X71.here hx rfl (hb hby at_211) rfl k) ?_
  obtain ⟨cl72, Ar72, q72, S72, Ng72, H72, G72⟩ := V_b67
  have hin72 : ¬ ((2 : Int32) < 0 ∨ cl72.slots.size ≤ ((2 : Int32)).toNatClampNeg) := inb_of S72 ⟨by decide, by decide⟩
  obtain ⟨T73, h73, X73, e73, W73, st73⟩ := stC X71 hx hZ e71 Ar72 (j := (2 : Int32)) hin72 (g := (mkF m 213 (LA22 p0 p1 p2 q3 pb bs pm c0_ c1_ c2_ c3_ c4_ c5_ pk) [(.int c2_), (.int (2 : Int32)), (.ref b67), (.ref b67), (.ref b66), (.ref b66)])) rfl rfl (hb hby at_213)
  have V_b67 : Arv Z h73 b67 k67 .char (6 : Int32) [(.int (nar .char c0_)), (.int (nar .char c1_)), (.int (nar .char c2_)), (.int (0 : Int32)), (.int (0 : Int32)), (.int (0 : Int32))] (.int (0 : Int32)) := Arv.set Ar72 q72 S72 Ng72 H72 G72 (fits_nar_char _) W73 2 rfl (Nat.le_of_ble_eq_true rfl)
  have CRn := CR.trans (CHr.wr W73 S_b67 CR.1)
  have S_b66 := Safe.wr W73 S_b67 CR.1 S_b66
  have S_b67 := Safe.wr W73 S_b67 CR.1 S_b67
  have CR := CRn
  have E_b66 := E_b66.wr W73
  have F_value_b66 := F_value_b66.other W73 (Or.inl (ne_b66_b67))
  have F_coder_b66 := F_coder_b66.other W73 (Or.inl (ne_b66_b67))
  have OC := OC.wr W73 g_b67
  have hk := Nat.le_trans hk (Keep.of_wr W73).1
  have N73 := Fr.snoc X73 N71 g_b67
  refine Goes.to (T' := T73.setTop (mkF m 214 (LA22 p0 p1 p2 q3 pb bs pm c0_ c1_ c2_ c3_ c4_ c5_ pk) [(.ref b67), (.ref b66), (.ref b66)])) st73 ?_
  refine Goes.to (T' := T73.setTop (mkF m 215 (LA22 p0 p1 p2 q3 pb bs pm c0_ c1_ c2_ c3_ c4_ c5_ pk) [(.ref b67), (.ref b67), (.ref b66), (.ref b66)])) (fun t k => XS.dup X73.here hx rfl (hb hby at_214) rfl rfl k) ?_
  refine Goes.to (T' := T73.setTop (mkF m 216 (LA22 p0 p1 p2 q3 pb bs pm c0_ c1_ c2_ c3_ c4_ c5_ pk) [(.int (3 : Int32)), (.ref b67), (.ref b67), (.ref b66), (.ref b66)])) (fun t k => XS.iconst X73.here hx rfl (hb hby at_215) k) ?_
  refine Goes.to (T' := T73.setTop (mkF m 218 (LA22 p0 p1 p2 q3 pb bs pm c0_ c1_ c2_ c3_ c4_ c5_ pk) [(.int c3_), (.int (3 : Int32)), (.ref b67), (.ref b67), (.ref b66), (.ref b66)])) (fun t k => XS.iload X73.here hx rfl (hb hby at_216) rfl k) ?_
  obtain ⟨cl74, Ar74, q74, S74, Ng74, H74, G74⟩ := V_b67
  have hin74 : ¬ ((3 : Int32) < 0 ∨ cl74.slots.size ≤ ((3 : Int32)).toNatClampNeg) := inb_of S74 ⟨by decide, by decide⟩
  obtain ⟨T75, h75, X75, e75, W75, st75⟩ := stC X73 hx hZ e73 Ar74 (j := (3 : Int32)) hin74 (g := (mkF m 218 (LA22 p0 p1 p2 q3 pb bs pm c0_ c1_ c2_ c3_ c4_ c5_ pk) [(.int c3_), (.int (3 : Int32)), (.ref b67), (.ref b67), (.ref b66), (.ref b66)])) rfl rfl (hb hby at_218)
  have V_b67 : Arv Z h75 b67 k67 .char (6 : Int32) [(.int (nar .char c0_)), (.int (nar .char c1_)), (.int (nar .char c2_)), (.int (nar .char c3_)), (.int (0 : Int32)), (.int (0 : Int32))] (.int (0 : Int32)) := Arv.set Ar74 q74 S74 Ng74 H74 G74 (fits_nar_char _) W75 3 rfl (Nat.le_of_ble_eq_true rfl)
  have CRn := CR.trans (CHr.wr W75 S_b67 CR.1)
  have S_b66 := Safe.wr W75 S_b67 CR.1 S_b66
  have S_b67 := Safe.wr W75 S_b67 CR.1 S_b67
  have CR := CRn
  have E_b66 := E_b66.wr W75
  have F_value_b66 := F_value_b66.other W75 (Or.inl (ne_b66_b67))
  have F_coder_b66 := F_coder_b66.other W75 (Or.inl (ne_b66_b67))
  have OC := OC.wr W75 g_b67
  have hk := Nat.le_trans hk (Keep.of_wr W75).1
  have N75 := Fr.snoc X75 N73 g_b67
  refine Goes.to (T' := T75.setTop (mkF m 219 (LA22 p0 p1 p2 q3 pb bs pm c0_ c1_ c2_ c3_ c4_ c5_ pk) [(.ref b67), (.ref b66), (.ref b66)])) st75 ?_
  refine Goes.to (T' := T75.setTop (mkF m 220 (LA22 p0 p1 p2 q3 pb bs pm c0_ c1_ c2_ c3_ c4_ c5_ pk) [(.ref b67), (.ref b67), (.ref b66), (.ref b66)])) (fun t k => XS.dup X75.here hx rfl (hb hby at_219) rfl rfl k) ?_
  refine Goes.to (T' := T75.setTop (mkF m 221 (LA22 p0 p1 p2 q3 pb bs pm c0_ c1_ c2_ c3_ c4_ c5_ pk) [(.int (4 : Int32)), (.ref b67), (.ref b67), (.ref b66), (.ref b66)])) (fun t k => XS.iconst X75.here hx rfl (hb hby at_220) k) ?_
  refine Goes.to (T' := T75.setTop (mkF m 223 (LA22 p0 p1 p2 q3 pb bs pm c0_ c1_ c2_ c3_ c4_ c5_ pk) [(.int c4_), (.int (4 : Int32)), (.ref b67), (.ref b67), (.ref b66), (.ref b66)])) (fun t k => XS.iload X75.here hx rfl (hb hby at_221) rfl k) ?_
  obtain ⟨cl76, Ar76, q76, S76, Ng76, H76, G76⟩ := V_b67
  have hin76 : ¬ ((4 : Int32) < 0 ∨ cl76.slots.size ≤ ((4 : Int32)).toNatClampNeg) := inb_of S76 ⟨by decide, by decide⟩
  obtain ⟨T77, h77, X77, e77, W77, st77⟩ := stC X75 hx hZ e75 Ar76 (j := (4 : Int32)) hin76 (g := (mkF m 223 (LA22 p0 p1 p2 q3 pb bs pm c0_ c1_ c2_ c3_ c4_ c5_ pk) [(.int c4_), (.int (4 : Int32)), (.ref b67), (.ref b67), (.ref b66), (.ref b66)])) rfl rfl (hb hby at_223)
  have V_b67 : Arv Z h77 b67 k67 .char (6 : Int32) [(.int (nar .char c0_)), (.int (nar .char c1_)), (.int (nar .char c2_)), (.int (nar .char c3_)), (.int (nar .char c4_)), (.int (0 : Int32))] (.int (0 : Int32)) := Arv.set Ar76 q76 S76 Ng76 H76 G76 (fits_nar_char _) W77 4 rfl (Nat.le_of_ble_eq_true rfl)
  have CRn := CR.trans (CHr.wr W77 S_b67 CR.1)
  have S_b66 := Safe.wr W77 S_b67 CR.1 S_b66
  have S_b67 := Safe.wr W77 S_b67 CR.1 S_b67
  have CR := CRn
  have E_b66 := E_b66.wr W77
  have F_value_b66 := F_value_b66.other W77 (Or.inl (ne_b66_b67))
  have F_coder_b66 := F_coder_b66.other W77 (Or.inl (ne_b66_b67))
  have OC := OC.wr W77 g_b67
  have hk := Nat.le_trans hk (Keep.of_wr W77).1
  have N77 := Fr.snoc X77 N75 g_b67
  refine Goes.to (T' := T77.setTop (mkF m 224 (LA22 p0 p1 p2 q3 pb bs pm c0_ c1_ c2_ c3_ c4_ c5_ pk) [(.ref b67), (.ref b66), (.ref b66)])) st77 ?_
  refine Goes.to (T' := T77.setTop (mkF m 225 (LA22 p0 p1 p2 q3 pb bs pm c0_ c1_ c2_ c3_ c4_ c5_ pk) [(.ref b67), (.ref b67), (.ref b66), (.ref b66)])) (fun t k => XS.dup X77.here hx rfl (hb hby at_224) rfl rfl k) ?_
  refine Goes.to (T' := T77.setTop (mkF m 226 (LA22 p0 p1 p2 q3 pb bs pm c0_ c1_ c2_ c3_ c4_ c5_ pk) [(.int (5 : Int32)), (.ref b67), (.ref b67), (.ref b66), (.ref b66)])) (fun t k => XS.iconst X77.here hx rfl (hb hby at_225) k) ?_
  refine Goes.to (T' := T77.setTop (mkF m 228 (LA22 p0 p1 p2 q3 pb bs pm c0_ c1_ c2_ c3_ c4_ c5_ pk) [(.int c5_), (.int (5 : Int32)), (.ref b67), (.ref b67), (.ref b66), (.ref b66)])) (fun t k => XS.iload X77.here hx rfl (hb hby at_226) rfl k) ?_
  obtain ⟨cl78, Ar78, q78, S78, Ng78, H78, G78⟩ := V_b67
  have hin78 : ¬ ((5 : Int32) < 0 ∨ cl78.slots.size ≤ ((5 : Int32)).toNatClampNeg) := inb_of S78 ⟨by decide, by decide⟩
  obtain ⟨T79, h79, X79, e79, W79, st79⟩ := stC X77 hx hZ e77 Ar78 (j := (5 : Int32)) hin78 (g := (mkF m 228 (LA22 p0 p1 p2 q3 pb bs pm c0_ c1_ c2_ c3_ c4_ c5_ pk) [(.int c5_), (.int (5 : Int32)), (.ref b67), (.ref b67), (.ref b66), (.ref b66)])) rfl rfl (hb hby at_228)
  have V_b67 : Arv Z h79 b67 k67 .char (6 : Int32) [(.int (nar .char c0_)), (.int (nar .char c1_)), (.int (nar .char c2_)), (.int (nar .char c3_)), (.int (nar .char c4_)), (.int (nar .char c5_))] (.int (0 : Int32)) := Arv.set Ar78 q78 S78 Ng78 H78 G78 (fits_nar_char _) W79 5 rfl (Nat.le_of_ble_eq_true rfl)
  have CRn := CR.trans (CHr.wr W79 S_b67 CR.1)
  have S_b66 := Safe.wr W79 S_b67 CR.1 S_b66
  have S_b67 := Safe.wr W79 S_b67 CR.1 S_b67
  have CR := CRn
  have E_b66 := E_b66.wr W79
  have F_value_b66 := F_value_b66.other W79 (Or.inl (ne_b66_b67))
  have F_coder_b66 := F_coder_b66.other W79 (Or.inl (ne_b66_b67))
  have OC := OC.wr W79 g_b67
  have hk := Nat.le_trans hk (Keep.of_wr W79).1
  have N79 := Fr.snoc X79 N77 g_b67
  refine Goes.to (T' := T79.setTop (mkF m 229 (LA22 p0 p1 p2 q3 pb bs pm c0_ c1_ c2_ c3_ c4_ c5_ pk) [(.ref b67), (.ref b66), (.ref b66)])) st79 ?_
  rw [own_narc h_c0_] at V_b67
  rw [own_narc h_c1_] at V_b67
  rw [own_narc h_c2_] at V_b67
  rw [own_narc h_c3_] at V_b67
  rw [own_narc h_c4_] at V_b67
  rw [own_narc h_c5_] at V_b67
  have hws : ∀ d ∈ StrChars.Road.words, d.before a0 Z = true := fun d hd => hw d ((by decide +kernel : ∀ d ∈ StrChars.Road.words, d ∈ tables_1) d hd)
  have hlat : ∀ c ∈ [c0_, c1_, c2_, c3_, c4_, c5_], ¬ c < 0 ∧ ¬ (255 : Int32) < c := by
    intro c hc
    simp only [List.mem_cons, List.not_mem_nil, or_false] at hc
    rcases hc with rfl | rfl | rfl | rfl | rfl | rfl
    · exact h_c0_
    · exact h_c1_
    · exact h_c2_
    · exact h_c3_
    · exact h_c4_
    · exact h_c5_
  obtain ⟨_, _, ⟨T80, L80, k80, n80⟩, -, X80, ⟨Lc80, hQ80, l80, y80, z80⟩, st80⟩ := X79.specialBack hx (y := (⟨"java/lang/String", "<init>", "([C)V"⟩ : MethodName)) rfl hown (mvT hZ (wi hw 41 rfl)) (mvT hZ (wi hw 42 rfl)) (mvT hZ (wi hw 43 rfl)) (by decide) (StrChars.Road.backV (W := 1) hZ hws (kI := 4) (wi hw 3 rfl) (cs := [c0_, c1_, c2_, c3_, c4_, c5_]) (bs := [c0_.toInt8.toInt32, c1_.toInt8.toInt32, c2_.toInt8.toInt32, c3_.toInt8.toInt32, c4_.toInt8.toInt32, c5_.toInt8.toInt32]) (n := 6) g_b66 (own_old OC) E_b66 F_value_b66 F_coder_b66 V_b67 (S_cs.ext OC.2) nz_cs rfl rfl (by decide) (by decide) hlat rfl (by decide) (by decide)) (g := (mkF m 229 (LA22 p0 p1 p2 q3 pb bs pm c0_ c1_ c2_ c3_ c4_ c5_ pk) [(.ref b67), (.ref b66), (.ref b66)])) rfl (by rw [hml]; rfl) (Steps.refl _) (a := b66) (argsL := [(.ref b67)]) (rest := [(.ref b66)]) (lenOf pd_221 rfl) rfl (by show 2 * 0 + _ ≤ _; exact Nat.le_of_eq rfl) (hb hby at_229) (fun _ _ => ⟨rfl, e79, (by decide : 4 + 1 ≤ _), (by decide : 34 + 6 ≤ _)⟩)
  dsimp only [Pt.U, Pt.locs, Pt.cells, Pt.slots] at X80 l80 y80 z80 st80 hQ80
  subst l80 y80 z80
  obtain ⟨rfl, Nq80, K80, -, Fc80, t80, kb80, gt80, szt80, net80, Fv80, Av80⟩ := hQ80
  have N80 := Fr.app N79 Nq80
  have g_t80 : n0 ≤ t80 := gt80
  have ne_b66_t80 : b66 ≠ t80 := Nat.ne_of_lt (Nat.lt_of_lt_of_le E_b66.lt szt80)
  have ne_t80_b66 := Ne.symm ne_b66_t80
  have ne_b67_t80 : b67 ≠ t80 := Nat.ne_of_lt (Nat.lt_of_lt_of_le V_b67.lt szt80)
  have ne_t80_b67 := Ne.symm ne_b67_t80
  have S_t80 : Safe Z consts_1 vmB h79 t80 := Safe.new szt80
  have CRn := CR.trans (CHr.keep K80 (allS S_b66 all0) CR.1)
  have S_b67' := Safe.keep K80 (allS S_b66 all0) CR.1 S_b67
  have S_t80' := Safe.keep K80 (allS S_b66 all0) CR.1 S_t80
  have S_b66' := Safe.keep K80 (allS S_b66 all0) CR.1 S_b66
  have S_b66 := S_b66'
  have S_b67 := S_b67'
  have S_t80 := S_t80'
  have CR := CRn
  have E_b66 := E_b66.keep K80
  have V_b67 := V_b67.keep K80 (ninS (ne_b67_b66) nin0)
  have OC := OC.keep K80 (allS g_b66 all0)
  have hk := Nat.le_trans hk K80.1
  have F_coder_b66 := Fc80
  have F_value_b66 := Fv80
  have V_t80 : Arv Z T80.heap t80 kb80 .byte (6 : Int32) [(.int c0_.toInt8.toInt32), (.int c1_.toInt8.toInt32), (.int c2_.toInt8.toInt32), (.int c3_.toInt8.toInt32), (.int c4_.toInt8.toInt32), (.int c5_.toInt8.toInt32)] (.int (0 : Int32)) := Av80
  refine Goes.thru (T' := T80.setTop (mkF m 232 (LA22 p0 p1 p2 q3 pb bs pm c0_ c1_ c2_ c3_ c4_ c5_ pk) [(.ref b66)])) st80 ?_
  refine Goes.to (T' := T80.setTop (mkF m 234 (LA17 p0 p1 p2 q3 pb bs pm c0_ c1_ c2_ c3_ c4_ c5_ pk b66) [])) (fun t k => XS.astore X80.here hx rfl (hb hby at_232) rfl rfl (l' := (LA17 p0 p1 p2 q3 pb bs pm c0_ c1_ c2_ c3_ c4_ c5_ pk b66)) rfl k) ?_
  refine Goes.to (T' := T80.setTop (mkF m 286 (LA17 p0 p1 p2 q3 pb bs pm c0_ c1_ c2_ c3_ c4_ c5_ pk b66) [])) (fun t k => XS.goto X80.here hx rfl (pc0 := 234) (pc' := 286) rfl (hb hby at_234) (by decide) (by decide) k) ?_
  have E_xs := E_b66
  have F_coder_xs := F_coder_b66
  have F_value_xs := F_value_b66
  have V_sv := V_t80
  have S_xs := S_b66
  exact rm0_Tn hw p0 p1 p2 q3 vmC h0 n0 NF  p e s m below meth c s₁ Bd hml _ _ hS hZ hown own_strw hEL Qf hQf bs pb pm pk c0_ c1_ c2_ c3_ c4_ c5_ _ _ _ b66 t80 kb80 (6 : Int32) [(.int c0_.toInt8.toInt32), (.int c1_.toInt8.toInt32), (.int c2_.toInt8.toInt32), (.int c3_.toInt8.toInt32), (.int c4_.toInt8.toInt32), (.int c5_.toInt8.toInt32)] (Stand.mono X80 (by decide) (by decide)) rfl hk OC E_xs F_coder_xs F_value_xs V_sv CR S_xs N80 g_b66 (by decide) 
theorem rm0_k5 (hw : HW a0 Z) (p0 : Int32) (p1 : Int32) (p2 : Int32) (q3 : Int64) (vmC : Vm) (h0 : Heap) (n0 : Nat) (NF : Nar Z w6 w7 w8 w9 w3 w0 w4 w1 w5 w2 k_w6 k_w0 k_w1 k_w2 z_cs fm) (p : Program) (e : Env) (s : State) (m : MethodId) (below : List Frame) (meth : _) (c : _) (s₁ : State) (Bd : BodyLoose p l x (head1 (Jvm.Cond.code x code maxLocals ret :: ws) room_1) code maxLocals ret e s m #[(.int p0), (.int p1), (.int p2), (.long q3)] below meth c s₁) (hml : c.maxLocals = 18) (vmB : Vm) (kS : Nat) (hS : s.Since vmB kS) (hZ : Z.Warmed39 (s.setVm vmB).vm) (hown : (s.setVm vmB).vm.findClass "com/example/issuer/issuer/blocklist/EntryKindOfListPinLaw" = some m.cls) (own_strw : ∀ a ∈ Bundle.stringAtoms, a.before a0 Z = true) (hEL : EW Z a0 consts_1) (Qf : Outcome → State → Prop) (hQf : Qf = (fun (_ : Array Value) (U : State) (o : Outcome) (U' : State) => ∃ v L, o = .returned v ∧ Q_rm0  h0 n0 v U'.heap L ∧ ReturnedEndW U o U' L room_1.cells room_1.slots) #[] s) (bs : Addr) (pb : Int32) (pm : Int32) (pk : Int32) (c0_ : Int32) (c1_ : Int32) (c2_ : Int32) (c3_ : Int32) (c4_ : Int32) (c5_ : Int32) (h_c0_ : ¬ c0_ < 0 ∧ ¬ (255 : Int32) < c0_) (h_c1_ : ¬ c1_ < 0 ∧ ¬ (255 : Int32) < c1_) (h_c2_ : ¬ c2_ < 0 ∧ ¬ (255 : Int32) < c2_) (h_c3_ : ¬ c3_ < 0 ∧ ¬ (255 : Int32) < c3_) (h_c4_ : ¬ c4_ < 0 ∧ ¬ (255 : Int32) < c4_) (h_c5_ : ¬ c5_ < 0 ∧ ¬ (255 : Int32) < c5_) (TC : State) (locsC : List Loc) (hC : Heap) (XC : Stand p l e room_1 (s.setVm vmB) m #[(.int p0), (.int p1), (.int p2), (.long q3)] below meth c TC locsC 2 24) (eC : TC.heap = hC) (hk : kS ≤ hC.size) (OC : Old Z n0 hC) (CR : CHr Z consts_1 s.vm h0 vmB hC) (NC : Fr n0 locsC) : Goes p.tables e below Qf (TC.setTop (mkF m 249 (LA22 p0 p1 p2 q3 pb bs pm c0_ c1_ c2_ c3_ c4_ c5_ pk) [])) := by
  have hx := Bd.exec
  have hby := Bd.bytes
  have hnm := (name_of_methodNamed Bd.named Bd.method).1
  obtain ⟨S_w6, E_w6, S_w7, E_w7, S_w8, E_w8, S_w9, E_w9, F_listName_w7, E_w3, F_value_w3, F_listName_w8, E_w4, F_value_w4, F_listName_w9, E_w5, F_value_w5, F_coder_w3, F_coder_w4, F_coder_w5, V_w6, V_w0, V_w1, V_w2, S_cs, nz_cs, S_fm, rf⟩ := id NF
  obtain ⟨T82, h82, X82, e82, E82, A82, D82, -, st82⟩ := newO XC hx hZ hown (wi hw 39 rfl) (wi hw 3 rfl) (wi hw 2 rfl) eC (g := (mkF m 249 (LA22 p0 p1 p2 q3 pb bs pm c0_ c1_ c2_ c3_ c4_ c5_ pk) [])) rfl (hb hby at_249) (by decide) (by decide)
  obtain ⟨b82, g82⟩ : ∃ z, z = hC.size := ⟨_, rfl⟩
  rw [← g82] at A82 D82 st82
  have g_b82 : n0 ≤ b82 := Nat.le_trans (own_old OC) (Nat.le_of_eq g82.symm)
  have S_b82 : Safe Z consts_1 vmB hC b82 := Safe.new (Nat.le_of_eq g82.symm)
  have S_b82 := Safe.ext E82 CR.1 S_b82
  have CR := CR.trans (CHr.ext E82 CR.1)
  have OC := OC.ext E82
  have hk := Nat.le_trans hk E82.1
  have E_b82 := A82
  have F_value_b82 : Fld Z h82 b82 "java/lang/String" "value" "[B" .null := D82 (Or.inr (wi hw 5 rfl)) (ty := (.array .byte)) (by decide)
  have F_coder_b82 : Fld Z h82 b82 "java/lang/String" "coder" "B" (.int (0 : Int32)) := D82 (Or.inr (wi hw 6 rfl)) (ty := .byte) (by decide)
  refine Goes.to (T' := T82.setTop (mkF m 252 (LA22 p0 p1 p2 q3 pb bs pm c0_ c1_ c2_ c3_ c4_ c5_ pk) [(.ref b82)])) st82 ?_
  refine Goes.to (T' := T82.setTop (mkF m 253 (LA22 p0 p1 p2 q3 pb bs pm c0_ c1_ c2_ c3_ c4_ c5_ pk) [(.ref b82), (.ref b82)])) (fun t k => XS.dup X82.here hx rfl (hb hby at_252) rfl rfl k) ?_
  refine Goes.to (T' := T82.setTop (mkF m 254 (LA22 p0 p1 p2 q3 pb bs pm c0_ c1_ c2_ c3_ c4_ c5_ pk) [(.int (5 : Int32)), (.ref b82), (.ref b82)])) (fun t k => XS.iconst X82.here hx rfl (hb hby at_253) k) ?_
  obtain ⟨T83, h83, k83, X83, e83, E83, A83, st83⟩ := newP X82 hx hZ (wi hw 40 rfl) e82 (g := (mkF m 254 (LA22 p0 p1 p2 q3 pb bs pm c0_ c1_ c2_ c3_ c4_ c5_ pk) [(.int (5 : Int32)), (.ref b82), (.ref b82)])) rfl (hb hby at_254) rfl (by decide) (cap := 5) (by decide) (by decide) (by decide) (by decide)
  obtain ⟨b83, g83⟩ : ∃ z, z = h82.size := ⟨_, rfl⟩
  rw [← g83] at A83 st83
  have g_b83 : n0 ≤ b83 := Nat.le_trans (own_old OC) (Nat.le_of_eq g83.symm)
  have ne_b82_b83 : b82 ≠ b83 := Nat.ne_of_lt (Nat.lt_of_lt_of_le E_b82.lt (Nat.le_of_eq g83.symm))
  have ne_b83_b82 := Ne.symm ne_b82_b83
  have S_b83 : Safe Z consts_1 vmB h82 b83 := Safe.new (Nat.le_of_eq g83.symm)
  have S_b82 := Safe.ext E83 CR.1 S_b82
  have S_b83 := Safe.ext E83 CR.1 S_b83
  have CR := CR.trans (CHr.ext E83 CR.1)
  have E_b82 := E_b82.ext E83
  have F_value_b82 := F_value_b82.ext E83
  have F_coder_b82 := F_coder_b82.ext E83
  have OC := OC.ext E83
  have hk := Nat.le_trans hk E83.1
  have V_b83 : Arv Z h83 b83 k83 .char (5 : Int32) [(.int (0 : Int32)), (.int (0 : Int32)), (.int (0 : Int32)), (.int (0 : Int32)), (.int (0 : Int32))] (.int (0 : Int32)) := (Arv.new A83 (by decide)).pad (pad_rep [] (.int (0 : Int32)) 5)
  refine Goes.to (T' := T83.setTop (mkF m 256 (LA22 p0 p1 p2 q3 pb bs pm c0_ c1_ c2_ c3_ c4_ c5_ pk) [(.ref b83), (.ref b82), (.ref b82)])) st83 ?_
  refine Goes.to (T' := T83.setTop (mkF m 257 (LA22 p0 p1 p2 q3 pb bs pm c0_ c1_ c2_ c3_ c4_ c5_ pk) [(.ref b83), (.ref b83), (.ref b82), (.ref b82)])) (fun t k => XS.dup X83.here hx rfl (hb hby at_256) rfl rfl k) ?_
  refine Goes.to (T' := T83.setTop (mkF m 258 (LA22 p0 p1 p2 q3 pb bs pm c0_ c1_ c2_ c3_ c4_ c5_ pk) [(.int (0 : Int32)), (.ref b83), (.ref b83), (.ref b82), (.ref b82)])) (fun t k => XS.iconst X83.here hx rfl (hb hby at_257) k) ?_
  refine Goes.to (T' := T83.setTop (mkF m 260 (LA22 p0 p1 p2 q3 pb bs pm c0_ c1_ c2_ c3_ c4_ c5_ pk) [(.int c0_), (.int (0 : Int32)), (.ref b83), (.ref b83), (.ref b82), (.ref b82)])) (fun t k => XS.iload X83.here hx rfl (hb hby at_258) rfl k) ?_
  obtain ⟨cl84, Ar84, q84, S84, Ng84, H84, G84⟩ := V_b83
  have hin84 : ¬ ((0 : Int32) < 0 ∨ cl84.slots.size ≤ ((0 : Int32)).toNatClampNeg) := inb_of S84 ⟨by decide, by decide⟩
  obtain ⟨T85, h85, X85, e85, W85, st85⟩ := stC X83 hx hZ e83 Ar84 (j := (0 : Int32)) hin84 (g := (mkF m 260 (LA22 p0 p1 p2 q3 pb bs pm c0_ c1_ c2_ c3_ c4_ c5_ pk) [(.int c0_), (.int (0 : Int32)), (.ref b83), (.ref b83), (.ref b82), (.ref b82)])) rfl rfl (hb hby at_260)
  have V_b83 : Arv Z h85 b83 k83 .char (5 : Int32) [(.int (nar .char c0_)), (.int (0 : Int32)), (.int (0 : Int32)), (.int (0 : Int32)), (.int (0 : Int32))] (.int (0 : Int32)) := Arv.set Ar84 q84 S84 Ng84 H84 G84 (fits_nar_char _) W85 0 rfl (Nat.le_of_ble_eq_true rfl)
  have CRn := CR.trans (CHr.wr W85 S_b83 CR.1)
  have S_b82 := Safe.wr W85 S_b83 CR.1 S_b82
  have S_b83 := Safe.wr W85 S_b83 CR.1 S_b83
  have CR := CRn
  have E_b82 := E_b82.wr W85
  have F_value_b82 := F_value_b82.other W85 (Or.inl (ne_b82_b83))
  have F_coder_b82 := F_coder_b82.other W85 (Or.inl (ne_b82_b83))
  have OC := OC.wr W85 g_b83
  have hk := Nat.le_trans hk (Keep.of_wr W85).1
  have N85 := Fr.snoc X85 NC g_b83
  refine Goes.to (T' := T85.setTop (mkF m 261 (LA22 p0 p1 p2 q3 pb bs pm c0_ c1_ c2_ c3_ c4_ c5_ pk) [(.ref b83), (.ref b82), (.ref b82)])) st85 ?_
  refine Goes.to (T' := T85.setTop (mkF m 262 (LA22 p0 p1 p2 q3 pb bs pm c0_ c1_ c2_ c3_ c4_ c5_ pk) [(.ref b83), (.ref b83), (.ref b82), (.ref b82)])) (fun t k => XS.dup X85.here hx rfl (hb hby at_261) rfl rfl k) ?_
  refine Goes.to (T' := T85.setTop (mkF m 263 (LA22 p0 p1 p2 q3 pb bs pm c0_ c1_ c2_ c3_ c4_ c5_ pk) [(.int (1 : Int32)), (.ref b83), (.ref b83), (.ref b82), (.ref b82)])) (fun t k => XS.iconst X85.here hx rfl (hb hby at_262) k) ?_
  refine Goes.to (T' := T85.setTop (mkF m 265 (LA22 p0 p1 p2 q3 pb bs pm c0_ c1_ c2_ c3_ c4_ c5_ pk) [(.int c1_), (.int (1 : Int32)), (.ref b83), (.ref b83), (.ref b82), (.ref b82)])) (fun t k => XS.iload X85.here hx rfl (hb hby at_263) rfl k) ?_
  obtain ⟨cl86, Ar86, q86, S86, Ng86, H86, G86⟩ := V_b83
  have hin86 : ¬ ((1 : Int32) < 0 ∨ cl86.slots.size ≤ ((1 : Int32)).toNatClampNeg) := inb_of S86 ⟨by decide, by decide⟩
  obtain ⟨T87, h87, X87, e87, W87, st87⟩ := stC X85 hx hZ e85 Ar86 (j := (1 : Int32)) hin86 (g := (mkF m 265 (LA22 p0 p1 p2 q3 pb bs pm c0_ c1_ c2_ c3_ c4_ c5_ pk) [(.int c1_), (.int (1 : Int32)), (.ref b83), (.ref b83), (.ref b82), (.ref b82)])) rfl rfl (hb hby at_265)
  have V_b83 : Arv Z h87 b83 k83 .char (5 : Int32) [(.int (nar .char c0_)), (.int (nar .char c1_)), (.int (0 : Int32)), (.int (0 : Int32)), (.int (0 : Int32))] (.int (0 : Int32)) := Arv.set Ar86 q86 S86 Ng86 H86 G86 (fits_nar_char _) W87 1 rfl (Nat.le_of_ble_eq_true rfl)
  have CRn := CR.trans (CHr.wr W87 S_b83 CR.1)
  have S_b82 := Safe.wr W87 S_b83 CR.1 S_b82
  have S_b83 := Safe.wr W87 S_b83 CR.1 S_b83
  have CR := CRn
  have E_b82 := E_b82.wr W87
  have F_value_b82 := F_value_b82.other W87 (Or.inl (ne_b82_b83))
  have F_coder_b82 := F_coder_b82.other W87 (Or.inl (ne_b82_b83))
  have OC := OC.wr W87 g_b83
  have hk := Nat.le_trans hk (Keep.of_wr W87).1
  have N87 := Fr.snoc X87 N85 g_b83
  refine Goes.to (T' := T87.setTop (mkF m 266 (LA22 p0 p1 p2 q3 pb bs pm c0_ c1_ c2_ c3_ c4_ c5_ pk) [(.ref b83), (.ref b82), (.ref b82)])) st87 ?_
  refine Goes.to (T' := T87.setTop (mkF m 267 (LA22 p0 p1 p2 q3 pb bs pm c0_ c1_ c2_ c3_ c4_ c5_ pk) [(.ref b83), (.ref b83), (.ref b82), (.ref b82)])) (fun t k => XS.dup X87.here hx rfl (hb hby at_266) rfl rfl k) ?_
  refine Goes.to (T' := T87.setTop (mkF m 268 (LA22 p0 p1 p2 q3 pb bs pm c0_ c1_ c2_ c3_ c4_ c5_ pk) [(.int (2 : Int32)), (.ref b83), (.ref b83), (.ref b82), (.ref b82)])) (fun t k => XS.iconst X87.here hx rfl (hb hby at_267) k) ?_
  refine Goes.to (T' := T87.setTop (mkF m 270 (LA22 p0 p1 p2 q3 pb bs pm c0_ c1_ c2_ c3_ c4_ c5_ pk) [(.int c2_), (.int (2 : Int32)), (.ref b83), (.ref b83), (.ref b82), (.ref b82)])) (fun t k => XS.iload X87.here hx rfl (hb hby at_268) rfl k) ?_
  obtain ⟨cl88, Ar88, q88, S88, Ng88, H88, G88⟩ := V_b83
  have hin88 : ¬ ((2 : Int32) < 0 ∨ cl88.slots.size ≤ ((2 : Int32)).toNatClampNeg) := inb_of S88 ⟨by decide, by decide⟩
  obtain ⟨T89, h89, X89, e89, W89, st89⟩ := stC X87 hx hZ e87 Ar88 (j := (2 : Int32)) hin88 (g := (mkF m 270 (LA22 p0 p1 p2 q3 pb bs pm c0_ c1_ c2_ c3_ c4_ c5_ pk) [(.int c2_), (.int (2 : Int32)), (.ref b83), (.ref b83), (.ref b82), (.ref b82)])) rfl rfl (hb hby at_270)
  have V_b83 : Arv Z h89 b83 k83 .char (5 : Int32) [(.int (nar .char c0_)), (.int (nar .char c1_)), (.int (nar .char c2_)), (.int (0 : Int32)), (.int (0 : Int32))] (.int (0 : Int32)) := Arv.set Ar88 q88 S88 Ng88 H88 G88 (fits_nar_char _) W89 2 rfl (Nat.le_of_ble_eq_true rfl)
  have CRn := CR.trans (CHr.wr W89 S_b83 CR.1)
  have S_b82 := Safe.wr W89 S_b83 CR.1 S_b82
  have S_b83 := Safe.wr W89 S_b83 CR.1 S_b83
  have CR := CRn
  have E_b82 := E_b82.wr W89
  have F_value_b82 := F_value_b82.other W89 (Or.inl (ne_b82_b83))
  have F_coder_b82 := F_coder_b82.other W89 (Or.inl (ne_b82_b83))
  have OC := OC.wr W89 g_b83
  have hk := Nat.le_trans hk (Keep.of_wr W89).1
  have N89 := Fr.snoc X89 N87 g_b83
  refine Goes.to (T' := T89.setTop (mkF m 271 (LA22 p0 p1 p2 q3 pb bs pm c0_ c1_ c2_ c3_ c4_ c5_ pk) [(.ref b83), (.ref b82), (.ref b82)])) st89 ?_
  refine Goes.to (T' := T89.setTop (mkF m 272 (LA22 p0 p1 p2 q3 pb bs pm c0_ c1_ c2_ c3_ c4_ c5_ pk) [(.ref b83), (.ref b83), (.ref b82), (.ref b82)])) (fun t k => XS.dup X89.here hx rfl (hb hby at_271) rfl rfl k) ?_
  refine Goes.to (T' := T89.setTop (mkF m 273 (LA22 p0 p1 p2 q3 pb bs pm c0_ c1_ c2_ c3_ c4_ c5_ pk) [(.int (3 : Int32)), (.ref b83), (.ref b83), (.ref b82), (.ref b82)])) (fun t k => XS.iconst X89.here hx rfl (hb hby at_272) k) ?_
  refine Goes.to (T' := T89.setTop (mkF m 275 (LA22 p0 p1 p2 q3 pb bs pm c0_ c1_ c2_ c3_ c4_ c5_ pk) [(.int c3_), (.int (3 : Int32)), (.ref b83), (.ref b83), (.ref b82), (.ref b82)])) (fun t k => XS.iload X89.here hx rfl (hb hby at_273) rfl k) ?_
  obtain ⟨cl90, Ar90, q90, S90, Ng90, H90, G90⟩ := V_b83
  have hin90 : ¬ ((3 : Int32) < 0 ∨ cl90.slots.size ≤ ((3 : Int32)).toNatClampNeg) := inb_of S90 ⟨by decide, by decide⟩
  obtain ⟨T91, h91, X91, e91, W91, st91⟩ := stC X89 hx hZ e89 Ar90 (j := (3 : Int32)) hin90 (g := (mkF m 275 (LA22 p0 p1 p2 q3 pb bs pm c0_ c1_ c2_ c3_ c4_ c5_ pk) [(.int c3_), (.int (3 : Int32)), (.ref b83), (.ref b83), (.ref b82), (.ref b82)])) rfl rfl (hb hby at_275)
  have V_b83 : Arv Z h91 b83 k83 .char (5 : Int32) [(.int (nar .char c0_)), (.int (nar .char c1_)), (.int (nar .char c2_)), (.int (nar .char c3_)), (.int (0 : Int32))] (.int (0 : Int32)) := Arv.set Ar90 q90 S90 Ng90 H90 G90 (fits_nar_char _) W91 3 rfl (Nat.le_of_ble_eq_true rfl)
  have CRn := CR.trans (CHr.wr W91 S_b83 CR.1)
  have S_b82 := Safe.wr W91 S_b83 CR.1 S_b82
  have S_b83 := Safe.wr W91 S_b83 CR.1 S_b83
  have CR := CRn
  have E_b82 := E_b82.wr W91
  have F_value_b82 := F_value_b82.other W91 (Or.inl (ne_b82_b83))
  have F_coder_b82 := F_coder_b82.other W91 (Or.inl (ne_b82_b83))
  have OC := OC.wr W91 g_b83
  have hk := Nat.le_trans hk (Keep.of_wr W91).1
  have N91 := Fr.snoc X91 N89 g_b83
  refine Goes.to (T' := T91.setTop (mkF m 276 (LA22 p0 p1 p2 q3 pb bs pm c0_ c1_ c2_ c3_ c4_ c5_ pk) [(.ref b83), (.ref b82), (.ref b82)])) st91 ?_
  refine Goes.to (T' := T91.setTop (mkF m 277 (LA22 p0 p1 p2 q3 pb bs pm c0_ c1_ c2_ c3_ c4_ c5_ pk) [(.ref b83), (.ref b83), (.ref b82), (.ref b82)])) (fun t k => XS.dup X91.here hx rfl (hb hby at_276) rfl rfl k) ?_
  refine Goes.to (T' := T91.setTop (mkF m 278 (LA22 p0 p1 p2 q3 pb bs pm c0_ c1_ c2_ c3_ c4_ c5_ pk) [(.int (4 : Int32)), (.ref b83), (.ref b83), (.ref b82), (.ref b82)])) (fun t k => XS.iconst X91.here hx rfl (hb hby at_277) k) ?_
  refine Goes.to (T' := T91.setTop (mkF m 280 (LA22 p0 p1 p2 q3 pb bs pm c0_ c1_ c2_ c3_ c4_ c5_ pk) [(.int c4_), (.int (4 : Int32)), (.ref b83), (.ref b83), (.ref b82), (.ref b82)])) (fun t k => XS.iload X91.here hx rfl (hb hby at_278) rfl k) ?_
  obtain ⟨cl92, Ar92, q92, S92, Ng92, H92, G92⟩ := V_b83
  have hin92 : ¬ ((4 : Int32) < 0 ∨ cl92.slots.size ≤ ((4 : Int32)).toNatClampNeg) := inb_of S92 ⟨by decide, by decide⟩
  obtain ⟨T93, h93, X93, e93, W93, st93⟩ := stC X91 hx hZ e91 Ar92 (j := (4 : Int32)) hin92 (g := (mkF m 280 (LA22 p0 p1 p2 q3 pb bs pm c0_ c1_ c2_ c3_ c4_ c5_ pk) [(.int c4_), (.int (4 : Int32)), (.ref b83), (.ref b83), (.ref b82), (.ref b82)])) rfl rfl (hb hby at_280)
  have V_b83 : Arv Z h93 b83 k83 .char (5 : Int32) [(.int (nar .char c0_)), (.int (nar .char c1_)), (.int (nar .char c2_)), (.int (nar .char c3_)), (.int (nar .char c4_))] (.int (0 : Int32)) := Arv.set Ar92 q92 S92 Ng92 H92 G92 (fits_nar_char _) W93 4 rfl (Nat.le_of_ble_eq_true rfl)
  have CRn := CR.trans (CHr.wr W93 S_b83 CR.1)
  have S_b82 := Safe.wr W93 S_b83 CR.1 S_b82
  have S_b83 := Safe.wr W93 S_b83 CR.1 S_b83
  have CR := CRn
  have E_b82 := E_b82.wr W93
  have F_value_b82 := F_value_b82.other W93 (Or.inl (ne_b82_b83))
  have F_coder_b82 := F_coder_b82.other W93 (Or.inl (ne_b82_b83))
  have OC := OC.wr W93 g_b83
  have hk := Nat.le_trans hk (Keep.of_wr W93).1
  have N93 := Fr.snoc X93 N91 g_b83
  refine Goes.to (T' := T93.setTop (mkF m 281 (LA22 p0 p1 p2 q3 pb bs pm c0_ c1_ c2_ c3_ c4_ c5_ pk) [(.ref b83), (.ref b82), (.ref b82)])) st93 ?_
  rw [own_narc h_c0_] at V_b83
  rw [own_narc h_c1_] at V_b83
  rw [own_narc h_c2_] at V_b83
  rw [own_narc h_c3_] at V_b83
  rw [own_narc h_c4_] at V_b83
  have hws : ∀ d ∈ StrChars.Road.words, d.before a0 Z = true := fun d hd => hw d ((by decide +kernel : ∀ d ∈ StrChars.Road.words, d ∈ tables_1) d hd)
  have hlat : ∀ c ∈ [c0_, c1_, c2_, c3_, c4_], ¬ c < 0 ∧ ¬ (255 : Int32) < c := by
    intro c hc
    simp only [List.mem_cons, List.not_mem_nil, or_false] at hc
    rcases hc with rfl | rfl | rfl | rfl | rfl
    · exact h_c0_
    · exact h_c1_
    · exact h_c2_
    · exact h_c3_
    · exact h_c4_
  obtain ⟨_, _, ⟨T94, L94, k94, n94⟩, -, X94, ⟨Lc94, hQ94, l94, y94, z94⟩, st94⟩ := X93.specialBack hx (y := (⟨"java/lang/String", "<init>", "([C)V"⟩ : MethodName)) rfl hown (mvT hZ (wi hw 41 rfl)) (mvT hZ (wi hw 42 rfl)) (mvT hZ (wi hw 43 rfl)) (by decide) (StrChars.Road.backV (W := 1) hZ hws (kI := 4) (wi hw 3 rfl) (cs := [c0_, c1_, c2_, c3_, c4_]) (bs := [c0_.toInt8.toInt32, c1_.toInt8.toInt32, c2_.toInt8.toInt32, c3_.toInt8.toInt32, c4_.toInt8.toInt32]) (n := 5) g_b82 (own_old OC) E_b82 F_value_b82 F_coder_b82 V_b83 (S_cs.ext OC.2) nz_cs rfl rfl (by decide) (by decide) hlat rfl (by decide) (by decide)) (g := (mkF m 281 (LA22 p0 p1 p2 q3 pb bs pm c0_ c1_ c2_ c3_ c4_ c5_ pk) [(.ref b83), (.ref b82), (.ref b82)])) rfl (by rw [hml]; rfl) (Steps.refl _) (a := b82) (argsL := [(.ref b83)]) (rest := [(.ref b82)]) (lenOf pd_221 rfl) rfl (by show 2 * 0 + _ ≤ _; exact Nat.le_of_eq rfl) (hb hby at_281) (fun _ _ => ⟨rfl, e93, (by decide : 4 + 1 ≤ _), (by decide : 33 + 5 ≤ _)⟩)
  dsimp only [Pt.U, Pt.locs, Pt.cells, Pt.slots] at X94 l94 y94 z94 st94 hQ94
  subst l94 y94 z94
  obtain ⟨rfl, Nq94, K94, -, Fc94, t94, kb94, gt94, szt94, net94, Fv94, Av94⟩ := hQ94
  have N94 := Fr.app N93 Nq94
  have g_t94 : n0 ≤ t94 := gt94
  have ne_b82_t94 : b82 ≠ t94 := Nat.ne_of_lt (Nat.lt_of_lt_of_le E_b82.lt szt94)
  have ne_t94_b82 := Ne.symm ne_b82_t94
  have ne_b83_t94 : b83 ≠ t94 := Nat.ne_of_lt (Nat.lt_of_lt_of_le V_b83.lt szt94)
  have ne_t94_b83 := Ne.symm ne_b83_t94
  have S_t94 : Safe Z consts_1 vmB h93 t94 := Safe.new szt94
  have CRn := CR.trans (CHr.keep K94 (allS S_b82 all0) CR.1)
  have S_b83' := Safe.keep K94 (allS S_b82 all0) CR.1 S_b83
  have S_t94' := Safe.keep K94 (allS S_b82 all0) CR.1 S_t94
  have S_b82' := Safe.keep K94 (allS S_b82 all0) CR.1 S_b82
  have S_b82 := S_b82'
  have S_b83 := S_b83'
  have S_t94 := S_t94'
  have CR := CRn
  have E_b82 := E_b82.keep K94
  have V_b83 := V_b83.keep K94 (ninS (ne_b83_b82) nin0)
  have OC := OC.keep K94 (allS g_b82 all0)
  have hk := Nat.le_trans hk K94.1
  have F_coder_b82 := Fc94
  have F_value_b82 := Fv94
  have V_t94 : Arv Z T94.heap t94 kb94 .byte (5 : Int32) [(.int c0_.toInt8.toInt32), (.int c1_.toInt8.toInt32), (.int c2_.toInt8.toInt32), (.int c3_.toInt8.toInt32), (.int c4_.toInt8.toInt32)] (.int (0 : Int32)) := Av94
  refine Goes.thru (T' := T94.setTop (mkF m 284 (LA22 p0 p1 p2 q3 pb bs pm c0_ c1_ c2_ c3_ c4_ c5_ pk) [(.ref b82)])) st94 ?_
  refine Goes.to (T' := T94.setTop (mkF m 286 (LA17 p0 p1 p2 q3 pb bs pm c0_ c1_ c2_ c3_ c4_ c5_ pk b82) [])) (fun t k => XS.astore X94.here hx rfl (hb hby at_284) rfl rfl (l' := (LA17 p0 p1 p2 q3 pb bs pm c0_ c1_ c2_ c3_ c4_ c5_ pk b82)) rfl k) ?_
  have E_xs := E_b82
  have F_coder_xs := F_coder_b82
  have F_value_xs := F_value_b82
  have V_sv := V_t94
  have S_xs := S_b82
  exact rm0_T5 hw p0 p1 p2 q3 vmC h0 n0 NF  p e s m below meth c s₁ Bd hml _ _ hS hZ hown own_strw hEL Qf hQf bs pb pm pk c0_ c1_ c2_ c3_ c4_ c5_ _ _ _ b82 t94 kb94 c0_.toInt8.toInt32 c1_.toInt8.toInt32 c2_.toInt8.toInt32 c3_.toInt8.toInt32 c4_.toInt8.toInt32 (Stand.mono X94 (by decide) (by decide)) rfl hk OC E_xs F_coder_xs F_value_xs V_sv CR S_xs N94 g_b82 
theorem rm0_J31 (hw : HW a0 Z) (p0 : Int32) (p1 : Int32) (p2 : Int32) (q3 : Int64) (vmC : Vm) (h0 : Heap) (n0 : Nat) (NF : Nar Z w6 w7 w8 w9 w3 w0 w4 w1 w5 w2 k_w6 k_w0 k_w1 k_w2 z_cs fm) (p : Program) (e : Env) (s : State) (m : MethodId) (below : List Frame) (meth : _) (c : _) (s₁ : State) (Bd : BodyLoose p l x (head1 (Jvm.Cond.code x code maxLocals ret :: ws) room_1) code maxLocals ret e s m #[(.int p0), (.int p1), (.int p2), (.long q3)] below meth c s₁) (hml : c.maxLocals = 18) (vmB : Vm) (kS : Nat) (hS : s.Since vmB kS) (hZ : Z.Warmed39 (s.setVm vmB).vm) (hown : (s.setVm vmB).vm.findClass "com/example/issuer/issuer/blocklist/EntryKindOfListPinLaw" = some m.cls) (own_strw : ∀ a ∈ Bundle.stringAtoms, a.before a0 Z = true) (hEL : EW Z a0 consts_1) (Qf : Outcome → State → Prop) (hQf : Qf = (fun (_ : Array Value) (U : State) (o : Outcome) (U' : State) => ∃ v L, o = .returned v ∧ Q_rm0  h0 n0 v U'.heap L ∧ ReturnedEndW U o U' L room_1.cells room_1.slots) #[] s) (pb : Int32) (TC : State) (locsC : List Loc) (hC : Heap) (bs : Addr) (bt : Addr) (kbs : ClassId) (u0 : Int32) (u1 : Int32) (u2 : Int32) (u3 : Int32) (u4 : Int32) (XC : Stand p l e room_1 (s.setVm vmB) m #[(.int p0), (.int p1), (.int p2), (.long q3)] below meth c TC locsC 2 24) (eC : TC.heap = hC) (hk : kS ≤ hC.size) (OC : Old Z n0 hC) (E_bs : Exa Z hC bs "java/lang/String") (F_coder_bs : Fld Z hC bs "java/lang/String" "coder" "B" (.int (0 : Int32))) (F_value_bs : Fld Z hC bs "java/lang/String" "value" "[B" (.ref bt)) (V_bt : Arv Z hC bt kbs .byte (5 : Int32) [(.int u0), (.int u1), (.int u2), (.int u3), (.int u4)] (.int (0 : Int32))) (CR : CHr Z consts_1 s.vm h0 vmB hC) (NC : Fr n0 locsC) : Goes p.tables e below Qf (TC.setTop (mkF m 31 (LA5 p0 p1 p2 q3 pb) [(.ref bs)])) := by
  have hx := Bd.exec
  have hby := Bd.bytes
  have hnm := (name_of_methodNamed Bd.named Bd.method).1
  obtain ⟨S_w6, E_w6, S_w7, E_w7, S_w8, E_w8, S_w9, E_w9, F_listName_w7, E_w3, F_value_w3, F_listName_w8, E_w4, F_value_w4, F_listName_w9, E_w5, F_value_w5, F_coder_w3, F_coder_w4, F_coder_w5, V_w6, V_w0, V_w1, V_w2, S_cs, nz_cs, S_fm, rf⟩ := id NF
  refine Goes.to (T' := TC.setTop (mkF m 33 (LA6 p0 p1 p2 q3 pb bs) [])) (fun t k => XS.astore XC.here hx rfl (hb hby at_31) rfl rfl (l' := (LA6 p0 p1 p2 q3 pb bs)) rfl k) ?_
  refine Goes.to (T' := TC.setTop (mkF m 34 (LA6 p0 p1 p2 q3 pb bs) [(.int p2)])) (fun t k => XS.iloadN XC.here hx rfl (hb hby at_33) rfl k) ?_
  refine Goes.to (T' := TC.setTop (mkF m 35 (LA6 p0 p1 p2 q3 pb bs) [(.int (5 : Int32)), (.int p2)])) (fun t k => XS.iconst XC.here hx rfl (hb hby at_34) k) ?_
  refine Goes.to (T' := TC.setTop (mkF m 36 (LA6 p0 p1 p2 q3 pb bs) [(.int ((p2.toUInt32 >>> ((5 : Int32) &&& 31).toUInt32).toInt32))])) (fun t k => XS.iushr XC.here hx rfl (hb hby at_35) rfl k) ?_
  refine Goes.to (T' := TC.setTop (mkF m 37 (LA6 p0 p1 p2 q3 pb bs) [(.int (1 : Int32)), (.int ((p2.toUInt32 >>> ((5 : Int32) &&& 31).toUInt32).toInt32))])) (fun t k => XS.iconst XC.here hx rfl (hb hby at_36) k) ?_
  refine Goes.to (T' := TC.setTop (mkF m 38 (LA6 p0 p1 p2 q3 pb bs) [(.int (((p2.toUInt32 >>> ((5 : Int32) &&& 31).toUInt32).toInt32) &&& (1 : Int32)))])) (fun t k => XS.iand XC.here hx rfl (hb hby at_37) rfl k) ?_
  have J49 : ∀ (TJ1 : State) (locsJ1 : List Loc) (pm : Int32) (XJ1 : Stand p l e room_1 (s.setVm vmB) m #[(.int p0), (.int p1), (.int p2), (.long q3)] below meth c TJ1 locsJ1 2 24) (eJ1 : TJ1.heap = hC) (NJ1 : Fr n0 locsJ1), Goes p.tables e below Qf (TJ1.setTop (mkF m 49 (LA6 p0 p1 p2 q3 pb bs) [(.int pm)])) := by
    intro TJ1 locsJ1 pm XJ1 eJ1 NJ1 
    refine Goes.to (T' := TJ1.setTop (mkF m 51 (LA7 p0 p1 p2 q3 pb bs pm) [])) (fun t k => XS.istore XJ1.here hx rfl (hb hby at_49) rfl (l' := (LA7 p0 p1 p2 q3 pb bs pm)) rfl k) ?_
    refine Goes.to (T' := TJ1.setTop (mkF m 53 (LA7 p0 p1 p2 q3 pb bs pm) [(.ref bs)])) (fun t k => XS.aload XJ1.here hx rfl (hb hby at_51) rfl rfl k) ?_
    refine Goes.to (T' := TJ1.setTop (mkF m 54 (LA7 p0 p1 p2 q3 pb bs pm) [(.int (0 : Int32)), (.ref bs)])) (fun t k => XS.iconst XJ1.here hx rfl (hb hby at_53) k) ?_
    refine Goes.to (T' := TJ1.setTop (mkF m 56 (LA7 p0 p1 p2 q3 pb bs pm) [(.int pm), (.int (0 : Int32)), (.ref bs)])) (fun t k => XS.iload XJ1.here hx rfl (hb hby at_54) rfl k) ?_
    refine Goes.to (T' := TJ1.setTop (mkF m 57 (LA7 p0 p1 p2 q3 pb bs pm) [(.long q3), (.int pm), (.int (0 : Int32)), (.ref bs)])) (fun t k => XS.lloadN XJ1.here hx rfl (hb hby at_56) rfl k) ?_
    obtain ⟨_, _, ⟨T2, L2, k2, n2⟩, -, X2, ⟨Lc2, hQ2, l2, y2, z2⟩, st2⟩ := Jvm.LawKit.callS XJ1 hx (y := (⟨"com/example/issuer/issuer/blocklist/EntryKindOfListPinLaw", "pick", "(Ljava/lang/String;IIJ)C"⟩ : MethodName)) hown (mvT hZ (wi hw 9 rfl)) (mvT hZ (wi hw 10 rfl)) (mvT hZ (wi hw 11 rfl)) (mvT hZ (wi hw 12 rfl)) (by decide) (backOf (W := 0) (rmPk hw bs (0 : Int32) pm q3 bt kbs u0 u1 u2 u3 u4 hC n0 OC NF E_bs F_coder_bs F_value_bs V_bt (by decide)) hZ (wi hw 12 rfl) (wi hw 11 rfl) (by decide) (by decide)) (g := (mkF m 57 (LA7 p0 p1 p2 q3 pb bs pm) [(.long q3), (.int pm), (.int (0 : Int32)), (.ref bs)])) rfl (by rw [hml]; rfl) (argsL := [(.ref bs), (.int (0 : Int32)), (.int pm), (.long q3)]) (rest := []) (lenOf pd_204 rfl) rfl (by show 2 * 0 + _ ≤ _; exact Nat.le_of_eq rfl) (hb hby at_57) (fun _ _ => ⟨rfl, eJ1, (by decide : 2 + 0 ≤ _), (by decide : 24 + 0 ≤ _)⟩)
    dsimp only [Pt.U, Pt.locs, Pt.cells, Pt.slots] at X2 l2 y2 z2 st2 hQ2
    subst l2 y2 z2
    obtain ⟨⟨c0_, rfl, h_c0_⟩, Nq2, e2⟩ := hQ2
    have N2 := Fr.app NJ1 Nq2
    refine Goes.to (T' := T2.setTop (mkF m 60 (LA7 p0 p1 p2 q3 pb bs pm) [(.int c0_)])) st2 ?_
    refine Goes.to (T' := T2.setTop (mkF m 62 (LA8 p0 p1 p2 q3 pb bs pm c0_) [])) (fun t k => XS.istore X2.here hx rfl (hb hby at_60) rfl (l' := (LA8 p0 p1 p2 q3 pb bs pm c0_)) rfl k) ?_
    refine Goes.to (T' := T2.setTop (mkF m 64 (LA8 p0 p1 p2 q3 pb bs pm c0_) [(.ref bs)])) (fun t k => XS.aload X2.here hx rfl (hb hby at_62) rfl rfl k) ?_
    refine Goes.to (T' := T2.setTop (mkF m 65 (LA8 p0 p1 p2 q3 pb bs pm c0_) [(.int (1 : Int32)), (.ref bs)])) (fun t k => XS.iconst X2.here hx rfl (hb hby at_64) k) ?_
    refine Goes.to (T' := T2.setTop (mkF m 67 (LA8 p0 p1 p2 q3 pb bs pm c0_) [(.int pm), (.int (1 : Int32)), (.ref bs)])) (fun t k => XS.iload X2.here hx rfl (hb hby at_65) rfl k) ?_
    refine Goes.to (T' := T2.setTop (mkF m 68 (LA8 p0 p1 p2 q3 pb bs pm c0_) [(.long q3), (.int pm), (.int (1 : Int32)), (.ref bs)])) (fun t k => XS.lloadN X2.here hx rfl (hb hby at_67) rfl k) ?_
    obtain ⟨_, _, ⟨T3, L3, k3, n3⟩, -, X3, ⟨Lc3, hQ3, l3, y3, z3⟩, st3⟩ := Jvm.LawKit.callS X2 hx (y := (⟨"com/example/issuer/issuer/blocklist/EntryKindOfListPinLaw", "pick", "(Ljava/lang/String;IIJ)C"⟩ : MethodName)) hown (mvT hZ (wi hw 9 rfl)) (mvT hZ (wi hw 10 rfl)) (mvT hZ (wi hw 11 rfl)) (mvT hZ (wi hw 12 rfl)) (by decide) (backOf (W := 0) (rmPk hw bs (1 : Int32) pm q3 bt kbs u0 u1 u2 u3 u4 hC n0 OC NF E_bs F_coder_bs F_value_bs V_bt (by decide)) hZ (wi hw 12 rfl) (wi hw 11 rfl) (by decide) (by decide)) (g := (mkF m 68 (LA8 p0 p1 p2 q3 pb bs pm c0_) [(.long q3), (.int pm), (.int (1 : Int32)), (.ref bs)])) rfl (by rw [hml]; rfl) (argsL := [(.ref bs), (.int (1 : Int32)), (.int pm), (.long q3)]) (rest := []) (lenOf pd_204 rfl) rfl (by show 2 * 0 + _ ≤ _; exact Nat.le_of_eq rfl) (hb hby at_68) (fun _ _ => ⟨rfl, e2, (by decide : 2 + 0 ≤ _), (by decide : 24 + 0 ≤ _)⟩)
    dsimp only [Pt.U, Pt.locs, Pt.cells, Pt.slots] at X3 l3 y3 z3 st3 hQ3
    subst l3 y3 z3
    obtain ⟨⟨c1_, rfl, h_c1_⟩, Nq3, e3⟩ := hQ3
    have N3 := Fr.app N2 Nq3
    refine Goes.to (T' := T3.setTop (mkF m 71 (LA8 p0 p1 p2 q3 pb bs pm c0_) [(.int c1_)])) st3 ?_
    refine Goes.to (T' := T3.setTop (mkF m 73 (LA9 p0 p1 p2 q3 pb bs pm c0_ c1_) [])) (fun t k => XS.istore X3.here hx rfl (hb hby at_71) rfl (l' := (LA9 p0 p1 p2 q3 pb bs pm c0_ c1_)) rfl k) ?_
    refine Goes.to (T' := T3.setTop (mkF m 75 (LA9 p0 p1 p2 q3 pb bs pm c0_ c1_) [(.ref bs)])) (fun t k => XS.aload X3.here hx rfl (hb hby at_73) rfl rfl k) ?_
    refine Goes.to (T' := T3.setTop (mkF m 76 (LA9 p0 p1 p2 q3 pb bs pm c0_ c1_) [(.int (2 : Int32)), (.ref bs)])) (fun t k => XS.iconst X3.here hx rfl (hb hby at_75) k) ?_
    refine Goes.to (T' := T3.setTop (mkF m 78 (LA9 p0 p1 p2 q3 pb bs pm c0_ c1_) [(.int pm), (.int (2 : Int32)), (.ref bs)])) (fun t k => XS.iload X3.here hx rfl (hb hby at_76) rfl k) ?_
    refine Goes.to (T' := T3.setTop (mkF m 79 (LA9 p0 p1 p2 q3 pb bs pm c0_ c1_) [(.long q3), (.int pm), (.int (2 : Int32)), (.ref bs)])) (fun t k => XS.lloadN X3.here hx rfl (hb hby at_78) rfl k) ?_
    obtain ⟨_, _, ⟨T4, L4, k4, n4⟩, -, X4, ⟨Lc4, hQ4, l4, y4, z4⟩, st4⟩ := Jvm.LawKit.callS X3 hx (y := (⟨"com/example/issuer/issuer/blocklist/EntryKindOfListPinLaw", "pick", "(Ljava/lang/String;IIJ)C"⟩ : MethodName)) hown (mvT hZ (wi hw 9 rfl)) (mvT hZ (wi hw 10 rfl)) (mvT hZ (wi hw 11 rfl)) (mvT hZ (wi hw 12 rfl)) (by decide) (backOf (W := 0) (rmPk hw bs (2 : Int32) pm q3 bt kbs u0 u1 u2 u3 u4 hC n0 OC NF E_bs F_coder_bs F_value_bs V_bt (by decide)) hZ (wi hw 12 rfl) (wi hw 11 rfl) (by decide) (by decide)) (g := (mkF m 79 (LA9 p0 p1 p2 q3 pb bs pm c0_ c1_) [(.long q3), (.int pm), (.int (2 : Int32)), (.ref bs)])) rfl (by rw [hml]; rfl) (argsL := [(.ref bs), (.int (2 : Int32)), (.int pm), (.long q3)]) (rest := []) (lenOf pd_204 rfl) rfl (by show 2 * 0 + _ ≤ _; exact Nat.le_of_eq rfl) (hb hby at_79) (fun _ _ => ⟨rfl, e3, (by decide : 2 + 0 ≤ _), (by decide : 24 + 0 ≤ _)⟩)
    dsimp only [Pt.U, Pt.locs, Pt.cells, Pt.slots] at X4 l4 y4 z4 st4 hQ4
    subst l4 y4 z4
    obtain ⟨⟨c2_, rfl, h_c2_⟩, Nq4, e4⟩ := hQ4
    have N4 := Fr.app N3 Nq4
    refine Goes.to (T' := T4.setTop (mkF m 82 (LA9 p0 p1 p2 q3 pb bs pm c0_ c1_) [(.int c2_)])) st4 ?_
    refine Goes.to (T' := T4.setTop (mkF m 84 (LA10 p0 p1 p2 q3 pb bs pm c0_ c1_ c2_) [])) (fun t k => XS.istore X4.here hx rfl (hb hby at_82) rfl (l' := (LA10 p0 p1 p2 q3 pb bs pm c0_ c1_ c2_)) rfl k) ?_
    refine Goes.to (T' := T4.setTop (mkF m 86 (LA10 p0 p1 p2 q3 pb bs pm c0_ c1_ c2_) [(.ref bs)])) (fun t k => XS.aload X4.here hx rfl (hb hby at_84) rfl rfl k) ?_
    refine Goes.to (T' := T4.setTop (mkF m 87 (LA10 p0 p1 p2 q3 pb bs pm c0_ c1_ c2_) [(.int (3 : Int32)), (.ref bs)])) (fun t k => XS.iconst X4.here hx rfl (hb hby at_86) k) ?_
    refine Goes.to (T' := T4.setTop (mkF m 89 (LA10 p0 p1 p2 q3 pb bs pm c0_ c1_ c2_) [(.int pm), (.int (3 : Int32)), (.ref bs)])) (fun t k => XS.iload X4.here hx rfl (hb hby at_87) rfl k) ?_
    refine Goes.to (T' := T4.setTop (mkF m 90 (LA10 p0 p1 p2 q3 pb bs pm c0_ c1_ c2_) [(.long q3), (.int pm), (.int (3 : Int32)), (.ref bs)])) (fun t k => XS.lloadN X4.here hx rfl (hb hby at_89) rfl k) ?_
    obtain ⟨_, _, ⟨T5, L5, k5, n5⟩, -, X5, ⟨Lc5, hQ5, l5, y5, z5⟩, st5⟩ := Jvm.LawKit.callS X4 hx (y := (⟨"com/example/issuer/issuer/blocklist/EntryKindOfListPinLaw", "pick", "(Ljava/lang/String;IIJ)C"⟩ : MethodName)) hown (mvT hZ (wi hw 9 rfl)) (mvT hZ (wi hw 10 rfl)) (mvT hZ (wi hw 11 rfl)) (mvT hZ (wi hw 12 rfl)) (by decide) (backOf (W := 0) (rmPk hw bs (3 : Int32) pm q3 bt kbs u0 u1 u2 u3 u4 hC n0 OC NF E_bs F_coder_bs F_value_bs V_bt (by decide)) hZ (wi hw 12 rfl) (wi hw 11 rfl) (by decide) (by decide)) (g := (mkF m 90 (LA10 p0 p1 p2 q3 pb bs pm c0_ c1_ c2_) [(.long q3), (.int pm), (.int (3 : Int32)), (.ref bs)])) rfl (by rw [hml]; rfl) (argsL := [(.ref bs), (.int (3 : Int32)), (.int pm), (.long q3)]) (rest := []) (lenOf pd_204 rfl) rfl (by show 2 * 0 + _ ≤ _; exact Nat.le_of_eq rfl) (hb hby at_90) (fun _ _ => ⟨rfl, e4, (by decide : 2 + 0 ≤ _), (by decide : 24 + 0 ≤ _)⟩)
    dsimp only [Pt.U, Pt.locs, Pt.cells, Pt.slots] at X5 l5 y5 z5 st5 hQ5
    subst l5 y5 z5
    obtain ⟨⟨c3_, rfl, h_c3_⟩, Nq5, e5⟩ := hQ5
    have N5 := Fr.app N4 Nq5
    refine Goes.to (T' := T5.setTop (mkF m 93 (LA10 p0 p1 p2 q3 pb bs pm c0_ c1_ c2_) [(.int c3_)])) st5 ?_
    refine Goes.to (T' := T5.setTop (mkF m 95 (LA11 p0 p1 p2 q3 pb bs pm c0_ c1_ c2_ c3_) [])) (fun t k => XS.istore X5.here hx rfl (hb hby at_93) rfl (l' := (LA11 p0 p1 p2 q3 pb bs pm c0_ c1_ c2_ c3_)) rfl k) ?_
    refine Goes.to (T' := T5.setTop (mkF m 97 (LA11 p0 p1 p2 q3 pb bs pm c0_ c1_ c2_ c3_) [(.ref bs)])) (fun t k => XS.aload X5.here hx rfl (hb hby at_95) rfl rfl k) ?_
    refine Goes.to (T' := T5.setTop (mkF m 98 (LA11 p0 p1 p2 q3 pb bs pm c0_ c1_ c2_ c3_) [(.int (4 : Int32)), (.ref bs)])) (fun t k => XS.iconst X5.here hx rfl (hb hby at_97) k) ?_
    refine Goes.to (T' := T5.setTop (mkF m 100 (LA11 p0 p1 p2 q3 pb bs pm c0_ c1_ c2_ c3_) [(.int pm), (.int (4 : Int32)), (.ref bs)])) (fun t k => XS.iload X5.here hx rfl (hb hby at_98) rfl k) ?_
    refine Goes.to (T' := T5.setTop (mkF m 101 (LA11 p0 p1 p2 q3 pb bs pm c0_ c1_ c2_ c3_) [(.long q3), (.int pm), (.int (4 : Int32)), (.ref bs)])) (fun t k => XS.lloadN X5.here hx rfl (hb hby at_100) rfl k) ?_
    obtain ⟨_, _, ⟨T6, L6, k6, n6⟩, -, X6, ⟨Lc6, hQ6, l6, y6, z6⟩, st6⟩ := Jvm.LawKit.callS X5 hx (y := (⟨"com/example/issuer/issuer/blocklist/EntryKindOfListPinLaw", "pick", "(Ljava/lang/String;IIJ)C"⟩ : MethodName)) hown (mvT hZ (wi hw 9 rfl)) (mvT hZ (wi hw 10 rfl)) (mvT hZ (wi hw 11 rfl)) (mvT hZ (wi hw 12 rfl)) (by decide) (backOf (W := 0) (rmPk hw bs (4 : Int32) pm q3 bt kbs u0 u1 u2 u3 u4 hC n0 OC NF E_bs F_coder_bs F_value_bs V_bt (by decide)) hZ (wi hw 12 rfl) (wi hw 11 rfl) (by decide) (by decide)) (g := (mkF m 101 (LA11 p0 p1 p2 q3 pb bs pm c0_ c1_ c2_ c3_) [(.long q3), (.int pm), (.int (4 : Int32)), (.ref bs)])) rfl (by rw [hml]; rfl) (argsL := [(.ref bs), (.int (4 : Int32)), (.int pm), (.long q3)]) (rest := []) (lenOf pd_204 rfl) rfl (by show 2 * 0 + _ ≤ _; exact Nat.le_of_eq rfl) (hb hby at_101) (fun _ _ => ⟨rfl, e5, (by decide : 2 + 0 ≤ _), (by decide : 24 + 0 ≤ _)⟩)
    dsimp only [Pt.U, Pt.locs, Pt.cells, Pt.slots] at X6 l6 y6 z6 st6 hQ6
    subst l6 y6 z6
    obtain ⟨⟨c4_, rfl, h_c4_⟩, Nq6, e6⟩ := hQ6
    have N6 := Fr.app N5 Nq6
    refine Goes.to (T' := T6.setTop (mkF m 104 (LA11 p0 p1 p2 q3 pb bs pm c0_ c1_ c2_ c3_) [(.int c4_)])) st6 ?_
    refine Goes.to (T' := T6.setTop (mkF m 106 (LA12 p0 p1 p2 q3 pb bs pm c0_ c1_ c2_ c3_ c4_) [])) (fun t k => XS.istore X6.here hx rfl (hb hby at_104) rfl (l' := (LA12 p0 p1 p2 q3 pb bs pm c0_ c1_ c2_ c3_ c4_)) rfl k) ?_
    refine Goes.to (T' := T6.setTop (mkF m 107 (LA12 p0 p1 p2 q3 pb bs pm c0_ c1_ c2_ c3_ c4_) [(.long q3)])) (fun t k => XS.lloadN X6.here hx rfl (hb hby at_106) rfl k) ?_
    refine Goes.to (T' := T6.setTop (mkF m 109 (LA12 p0 p1 p2 q3 pb bs pm c0_ c1_ c2_ c3_ c4_) [(.int (40 : Int32)), (.long q3)])) (fun t k => XS.bipush X6.here hx rfl (hb hby at_107) k) ?_
    refine Goes.to (T' := T6.setTop (mkF m 110 (LA12 p0 p1 p2 q3 pb bs pm c0_ c1_ c2_ c3_ c4_) [(.long ((q3.toUInt64 >>> ((40 : Int32) &&& 0x3f).toInt64.toUInt64).toInt64))])) (fun t k => XS.lushr X6.here hx rfl (hb hby at_109) rfl k) ?_
    refine Goes.to (T' := T6.setTop (mkF m 113 (LA12 p0 p1 p2 q3 pb bs pm c0_ c1_ c2_ c3_ c4_) [(.long (255 : Int64)), (.long ((q3.toUInt64 >>> ((40 : Int32) &&& 0x3f).toInt64.toUInt64).toInt64))])) (X6.ldc2Long hx hown (mvT hZ (wi hw 38 rfl)) (g := (mkF m 110 (LA12 p0 p1 p2 q3 pb bs pm c0_ c1_ c2_ c3_ c4_) [(.long ((q3.toUInt64 >>> ((40 : Int32) &&& 0x3f).toInt64.toUInt64).toInt64))])) rfl (hb hby at_110)) ?_
    refine Goes.to (T' := T6.setTop (mkF m 114 (LA12 p0 p1 p2 q3 pb bs pm c0_ c1_ c2_ c3_ c4_) [(.long (((q3.toUInt64 >>> ((40 : Int32) &&& 0x3f).toInt64.toUInt64).toInt64) &&& (255 : Int64)))])) (fun t k => XS.land X6.here hx rfl (hb hby at_113) rfl k) ?_
    refine Goes.to (T' := T6.setTop (mkF m 115 (LA12 p0 p1 p2 q3 pb bs pm c0_ c1_ c2_ c3_ c4_) [(.int ((((q3.toUInt64 >>> ((40 : Int32) &&& 0x3f).toInt64.toUInt64).toInt64) &&& (255 : Int64)).toInt32))])) (fun t k => XS.l2i X6.here hx rfl (hb hby at_114) rfl k) ?_
    refine Goes.to (T' := T6.setTop (mkF m 116 (LA12 p0 p1 p2 q3 pb bs pm c0_ c1_ c2_ c3_ c4_) [(.int (((((q3.toUInt64 >>> ((40 : Int32) &&& 0x3f).toInt64.toUInt64).toInt64) &&& (255 : Int64)).toInt32).toUInt32.toUInt16.toUInt32.toInt32))])) (fun t k => XS.i2c X6.here hx rfl (hb hby at_115) rfl k) ?_
    obtain ⟨c5_, hc5_⟩ : ∃ z : Int32, z = (((((q3.toUInt64 >>> ((40 : Int32) &&& 0x3f).toInt64.toUInt64).toInt64) &&& (255 : Int64)).toInt32).toUInt32.toUInt16.toUInt32.toInt32) := ⟨_, rfl⟩
    rw [← hc5_]
    have h_c5_ : ¬ c5_ < 0 ∧ ¬ (255 : Int32) < c5_ := hc5_ ▸ own_l2c _
    refine Goes.to (T' := T6.setTop (mkF m 118 (LA13 p0 p1 p2 q3 pb bs pm c0_ c1_ c2_ c3_ c4_ c5_) [])) (fun t k => XS.istore X6.here hx rfl (hb hby at_116) rfl (l' := (LA13 p0 p1 p2 q3 pb bs pm c0_ c1_ c2_ c3_ c4_ c5_)) rfl k) ?_
    refine Goes.to (T' := T6.setTop (mkF m 119 (LA13 p0 p1 p2 q3 pb bs pm c0_ c1_ c2_ c3_ c4_ c5_) [(.int p1)])) (fun t k => XS.iloadN X6.here hx rfl (hb hby at_118) rfl k) ?_
    refine Goes.to (T' := T6.setTop (mkF m 121 (LA13 p0 p1 p2 q3 pb bs pm c0_ c1_ c2_ c3_ c4_ c5_) [(.int (7 : Int32)), (.int p1)])) (fun t k => XS.bipush X6.here hx rfl (hb hby at_119) k) ?_
    refine Goes.to (T' := T6.setTop (mkF m 122 (LA13 p0 p1 p2 q3 pb bs pm c0_ c1_ c2_ c3_ c4_ c5_) [(.int (p1 &&& (7 : Int32)))])) (fun t k => XS.iand X6.here hx rfl (hb hby at_121) rfl k) ?_
    obtain ⟨pk, hpk⟩ : ∃ z : Int32, z = (p1 &&& (7 : Int32)) := ⟨_, rfl⟩
    rw [← hpk]
    refine Goes.to (T' := T6.setTop (mkF m 124 (LA22 p0 p1 p2 q3 pb bs pm c0_ c1_ c2_ c3_ c4_ c5_ pk) [])) (fun t k => XS.istore X6.here hx rfl (hb hby at_122) rfl (l' := (LA22 p0 p1 p2 q3 pb bs pm c0_ c1_ c2_ c3_ c4_ c5_ pk)) rfl k) ?_
    refine Goes.to (T' := T6.setTop (mkF m 126 (LA22 p0 p1 p2 q3 pb bs pm c0_ c1_ c2_ c3_ c4_ c5_ pk) [(.int pk)])) (fun t k => XS.iload X6.here hx rfl (hb hby at_124) rfl k) ?_
    rcases Decidable.em (pk = (0 : Int32)) with hc126_49 | hc126_49
    · skip
      refine Goes.to (T' := T6.setTop (mkF m 129 (LA22 p0 p1 p2 q3 pb bs pm c0_ c1_ c2_ c3_ c4_ c5_ pk) [])) (fun t k => XS.ifNo X6.here hx rfl (hb hby at_126) rfl ((if0 _ _).trans (teq hc126_49).2) k) ?_
      exact rm0_k0 hw p0 p1 p2 q3 vmC h0 n0 NF  p e s m below meth c s₁ Bd hml _ _ hS hZ hown own_strw hEL Qf hQf bs pb pm pk c0_ c1_ c2_ c3_ c4_ c5_ h_c0_ h_c1_ h_c2_ h_c3_ h_c4_ h_c5_ _ _ _  X6 e6 hk OC CR N6  
    · skip
      refine Goes.to (T' := T6.setTop (mkF m 144 (LA22 p0 p1 p2 q3 pb bs pm c0_ c1_ c2_ c3_ c4_ c5_ pk) [])) (fun t k => XS.ifYes X6.here hx rfl (pc0 := 126) (pc' := 144) rfl (hb hby at_126) rfl ((if0 _ _).trans (feq hc126_49).2) (by decide) (by decide) k) ?_
      refine Goes.to (T' := T6.setTop (mkF m 146 (LA22 p0 p1 p2 q3 pb bs pm c0_ c1_ c2_ c3_ c4_ c5_ pk) [(.int pk)])) (fun t k => XS.iload X6.here hx rfl (hb hby at_144) rfl k) ?_
      refine Goes.to (T' := T6.setTop (mkF m 147 (LA22 p0 p1 p2 q3 pb bs pm c0_ c1_ c2_ c3_ c4_ c5_ pk) [(.int (1 : Int32)), (.int pk)])) (fun t k => XS.iconst X6.here hx rfl (hb hby at_146) k) ?_
      rcases Decidable.em (pk = (1 : Int32)) with hc147_53 | hc147_53
      · skip
        refine Goes.to (T' := T6.setTop (mkF m 150 (LA22 p0 p1 p2 q3 pb bs pm c0_ c1_ c2_ c3_ c4_ c5_ pk) [])) (fun t k => XS.icmpNo X6.here hx rfl (hb hby at_147) rfl (teq hc147_53).2 k) ?_
        exact rm0_k4 hw p0 p1 p2 q3 vmC h0 n0 NF  p e s m below meth c s₁ Bd hml _ _ hS hZ hown own_strw hEL Qf hQf bs pb pm pk c0_ c1_ c2_ c3_ c4_ c5_ h_c0_ h_c1_ h_c2_ h_c3_ h_c4_ h_c5_ _ _ _  X6 e6 hk OC CR N6  
      · skip
        refine Goes.to (T' := T6.setTop (mkF m 185 (LA22 p0 p1 p2 q3 pb bs pm c0_ c1_ c2_ c3_ c4_ c5_ pk) [])) (fun t k => XS.icmpYes X6.here hx rfl (pc0 := 147) (pc' := 185) rfl (hb hby at_147) rfl (feq hc147_53).2 (by decide) (by decide) k) ?_
        refine Goes.to (T' := T6.setTop (mkF m 187 (LA22 p0 p1 p2 q3 pb bs pm c0_ c1_ c2_ c3_ c4_ c5_ pk) [(.int pk)])) (fun t k => XS.iload X6.here hx rfl (hb hby at_185) rfl k) ?_
        refine Goes.to (T' := T6.setTop (mkF m 188 (LA22 p0 p1 p2 q3 pb bs pm c0_ c1_ c2_ c3_ c4_ c5_ pk) [(.int (3 : Int32)), (.int pk)])) (fun t k => XS.iconst X6.here hx rfl (hb hby at_187) k) ?_
        rcases Decidable.em (pk = (3 : Int32)) with hc188_65 | hc188_65
        · skip
          refine Goes.to (T' := T6.setTop (mkF m 191 (LA22 p0 p1 p2 q3 pb bs pm c0_ c1_ c2_ c3_ c4_ c5_ pk) [])) (fun t k => XS.icmpNo X6.here hx rfl (hb hby at_188) rfl (teq hc188_65).2 k) ?_
          exact rm0_k6 hw p0 p1 p2 q3 vmC h0 n0 NF  p e s m below meth c s₁ Bd hml _ _ hS hZ hown own_strw hEL Qf hQf bs pb pm pk c0_ c1_ c2_ c3_ c4_ c5_ h_c0_ h_c1_ h_c2_ h_c3_ h_c4_ h_c5_ _ _ _  X6 e6 hk OC CR N6  
        · skip
          refine Goes.to (T' := T6.setTop (mkF m 237 (LA22 p0 p1 p2 q3 pb bs pm c0_ c1_ c2_ c3_ c4_ c5_ pk) [])) (fun t k => XS.icmpYes X6.here hx rfl (pc0 := 188) (pc' := 237) rfl (hb hby at_188) rfl (feq hc188_65).2 (by decide) (by decide) k) ?_
          refine Goes.to (T' := T6.setTop (mkF m 239 (LA22 p0 p1 p2 q3 pb bs pm c0_ c1_ c2_ c3_ c4_ c5_ pk) [(.int pk)])) (fun t k => XS.iload X6.here hx rfl (hb hby at_237) rfl k) ?_
          refine Goes.to (T' := T6.setTop (mkF m 240 (LA22 p0 p1 p2 q3 pb bs pm c0_ c1_ c2_ c3_ c4_ c5_ pk) [(.int (4 : Int32)), (.int pk)])) (fun t k => XS.iconst X6.here hx rfl (hb hby at_239) k) ?_
          rcases Decidable.em (pk = (4 : Int32)) with hc240_81 | hc240_81
          · skip
            refine Goes.to (T' := T6.setTop (mkF m 243 (LA22 p0 p1 p2 q3 pb bs pm c0_ c1_ c2_ c3_ c4_ c5_ pk) [])) (fun t k => XS.icmpNo X6.here hx rfl (hb hby at_240) rfl (teq hc240_81).2 k) ?_
            refine Goes.to (T' := T6.setTop (mkF m 244 (LA22 p0 p1 p2 q3 pb bs pm c0_ c1_ c2_ c3_ c4_ c5_ pk) [.null])) (fun t k => XS.aconstNull X6.here hx rfl (hb hby at_243) k) ?_
            refine Goes.to (T' := T6.setTop (mkF m 246 (LA14 p0 p1 p2 q3 pb bs pm c0_ c1_ c2_ c3_ c4_ c5_ pk) [])) (fun t k => XS.astore X6.here hx rfl (hb hby at_244) rfl rfl (l' := (LA14 p0 p1 p2 q3 pb bs pm c0_ c1_ c2_ c3_ c4_ c5_ pk)) rfl k) ?_
            refine Goes.to (T' := T6.setTop (mkF m 286 (LA14 p0 p1 p2 q3 pb bs pm c0_ c1_ c2_ c3_ c4_ c5_ pk) [])) (fun t k => XS.goto X6.here hx rfl (pc0 := 246) (pc' := 286) rfl (hb hby at_246) (by decide) (by decide) k) ?_
            exact rm0_T0 hw p0 p1 p2 q3 vmC h0 n0 NF  p e s m below meth c s₁ Bd hml _ _ hS hZ hown own_strw hEL Qf hQf bs pb pm pk c0_ c1_ c2_ c3_ c4_ c5_ _ _ _  (Stand.mono X6 (by decide) (by decide)) e6 hk OC CR N6  
          · skip
            refine Goes.to (T' := T6.setTop (mkF m 249 (LA22 p0 p1 p2 q3 pb bs pm c0_ c1_ c2_ c3_ c4_ c5_ pk) [])) (fun t k => XS.icmpYes X6.here hx rfl (pc0 := 240) (pc' := 249) rfl (hb hby at_240) rfl (feq hc240_81).2 (by decide) (by decide) k) ?_
            exact rm0_k5 hw p0 p1 p2 q3 vmC h0 n0 NF  p e s m below meth c s₁ Bd hml _ _ hS hZ hown own_strw hEL Qf hQf bs pb pm pk c0_ c1_ c2_ c3_ c4_ c5_ h_c0_ h_c1_ h_c2_ h_c3_ h_c4_ h_c5_ _ _ _  X6 e6 hk OC CR N6  
  rcases Decidable.em ((((p2.toUInt32 >>> ((5 : Int32) &&& 31).toUInt32).toInt32) &&& (1 : Int32)) = (0 : Int32)) with hc38_95 | hc38_95
  · skip
    refine Goes.to (T' := TC.setTop (mkF m 41 (LA6 p0 p1 p2 q3 pb bs) [])) (fun t k => XS.ifNo XC.here hx rfl (hb hby at_38) rfl ((if0 _ _).trans (teq hc38_95).2) k) ?_
    refine Goes.to (T' := TC.setTop (mkF m 42 (LA6 p0 p1 p2 q3 pb bs) [(.int (0 : Int32))])) (fun t k => XS.iconst XC.here hx rfl (hb hby at_41) k) ?_
    refine Goes.to (T' := TC.setTop (mkF m 49 (LA6 p0 p1 p2 q3 pb bs) [(.int (0 : Int32))])) (fun t k => XS.goto XC.here hx rfl (pc0 := 42) (pc' := 49) rfl (hb hby at_42) (by decide) (by decide) k) ?_
    exact J49 _ _ (0 : Int32) XC eC NC 
  · skip
    refine Goes.to (T' := TC.setTop (mkF m 45 (LA6 p0 p1 p2 q3 pb bs) [])) (fun t k => XS.ifYes XC.here hx rfl (pc0 := 38) (pc' := 45) rfl (hb hby at_38) rfl ((if0 _ _).trans (feq hc38_95).2) (by decide) (by decide) k) ?_
    refine Goes.to (T' := TC.setTop (mkF m 46 (LA6 p0 p1 p2 q3 pb bs) [(.int p2)])) (fun t k => XS.iloadN XC.here hx rfl (hb hby at_45) rfl k) ?_
    refine Goes.to (T' := TC.setTop (mkF m 48 (LA6 p0 p1 p2 q3 pb bs) [(.int (31 : Int32)), (.int p2)])) (fun t k => XS.bipush XC.here hx rfl (hb hby at_46) k) ?_
    refine Goes.to (T' := TC.setTop (mkF m 49 (LA6 p0 p1 p2 q3 pb bs) [(.int (p2 &&& (31 : Int32)))])) (fun t k => XS.iand XC.here hx rfl (hb hby at_48) rfl k) ?_
    exact J49 _ _ (p2 &&& (31 : Int32)) XC eC NC 
theorem pn_0 : plainName "com/example/issuer/issuer/blocklist/EntryKindOfListPinLaw" = true := by first | (simp [plainName, overriddenIn]; done) | decide +kernel
theorem ef_rm0 (m : MethodId) (x0 : Int32) (x1 : Int32) (x2 : Int32) (x3 : Int64) : entryFrame m #[(.int x0), (.int x1), (.int x2), (.long x3)] maxLocals = mkF m 0 #[.val (.int x0), .val (.int x1), .val (.int x2), .val (.long x3), .second, .unset, .unset, .unset, .unset, .unset, .unset, .unset, .unset, .unset, .unset, .unset, .unset, .unset] [] := by first | (simp [entryFrame, mkF, argsToLocals, Value.category, maxLocals]; done) | rfl
theorem rm0 (hw : HW a0 Z) (p0 : Int32) (p1 : Int32) (p2 : Int32) (q3 : Int64) (vmC : Vm) (h0 : Heap) (n0 : Nat) (O0 : Old Z n0 h0) (NF : Nar Z w6 w7 w8 w9 w3 w0 w4 w1 w5 w2 k_w6 k_w0 k_w1 k_w2 z_cs fm) :
    MetFree l x (head1 (Jvm.Cond.code x code maxLocals ret :: ws) room_1) (fun a U => a = #[(.int p0), (.int p1), (.int p2), (.long q3)] ∧ Z.Warmed39 U.vm ∧ U.heap = h0 ∧ CHr Z consts_1 vmC h0 U.vm h0) (fun _ _ _ _ _ => True) (fun _ U o U' => ∃ v L, o = .returned v ∧ Q_rm0  h0 n0 v U'.heap L ∧ ReturnedEndW U o U' L room_1.cells room_1.slots) := by
  refine MetFree.of_bodySF (plainFor_of_name pn_0) hisR ?_
  intro p e s m args below meth c s₁ Bd hml0 hP hK
  obtain ⟨rfl, hZ, hh, hCR⟩ := hP
  have hx := Bd.exec
  have hby := Bd.bytes
  have hml : c.maxLocals = 18 := hml0
  have hown : s.vm.findClass "com/example/issuer/issuer/blocklist/EntryKindOfListPinLaw" = some m.cls := findClass_of_methodNamed Bd.named
  have hnm := (name_of_methodNamed Bd.named Bd.method).1
  have X0 : Stand p l e room_1 (s.setVm s.vm) m #[(.int p0), (.int p1), (.int p2), (.long q3)] below meth c s₁ [] 0 0 := Stand.of_body Bd
  have e0 : s₁.heap = h0 := by rw [← hh, Bd.state]; rfl
  have N0 := Fr.nil n0
  have hZ : Z.Warmed39 (s.setVm s.vm).vm := hZ
  have hown : (s.setVm s.vm).vm.findClass "com/example/issuer/issuer/blocklist/EntryKindOfListPinLaw" = some m.cls := hown
  have hS : s.Since s.vm h0.size := (State.WarmedH.refl s).since _
  have hk : h0.size ≤ h0.size := Nat.le_refl _
  have own_strw : ∀ a ∈ Bundle.stringAtoms, a.before a0 Z = true := fun d hd => hw d ((by decide +kernel : ∀ d ∈ Bundle.stringAtoms, d ∈ tables_1) d hd)
  have hEL : EW Z a0 consts_1 := (EW.cons (wi hw 1 rfl) (by decide) (EW.cons (wi hw 95 rfl) (by decide) (EW.cons (wi hw 96 rfl) (by decide) (EW.cons (wi hw 100 rfl) (by decide) EW.nil))))
  have CR : CHr Z consts_1 s.vm h0 s.vm h0 := CHr.refl hCR.1
  suffices G : ∀ (Qf : Outcome → State → Prop), Qf = (fun (_ : Array Value) (U : State) (o : Outcome) (U' : State) => ∃ v L, o = .returned v ∧ Q_rm0  h0 n0 v U'.heap L ∧ ReturnedEndW U o U' L room_1.cells room_1.slots) #[] s → Goes p.tables e below Qf (s₁.setTop (mkF m 0 #[.val (.int p0), .val (.int p1), .val (.int p2), .val (.long q3), .second, .unset, .unset, .unset, .unset, .unset, .unset, .unset, .unset, .unset, .unset, .unset, .unset, .unset] [])) by
    obtain ⟨s₂, o, g1, g2, g3, g4⟩ := G _ rfl
    exact ⟨s₂, o, castTop (ef_rm0 m _ _ _ _) g1, g2, g3, g4⟩
  intro Qf hQf
  obtain ⟨S_w6, E_w6, S_w7, E_w7, S_w8, E_w8, S_w9, E_w9, F_listName_w7, E_w3, F_value_w3, F_listName_w8, E_w4, F_value_w4, F_listName_w9, E_w5, F_value_w5, F_coder_w3, F_coder_w4, F_coder_w5, V_w6, V_w0, V_w1, V_w2, S_cs, nz_cs, S_fm, rf⟩ := id NF
  refine Goes.to (T' := s₁.setTop (mkF m 1 (LA4 p0 p1 p2 q3) [(.int p0)])) (fun t k => XS.iloadN X0.here hx rfl (hb hby at_0) rfl k) ?_
  refine Goes.to (T' := s₁.setTop (mkF m 3 (LA4 p0 p1 p2 q3) [(.int (2147483647 : Int32)), (.int p0)])) (X0.ldcInt hx hown (mvT hZ (wi hw 0 rfl)) (g := (mkF m 1 (LA4 p0 p1 p2 q3) [(.int p0)])) rfl (hb hby at_1)) ?_
  refine Goes.to (T' := s₁.setTop (mkF m 4 (LA4 p0 p1 p2 q3) [(.int (p0 &&& (2147483647 : Int32)))])) (fun t k => XS.iand X0.here hx rfl (hb hby at_3) rfl k) ?_
  refine Goes.to (T' := s₁.setTop (mkF m 5 (LA4 p0 p1 p2 q3) [(.int (3 : Int32)), (.int (p0 &&& (2147483647 : Int32)))])) (fun t k => XS.iconst X0.here hx rfl (hb hby at_4) k) ?_
  refine Goes.to (T' := s₁.setTop (mkF m 6 (LA4 p0 p1 p2 q3) [(.int ((p0 &&& (2147483647 : Int32)) % (3 : Int32)))])) (fun t k => iremM X0 hx rfl (hb hby at_5) rfl (by decide) k) ?_
  refine Goes.to (T' := s₁.setTop (mkF m 8 #[.val (.int p0), .val (.int p1), .val (.int p2), .val (.long q3), .second, .val (.int ((p0 &&& (2147483647 : Int32)) % (3 : Int32))), .unset, .unset, .unset, .unset, .unset, .unset, .unset, .unset, .unset, .unset, .unset, .unset] [])) (fun t k => XS.istore X0.here hx rfl (hb hby at_6) rfl (l' := #[.val (.int p0), .val (.int p1), .val (.int p2), .val (.long q3), .second, .val (.int ((p0 &&& (2147483647 : Int32)) % (3 : Int32))), .unset, .unset, .unset, .unset, .unset, .unset, .unset, .unset, .unset, .unset, .unset, .unset]) rfl k) ?_
  obtain ⟨pb, hpb⟩ : ∃ z : Int32, z = ((p0 &&& (2147483647 : Int32)) % (3 : Int32)) := ⟨_, rfl⟩
  rw [← hpb]
  refine Goes.to (T' := s₁.setTop (mkF m 10 (LA5 p0 p1 p2 q3 pb) [(.int pb)])) (fun t k => XS.iload X0.here hx rfl (hb hby at_8) rfl k) ?_
  rcases Decidable.em (pb = (0 : Int32)) with hc10_96 | hc10_96
  · skip
    refine Goes.to (T' := s₁.setTop (mkF m 13 (LA5 p0 p1 p2 q3 pb) [])) (fun t k => XS.ifNo X0.here hx rfl (hb hby at_10) rfl ((if0 _ _).trans (teq hc10_96).2) k) ?_
    obtain ⟨b97, T97, h97, kS97, t97, kb97, X97, e97, E97, hS, hk, hZ, hown, Ea97, Fc97, Fv97, Av97, -, -, hC97, -, hne97, st97⟩ := ldcCH X0 hx hZ hown (wi hw 1 rfl) own_strw e0 hS hk hEL (List.mem_of_getElem? (i := 0) rfl) CR.1 (vs := [(.int (99 : Int32)), (.int (97 : Int32)), (.int (114 : Int32)), (.int (100 : Int32)), (.int (115 : Int32))]) (z := 5) ⟨by decide, rfl⟩ (by decide) (by decide) (g := (mkF m 13 (LA5 p0 p1 p2 q3 pb) [])) rfl (hb hby at_13) (n := 20) (by decide) (by decide) (by decide) (by decide)
    have CR := CR.trans hC97
    have O0 := O0.ext E97
    have E_b97 : Exa Z h97 b97 "java/lang/String" := Ea97
    have F_coder_b97 : Fld Z h97 b97 "java/lang/String" "coder" "B" (.int (0 : Int32)) := Fc97
    have F_value_b97 : Fld Z h97 b97 "java/lang/String" "value" "[B" (.ref t97) := Fv97
    have V_t97 : Arv Z h97 t97 kb97 .byte (5 : Int32) [(.int (99 : Int32)), (.int (97 : Int32)), (.int (114 : Int32)), (.int (100 : Int32)), (.int (115 : Int32))] (.int (0 : Int32)) := Av97
    refine Goes.to (T' := T97.setTop (mkF m 15 (LA5 p0 p1 p2 q3 pb) [(.ref b97)])) st97 ?_
    refine Goes.to (T' := T97.setTop (mkF m 31 (LA5 p0 p1 p2 q3 pb) [(.ref b97)])) (fun t k => XS.goto X97.here hx rfl (pc0 := 15) (pc' := 31) rfl (hb hby at_15) (by decide) (by decide) k) ?_
    have E_bs := E_b97
    have F_coder_bs := F_coder_b97
    have F_value_bs := F_value_b97
    have V_bt := V_t97
    exact rm0_J31 hw p0 p1 p2 q3 vmC h0 n0 NF  p e s m below meth c s₁ Bd hml _ _ hS hZ hown own_strw hEL Qf hQf pb _ _ _ b97 t97 kb97 (99 : Int32) (97 : Int32) (114 : Int32) (100 : Int32) (115 : Int32) X97 e97 hk O0 E_bs F_coder_bs F_value_bs V_bt CR N0  
  · skip
    refine Goes.to (T' := s₁.setTop (mkF m 18 (LA5 p0 p1 p2 q3 pb) [])) (fun t k => XS.ifYes X0.here hx rfl (pc0 := 10) (pc' := 18) rfl (hb hby at_10) rfl ((if0 _ _).trans (feq hc10_96).2) (by decide) (by decide) k) ?_
    refine Goes.to (T' := s₁.setTop (mkF m 20 (LA5 p0 p1 p2 q3 pb) [(.int pb)])) (fun t k => XS.iload X0.here hx rfl (hb hby at_18) rfl k) ?_
    refine Goes.to (T' := s₁.setTop (mkF m 21 (LA5 p0 p1 p2 q3 pb) [(.int (1 : Int32)), (.int pb)])) (fun t k => XS.iconst X0.here hx rfl (hb hby at_20) k) ?_
    rcases Decidable.em (pb = (1 : Int32)) with hc21_98 | hc21_98
    · skip
      refine Goes.to (T' := s₁.setTop (mkF m 24 (LA5 p0 p1 p2 q3 pb) [])) (fun t k => XS.icmpNo X0.here hx rfl (hb hby at_21) rfl (teq hc21_98).2 k) ?_
      obtain ⟨b99, T99, h99, kS99, t99, kb99, X99, e99, E99, hS, hk, hZ, hown, Ea99, Fc99, Fv99, Av99, -, -, hC99, -, hne99, st99⟩ := ldcCH X0 hx hZ hown (wi hw 95 rfl) own_strw e0 hS hk hEL (List.mem_of_getElem? (i := 1) rfl) CR.1 (vs := [(.int (117 : Int32)), (.int (115 : Int32)), (.int (101 : Int32)), (.int (114 : Int32)), (.int (115 : Int32))]) (z := 5) ⟨by decide, rfl⟩ (by decide) (by decide) (g := (mkF m 24 (LA5 p0 p1 p2 q3 pb) [])) rfl (hb hby at_24) (n := 20) (by decide) (by decide) (by decide) (by decide)
      have CR := CR.trans hC99
      have O0 := O0.ext E99
      have E_b99 : Exa Z h99 b99 "java/lang/String" := Ea99
      have F_coder_b99 : Fld Z h99 b99 "java/lang/String" "coder" "B" (.int (0 : Int32)) := Fc99
      have F_value_b99 : Fld Z h99 b99 "java/lang/String" "value" "[B" (.ref t99) := Fv99
      have V_t99 : Arv Z h99 t99 kb99 .byte (5 : Int32) [(.int (117 : Int32)), (.int (115 : Int32)), (.int (101 : Int32)), (.int (114 : Int32)), (.int (115 : Int32))] (.int (0 : Int32)) := Av99
      refine Goes.to (T' := T99.setTop (mkF m 26 (LA5 p0 p1 p2 q3 pb) [(.ref b99)])) st99 ?_
      refine Goes.to (T' := T99.setTop (mkF m 31 (LA5 p0 p1 p2 q3 pb) [(.ref b99)])) (fun t k => XS.goto X99.here hx rfl (pc0 := 26) (pc' := 31) rfl (hb hby at_26) (by decide) (by decide) k) ?_
      have E_bs := E_b99
      have F_coder_bs := F_coder_b99
      have F_value_bs := F_value_b99
      have V_bt := V_t99
      exact rm0_J31 hw p0 p1 p2 q3 vmC h0 n0 NF  p e s m below meth c s₁ Bd hml _ _ hS hZ hown own_strw hEL Qf hQf pb _ _ _ b99 t99 kb99 (117 : Int32) (115 : Int32) (101 : Int32) (114 : Int32) (115 : Int32) X99 e99 hk O0 E_bs F_coder_bs F_value_bs V_bt CR N0  
    · skip
      refine Goes.to (T' := s₁.setTop (mkF m 29 (LA5 p0 p1 p2 q3 pb) [])) (fun t k => XS.icmpYes X0.here hx rfl (pc0 := 21) (pc' := 29) rfl (hb hby at_21) rfl (feq hc21_98).2 (by decide) (by decide) k) ?_
      obtain ⟨b100, T100, h100, kS100, t100, kb100, X100, e100, E100, hS, hk, hZ, hown, Ea100, Fc100, Fv100, Av100, -, -, hC100, -, hne100, st100⟩ := ldcCH X0 hx hZ hown (wi hw 96 rfl) own_strw e0 hS hk hEL (List.mem_of_getElem? (i := 2) rfl) CR.1 (vs := [(.int (115 : Int32)), (.int (105 : Int32)), (.int (116 : Int32)), (.int (101 : Int32)), (.int (115 : Int32))]) (z := 5) ⟨by decide, rfl⟩ (by decide) (by decide) (g := (mkF m 29 (LA5 p0 p1 p2 q3 pb) [])) rfl (hb hby at_29) (n := 20) (by decide) (by decide) (by decide) (by decide)
      have CR := CR.trans hC100
      have O0 := O0.ext E100
      have E_b100 : Exa Z h100 b100 "java/lang/String" := Ea100
      have F_coder_b100 : Fld Z h100 b100 "java/lang/String" "coder" "B" (.int (0 : Int32)) := Fc100
      have F_value_b100 : Fld Z h100 b100 "java/lang/String" "value" "[B" (.ref t100) := Fv100
      have V_t100 : Arv Z h100 t100 kb100 .byte (5 : Int32) [(.int (115 : Int32)), (.int (105 : Int32)), (.int (116 : Int32)), (.int (101 : Int32)), (.int (115 : Int32))] (.int (0 : Int32)) := Av100
      refine Goes.to (T' := T100.setTop (mkF m 31 (LA5 p0 p1 p2 q3 pb) [(.ref b100)])) st100 ?_
      have E_bs := E_b100
      have F_coder_bs := F_coder_b100
      have F_value_bs := F_value_b100
      have V_bt := V_t100
      exact rm0_J31 hw p0 p1 p2 q3 vmC h0 n0 NF  p e s m below meth c s₁ Bd hml _ _ hS hZ hown own_strw hEL Qf hQf pb _ _ _ b100 t100 kb100 (115 : Int32) (105 : Int32) (116 : Int32) (101 : Int32) (115 : Int32) X100 e100 hk O0 E_bs F_coder_bs F_value_bs V_bt CR N0  
set_option maxRecDepth 65536 in
set_option maxHeartbeats 40000000 in
theorem comes_1 {Post : Tables → Env → Array Value → State → Outcome → State → Prop} (hpost : ∀ tb e args s v u, (limb_1_1.after args s (.returned v) u = true ∧ limb_1_2.after args s (.returned v) u = true ∧ True) → ReturnedEndW s (.returned v) u (Jvm.fieldLocs frame_1_writes args s ++ Jvm.arrayLocs frame_1_arrays args s ++ Jvm.staticLocs frame_1_statics s) 24 4224 → Post tb e args s (.returned v) u) :
    ArmFor flags0 classFile x code maxLocals ret World_1 tables_1 room_1 Calls_1 rest_1 Pre_1 Post := by
  intro l hfl _ _ p e ha hc hk s m args below hf hA hF happ hP
  obtain ⟨hcalls, hrest, hpre⟩ := hP
  obtain ⟨-, -, -, hnamed, -, -, -, hat⟩ := (Spec.applies_iff hf).mp happ
  obtain ⟨hg, hn⟩ := and_e (Cond.before_iff.mp (show (Jvm.Cond.and given_1 narrow_1).before args s = true from hpre))
  obtain ⟨gc, gr0⟩ := and_e hg
  obtain ⟨w0, w1, w2, w3, rfl⟩ : ∃ w0 w1 w2 w3 : Value, args = #[w0, w1, w2, w3] := by
    have hs : args.size = 4 := by simpa [Cond.value, given_1] using gc
    obtain ⟨L⟩ := args
    match L, hs with
    | [w0, w1, w2, w3], _ => exact ⟨w0, w1, w2, w3, rfl⟩
  have hw := fun d (hd : d ∈ tables_1) => atoms_spec (ws := Jvm.Cond.code x code maxLocals ret :: tables_1) hat d (List.mem_cons_of_mem _ hd)
  have hfit : Fit s := fun {y c} hc i hi => by
    obtain ⟨ha, rfl⟩ := Array.getElem?_eq_some_iff.mp hc
    have q := List.all_eq_true.mp ((Array.all_eq_true_iff_forall_mem.mp hF) _ (Array.getElem_mem ha)) i (List.mem_range.mpr hi)
    simpa [Array.getElem?_eq_getElem hi] using q
  obtain ⟨gv0, gr1⟩ := and_e gr0
  obtain ⟨i0, ei0⟩ := is_v gv0
  obtain rfl : w0 = (.int i0) := Option.some.inj ei0
  obtain ⟨gv1, gr2⟩ := and_e gr1
  obtain ⟨i1, ei1⟩ := is_v gv1
  obtain rfl : w1 = (.int i1) := Option.some.inj ei1
  obtain ⟨gv2, gr3⟩ := and_e gr2
  obtain ⟨i2, ei2⟩ := is_v gv2
  obtain rfl : w2 = (.int i2) := Option.some.inj ei2
  obtain ⟨i3, ei3⟩ := isL_v gr3
  obtain rfl : w3 = (.long i3) := Option.some.inj ei3
  have hsets := (atoms_of jdkStatics_1 (show (jdkStatics_1.foldr Cond.and restOwn_1).before _ s = true from by rw [← rest_1_c_eq]; exact hrest)).1
  obtain ⟨nl1, nr1⟩ := and_e hn
  obtain ⟨nl2, nr2⟩ := and_e nr1
  obtain ⟨nl3, nr3⟩ := and_e nr2
  obtain ⟨nl4, nr4⟩ := and_e nr3
  obtain ⟨nl5, nr5⟩ := and_e nr4
  obtain ⟨nl6, nr6⟩ := and_e nr5
  obtain ⟨nl7, nr7⟩ := and_e nr6
  obtain ⟨nl8, nr8⟩ := and_e nr7
  obtain ⟨nl9, nr9⟩ := and_e nr8
  obtain ⟨nl10, nr10⟩ := and_e nr9
  obtain ⟨nl11, nr11⟩ := and_e nr10
  obtain ⟨nl12, nr12⟩ := and_e nr11
  obtain ⟨nl13, nr13⟩ := and_e nr12
  obtain ⟨nl14, nr14⟩ := and_e nr13
  obtain ⟨nl15, nr15⟩ := and_e nr14
  obtain ⟨nl16, nr16⟩ := and_e nr15
  obtain ⟨nl17, nr17⟩ := and_e nr16
  obtain ⟨nl18, nr18⟩ := and_e nr17
  obtain ⟨nl19, nr19⟩ := and_e nr18
  obtain ⟨nl20, nr20⟩ := and_e nr19
  obtain ⟨nl21, nr21⟩ := and_e nr20
  obtain ⟨nl22, nr22⟩ := and_e nr21
  obtain ⟨nl23, nr23⟩ := and_e nr22
  obtain ⟨nl24, nr24⟩ := and_e nr23
  obtain ⟨nl25, nr25⟩ := and_e nr24
  obtain ⟨nl26, nr26⟩ := and_e nr25
  obtain ⟨nl27, nr27⟩ := and_e nr26
  obtain ⟨nl28, nr28⟩ := and_e nr27
  obtain ⟨nl29, nr29⟩ := and_e nr28
  obtain ⟨nl30, nr30⟩ := and_e nr29
  obtain ⟨nl31, nr31⟩ := and_e nr30
  obtain ⟨nl32, nr32⟩ := and_e nr31
  obtain ⟨nl33, nr33⟩ := and_e nr32
  obtain ⟨nl34, nr34⟩ := and_e nr33
  obtain ⟨nl35, nr35⟩ := and_e nr34
  obtain ⟨w6, ev_w6⟩ := arr_v nl1
  have S_w6 : Sta s s.heap "com/example/issuer/issuer/blocklist/EntryKind" "$VALUES" "[Lcom/example/issuer/issuer/blocklist/EntryKind;" (.ref w6) := Sta.start ev_w6 (Or.inl (wi hw 80 rfl))
  have E_w6 : Exa s s.heap w6 "[Lcom/example/issuer/issuer/blocklist/EntryKind;" := Exa.start ev_w6 nl2
  obtain ⟨w7, ev_w7⟩ := exa_v nl4
  have S_w7 : Sta s s.heap "com/example/issuer/issuer/blocklist/EntryKind" "CARD" "Lcom/example/issuer/issuer/blocklist/EntryKind;" (.ref w7) := Sta.start ev_w7 (Or.inr ⟨(wi hw 63 rfl), (wi hw 77 rfl)⟩)
  have E_w7 : Exa s s.heap w7 "com/example/issuer/issuer/blocklist/EntryKind" := Exa.start ev_w7 nl4
  obtain ⟨w8, ev_w8⟩ := exa_v nl6
  have S_w8 : Sta s s.heap "com/example/issuer/issuer/blocklist/EntryKind" "USER" "Lcom/example/issuer/issuer/blocklist/EntryKind;" (.ref w8) := Sta.start ev_w8 (Or.inr ⟨(wi hw 63 rfl), (wi hw 78 rfl)⟩)
  have E_w8 : Exa s s.heap w8 "com/example/issuer/issuer/blocklist/EntryKind" := Exa.start ev_w8 nl6
  obtain ⟨w9, ev_w9⟩ := exa_v nl8
  have S_w9 : Sta s s.heap "com/example/issuer/issuer/blocklist/EntryKind" "SITE" "Lcom/example/issuer/issuer/blocklist/EntryKind;" (.ref w9) := Sta.start ev_w9 (Or.inr ⟨(wi hw 63 rfl), (wi hw 79 rfl)⟩)
  have E_w9 : Exa s s.heap w9 "com/example/issuer/issuer/blocklist/EntryKind" := Exa.start ev_w9 nl8
  obtain ⟨w3, ev_w3⟩ := exa_v nl10
  have F_listName_w7 : Fld s s.heap w7 "com/example/issuer/issuer/blocklist/EntryKind" "listName" "Ljava/lang/String;" (.ref w3) := own_fldR ev_w7 ev_w3
  have E_w3 : Exa s s.heap w3 "java/lang/String" := Exa.start ev_w3 nl10
  obtain ⟨w0, ev_w0⟩ := arr_v nl12
  have F_value_w3 : Fld s s.heap w3 "java/lang/String" "value" "[B" (.ref w0) := own_fldR ev_w3 ev_w0
  obtain ⟨w4, ev_w4⟩ := exa_v nl14
  have F_listName_w8 : Fld s s.heap w8 "com/example/issuer/issuer/blocklist/EntryKind" "listName" "Ljava/lang/String;" (.ref w4) := own_fldR ev_w8 ev_w4
  have E_w4 : Exa s s.heap w4 "java/lang/String" := Exa.start ev_w4 nl14
  obtain ⟨w1, ev_w1⟩ := arr_v nl16
  have F_value_w4 : Fld s s.heap w4 "java/lang/String" "value" "[B" (.ref w1) := own_fldR ev_w4 ev_w1
  obtain ⟨w5, ev_w5⟩ := exa_v nl18
  have F_listName_w9 : Fld s s.heap w9 "com/example/issuer/issuer/blocklist/EntryKind" "listName" "Ljava/lang/String;" (.ref w5) := own_fldR ev_w9 ev_w5
  have E_w5 : Exa s s.heap w5 "java/lang/String" := Exa.start ev_w5 nl18
  obtain ⟨w2, ev_w2⟩ := arr_v nl20
  have F_value_w5 : Fld s s.heap w5 "java/lang/String" "value" "[B" (.ref w2) := own_fldR ev_w5 ev_w2
  have F_coder_w3 : Fld s s.heap w3 "java/lang/String" "coder" "B" (.int (0 : Int32)) := own_fldI ev_w3 nl11
  have F_coder_w4 : Fld s s.heap w4 "java/lang/String" "coder" "B" (.int (0 : Int32)) := own_fldI ev_w4 nl15
  have F_coder_w5 : Fld s s.heap w5 "java/lang/String" "coder" "B" (.int (0 : Int32)) := own_fldI ev_w5 nl19
  obtain ⟨cl_w6, A_w6⟩ := Arr.start ev_w6 nl1
  have len_w6 := own_len ev_w6 A_w6 nl3
  have el0_w6 := (elem_in (own_stR nl5 ev_w7) ev_w6 rfl A_w6.1).2
  have el1_w6 := (elem_in (own_stR nl7 ev_w8) ev_w6 rfl A_w6.1).2
  have el2_w6 := (elem_in (own_stR nl9 ev_w9) ev_w6 rfl A_w6.1).2
  obtain ⟨k_w6, ek_w6⟩ : ∃ z, z = cl_w6.cls := ⟨_, rfl⟩
  have V_w6 : Arv s s.heap w6 k_w6 (.object "com/example/issuer/issuer/blocklist/EntryKind") (3 : Int32) [(.ref w7), (.ref w8), (.ref w9)] .null := ek_w6 ▸ Arv.start hfit A_w6 len_w6.1 len_w6.2 (by decide) rfl ⟨el0_w6, el1_w6, el2_w6, trivial⟩
  obtain ⟨cl_w0, A_w0⟩ := Arr.start ev_w0 nl12
  have len_w0 := own_len ev_w0 A_w0 nl13
  have el0_w0 := (elem_in (own_stI nl22) ev_w0 rfl A_w0.1).2
  have el1_w0 := (elem_in (own_stI nl23) ev_w0 rfl A_w0.1).2
  have el2_w0 := (elem_in (own_stI nl24) ev_w0 rfl A_w0.1).2
  have el3_w0 := (elem_in (own_stI nl25) ev_w0 rfl A_w0.1).2
  have el4_w0 := (elem_in (own_stI nl26) ev_w0 rfl A_w0.1).2
  obtain ⟨k_w0, ek_w0⟩ : ∃ z, z = cl_w0.cls := ⟨_, rfl⟩
  have V_w0 : Arv s s.heap w0 k_w0 .byte (5 : Int32) [(.int (99 : Int32)), (.int (97 : Int32)), (.int (114 : Int32)), (.int (100 : Int32)), (.int (115 : Int32))] (.int (0 : Int32)) := ek_w0 ▸ Arv.start hfit A_w0 len_w0.1 len_w0.2 (by decide) rfl ⟨el0_w0, el1_w0, el2_w0, el3_w0, el4_w0, trivial⟩
  obtain ⟨cl_w1, A_w1⟩ := Arr.start ev_w1 nl16
  have len_w1 := own_len ev_w1 A_w1 nl17
  have el0_w1 := (elem_in (own_stI nl27) ev_w1 rfl A_w1.1).2
  have el1_w1 := (elem_in (own_stI nl28) ev_w1 rfl A_w1.1).2
  have el2_w1 := (elem_in (own_stI nl29) ev_w1 rfl A_w1.1).2
  have el3_w1 := (elem_in (own_stI nl30) ev_w1 rfl A_w1.1).2
  have el4_w1 := (elem_in (own_stI nl31) ev_w1 rfl A_w1.1).2
  obtain ⟨k_w1, ek_w1⟩ : ∃ z, z = cl_w1.cls := ⟨_, rfl⟩
  have V_w1 : Arv s s.heap w1 k_w1 .byte (5 : Int32) [(.int (117 : Int32)), (.int (115 : Int32)), (.int (101 : Int32)), (.int (114 : Int32)), (.int (115 : Int32))] (.int (0 : Int32)) := ek_w1 ▸ Arv.start hfit A_w1 len_w1.1 len_w1.2 (by decide) rfl ⟨el0_w1, el1_w1, el2_w1, el3_w1, el4_w1, trivial⟩
  obtain ⟨cl_w2, A_w2⟩ := Arr.start ev_w2 nl20
  have len_w2 := own_len ev_w2 A_w2 nl21
  have el0_w2 := (elem_in (own_stI nl32) ev_w2 rfl A_w2.1).2
  have el1_w2 := (elem_in (own_stI nl33) ev_w2 rfl A_w2.1).2
  have el2_w2 := (elem_in (own_stI nl34) ev_w2 rfl A_w2.1).2
  have el3_w2 := (elem_in (own_stI nl35) ev_w2 rfl A_w2.1).2
  have el4_w2 := (elem_in (own_stI nr35) ev_w2 rfl A_w2.1).2
  obtain ⟨k_w2, ek_w2⟩ : ∃ z, z = cl_w2.cls := ⟨_, rfl⟩
  have V_w2 : Arv s s.heap w2 k_w2 .byte (5 : Int32) [(.int (115 : Int32)), (.int (105 : Int32)), (.int (116 : Int32)), (.int (101 : Int32)), (.int (115 : Int32))] (.int (0 : Int32)) := ek_w2 ▸ Arv.start hfit A_w2 len_w2.1 len_w2.2 (by decide) rfl ⟨el0_w2, el1_w2, el2_w2, el3_w2, el4_w2, trivial⟩
  obtain ⟨z_cs, ev_cs⟩ := is_v (Cond.before_iff.mp (hsets _ (List.mem_of_getElem? (i := 1) rfl)))
  have S_cs : Sta s s.heap "java/lang/String" "COMPACT_STRINGS" "Z" (.int z_cs) := Sta.start ev_cs (Or.inl (hsets _ (List.mem_of_getElem? (i := 0) rfl)))
  have nz_cs : ¬ z_cs = 0 := own_nz ev_cs (Cond.before_iff.mp (hsets _ (List.mem_of_getElem? (i := 2) rfl)))
  obtain ⟨fm, ev_fm, rf⟩ := isR_v (Cond.before_iff.mp (hsets _ (List.mem_of_getElem? (i := 8) rfl)))
  have S_fm : Sta s s.heap "jdk/internal/util/Preconditions" "SIOOBE_FORMATTER" "Ljava/util/function/BiFunction;" fm := Sta.start ev_fm (Or.inl (hsets _ (List.mem_of_getElem? (i := 7) rfl)))
  have HC : CHv s consts_1 s.vm s.heap := CHv.start (EW.cons (wi hw 1 rfl) (by decide) (EW.cons (wi hw 95 rfl) (by decide) (EW.cons (wi hw 96 rfl) (by decide) (EW.cons (wi hw 100 rfl) (by decide) EW.nil)))) (fun p hp c k cf i units a h1 h2 h3 h4 h5 h6 h7 h8 => hcalls.1 p hp c k cf i units a h1 h2 h3 h4 h5 h6 h7 h8) (hsets _ (List.mem_of_getElem? (i := 2) rfl)) (wi hw 4 rfl) (wi hw 3 rfl)
  obtain ⟨n, o, h1, h2, h3, _, L, rfl, ⟨rfl, N⟩, hq⟩ := rm0 (l := l) (Z := s) (ws := tables_1) hw i0 i1 i2 i3 s.vm s.heap s.heap.size (Old.start s) ⟨S_w6, E_w6, S_w7, E_w7, S_w8, E_w8, S_w9, E_w9, F_listName_w7, E_w3, F_value_w3, F_listName_w8, E_w4, F_value_w4, F_listName_w9, E_w5, F_value_w5, F_coder_w3, F_coder_w4, F_coder_w5, V_w6, V_w0, V_w1, V_w2, S_cs, nz_cs, S_fm, rf⟩ p e ha hc hk s m _ below hf ((Spec.applies_iff_loose hf).mp happ).1 ⟨rfl, State.Warmed39.refl s, rfl, CHr.refl HC⟩ trivial
  refine ⟨n, _, h1, h2, h3, hpost _ _ _ _ _ _ ⟨Cond.after_iff.mpr rfl, Cond.after_iff.mpr (eq_i res_at (Term.int_eval (1)) rfl), trivial⟩ ⟨hq.1, hq.2.1, hq.2.2.1, (hq.2.2.2.sift fun y hy => Or.inr (N y hy)).mono (by decide) (by decide)⟩⟩
theorem main_1_1 : Claimed_1_1 := comes_1 fun _ _ _ _ _ _ h hF => ⟨h.1, hF⟩
theorem main_1_2 : Claimed_1_2 := comes_1 fun _ _ _ _ _ _ h hF => ⟨h.2.1, hF⟩
end Jvm.Pilot.@@N@@
namespace Jvm.Pilot.@@N@@
open Jvm Jvm.ClassFile Sem Op Lib Jvm.Free Jvm.Stand Jvm.Pilot.@@N@@.Jvm.D
/-! MADE BY PROGRAM (witnessworld.py) out of the Statement's table words and the real class files: 22 classes; the members and pool entries that the words name. The judged class is class 1, her method 1. -/
namespace start1
open Jvm.ClassFile
def u (s : String) : CpInfo := .utf8 (stringToUtf16 s)
/-- a pool by its gaps: so many unusable entries, then the entry; so many at the end -/
def gap : Nat → List CpInfo → List CpInfo
  | 0, r => r
  | n + 1, r => .unusable :: gap n r
def poolList (es : List (Nat × CpInfo)) (last : Nat) : List CpInfo := es.foldr (fun e r => gap e.1 (e.2 :: r)) (gap last [])
def pool (es : List (Nat × CpInfo)) (last : Nat) : Array CpInfo := ⟨poolList es last⟩
def fileOf (pool : Array CpInfo) (this : Nat) (attrs : Array Attribute := #[]) (ms : Array MethodInfo := #[]) (fl : Nat := 33) (sup : Nat := 0) (ifs : Array Nat := #[]) (fds : Array FieldInfo := #[]) : ClassFile where
  minorVersion := 0
  majorVersion := 65
  constantPool := pool
  accessFlags := fl
  thisClass := this
  superClass := sup
  interfaces := ifs
  fields := fds
  methods := ms
  attributes := attrs
def plain (name : String) (sup : Option ClassId) : Class where
  name := name
  kind := .ordinary
  loader := none
  accessFlags := 33
  super := sup
  interfaces := #[]
  cf := none
  fields := #[]
  methods := #[]
  instanceTypes := #[]
  staticTypes := #[]
  resolved := #[]
  callSites := []
  init := .initialized
  statics := none
  mirror := none

def pool0 : Array CpInfo := pool [(5, u "<init>"), (0, u "()V"), (1, .class_ 10), (1, u "java/lang/Object"), (85, u "clone"), (0, u "()Ljava/lang/Object;")] 26

def k0c0 : Code := { maxStack := 0, maxLocals := 1, code := object_method_1_code, exceptionTable := #[], attributes := #[] }
def k0m0 : Method := { name := "<init>", desc := "()V", sig := { parameters := [], returnType := none }, accessFlags := 1, code := some k0c0 }
def k0m1 : Method := { name := "clone", desc := "()Ljava/lang/Object;", sig := { parameters := [], returnType := some (.object "java/lang/Object") }, accessFlags := 260, code := none }
/-- java/lang/Object -/
def k0 : Class := { plain "java/lang/Object" none with
  accessFlags := 33
  interfaces := #[]
  cf := some (fileOf pool0 8 #[] #[{ accessFlags := 1, nameIndex := 5, descriptorIndex := 6, attributes := #[] }, { accessFlags := 260, nameIndex := 96, descriptorIndex := 97, attributes := #[] }] 33 0 #[] #[])
  fields := #[]
  methods := #[k0m0, k0m1]
  instanceTypes := #[]
  staticTypes := #[]
  resolved := Array.replicate 124 none
  statics := none }

def pool1 : Array CpInfo := pool [(2, .class_ 4), (1, u "java/lang/Object"), (0, u "<init>"), (0, u "()V"), (0, .integer 2147483647), (0, .string 9), (0, u "cards"), (0, .string 11), (0, u "users"), (0, .string 13), (0, u "sites"), (0, .methodref 15 16), (0, .class_ 17), (0, .nameAndType 18 19), (0, u "com/example/issuer/issuer/blocklist/EntryKindOfListPinLaw"), (0, u "pick"), (0, u "(Ljava/lang/String;IIJ)C"), (0, .long 255), (1, .class_ 23), (0, u "java/lang/String"), (0, .methodref 22 25), (0, .nameAndType 5 26), (0, u "([C)V"), (0, .methodref 28 29), (0, .class_ 30), (0, .nameAndType 31 32), (0, u "com/example/issuer/issuer/blocklist/EntryKind"), (0, u "ofList"), (0, u "(Ljava/lang/String;)Lcom/example/issuer/issuer/blocklist/EntryKind;"), (0, .methodref 22 34), (0, .nameAndType 35 36), (0, u "equals"), (0, u "(Ljava/lang/Object;)Z"), (0, .fieldref 28 38), (0, .nameAndType 39 40), (0, u "CARD"), (0, u "Lcom/example/issuer/issuer/blocklist/EntryKind;"), (0, .fieldref 28 42), (0, .nameAndType 43 40), (0, u "USER"), (0, .fieldref 28 45), (0, .nameAndType 46 40), (0, u "SITE"), (0, .methodref 22 48), (0, .nameAndType 49 50), (0, u "charAt"), (0, u "(I)C"), (2, u "law"), (0, u "(IIIJ)Z")] 3

def k1m0 : Method := { name := "<init>", desc := "()V", sig := { parameters := [], returnType := none }, accessFlags := 1, code := none }
def k1c1 : Code := { maxStack := 6, maxLocals := 18, code := code, exceptionTable := #[], attributes := #[] }
def k1m1 : Method := { name := "law", desc := "(IIIJ)Z", sig := { parameters := [.int, .int, .int, .long], returnType := some .boolean }, accessFlags := 9, code := some k1c1 }
def k1c2 : Code := { maxStack := 4, maxLocals := 5, code := method_3_code, exceptionTable := #[], attributes := #[] }
def k1m2 : Method := { name := "pick", desc := "(Ljava/lang/String;IIJ)C", sig := { parameters := [(.object "java/lang/String"), .int, .int, .long], returnType := some .char }, accessFlags := 10, code := some k1c2 }
/-- com/example/issuer/issuer/blocklist/EntryKindOfListPinLaw -/
def k1 : Class := { plain "com/example/issuer/issuer/blocklist/EntryKindOfListPinLaw" (some 0) with
  accessFlags := 49
  interfaces := #[]
  cf := some (fileOf pool1 15 #[] #[{ accessFlags := 1, nameIndex := 5, descriptorIndex := 6, attributes := #[] }, { accessFlags := 9, nameIndex := 53, descriptorIndex := 54, attributes := #[] }, { accessFlags := 10, nameIndex := 18, descriptorIndex := 19, attributes := #[] }] 49 2 #[] #[])
  fields := #[]
  methods := #[k1m0, k1m1, k1m2]
  instanceTypes := #[]
  staticTypes := #[]
  resolved := Array.replicate 58 none
  statics := none }

def pool2 : Array CpInfo := pool [(1, .class_ 2), (0, u "java/io/Serializable"), (0, .class_ 4), (0, u "java/lang/Object")] 2

/-- java/io/Serializable -/
def k2 : Class := { plain "java/io/Serializable" (some 0) with
  accessFlags := 1537
  interfaces := #[]
  cf := some (fileOf pool2 1 #[] #[] 1537 3 #[] #[])
  fields := #[]
  methods := #[]
  instanceTypes := #[]
  staticTypes := #[]
  resolved := Array.replicate 7 none
  statics := none }

def pool3 : Array CpInfo := pool [(1, .class_ 2), (0, u "java/lang/Comparable"), (0, .class_ 4), (0, u "java/lang/Object")] 7

/-- java/lang/Comparable -/
def k3 : Class := { plain "java/lang/Comparable" (some 0) with
  accessFlags := 1537
  interfaces := #[]
  cf := some (fileOf pool3 1 #[] #[] 1537 3 #[] #[])
  fields := #[]
  methods := #[]
  instanceTypes := #[]
  staticTypes := #[]
  resolved := Array.replicate 12 none
  statics := none }

def pool4 : Array CpInfo := pool [(2, .class_ 4), (1, u "java/lang/CharSequence"), (42, .class_ 48), (0, u "java/lang/CharSequence$1CodePointIterator"), (10, .class_ 60), (0, u "java/lang/CharSequence$1CharIterator"), (5, .class_ 67), (0, u "java/lang/Object")] 63

/-- java/lang/CharSequence -/
def k4 : Class := { plain "java/lang/CharSequence" (some 0) with
  accessFlags := 1537
  interfaces := #[]
  cf := some (fileOf pool4 2 #[.nestMembers #[47, 59]] #[] 1537 66 #[] #[])
  fields := #[]
  methods := #[]
  instanceTypes := #[]
  staticTypes := #[]
  resolved := Array.replicate 131 none
  statics := none }

def pool5 : Array CpInfo := pool [(1, .class_ 2), (0, u "java/lang/constant/Constable"), (0, .class_ 4), (0, u "java/lang/Object")] 6

/-- java/lang/constant/Constable -/
def k5 : Class := { plain "java/lang/constant/Constable" (some 0) with
  accessFlags := 1537
  interfaces := #[]
  cf := some (fileOf pool5 1 #[] #[] 1537 3 #[] #[])
  fields := #[]
  methods := #[]
  instanceTypes := #[]
  staticTypes := #[]
  resolved := Array.replicate 11 none
  statics := none }

def pool6 : Array CpInfo := pool [(1, .class_ 2), (0, u "java/lang/constant/ConstantDesc"), (0, .class_ 4), (0, u "java/lang/Object")] 32

/-- java/lang/constant/ConstantDesc -/
def k6 : Class := { plain "java/lang/constant/ConstantDesc" (some 0) with
  accessFlags := 1537
  interfaces := #[]
  cf := some (fileOf pool6 1 #[] #[] 1537 3 #[] #[])
  fields := #[]
  methods := #[]
  instanceTypes := #[]
  staticTypes := #[]
  resolved := Array.replicate 37 none
  statics := none }

def pool7 : Array CpInfo := pool [(1, .methodref 2 3), (0, .class_ 4), (0, .nameAndType 5 6), (0, u "java/lang/Object"), (0, u "<init>"), (0, u "()V"), (0, .string 8), (0, u ""), (0, .fieldref 10 11), (0, .class_ 12), (0, .nameAndType 13 14), (0, u "java/lang/String"), (0, u "value"), (0, u "[B"), (0, .fieldref 10 16), (0, .nameAndType 17 18), (0, u "coder"), (0, u "B"), (2, u "hash"), (0, u "I"), (2, u "hashIsZero"), (0, u "Z"), (0, .methodref 10 28), (0, .nameAndType 5 29), (0, u "([CIILjava/lang/Void;)V"), (8, .fieldref 10 39), (0, .nameAndType 40 26), (0, u "COMPACT_STRINGS"), (1, .class_ 44), (1, u "java/lang/StringUTF16"), (0, u "compress"), (1, .methodref 42 48), (0, .nameAndType 49 50), (0, u "coderFromArrayLen"), (0, u "([BI)B"), (56, .class_ 109), (1, u "java/lang/StringLatin1"), (32, u "()Z"), (34, .methodref 42 178), (0, .nameAndType 45 179), (0, u "([CII)[B"), (183, u "([BI)C"), (27, u "(II)V"), (35, u "(I)C"), (64, .methodref 10 493), (0, .nameAndType 494 142), (0, u "isLatin1"), (0, .methodref 107 496), (0, .nameAndType 497 363), (0, u "charAt"), (3, u "checkIndex"), (39, .methodref 107 542), (0, .nameAndType 543 544), (0, u "equals"), (0, u "([B[B)Z"), (28, u "(Ljava/lang/Object;)Z"), (1, .class_ 576), (0, u "java/lang/CharSequence"), (22, u "CASE_INSENSITIVE_ORDER"), (0, u "Ljava/util/Comparator;"), (409, u "([C)V"), (42, .fieldref 1054 1055), (0, .class_ 1056), (0, .nameAndType 1057 1058), (0, u "jdk/internal/util/Preconditions"), (0, u "SIOOBE_FORMATTER"), (0, u "Ljava/util/function/BiFunction;"), (0, .methodref 1054 1060), (0, .nameAndType 501 1061), (0, u "(IILjava/util/function/BiFunction;)I"), (39, u "serialPersistentFields"), (0, u "[Ljava/io/ObjectStreamField;"), (0, .class_ 1104), (0, u "java/lang/String$CaseInsensitiveComparator"), (1, .class_ 1107), (0, u "java/io/Serializable"), (0, .class_ 1109), (0, u "java/lang/Comparable"), (0, .class_ 1111), (0, u "java/lang/constant/Constable"), (0, .class_ 1113), (0, u "java/lang/constant/ConstantDesc"), (2, u "serialVersionUID"), (0, u "J"), (3, u "REPL"), (0, u "C"), (2, u "LATIN1"), (1, u "UTF16")] 323

def k7m0 : Method := { name := "<init>", desc := "()V", sig := { parameters := [], returnType := none }, accessFlags := 1, code := none }
def k7c1 : Code := { maxStack := 5, maxLocals := 2, code := jdk_42_method_3_code, exceptionTable := #[], attributes := #[] }
def k7m1 : Method := { name := "<init>", desc := "([C)V", sig := { parameters := [(.array .char)], returnType := none }, accessFlags := 1, code := some k7c1 }
def k7c2 : Code := { maxStack := 2, maxLocals := 2, code := jdk_42_method_56_code, exceptionTable := #[], attributes := #[] }
def k7m2 : Method := { name := "charAt", desc := "(I)C", sig := { parameters := [.int], returnType := some .char }, accessFlags := 1, code := some k7c2 }
def k7c3 : Code := { maxStack := 2, maxLocals := 3, code := jdk_42_method_66_code, exceptionTable := #[], attributes := #[] }
def k7m3 : Method := { name := "equals", desc := "(Ljava/lang/Object;)Z", sig := { parameters := [(.object "java/lang/Object")], returnType := some .boolean }, accessFlags := 1, code := some k7c3 }
def k7c4 : Code := { maxStack := 4, maxLocals := 6, code := jdk_42_method_149_code, exceptionTable := #[], attributes := #[] }
def k7m4 : Method := { name := "<init>", desc := "([CIILjava/lang/Void;)V", sig := { parameters := [(.array .char), .int, .int, (.object "java/lang/Void")], returnType := none }, accessFlags := 2, code := some k7c4 }
def k7c5 : Code := { maxStack := 1, maxLocals := 1, code := jdk_42_method_154_code, exceptionTable := #[], attributes := #[] }
def k7m5 : Method := { name := "isLatin1", desc := "()Z", sig := { parameters := [], returnType := some .boolean }, accessFlags := 0, code := some k7c5 }
def k7c6 : Code := { maxStack := 3, maxLocals := 2, code := jdk_42_method_155_code, exceptionTable := #[], attributes := #[] }
def k7m6 : Method := { name := "checkIndex", desc := "(II)V", sig := { parameters := [.int, .int], returnType := none }, accessFlags := 8, code := some k7c6 }
/-- java/lang/String -/
def k7 : Class := { plain "java/lang/String" (some 0) with
  accessFlags := 49
  interfaces := #[2, 3, 4, 5, 6]
  cf := some (fileOf pool7 10 #[.nestMembers #[1103]] #[{ accessFlags := 1, nameIndex := 5, descriptorIndex := 6, attributes := #[] }, { accessFlags := 1, nameIndex := 5, descriptorIndex := 1010, attributes := #[] }, { accessFlags := 1, nameIndex := 497, descriptorIndex := 427, attributes := #[] }, { accessFlags := 1, nameIndex := 543, descriptorIndex := 573, attributes := #[] }, { accessFlags := 2, nameIndex := 5, descriptorIndex := 29, attributes := #[] }, { accessFlags := 0, nameIndex := 494, descriptorIndex := 142, attributes := #[] }, { accessFlags := 8, nameIndex := 501, descriptorIndex := 391, attributes := #[] }] 49 2 #[1106, 1108, 575, 1110, 1112] #[{ accessFlags := 18, nameIndex := 13, descriptorIndex := 14, attributes := #[] }, { accessFlags := 18, nameIndex := 17, descriptorIndex := 18, attributes := #[] }, { accessFlags := 2, nameIndex := 21, descriptorIndex := 22, attributes := #[] }, { accessFlags := 2, nameIndex := 25, descriptorIndex := 26, attributes := #[] }, { accessFlags := 26, nameIndex := 1116, descriptorIndex := 1117, attributes := #[] }, { accessFlags := 24, nameIndex := 40, descriptorIndex := 26, attributes := #[] }, { accessFlags := 26, nameIndex := 1101, descriptorIndex := 1102, attributes := #[] }, { accessFlags := 26, nameIndex := 1121, descriptorIndex := 1122, attributes := #[] }, { accessFlags := 25, nameIndex := 599, descriptorIndex := 600, attributes := #[] }, { accessFlags := 24, nameIndex := 1125, descriptorIndex := 18, attributes := #[] }, { accessFlags := 24, nameIndex := 1127, descriptorIndex := 18, attributes := #[] }])
  fields := #[{ name := "value", type := (.array .byte), accessFlags := 18, slot := 0, constantValue := 0 }, { name := "coder", type := .byte, accessFlags := 18, slot := 1, constantValue := 0 }, { name := "hash", type := .int, accessFlags := 2, slot := 2, constantValue := 0 }, { name := "hashIsZero", type := .boolean, accessFlags := 2, slot := 3, constantValue := 0 }, { name := "serialVersionUID", type := .long, accessFlags := 26, slot := 0, constantValue := 0 }, { name := "COMPACT_STRINGS", type := .boolean, accessFlags := 24, slot := 1, constantValue := 0 }, { name := "serialPersistentFields", type := (.array (.object "java/io/ObjectStreamField")), accessFlags := 26, slot := 2, constantValue := 0 }, { name := "REPL", type := .char, accessFlags := 26, slot := 3, constantValue := 0 }, { name := "CASE_INSENSITIVE_ORDER", type := (.object "java/util/Comparator"), accessFlags := 25, slot := 4, constantValue := 0 }, { name := "LATIN1", type := .byte, accessFlags := 24, slot := 5, constantValue := 0 }, { name := "UTF16", type := .byte, accessFlags := 24, slot := 6, constantValue := 0 }]
  methods := #[k7m0, k7m1, k7m2, k7m3, k7m4, k7m5, k7m6]
  instanceTypes := #[(.array .byte), .byte, .int, .boolean]
  staticTypes := #[.long, .boolean, (.array (.object "java/io/ObjectStreamField")), .char, (.object "java/util/Comparator"), .byte, .byte]
  resolved := Array.replicate 1451 none
  statics := some 0 }

def pool8 : Array CpInfo := pool [(1, .class_ 2), (0, u "java/lang/String"), (1, .class_ 6), (1, u "java/lang/Object"), (0, u "<init>"), (0, u "()V"), (0, .methodref 1 10), (0, .nameAndType 11 12), (0, u "checkIndex"), (0, u "(II)V"), (1, .class_ 16), (1, u "java/lang/StringLatin1"), (36, u "([BI)C"), (67, u "$assertionsDisabled"), (0, u "Z"), (98, .class_ 223), (1, u "java/lang/StringLatin1$LinesSpliterator"), (28, u "charAt"), (28, u "equals"), (0, u "([B[B)Z"), (107, .class_ 391), (0, u "java/lang/StringLatin1$CharsSpliterator")] 3

def k8m0 : Method := { name := "<init>", desc := "()V", sig := { parameters := [], returnType := none }, accessFlags := 0, code := none }
def k8c1 : Code := { maxStack := 2, maxLocals := 2, code := jdk_43_method_2_code, exceptionTable := #[], attributes := #[] }
def k8m1 : Method := { name := "charAt", desc := "([BI)C", sig := { parameters := [(.array .byte), .int], returnType := some .char }, accessFlags := 9, code := some k8c1 }
def k8c2 : Code := { maxStack := 3, maxLocals := 3, code := jdk_43_method_13_code, exceptionTable := #[], attributes := #[] }
def k8m2 : Method := { name := "equals", desc := "([B[B)Z", sig := { parameters := [(.array .byte), (.array .byte)], returnType := some .boolean }, accessFlags := 9, code := some k8c2 }
/-- java/lang/StringLatin1 -/
def k8 : Class := { plain "java/lang/StringLatin1" (some 0) with
  accessFlags := 48
  interfaces := #[]
  cf := some (fileOf pool8 14 #[.nestMembers #[390, 221]] #[{ accessFlags := 0, nameIndex := 7, descriptorIndex := 8, attributes := #[] }, { accessFlags := 9, nameIndex := 252, descriptorIndex := 53, attributes := #[] }, { accessFlags := 9, nameIndex := 281, descriptorIndex := 282, attributes := #[] }] 48 4 #[] #[{ accessFlags := 4120, nameIndex := 121, descriptorIndex := 122, attributes := #[] }])
  fields := #[{ name := "$assertionsDisabled", type := .boolean, accessFlags := 4120, slot := 0, constantValue := 0 }]
  methods := #[k8m0, k8m1, k8m2]
  instanceTypes := #[]
  staticTypes := #[.boolean]
  resolved := Array.replicate 395 none
  statics := none }

def pool9 : Array CpInfo := pool [(2, .class_ 4), (1, u "java/lang/Object"), (0, u "<init>"), (0, u "()V"), (17, .class_ 26), (1, u "jdk/internal/util/Preconditions"), (6, u "checkIndex"), (21, .class_ 56), (0, u "jdk/internal/util/Preconditions$4"), (57, .class_ 115), (0, u "jdk/internal/util/Preconditions$1"), (7, u "SIOOBE_FORMATTER"), (0, u "Ljava/util/function/BiFunction;"), (0, .class_ 126), (0, u "jdk/internal/util/Preconditions$2"), (3, u "AIOOBE_FORMATTER"), (0, .class_ 132), (0, u "jdk/internal/util/Preconditions$3"), (3, u "IOOBE_FORMATTER"), (41, u "(IILjava/util/function/BiFunction;)I")] 15

def k9m0 : Method := { name := "<init>", desc := "()V", sig := { parameters := [], returnType := none }, accessFlags := 1, code := none }
def k9c1 : Code := { maxStack := 3, maxLocals := 3, code := jdk_41_method_11_code, exceptionTable := #[], attributes := #[] }
def k9m1 : Method := { name := "checkIndex", desc := "(IILjava/util/function/BiFunction;)I", sig := { parameters := [.int, .int, (.object "java/util/function/BiFunction")], returnType := some .int }, accessFlags := 9, code := some k9c1 }
/-- jdk/internal/util/Preconditions -/
def k9 : Class := { plain "jdk/internal/util/Preconditions" (some 0) with
  accessFlags := 33
  interfaces := #[]
  cf := some (fileOf pool9 24 #[.nestMembers #[55, 131, 125, 114]] #[{ accessFlags := 1, nameIndex := 5, descriptorIndex := 6, attributes := #[] }, { accessFlags := 9, nameIndex := 33, descriptorIndex := 178, attributes := #[] }] 33 2 #[] #[{ accessFlags := 25, nameIndex := 123, descriptorIndex := 124, attributes := #[] }, { accessFlags := 25, nameIndex := 130, descriptorIndex := 124, attributes := #[] }, { accessFlags := 25, nameIndex := 136, descriptorIndex := 124, attributes := #[] }])
  fields := #[{ name := "SIOOBE_FORMATTER", type := (.object "java/util/function/BiFunction"), accessFlags := 25, slot := 0, constantValue := 0 }, { name := "AIOOBE_FORMATTER", type := (.object "java/util/function/BiFunction"), accessFlags := 25, slot := 1, constantValue := 0 }, { name := "IOOBE_FORMATTER", type := (.object "java/util/function/BiFunction"), accessFlags := 25, slot := 2, constantValue := 0 }]
  methods := #[k9m0, k9m1]
  instanceTypes := #[]
  staticTypes := #[(.object "java/util/function/BiFunction"), (.object "java/util/function/BiFunction"), (.object "java/util/function/BiFunction")]
  resolved := Array.replicate 194 none
  statics := some 1 }

def pool10 : Array CpInfo := pool [(6, .class_ 8), (1, u "java/lang/Object"), (0, u "<init>"), (0, u "()V"), (1, .class_ 14), (1, u "java/lang/StringUTF16"), (31, u "$assertionsDisabled"), (0, u "Z"), (13, u "HI_BYTE_SHIFT"), (0, u "I"), (2, u "LO_BYTE_SHIFT"), (49, .methodref 12 116), (0, .nameAndType 117 118), (0, u "compress"), (0, u "([CI[BII)I"), (3, u "([CII)[B"), (138, u "coderFromArrayLen"), (0, u "([BI)B"), (106, .class_ 371), (1, u "java/lang/StringUTF16$LinesSpliterator"), (58, u "MAX_LENGTH"), (196, .class_ 628), (0, u "java/lang/StringUTF16$CodePointsSpliterator"), (0, .class_ 630), (0, u "java/lang/StringUTF16$CharsSpliterator")] 4

def k10m0 : Method := { name := "<init>", desc := "()V", sig := { parameters := [], returnType := none }, accessFlags := 0, code := none }
def k10c1 : Code := { maxStack := 2, maxLocals := 2, code := jdk_52_method_15_code, exceptionTable := #[], attributes := #[] }
def k10m1 : Method := { name := "coderFromArrayLen", desc := "([BI)B", sig := { parameters := [(.array .byte), .int], returnType := some .byte }, accessFlags := 8, code := some k10c1 }
def k10c2 : Code := { maxStack := 5, maxLocals := 6, code := jdk_52_method_16_code, exceptionTable := #[], attributes := #[] }
def k10m2 : Method := { name := "compress", desc := "([CII)[B", sig := { parameters := [(.array .char), .int, .int], returnType := some (.array .byte) }, accessFlags := 9, code := some k10c2 }
def k10c3 : Code := { maxStack := 3, maxLocals := 7, code := jdk_52_method_21_code, exceptionTable := #[], attributes := #[] }
def k10m3 : Method := { name := "compress", desc := "([CI[BII)I", sig := { parameters := [(.array .char), .int, (.array .byte), .int, .int], returnType := some .int }, accessFlags := 9, code := some k10c3 }
/-- java/lang/StringUTF16 -/
def k10 : Class := { plain "java/lang/StringUTF16" (some 0) with
  accessFlags := 48
  interfaces := #[]
  cf := some (fileOf pool10 12 #[.nestMembers #[627, 629, 369]] #[{ accessFlags := 0, nameIndex := 9, descriptorIndex := 10, attributes := #[] }, { accessFlags := 8, nameIndex := 261, descriptorIndex := 262, attributes := #[] }, { accessFlags := 9, nameIndex := 117, descriptorIndex := 122, attributes := #[] }, { accessFlags := 9, nameIndex := 117, descriptorIndex := 118, attributes := #[] }] 48 6 #[] #[{ accessFlags := 26, nameIndex := 61, descriptorIndex := 62, attributes := #[] }, { accessFlags := 26, nameIndex := 65, descriptorIndex := 62, attributes := #[] }, { accessFlags := 24, nameIndex := 430, descriptorIndex := 62, attributes := #[] }, { accessFlags := 4120, nameIndex := 46, descriptorIndex := 47, attributes := #[] }])
  fields := #[{ name := "HI_BYTE_SHIFT", type := .int, accessFlags := 26, slot := 0, constantValue := 0 }, { name := "LO_BYTE_SHIFT", type := .int, accessFlags := 26, slot := 1, constantValue := 0 }, { name := "MAX_LENGTH", type := .int, accessFlags := 24, slot := 2, constantValue := 0 }, { name := "$assertionsDisabled", type := .boolean, accessFlags := 4120, slot := 3, constantValue := 0 }]
  methods := #[k10m0, k10m1, k10m2, k10m3]
  instanceTypes := #[]
  staticTypes := #[.int, .int, .int, .boolean]
  resolved := Array.replicate 635 none
  statics := none }

def pool11 : Array CpInfo := pool [(2, .class_ 4), (1, u "java/lang/Enum"), (0, u "name"), (0, u "Ljava/lang/String;"), (2, u "ordinal"), (0, u "I"), (1, .class_ 14), (1, u "java/lang/Object"), (4, u "hash"), (86, .class_ 108), (1, u "java/lang/Enum$EnumDesc"), (2, .class_ 112), (0, u "java/lang/constant/Constable"), (0, .class_ 114), (0, u "java/lang/Comparable"), (0, .class_ 116), (0, u "java/io/Serializable")] 87

/-- java/lang/Enum -/
def k11 : Class := { plain "java/lang/Enum" (some 0) with
  accessFlags := 1057
  interfaces := #[5, 3, 2]
  cf := some (fileOf pool11 2 #[.nestMembers #[106]] #[] 1057 12 #[111, 113, 115] #[{ accessFlags := 18, nameIndex := 5, descriptorIndex := 6, attributes := #[] }, { accessFlags := 18, nameIndex := 9, descriptorIndex := 10, attributes := #[] }, { accessFlags := 2, nameIndex := 19, descriptorIndex := 10, attributes := #[] }])
  fields := #[{ name := "name", type := (.object "java/lang/String"), accessFlags := 18, slot := 0, constantValue := 0 }, { name := "ordinal", type := .int, accessFlags := 18, slot := 1, constantValue := 0 }, { name := "hash", type := .int, accessFlags := 2, slot := 2, constantValue := 0 }]
  methods := #[]
  instanceTypes := #[(.object "java/lang/String"), .int, .int]
  staticTypes := #[]
  resolved := Array.replicate 204 none
  statics := none }

def pool12 : Array CpInfo := pool [(1, .class_ 2), (0, u "com/example/issuer/issuer/blocklist/EntryKind"), (2, u "CARD"), (0, u "Lcom/example/issuer/issuer/blocklist/EntryKind;"), (2, u "USER"), (2, u "SITE"), (0, .fieldref 1 14), (0, .nameAndType 15 16), (0, u "$VALUES"), (0, u "[Lcom/example/issuer/issuer/blocklist/EntryKind;"), (0, .methodref 18 19), (0, .class_ 16), (0, .nameAndType 20 21), (0, u "clone"), (0, u "()Ljava/lang/Object;"), (1, .class_ 25), (1, u "java/lang/Enum"), (8, u "name"), (0, u "Ljava/lang/String;"), (0, .fieldref 1 37), (0, .nameAndType 38 35), (0, u "listName"), (2, u "identifier"), (0, u "Ljava/util/function/Function;"), (0, .methodref 1 44), (0, .nameAndType 45 46), (0, u "values"), (0, u "()[Lcom/example/issuer/issuer/blocklist/EntryKind;"), (0, .methodref 48 49), (0, .class_ 50), (0, .nameAndType 51 52), (0, u "java/lang/String"), (0, u "equals"), (0, u "(Ljava/lang/Object;)Z"), (38, u "(Ljava/lang/String;)Lcom/example/issuer/issuer/blocklist/EntryKind;"), (2, u "ofList")] 42

def k12c0 : Code := { maxStack := 1, maxLocals := 0, code := prog_1_method_1_code, exceptionTable := #[], attributes := #[] }
def k12m0 : Method := { name := "values", desc := "()[Lcom/example/issuer/issuer/blocklist/EntryKind;", sig := { parameters := [], returnType := some (.array (.object "com/example/issuer/issuer/blocklist/EntryKind")) }, accessFlags := 9, code := some k12c0 }
def k12c1 : Code := { maxStack := 2, maxLocals := 5, code := prog_1_method_4_code, exceptionTable := #[], attributes := #[] }
def k12m1 : Method := { name := "ofList", desc := "(Ljava/lang/String;)Lcom/example/issuer/issuer/blocklist/EntryKind;", sig := { parameters := [(.object "java/lang/String")], returnType := some (.object "com/example/issuer/issuer/blocklist/EntryKind") }, accessFlags := 9, code := some k12c1 }
/-- com/example/issuer/issuer/blocklist/EntryKind -/
def k12 : Class := { plain "com/example/issuer/issuer/blocklist/EntryKind" (some 11) with
  accessFlags := 16433
  interfaces := #[]
  cf := some (fileOf pool12 1 #[] #[{ accessFlags := 9, nameIndex := 45, descriptorIndex := 46, attributes := #[] }, { accessFlags := 9, nameIndex := 94, descriptorIndex := 91, attributes := #[] }] 16433 23 #[] #[{ accessFlags := 16409, nameIndex := 5, descriptorIndex := 6, attributes := #[] }, { accessFlags := 16409, nameIndex := 9, descriptorIndex := 6, attributes := #[] }, { accessFlags := 16409, nameIndex := 12, descriptorIndex := 6, attributes := #[] }, { accessFlags := 18, nameIndex := 34, descriptorIndex := 35, attributes := #[] }, { accessFlags := 18, nameIndex := 38, descriptorIndex := 35, attributes := #[] }, { accessFlags := 18, nameIndex := 41, descriptorIndex := 42, attributes := #[] }, { accessFlags := 4122, nameIndex := 15, descriptorIndex := 16, attributes := #[] }])
  fields := #[{ name := "CARD", type := (.object "com/example/issuer/issuer/blocklist/EntryKind"), accessFlags := 16409, slot := 0, constantValue := 0 }, { name := "USER", type := (.object "com/example/issuer/issuer/blocklist/EntryKind"), accessFlags := 16409, slot := 1, constantValue := 0 }, { name := "SITE", type := (.object "com/example/issuer/issuer/blocklist/EntryKind"), accessFlags := 16409, slot := 2, constantValue := 0 }, { name := "name", type := (.object "java/lang/String"), accessFlags := 18, slot := 3, constantValue := 0 }, { name := "listName", type := (.object "java/lang/String"), accessFlags := 18, slot := 4, constantValue := 0 }, { name := "identifier", type := (.object "java/util/function/Function"), accessFlags := 18, slot := 5, constantValue := 0 }, { name := "$VALUES", type := (.array (.object "com/example/issuer/issuer/blocklist/EntryKind")), accessFlags := 4122, slot := 3, constantValue := 0 }]
  methods := #[k12m0, k12m1]
  instanceTypes := #[(.object "java/lang/String"), .int, .int, (.object "java/lang/String"), (.object "java/lang/String"), (.object "java/util/function/Function")]
  staticTypes := #[(.object "com/example/issuer/issuer/blocklist/EntryKind"), (.object "com/example/issuer/issuer/blocklist/EntryKind"), (.object "com/example/issuer/issuer/blocklist/EntryKind"), (.array (.object "com/example/issuer/issuer/blocklist/EntryKind"))]
  resolved := Array.replicate 137 none
  statics := some 2 }

def pool13 : Array CpInfo := pool [(1, .class_ 2), (0, u "java/lang/Cloneable"), (0, .class_ 4), (0, u "java/lang/Object")] 2

/-- java/lang/Cloneable -/
def k13 : Class := { plain "java/lang/Cloneable" (some 0) with
  accessFlags := 1537
  interfaces := #[]
  cf := some (fileOf pool13 1 #[] #[] 1537 3 #[] #[])
  fields := #[]
  methods := #[]
  instanceTypes := #[]
  staticTypes := #[]
  resolved := Array.replicate 7 none
  statics := none }

def pool14 : Array CpInfo := pool [(9, u "<init>"), (6, .class_ 18), (1, u "java/lang/Object"), (0, u "()V"), (1, .class_ 23), (1, u "jdk/internal/util/ArraysSupport"), (0, u "LOG2_ARRAY_LONG_INDEX_SCALE"), (0, u "I"), (2, u "U"), (0, u "Ljdk/internal/misc/Unsafe;"), (8, u "BIG_ENDIAN"), (0, u "Z"), (8, u "LOG2_BYTE_BIT_SIZE"), (4, u "LOG2_ARRAY_INT_INDEX_SCALE"), (54, u "JLA"), (0, u "Ljdk/internal/access/JavaLangAccess;"), (11, u "LOG2_ARRAY_BOOLEAN_INDEX_SCALE"), (9, u "LOG2_ARRAY_BYTE_INDEX_SCALE"), (5, u "LOG2_ARRAY_CHAR_INDEX_SCALE"), (5, u "LOG2_ARRAY_SHORT_INDEX_SCALE"), (18, u "LOG2_ARRAY_FLOAT_INDEX_SCALE"), (24, u "LOG2_ARRAY_DOUBLE_INDEX_SCALE"), (89, u "T_BOOLEAN"), (2, u "T_CHAR"), (1, u "T_FLOAT"), (1, u "T_DOUBLE"), (1, u "T_BYTE"), (1, u "T_SHORT"), (1, u "T_INT"), (1, u "T_LONG"), (1, u "SOFT_MAX_ARRAY_LENGTH")] 83

def k14m0 : Method := { name := "<init>", desc := "()V", sig := { parameters := [], returnType := none }, accessFlags := 2, code := none }
/-- jdk/internal/util/ArraysSupport -/
def k14 : Class := { plain "jdk/internal/util/ArraysSupport" (some 0) with
  accessFlags := 33
  interfaces := #[]
  cf := some (fileOf pool14 21 #[] #[{ accessFlags := 2, nameIndex := 9, descriptorIndex := 19, attributes := #[] }] 33 16 #[] #[{ accessFlags := 24, nameIndex := 28, descriptorIndex := 29, attributes := #[] }, { accessFlags := 26, nameIndex := 38, descriptorIndex := 39, attributes := #[] }, { accessFlags := 25, nameIndex := 121, descriptorIndex := 25, attributes := #[] }, { accessFlags := 25, nameIndex := 131, descriptorIndex := 25, attributes := #[] }, { accessFlags := 25, nameIndex := 137, descriptorIndex := 25, attributes := #[] }, { accessFlags := 25, nameIndex := 143, descriptorIndex := 25, attributes := #[] }, { accessFlags := 25, nameIndex := 53, descriptorIndex := 25, attributes := #[] }, { accessFlags := 25, nameIndex := 24, descriptorIndex := 25, attributes := #[] }, { accessFlags := 25, nameIndex := 162, descriptorIndex := 25, attributes := #[] }, { accessFlags := 25, nameIndex := 187, descriptorIndex := 25, attributes := #[] }, { accessFlags := 26, nameIndex := 48, descriptorIndex := 25, attributes := #[] }, { accessFlags := 25, nameIndex := 277, descriptorIndex := 25, attributes := #[] }, { accessFlags := 25, nameIndex := 280, descriptorIndex := 25, attributes := #[] }, { accessFlags := 25, nameIndex := 282, descriptorIndex := 25, attributes := #[] }, { accessFlags := 25, nameIndex := 284, descriptorIndex := 25, attributes := #[] }, { accessFlags := 25, nameIndex := 286, descriptorIndex := 25, attributes := #[] }, { accessFlags := 25, nameIndex := 288, descriptorIndex := 25, attributes := #[] }, { accessFlags := 25, nameIndex := 290, descriptorIndex := 25, attributes := #[] }, { accessFlags := 25, nameIndex := 292, descriptorIndex := 25, attributes := #[] }, { accessFlags := 26, nameIndex := 108, descriptorIndex := 109, attributes := #[] }, { accessFlags := 25, nameIndex := 294, descriptorIndex := 25, attributes := #[] }])
  fields := #[{ name := "U", type := (.object "jdk/internal/misc/Unsafe"), accessFlags := 24, slot := 0, constantValue := 0 }, { name := "BIG_ENDIAN", type := .boolean, accessFlags := 26, slot := 1, constantValue := 0 }, { name := "LOG2_ARRAY_BOOLEAN_INDEX_SCALE", type := .int, accessFlags := 25, slot := 2, constantValue := 0 }, { name := "LOG2_ARRAY_BYTE_INDEX_SCALE", type := .int, accessFlags := 25, slot := 3, constantValue := 0 }, { name := "LOG2_ARRAY_CHAR_INDEX_SCALE", type := .int, accessFlags := 25, slot := 4, constantValue := 0 }, { name := "LOG2_ARRAY_SHORT_INDEX_SCALE", type := .int, accessFlags := 25, slot := 5, constantValue := 0 }, { name := "LOG2_ARRAY_INT_INDEX_SCALE", type := .int, accessFlags := 25, slot := 6, constantValue := 0 }, { name := "LOG2_ARRAY_LONG_INDEX_SCALE", type := .int, accessFlags := 25, slot := 7, constantValue := 0 }, { name := "LOG2_ARRAY_FLOAT_INDEX_SCALE", type := .int, accessFlags := 25, slot := 8, constantValue := 0 }, { name := "LOG2_ARRAY_DOUBLE_INDEX_SCALE", type := .int, accessFlags := 25, slot := 9, constantValue := 0 }, { name := "LOG2_BYTE_BIT_SIZE", type := .int, accessFlags := 26, slot := 10, constantValue := 0 }, { name := "T_BOOLEAN", type := .int, accessFlags := 25, slot := 11, constantValue := 0 }, { name := "T_CHAR", type := .int, accessFlags := 25, slot := 12, constantValue := 0 }, { name := "T_FLOAT", type := .int, accessFlags := 25, slot := 13, constantValue := 0 }, { name := "T_DOUBLE", type := .int, accessFlags := 25, slot := 14, constantValue := 0 }, { name := "T_BYTE", type := .int, accessFlags := 25, slot := 15, constantValue := 0 }, { name := "T_SHORT", type := .int, accessFlags := 25, slot := 16, constantValue := 0 }, { name := "T_INT", type := .int, accessFlags := 25, slot := 17, constantValue := 0 }, { name := "T_LONG", type := .int, accessFlags := 25, slot := 18, constantValue := 0 }, { name := "JLA", type := (.object "jdk/internal/access/JavaLangAccess"), accessFlags := 26, slot := 19, constantValue := 0 }, { name := "SOFT_MAX_ARRAY_LENGTH", type := .int, accessFlags := 25, slot := 20, constantValue := 0 }]
  methods := #[k14m0]
  instanceTypes := #[]
  staticTypes := #[(.object "jdk/internal/misc/Unsafe"), .boolean, .int, .int, .int, .int, .int, .int, .int, .int, .int, .int, .int, .int, .int, .int, .int, .int, .int, (.object "jdk/internal/access/JavaLangAccess"), .int]
  resolved := Array.replicate 378 none
  statics := none }

/-- the primitive byte -/
def k15 : Class := { plain "byte" none with kind := .primitive 'B', accessFlags := 0x411 }
/-- [B -/
def k16 : Class := { plain "[B" (some 0) with kind := .array 15 .byte, interfaces := #[13, 2], accessFlags := 1041 }

/-- the primitive char -/
def k17 : Class := { plain "char" none with kind := .primitive 'C', accessFlags := 0x411 }
/-- [C -/
def k18 : Class := { plain "[C" (some 0) with kind := .array 17 .char, interfaces := #[13, 2], accessFlags := 1041 }

/-- the primitive int -/
def k19 : Class := { plain "int" none with kind := .primitive 'I', accessFlags := 0x411 }
/-- [I -/
def k20 : Class := { plain "[I" (some 0) with kind := .array 19 .int, interfaces := #[13, 2], accessFlags := 1041 }

/-- [Lcom/example/issuer/issuer/blocklist/EntryKind; -/
def k21 : Class := { plain "[Lcom/example/issuer/issuer/blocklist/EntryKind;" (some 0) with kind := .array 12 (.object "com/example/issuer/issuer/blocklist/EntryKind"), interfaces := #[13, 2], accessFlags := 1041 }

def heap : Heap := #[{ cls := 7, slots := #[.long 0, .int 1, .null, .int 0, .null, .int 0, .int 0], vm := .statics 7 },
  { cls := 9, slots := #[.null, .null, .null], vm := .statics 9 },
  { cls := 12, slots := #[.ref 4, .ref 5, .ref 6, .ref 3], vm := .statics 12 },
  { cls := 21, slots := #[.ref 4, .ref 5, .ref 6], vm := .none },
  { cls := 12, slots := #[.null, .int 0, .int 0, .null, .ref 7, .null], vm := .none },
  { cls := 12, slots := #[.null, .int 0, .int 0, .null, .ref 8, .null], vm := .none },
  { cls := 12, slots := #[.null, .int 0, .int 0, .null, .ref 9, .null], vm := .none },
  { cls := 7, slots := #[.ref 10, .int 0, .int 0, .int 0], vm := .none },
  { cls := 7, slots := #[.ref 11, .int 0, .int 0, .int 0], vm := .none },
  { cls := 7, slots := #[.ref 12, .int 0, .int 0, .int 0], vm := .none },
  { cls := 16, slots := #[.int 99, .int 97, .int 114, .int 100, .int 115], vm := .none },
  { cls := 16, slots := #[.int 117, .int 115, .int 101, .int 114, .int 115], vm := .none },
  { cls := 16, slots := #[.int 115, .int 105, .int 116, .int 101, .int 115], vm := .none }]
def classes : Array Class := #[k0, k1, k2, k3, k4, k5, k6, k7, k8, k9, k10, k11, k12, k13, k14, k15, k16, k17, k18, k19, k20, k21]
def interned : List (Array UInt16 × Addr) := []
def slotsUsed : Nat := 62
def theMethod : MethodId := ⟨1, 1⟩
def args0 : Array Value := #[.int 5, .int 6, .int 7, .long 8]
def aboutOver (below : List Frame) : State where
  vm := { classes := classes, interned := interned.toArray }
  heap := heap
  slotsUsed := slotsUsed
  threads := #[{ frames := .invoking theMethod args0 :: below }]
def below0 : List Frame := [.native { method := ⟨0, 0⟩, args := #[] }]
def about1 : State := aboutOver below0
def p0 : Program := .bare "" "" ""
def e0 : Env := launch0.env 0 0 0
theorem w_frames : about1.frames = Frame.invoking theMethod args0 :: below0 := rfl
set_option maxRecDepth 65536 in
theorem w_args : argsFit about1.vm theMethod args0 = true := by decide +kernel
set_option maxRecDepth 65536 in
theorem w_heap : heapFits about1 = true := by decide +kernel
set_option maxRecDepth 65536 in
theorem w_runnable : about1.curStatus? = some .runnable := by decide +kernel
set_option maxRecDepth 65536 in
theorem w_alone : about1.alone = true := by decide +kernel
set_option maxRecDepth 65536 in
theorem w_named : about1.methodNamed? x = some theMethod := by decide +kernel
set_option maxRecDepth 65536 in
theorem w_hears : about1.hears theMethod below0 = true := by decide +kernel
set_option maxRecDepth 65536 in
theorem w_ripe : about1.ripe theMethod args0 below0 = true := by decide +kernel
theorem w_running : about1.status = .running := rfl
set_option maxRecDepth 65536 in
theorem w_room : about1.hasRoom e0.platform room_1 = true :=
  launch0.hasRoom_least _ room_1 (by decide +kernel) (by decide +kernel) (by decide +kernel) (by decide +kernel) (by decide +kernel) (by decide +kernel)
theorem allAtoms_all (ts : List Jvm.Cond) (a : Array Jvm.Value) (st : Jvm.State) : (allAtoms ts).before a st = ts.all (fun c => c.before a st) := by
  induction ts with
  | nil => rfl
  | cons c t ih =>
    show (Jvm.Cond.and c (allAtoms t)).before a st = _
    rw [Jvm.Cond.before_and, ih, List.all_cons]
def words1 : List Jvm.Cond := Jvm.Cond.code x code maxLocals ret :: tables_1
/-- a 'code' word, met by the world's own term for the bytes: nothing is compared byte by byte -/
theorem code_word {y : MethodName} {bytes : ByteArray} {mx : Nat} {rt : Option FieldType} {a : Array Value} {s : State} {m : MethodId} {meth : Method} {c : Code} (h1 : s.methodNamed? y = some m) (h2 : s.vm.method? m = some meth) (h3 : meth.code = some c) (h4 : c.code = bytes)
    (h5 : (c.maxLocals == mx && c.exceptionTable.isEmpty && decide (c.maxStack ≤ mostOperands) && decide (meth.sig.returnType = rt) && !meth.locks && decide (parseMethodDescriptor y.desc = some meth.sig)) = true) : (Jvm.Cond.code y bytes mx rt).before a s = true := by
  simp only [Bool.and_eq_true, beq_iff_eq, Bool.not_eq_true', decide_eq_true_eq] at h5
  obtain ⟨⟨⟨⟨⟨g1, g2⟩, g3⟩, g4⟩, g5⟩, g6⟩ := h5
  simp [Cond.before, Cond.holds, Cond.value, h1, h2, h3, h4, g1, g2, g3, g4, g5, g6]
def isCode : Jvm.Cond → Bool
  | .code _ _ _ _ => true
  | _ => false
theorem all_split {L : List Jvm.Cond} {P : Jvm.Cond → Bool} (h1 : L.all (fun c => isCode c || P c) = true) (h2 : ∀ c ∈ L.filter isCode, P c = true) : L.all P = true := by
  refine List.all_eq_true.mpr fun c hc => ?_
  have h := List.all_eq_true.mp h1 c hc
  rcases Bool.eq_false_or_eq_true (isCode c) with hi | hi
  · exact h2 c (List.mem_filter.mpr ⟨hc, hi⟩)
  · simpa [hi] using h
set_option maxRecDepth 65536 in
theorem w_c0 : (Jvm.Cond.code x code maxLocals ret).before args0 about1 = true := code_word (m := ⟨1, 1⟩) (meth := k1m1) (c := k1c1) (by decide +kernel) rfl rfl rfl (by decide +kernel)
set_option maxRecDepth 65536 in
theorem w_c1 : (Jvm.Cond.code ({ cls := "com/example/issuer/issuer/blocklist/EntryKindOfListPinLaw", name := "pick", desc := "(Ljava/lang/String;IIJ)C" } : Jvm.MethodName) method_3_code (5 : Nat) (Option.some Jvm.ClassFile.FieldType.char)).before args0 about1 = true := code_word (m := ⟨1, 2⟩) (meth := k1m2) (c := k1c2) (by decide +kernel) rfl rfl rfl (by decide +kernel)
set_option maxRecDepth 65536 in
theorem w_c2 : (Jvm.Cond.code ({ cls := "java/lang/String", name := "charAt", desc := "(I)C" } : Jvm.MethodName) jdk_42_method_56_code (2 : Nat) (Option.some Jvm.ClassFile.FieldType.char)).before args0 about1 = true := code_word (m := ⟨7, 2⟩) (meth := k7m2) (c := k7c2) (by decide +kernel) rfl rfl rfl (by decide +kernel)
set_option maxRecDepth 65536 in
theorem w_c3 : (Jvm.Cond.code ({ cls := "java/lang/String", name := "isLatin1", desc := "()Z" } : Jvm.MethodName) jdk_42_method_154_code (1 : Nat) (Option.some Jvm.ClassFile.FieldType.boolean)).before args0 about1 = true := code_word (m := ⟨7, 5⟩) (meth := k7m5) (c := k7c5) (by decide +kernel) rfl rfl rfl (by decide +kernel)
set_option maxRecDepth 65536 in
theorem w_c4 : (Jvm.Cond.code ({ cls := "java/lang/StringLatin1", name := "charAt", desc := "([BI)C" } : Jvm.MethodName) jdk_43_method_2_code (2 : Nat) (Option.some Jvm.ClassFile.FieldType.char)).before args0 about1 = true := code_word (m := ⟨8, 1⟩) (meth := k8m1) (c := k8c1) (by decide +kernel) rfl rfl rfl (by decide +kernel)
set_option maxRecDepth 65536 in
theorem w_c5 : (Jvm.Cond.code ({ cls := "java/lang/String", name := "checkIndex", desc := "(II)V" } : Jvm.MethodName) jdk_42_method_155_code (2 : Nat) (Option.none : Option Jvm.ClassFile.FieldType)).before args0 about1 = true := code_word (m := ⟨7, 6⟩) (meth := k7m6) (c := k7c6) (by decide +kernel) rfl rfl rfl (by decide +kernel)
set_option maxRecDepth 65536 in
theorem w_c6 : (Jvm.Cond.code ({ cls := "jdk/internal/util/Preconditions", name := "checkIndex", desc := "(IILjava/util/function/BiFunction;)I" } : Jvm.MethodName) jdk_41_method_11_code (3 : Nat) (Option.some Jvm.ClassFile.FieldType.int)).before args0 about1 = true := code_word (m := ⟨9, 1⟩) (meth := k9m1) (c := k9c1) (by decide +kernel) rfl rfl rfl (by decide +kernel)
set_option maxRecDepth 65536 in
theorem w_c7 : (Jvm.Cond.code ({ cls := "java/lang/String", name := "<init>", desc := "([C)V" } : Jvm.MethodName) jdk_42_method_3_code (2 : Nat) (Option.none : Option Jvm.ClassFile.FieldType)).before args0 about1 = true := code_word (m := ⟨7, 1⟩) (meth := k7m1) (c := k7c1) (by decide +kernel) rfl rfl rfl (by decide +kernel)
set_option maxRecDepth 65536 in
theorem w_c8 : (Jvm.Cond.code ({ cls := "java/lang/String", name := "<init>", desc := "([CIILjava/lang/Void;)V" } : Jvm.MethodName) jdk_42_method_149_code (6 : Nat) (Option.none : Option Jvm.ClassFile.FieldType)).before args0 about1 = true := code_word (m := ⟨7, 4⟩) (meth := k7m4) (c := k7c4) (by decide +kernel) rfl rfl rfl (by decide +kernel)
set_option maxRecDepth 65536 in
theorem w_c9 : (Jvm.Cond.code ({ cls := "java/lang/Object", name := "<init>", desc := "()V" } : Jvm.MethodName) object_method_1_code (1 : Nat) (Option.none : Option Jvm.ClassFile.FieldType)).before args0 about1 = true := code_word (m := ⟨0, 0⟩) (meth := k0m0) (c := k0c0) (by decide +kernel) rfl rfl rfl (by decide +kernel)
set_option maxRecDepth 65536 in
theorem w_c10 : (Jvm.Cond.code ({ cls := "java/lang/StringUTF16", name := "compress", desc := "([CII)[B" } : Jvm.MethodName) jdk_52_method_16_code (6 : Nat) (Option.some (Jvm.ClassFile.FieldType.array Jvm.ClassFile.FieldType.byte))).before args0 about1 = true := code_word (m := ⟨10, 2⟩) (meth := k10m2) (c := k10c2) (by decide +kernel) rfl rfl rfl (by decide +kernel)
set_option maxRecDepth 65536 in
theorem w_c11 : (Jvm.Cond.code ({ cls := "java/lang/StringUTF16", name := "compress", desc := "([CI[BII)I" } : Jvm.MethodName) jdk_52_method_21_code (7 : Nat) (Option.some Jvm.ClassFile.FieldType.int)).before args0 about1 = true := code_word (m := ⟨10, 3⟩) (meth := k10m3) (c := k10c3) (by decide +kernel) rfl rfl rfl (by decide +kernel)
set_option maxRecDepth 65536 in
theorem w_c12 : (Jvm.Cond.code ({ cls := "java/lang/StringUTF16", name := "coderFromArrayLen", desc := "([BI)B" } : Jvm.MethodName) jdk_52_method_15_code (2 : Nat) (Option.some Jvm.ClassFile.FieldType.byte)).before args0 about1 = true := code_word (m := ⟨10, 1⟩) (meth := k10m1) (c := k10c1) (by decide +kernel) rfl rfl rfl (by decide +kernel)
set_option maxRecDepth 65536 in
theorem w_c13 : (Jvm.Cond.code ({ cls := "com/example/issuer/issuer/blocklist/EntryKind", name := "ofList", desc := "(Ljava/lang/String;)Lcom/example/issuer/issuer/blocklist/EntryKind;" } : Jvm.MethodName) prog_1_method_4_code (5 : Nat) (Option.some (Jvm.ClassFile.FieldType.object "com/example/issuer/issuer/blocklist/EntryKind"))).before args0 about1 = true := code_word (m := ⟨12, 1⟩) (meth := k12m1) (c := k12c1) (by decide +kernel) rfl rfl rfl (by decide +kernel)
set_option maxRecDepth 65536 in
theorem w_c14 : (Jvm.Cond.code ({ cls := "com/example/issuer/issuer/blocklist/EntryKind", name := "values", desc := "()[Lcom/example/issuer/issuer/blocklist/EntryKind;" } : Jvm.MethodName) prog_1_method_1_code (0 : Nat) (Option.some (Jvm.ClassFile.FieldType.array (Jvm.ClassFile.FieldType.object "com/example/issuer/issuer/blocklist/EntryKind")))).before args0 about1 = true := code_word (m := ⟨12, 0⟩) (meth := k12m0) (c := k12c0) (by decide +kernel) rfl rfl rfl (by decide +kernel)
set_option maxRecDepth 65536 in
theorem w_c15 : (Jvm.Cond.code ({ cls := "java/lang/String", name := "equals", desc := "(Ljava/lang/Object;)Z" } : Jvm.MethodName) jdk_42_method_66_code (3 : Nat) (Option.some Jvm.ClassFile.FieldType.boolean)).before args0 about1 = true := code_word (m := ⟨7, 3⟩) (meth := k7m3) (c := k7c3) (by decide +kernel) rfl rfl rfl (by decide +kernel)
set_option maxRecDepth 65536 in
theorem w_c16 : (Jvm.Cond.code ({ cls := "java/lang/StringLatin1", name := "equals", desc := "([B[B)Z" } : Jvm.MethodName) jdk_43_method_13_code (3 : Nat) (Option.some Jvm.ClassFile.FieldType.boolean)).before args0 about1 = true := code_word (m := ⟨8, 2⟩) (meth := k8m2) (c := k8c2) (by decide +kernel) rfl rfl rfl (by decide +kernel)
def codes1 : List Jvm.Cond := [Jvm.Cond.code x code maxLocals ret, Jvm.Cond.code ({ cls := "com/example/issuer/issuer/blocklist/EntryKindOfListPinLaw", name := "pick", desc := "(Ljava/lang/String;IIJ)C" } : Jvm.MethodName) method_3_code (5 : Nat) (Option.some Jvm.ClassFile.FieldType.char), Jvm.Cond.code ({ cls := "java/lang/String", name := "charAt", desc := "(I)C" } : Jvm.MethodName) jdk_42_method_56_code (2 : Nat) (Option.some Jvm.ClassFile.FieldType.char), Jvm.Cond.code ({ cls := "java/lang/String", name := "isLatin1", desc := "()Z" } : Jvm.MethodName) jdk_42_method_154_code (1 : Nat) (Option.some Jvm.ClassFile.FieldType.boolean), Jvm.Cond.code ({ cls := "java/lang/StringLatin1", name := "charAt", desc := "([BI)C" } : Jvm.MethodName) jdk_43_method_2_code (2 : Nat) (Option.some Jvm.ClassFile.FieldType.char), Jvm.Cond.code ({ cls := "java/lang/String", name := "checkIndex", desc := "(II)V" } : Jvm.MethodName) jdk_42_method_155_code (2 : Nat) (Option.none : Option Jvm.ClassFile.FieldType), Jvm.Cond.code ({ cls := "jdk/internal/util/Preconditions", name := "checkIndex", desc := "(IILjava/util/function/BiFunction;)I" } : Jvm.MethodName) jdk_41_method_11_code (3 : Nat) (Option.some Jvm.ClassFile.FieldType.int), Jvm.Cond.code ({ cls := "java/lang/String", name := "<init>", desc := "([C)V" } : Jvm.MethodName) jdk_42_method_3_code (2 : Nat) (Option.none : Option Jvm.ClassFile.FieldType), Jvm.Cond.code ({ cls := "java/lang/String", name := "<init>", desc := "([CIILjava/lang/Void;)V" } : Jvm.MethodName) jdk_42_method_149_code (6 : Nat) (Option.none : Option Jvm.ClassFile.FieldType), Jvm.Cond.code ({ cls := "java/lang/Object", name := "<init>", desc := "()V" } : Jvm.MethodName) object_method_1_code (1 : Nat) (Option.none : Option Jvm.ClassFile.FieldType), Jvm.Cond.code ({ cls := "java/lang/StringUTF16", name := "compress", desc := "([CII)[B" } : Jvm.MethodName) jdk_52_method_16_code (6 : Nat) (Option.some (Jvm.ClassFile.FieldType.array Jvm.ClassFile.FieldType.byte)), Jvm.Cond.code ({ cls := "java/lang/StringUTF16", name := "compress", desc := "([CI[BII)I" } : Jvm.MethodName) jdk_52_method_21_code (7 : Nat) (Option.some Jvm.ClassFile.FieldType.int), Jvm.Cond.code ({ cls := "java/lang/StringUTF16", name := "coderFromArrayLen", desc := "([BI)B" } : Jvm.MethodName) jdk_52_method_15_code (2 : Nat) (Option.some Jvm.ClassFile.FieldType.byte), Jvm.Cond.code ({ cls := "com/example/issuer/issuer/blocklist/EntryKind", name := "ofList", desc := "(Ljava/lang/String;)Lcom/example/issuer/issuer/blocklist/EntryKind;" } : Jvm.MethodName) prog_1_method_4_code (5 : Nat) (Option.some (Jvm.ClassFile.FieldType.object "com/example/issuer/issuer/blocklist/EntryKind")), Jvm.Cond.code ({ cls := "com/example/issuer/issuer/blocklist/EntryKind", name := "values", desc := "()[Lcom/example/issuer/issuer/blocklist/EntryKind;" } : Jvm.MethodName) prog_1_method_1_code (0 : Nat) (Option.some (Jvm.ClassFile.FieldType.array (Jvm.ClassFile.FieldType.object "com/example/issuer/issuer/blocklist/EntryKind"))), Jvm.Cond.code ({ cls := "java/lang/String", name := "equals", desc := "(Ljava/lang/Object;)Z" } : Jvm.MethodName) jdk_42_method_66_code (3 : Nat) (Option.some Jvm.ClassFile.FieldType.boolean), Jvm.Cond.code ({ cls := "java/lang/StringLatin1", name := "equals", desc := "([B[B)Z" } : Jvm.MethodName) jdk_43_method_13_code (3 : Nat) (Option.some Jvm.ClassFile.FieldType.boolean)]
set_option maxRecDepth 65536 in
theorem codes_eq : words1.filter isCode = codes1 := rfl
theorem w_codes : ∀ c ∈ words1.filter isCode, c.before args0 about1 = true := by
  rw [codes_eq]
  intro c hc
  simp only [codes1, List.mem_cons, List.not_mem_nil, or_false] at hc
  rcases hc with rfl | rfl | rfl | rfl | rfl | rfl | rfl | rfl | rfl | rfl | rfl | rfl | rfl | rfl | rfl | rfl | rfl
  · exact w_c0
  · exact w_c1
  · exact w_c2
  · exact w_c3
  · exact w_c4
  · exact w_c5
  · exact w_c6
  · exact w_c7
  · exact w_c8
  · exact w_c9
  · exact w_c10
  · exact w_c11
  · exact w_c12
  · exact w_c13
  · exact w_c14
  · exact w_c15
  · exact w_c16
set_option maxRecDepth 65536 in
theorem w_t1 : (words1.take 24).all (fun c => isCode c || c.before args0 about1) = true := by decide +kernel
set_option maxRecDepth 65536 in
theorem w_t2 : ((words1.drop 24).take 24).all (fun c => isCode c || c.before args0 about1) = true := by decide +kernel
set_option maxRecDepth 65536 in
theorem w_t3 : (((words1.drop 24).drop 24).take 24).all (fun c => isCode c || c.before args0 about1) = true := by decide +kernel
set_option maxRecDepth 65536 in
theorem w_t4 : ((((words1.drop 24).drop 24).drop 24).take 24).all (fun c => isCode c || c.before args0 about1) = true := by decide +kernel
set_option maxRecDepth 65536 in
theorem w_t5 : ((((words1.drop 24).drop 24).drop 24).drop 24).all (fun c => isCode c || c.before args0 about1) = true := by decide +kernel
theorem w_tables : (allAtoms (Jvm.Cond.code x code maxLocals ret :: tables_1)).before args0 about1 = true := by
  rw [allAtoms_all]
  show words1.all (fun c => c.before args0 about1) = true
  refine all_split ?_ w_codes
  rw [← List.take_append_drop 24 words1, List.all_append, w_t1, ← List.take_append_drop 24 (words1.drop 24), List.all_append, w_t2, ← List.take_append_drop 24 ((words1.drop 24).drop 24), List.all_append, w_t3, ← List.take_append_drop 24 (((words1.drop 24).drop 24).drop 24), List.all_append, w_t4, w_t5]
  rfl
set_option maxRecDepth 65536 in
theorem w_rest : rest_1_c.before args0 about1 = true := by decide +kernel
set_option maxRecDepth 65536 in
theorem w_case : (Jvm.Cond.and given_1 narrow_1).before args0 about1 = true := by decide +kernel
set_option maxRecDepth 65536 in
theorem w_consts : constsHeld consts_1 about1 := Jvm.Lit.constsHeldB_iff.mp (by decide +kernel)
theorem w_applies : (headSpec (Jvm.Cond.code x code maxLocals ret :: tables_1) room_1).applies x e0.platform about1 = true :=
  (Spec.applies_iff w_frames).mpr ⟨w_running, w_runnable, w_alone, w_named, w_hears, w_ripe, w_room, w_tables⟩
theorem atStart : AtStart classFile x code maxLocals ret World_1 tables_1 room_1 Calls_1 rest_1 Pre_1 launch0 p0 e0 about1 theMethod args0 below0 :=
  ⟨lists_1, trivial, launch0.admits_env _ _ _, launch0.least_env, fairChoices_fair.cas, fairChoices_fair.clock, w_frames, w_args, w_heap, w_applies, ⟨w_consts, trivial⟩, w_rest, w_case⟩
end start1
theorem witness_1 : WitnessClaimed_1 := ⟨start1.p0, start1.e0, start1.about1, start1.theMethod, start1.args0, start1.below0, start1.atStart⟩
end Jvm.Pilot.@@N@@
