import JvmDerived
import JvmDerived.Pilot.@@N@@Statement
import JvmDerived.Pilot.@@N@@Code
set_option linter.unusedVariables false
set_option linter.unusedSimpArgs false
/- laws to paste: Road.backV (cut by pick.py; bodies as the Statement names them) -/
namespace Jvm.Pilot.@@N@@
namespace StrChars
open Jvm Sem ClassFile Op Lib Jvm.Stand Jvm.Free.XT Jvm.Free.ALB Jvm.Free.JM Jvm.Free
open Jvm.Lib.Cold (StaticIs)
/-- a char array whose places are chars -/
def Ch (a : Addr) (A : Cell) (U : State) : Prop := Arr .char a A U ∧ Typed .char A
theorem Ch.mv {a : Addr} {A : Cell} {U U' : State} (h : Ch a A U) (hal : U.vm.Alike U'.vm) (hh : U'.heap = U.heap) : Ch a A U' := ⟨h.1.mv hal hh, h.2⟩
theorem Ch.keep {a : Addr} {A : Cell} {U U' : State} (h : Ch a A U) (hal : U.vm.Alike U'.vm) (hk : U'.heap[a]? = some A) : Ch a A U' := ⟨h.1.keep hal hk, h.2⟩
/-- what place i of a char[]'s cell holds -/
def cv (A : Cell) (i : Nat) : Int32 := match A.slots[i]? with | some (.int x) => x | _ => 0
theorem Ch.get {a : Addr} {A : Cell} {U : State} (h : Ch a A U) {i : Nat} (hi : i < A.slots.size) : A.slots[i]? = some (.int (cv A i)) := by
  have e := Array.getElem?_eq_getElem hi
  have f := h.2 i _ e
  unfold cv; rw [e]
  generalize A.slots[i] = v at f
  cases v <;> simp [fits] at f ⊢
/-- the byte that i2b leaves of a char -/
def lo8 (x : Int32) : Int32 := x.toInt8.toInt32
theorem fits_lo8 (y : Int32) : fits .byte (.int (lo8 y)) = true := by
  have h1 := y.toInt8.le_toInt
  have h2 := y.toInt8.toInt_lt
  simp only [lo8, fits, Bool.and_eq_true, decide_eq_true_eq, Int32.le_iff_toInt_le, Int8.toInt_toInt32, show (-128 : Int32).toInt = -128 from by decide, show (127 : Int32).toInt = 127 from by decide]
  omega
/-- A' is A but that each place j of lo .. hi - 1 holds f j -/
def Laid (A A' : Cell) (lo hi : Nat) (f : Nat → Value) : Prop := A'.cls = A.cls ∧ A'.vm = A.vm ∧ A'.slots.size = A.slots.size ∧ ∀ i, A'.slots[i]? = if lo ≤ i ∧ i < hi then some (f i) else A.slots[i]?
theorem Laid.zero (A : Cell) (lo : Nat) (f : Nat → Value) : Laid A A lo (lo + 0) f := ⟨rfl, rfl, rfl, fun i => by rw [if_neg (by omega)]⟩
theorem Laid.step {A Ak : Cell} {lo k : Nat} {f : Nat → Value} {v : Value} (h : Laid A Ak lo k f) (hlo : lo ≤ k) (hk : k < Ak.slots.size) (hv : v = f k) : Laid A (Ak.setSlot k v) lo (k + 1) f := by
  refine ⟨h.1, h.2.1, by simpa [Cell.setSlot] using h.2.2.1, fun i => ?_⟩
  by_cases e : k = i
  · subst e; rw [Cell.slots_setSlot_self v hk, if_pos (by omega), hv]
  · rw [Cell.slots_setSlot_ne v e, h.2.2.2 i]
    by_cases q : lo ≤ i ∧ i < k
    · rw [if_pos q, if_pos (by omega)]
    · rw [if_neg q, if_neg (by omega)]
def U16 : String := "java/lang/StringUTF16"
namespace Cmp5
def yN : MethodName := ⟨"java/lang/StringUTF16", "compress", "([CI[BII)I"⟩
abbrev yB : ByteArray := jdk_52_method_21_code
theorem d0 : decode yB 0 = .ok (.iconst 0, 1) := by decide +kernel
theorem d1 : decode yB 1 = .ok (.istore 5, 2) := by decide +kernel
theorem d3 : decode yB 3 = .ok (.iload 5, 2) := by decide +kernel
theorem d5 : decode yB 5 = .ok (.iload 4, 2) := by decide +kernel
theorem d7 : decode yB 7 = .ok (.if_icmp (.ge) 37, 3) := by decide +kernel
theorem d10 : decode yB 10 = .ok (.aload_n 0, 1) := by decide +kernel
theorem d11 : decode yB 11 = .ok (.iload_n 1, 1) := by decide +kernel
theorem d12 : decode yB 12 = .ok (.caload, 1) := by decide +kernel
theorem d13 : decode yB 13 = .ok (.istore 6, 2) := by decide +kernel
theorem d15 : decode yB 15 = .ok (.iload 6, 2) := by decide +kernel
theorem d17 : decode yB 17 = .ok (.sipush 255, 3) := by decide +kernel
theorem d20 : decode yB 20 = .ok (.if_icmp (.le) 6, 3) := by decide +kernel
theorem d26 : decode yB 26 = .ok (.aload_n 2, 1) := by decide +kernel
theorem d27 : decode yB 27 = .ok (.iload_n 3, 1) := by decide +kernel
theorem d28 : decode yB 28 = .ok (.iload 6, 2) := by decide +kernel
theorem d30 : decode yB 30 = .ok (.i2b, 1) := by decide +kernel
theorem d31 : decode yB 31 = .ok (.bastore, 1) := by decide +kernel
theorem d32 : decode yB 32 = .ok (.iinc 1 1, 3) := by decide +kernel
theorem d35 : decode yB 35 = .ok (.iinc 3 1, 3) := by decide +kernel
theorem d38 : decode yB 38 = .ok (.iinc 5 1, 3) := by decide +kernel
theorem d41 : decode yB 41 = .ok (.goto (-38), 3) := by decide +kernel
theorem d44 : decode yB 44 = .ok (.iload 4, 2) := by decide +kernel
theorem d46 : decode yB 46 = .ok (.ireturn, 1) := by decide +kernel
def site : List Cond := []
def tab : Cond := tabOf yN yB 7 (some .int) site
def P (b : Addr) (A : Cell) (d : Addr) (B : Cell) (o q len : Nat) (args : Array Value) (s : State) : Prop := args = #[.ref b, .int (Int32.ofNat o), .ref d, .int (Int32.ofNat q), .int (Int32.ofNat len)] ∧ Ch b A s ∧ Arr .byte d B s ∧ b ≠ d ∧ o + len ≤ A.slots.size ∧ q + len ≤ B.slots.size ∧ ∀ i, i < len → ¬ 255 < cv A (o + i)
def E (b : Addr) (A : Cell) (d : Addr) (B : Cell) (o q len : Nat) (r : Option Value) (s u : State) : Prop := r = some (.int (Int32.ofNat len)) ∧ ∃ B', Put d B' s u ∧ Laid B B' q (q + len) (fun j => Value.int (lo8 (cv A (o + (j - q)))))
/-- no char of the range above 255: len; the places written hold each char's low byte -/
theorem law (l : Launch) (b : Addr) (A : Cell) (d : Addr) (B : Cell) (o q len : Nat) : Law l yN 5 5 0 0 yB 7 (some .int) site (P b A d B o q len) (E b A d B o q len) (copyLocs d q len) 0 0 := by
  refine Law.of_walk (plainFor_of_name (by decide +kernel)) (by decide +kernel) (by decide +kernel) (by decide) (fun _ _ h => by rw [h.1]; rfl) (fun _ U U' hal hh h => ⟨h.1, h.2.1.mv hal hh, h.2.2.1.mv hal hh, h.2.2.2⟩) (fun r U U' V V' h1 hal h2 h => ⟨h.1, h.2.elim fun B' q => ⟨B', q.1.mv h1 h2, q.2⟩⟩) ?_
  intro p e s m args below meth c s₁ X0 hexec hbytes hml hret hlk hnm hown hh0 W hP
  obtain ⟨rfl, hA, hB, hne, l1, l2, hp⟩ := hP
  have c1 : Steps p.tables e below (s₁.setTop (entryFrame m #[.ref b, .int (Int32.ofNat o), .ref d, .int (Int32.ofNat q), .int (Int32.ofNat len)] 7)) (s₁.setTop (mkF m 0 #[.val (.ref b), .val (.int (Int32.ofNat o)), .val (.ref d), .val (.int (Int32.ofNat q)), .val (.int (Int32.ofNat len)), .unset, .unset] [])) := entry rfl
  have hA0 := hA.1.mv X0.warmed.alike hh0
  have hB0 := hB.mv X0.warmed.alike hh0
  have a31 := hA.1.2.2.2
  have c2 : Steps p.tables e below (s₁.setTop (entryFrame m #[.ref b, .int (Int32.ofNat o), .ref d, .int (Int32.ofNat q), .int (Int32.ofNat len)] 7)) (s₁.setTop (mkF m 3 #[.val (.ref b), .val (.int (Int32.ofNat o)), .val (.ref d), .val (.int (Int32.ofNat q)), .val (.int (Int32.ofNat len)), .val (.int 0), .unset] [])) := c1.trans (by
    refine iconstV X0.here hexec rfl 0 (hb hbytes d0) (by decide) ?_
    refine XS.istore X0.here hexec rfl (hb hbytes d1) rfl rfl ?_
    exact Steps.refl _)
  have loop : ∀ (r i : Nat), i + r = len → ∀ (z : Slot), (z = .unset ∨ ∃ w, z = .val w ∧ w.category = 1) → ∀ (Tl : State) (Bk : Cell), Stand p l e { frames := 0, locals := 0, cells := 0, slots := 0 } s m #[.ref b, .int (Int32.ofNat o), .ref d, .int (Int32.ofNat q), .int (Int32.ofNat len)] below meth c Tl ([] ++ copyLocs d q i) 0 0 → Put d Bk s₁ Tl → Laid B Bk q (q + i) (fun j => Value.int (lo8 (cv A (o + (j - q))))) →
      Steps p.tables e below (s₁.setTop (entryFrame m #[.ref b, .int (Int32.ofNat o), .ref d, .int (Int32.ofNat q), .int (Int32.ofNat len)] 7)) (Tl.setTop (mkF m 3 #[.val (.ref b), .val (.int (Int32.ofNat (o + i))), .val (.ref d), .val (.int (Int32.ofNat (q + i))), .val (.int (Int32.ofNat len)), .val (.int (Int32.ofNat i)), z] [])) → ∃ (T' : State) (B' : Cell) (z' : Slot), Stand p l e { frames := 0, locals := 0, cells := 0, slots := 0 } s m #[.ref b, .int (Int32.ofNat o), .ref d, .int (Int32.ofNat q), .int (Int32.ofNat len)] below meth c T' ([] ++ copyLocs d q len) 0 0 ∧ Put d B' s₁ T' ∧ Laid B B' q (q + len) (fun j => Value.int (lo8 (cv A (o + (j - q))))) ∧
      Steps p.tables e below (s₁.setTop (entryFrame m #[.ref b, .int (Int32.ofNat o), .ref d, .int (Int32.ofNat q), .int (Int32.ofNat len)] 7)) (T'.setTop (mkF m 3 #[.val (.ref b), .val (.int (Int32.ofNat (o + len))), .val (.ref d), .val (.int (Int32.ofNat (q + len))), .val (.int (Int32.ofNat len)), .val (.int (Int32.ofNat len)), z'] [])) := by
    intro r
    induction r with
    | zero =>
      intro i hi z hz Tl Bk Xl pl fl cl
      have hil : i = len := by omega
      rw [hil] at Xl fl cl
      exact ⟨Tl, Bk, z, Xl, pl, fl, cl⟩
    | succ r ih =>
      intro i hi z hz Tl Bk Xl pl fl cl
      have all := X0.warmed.alike.symm.trans Xl.warmed.alike
      have hAl := hA0.keep all (pl.other hne hA0.1)
      have hBk := hB0.like all pl.1 fl.1 fl.2.1 fl.2.2.1
      have hlt : q + i < Bk.slots.size := by rw [fl.2.2.1]; omega
      have c3 : Steps p.tables e below (s₁.setTop (entryFrame m #[.ref b, .int (Int32.ofNat o), .ref d, .int (Int32.ofNat q), .int (Int32.ofNat len)] 7)) (Tl.setTop (mkF m 12 #[.val (.ref b), .val (.int (Int32.ofNat (o + i))), .val (.ref d), .val (.int (Int32.ofNat (q + i))), .val (.int (Int32.ofNat len)), .val (.int (Int32.ofNat i)), z] [.int (Int32.ofNat (o + i)), .ref b])) := cl.trans (by
        refine XS.iload Xl.here hexec rfl (hb hbytes d3) rfl ?_
        refine XS.iload Xl.here hexec rfl (hb hbytes d5) rfl ?_
        refine XS.icmpNo Xl.here hexec rfl (hb hbytes d7) rfl (ii_ge_f (lt32 (by omega) (by omega))) ?_
        refine XS.aloadN Xl.here hexec rfl (hb hbytes d10) rfl rfl ?_
        refine XS.iloadN Xl.here hexec rfl (hb hbytes d11) rfl ?_
        exact Steps.refl _)
      have c4 : Steps p.tables e below (s₁.setTop (entryFrame m #[.ref b, .int (Int32.ofNat o), .ref d, .int (Int32.ofNat q), .int (Int32.ofNat len)] 7)) (Tl.setTop (mkF m 13 #[.val (.ref b), .val (.int (Int32.ofNat (o + i))), .val (.ref d), .val (.int (Int32.ofNat (q + i))), .val (.int (Int32.ofNat len)), .val (.int (Int32.ofNat i)), z] [.int (cv A (o + i))])) := c3.trans (by
        refine Xl.aget hexec hAl rfl (hA.get (i := o + i) (by omega)) rfl rfl (hb hbytes d12) ?_
        exact Steps.refl _)
      have c5 : Steps p.tables e below (s₁.setTop (entryFrame m #[.ref b, .int (Int32.ofNat o), .ref d, .int (Int32.ofNat q), .int (Int32.ofNat len)] 7)) (Tl.setTop (mkF m 15 #[.val (.ref b), .val (.int (Int32.ofNat (o + i))), .val (.ref d), .val (.int (Int32.ofNat (q + i))), .val (.int (Int32.ofNat len)), .val (.int (Int32.ofNat i)), .val (.int (cv A (o + i)))] [])) := c4.trans (by
        refine XS.istoreS Xl.here hexec rfl (hb hbytes d13) rfl rfl hz ?_
        exact Steps.refl _)
      have c6 : Steps p.tables e below (s₁.setTop (entryFrame m #[.ref b, .int (Int32.ofNat o), .ref d, .int (Int32.ofNat q), .int (Int32.ofNat len)] 7)) (Tl.setTop (mkF m 31 #[.val (.ref b), .val (.int (Int32.ofNat (o + i))), .val (.ref d), .val (.int (Int32.ofNat (q + i))), .val (.int (Int32.ofNat len)), .val (.int (Int32.ofNat i)), .val (.int (cv A (o + i)))] [.int (lo8 (cv A (o + i))), .int (Int32.ofNat (q + i)), .ref d])) := c5.trans (by
        refine XS.iload Xl.here hexec rfl (hb hbytes d15) rfl ?_
        refine sipushV Xl.here hexec rfl 255 (hb hbytes d17) (by decide) ?_
        refine XS.icmpYes Xl.here hexec rfl (pc0 := 20) rfl (hb hbytes d20) rfl (ii_le_t (hp i (by omega))) (by decide) rfl ?_
        refine XS.aloadN Xl.here hexec rfl (hb hbytes d26) rfl rfl ?_
        refine XS.iloadN Xl.here hexec rfl (hb hbytes d27) rfl ?_
        refine XS.iload Xl.here hexec rfl (hb hbytes d28) rfl ?_
        refine i2b Xl.here hexec rfl (hb hbytes d30) rfl ?_
        exact Steps.refl _)
      obtain ⟨T7, X7, p7, st7⟩ := Xl.aput hexec hBk rfl hlt rfl (fits_lo8 (cv A (o + i))) (g := (mkF m 31 #[.val (.ref b), .val (.int (Int32.ofNat (o + i))), .val (.ref d), .val (.int (Int32.ofNat (q + i))), .val (.int (Int32.ofNat len)), .val (.int (Int32.ofNat i)), .val (.int (cv A (o + i)))] [.int (lo8 (cv A (o + i))), .int (Int32.ofNat (q + i)), .ref d])) rfl (rest := []) rfl (hb hbytes d31)
      have c8 : Steps p.tables e below (s₁.setTop (entryFrame m #[.ref b, .int (Int32.ofNat o), .ref d, .int (Int32.ofNat q), .int (Int32.ofNat len)] 7)) (T7.setTop (mkF m 32 #[.val (.ref b), .val (.int (Int32.ofNat (o + i))), .val (.ref d), .val (.int (Int32.ofNat (q + i))), .val (.int (Int32.ofNat len)), .val (.int (Int32.ofNat i)), .val (.int (cv A (o + i)))] [])) := c6.trans (st7 _ (Steps.refl _))
      have c9 : Steps p.tables e below (s₁.setTop (entryFrame m #[.ref b, .int (Int32.ofNat o), .ref d, .int (Int32.ofNat q), .int (Int32.ofNat len)] 7)) (T7.setTop (mkF m 3 #[.val (.ref b), .val (.int (Int32.ofNat (o + i) + 1)), .val (.ref d), .val (.int (Int32.ofNat (q + i) + 1)), .val (.int (Int32.ofNat len)), .val (.int (Int32.ofNat i + 1)), .val (.int (cv A (o + i)))] [])) := c8.trans (by
        refine iincV X7.here hexec rfl 1 (hb hbytes d32) (by decide) rfl rfl ?_
        refine iincV X7.here hexec rfl 1 (hb hbytes d35) (by decide) rfl rfl ?_
        refine iincV X7.here hexec rfl 1 (hb hbytes d38) (by decide) rfl rfl ?_
        refine XS.goto X7.here hexec rfl (pc0 := 41) rfl (hb hbytes d41) (by decide) rfl ?_
        exact Steps.refl _)
      have c10 : Steps p.tables e below (s₁.setTop (entryFrame m #[.ref b, .int (Int32.ofNat o), .ref d, .int (Int32.ofNat q), .int (Int32.ofNat len)] 7)) (T7.setTop (mkF m 3 #[.val (.ref b), .val (.int (Int32.ofNat (o + (i + 1)))), .val (.ref d), .val (.int (Int32.ofNat (q + (i + 1)))), .val (.int (Int32.ofNat len)), .val (.int (Int32.ofNat (i + 1))), .val (.int (cv A (o + i)))] [])) := by
        have := c9
        rw [succ32, succ32, succ32] at this
        exact this
      exact ih (i + 1) (by omega) _ (Or.inr ⟨_, rfl, rfl⟩) T7 _ (by rw [copyLocs_step, ← List.append_assoc]; exact X7) (pl.trans p7) (fl.step (by omega) hlt (by simp)) c10
  obtain ⟨T9, B9, z9, X9, p9, f9, g9⟩ := loop len 0 (by omega) .unset (Or.inl rfl) s₁ B (by simpa [copyLocs] using X0) ⟨hB0.1, fun _ _ => rfl, rfl⟩ (Laid.zero _ _ _) c2
  have c11 : Steps p.tables e below (s₁.setTop (entryFrame m #[.ref b, .int (Int32.ofNat o), .ref d, .int (Int32.ofNat q), .int (Int32.ofNat len)] 7)) (T9.setTop (mkF m 46 #[.val (.ref b), .val (.int (Int32.ofNat (o + len))), .val (.ref d), .val (.int (Int32.ofNat (q + len))), .val (.int (Int32.ofNat len)), .val (.int (Int32.ofNat len)), z9] [.int (Int32.ofNat len)])) := g9.trans (by
    refine XS.iload X9.here hexec rfl (hb hbytes d3) rfl ?_
    refine XS.iload X9.here hexec rfl (hb hbytes d5) rfl ?_
    refine XS.icmpYes X9.here hexec rfl (pc0 := 7) rfl (hb hbytes d7) rfl (ii_ge_t (nlt32 (by omega) (Nat.le_refl _))) (by decide) rfl ?_
    refine XS.iload X9.here hexec rfl (hb hbytes d44) rfl ?_
    exact Steps.refl _)
  exact ⟨T9, some (.int (Int32.ofNat len)), _, _, _, X9, by simp, rfl, rfl, (fun h => by cases h), ⟨rfl, B9, p9.from hh0, f9⟩, fun fs hl => c11.trans (X9.ireturnOut hexec hret rfl (Or.inl rfl) (hb hbytes d46) hl)⟩
end Cmp5
namespace Cmp3
def yN : MethodName := ⟨"java/lang/StringUTF16", "compress", "([CII)[B"⟩
abbrev yB : ByteArray := jdk_52_method_16_code
theorem d0 : decode yB 0 = .ok (.iload_n 2, 1) := by decide +kernel
theorem d1 : decode yB 1 = .ok (.newarray .byte, 2) := by decide +kernel
theorem d3 : decode yB 3 = .ok (.astore_n 3, 1) := by decide +kernel
theorem d4 : decode yB 4 = .ok (.aload_n 0, 1) := by decide +kernel
theorem d5 : decode yB 5 = .ok (.iload_n 1, 1) := by decide +kernel
theorem d6 : decode yB 6 = .ok (.aload_n 3, 1) := by decide +kernel
theorem d7 : decode yB 7 = .ok (.iconst 0, 1) := by decide +kernel
theorem d8 : decode yB 8 = .ok (.iload_n 2, 1) := by decide +kernel
theorem d9 : decode yB 9 = .ok (.invokestatic 115, 3) := by decide +kernel
theorem d12 : decode yB 12 = .ok (.istore 4, 2) := by decide +kernel
theorem d14 : decode yB 14 = .ok (.iload 4, 2) := by decide +kernel
theorem d16 : decode yB 16 = .ok (.iload_n 2, 1) := by decide +kernel
theorem d17 : decode yB 17 = .ok (.if_icmp (.eq) 40, 3) := by decide +kernel
theorem d57 : decode yB 57 = .ok (.aload_n 3, 1) := by decide +kernel
theorem d58 : decode yB 58 = .ok (.areturn, 1) := by decide +kernel
def site : List Cond := [.arrayClass .byte, Cmp5.tab] ++ staticW U16 115 Cmp5.yN
def tab : Cond := tabOf yN yB 6 (some (.array .byte)) site
def P (b : Addr) (A : Cell) (o len : Nat) (args : Array Value) (s : State) : Prop := args = #[.ref b, .int (Int32.ofNat o), .int (Int32.ofNat len)] ∧ Ch b A s ∧ o + len ≤ A.slots.size ∧ len ≤ 536870912 ∧ ∀ i, i < len → ¬ 255 < cv A (o + i)
def E (b : Addr) (A : Cell) (o len : Nat) (r : Option Value) (s u : State) : Prop := NewArr .byte "[B" len (fun j => .int (lo8 (cv A (o + j)))) r s u ∧ u.heap.size = s.heap.size + 1
/-- no char of the range above 255: a new byte[] of their low bytes -/
theorem law (l : Launch) (b : Addr) (A : Cell) (o len : Nat) : Law l yN 3 3 1 18 yB 6 (some (.array .byte)) site (P b A o len) (E b A o len) [] 1 len := by
  refine Law.of_walk (plainFor_of_name (by decide +kernel)) (by decide +kernel) (by decide +kernel) (by decide) (fun _ _ h => by rw [h.1]; rfl) (fun _ U U' hal hh h => ⟨h.1, h.2.1.mv hal hh, h.2.2⟩) (fun r U U' V V' h1 hal h2 h => ⟨NewArr.mv r U U' V V' h1 hal h2 h.1, by rw [h1, h2]; exact h.2⟩) ?_
  intro p e s m args below meth c s₁ X0 hexec hbytes hml hret hlk hnm hown hh0 W hP
  obtain ⟨rfl, hA, l1, l2, hp⟩ := hP
  have a31 := hA.1.2.2.2
  have c1 : Steps p.tables e below (s₁.setTop (entryFrame m #[.ref b, .int (Int32.ofNat o), .int (Int32.ofNat len)] 6)) (s₁.setTop (mkF m 0 #[.val (.ref b), .val (.int (Int32.ofNat o)), .val (.int (Int32.ofNat len)), .unset, .unset, .unset] [])) := entry rfl
  have c2 : Steps p.tables e below (s₁.setTop (entryFrame m #[.ref b, .int (Int32.ofNat o), .int (Int32.ofNat len)] 6)) (s₁.setTop (mkF m 1 #[.val (.ref b), .val (.int (Int32.ofNat o)), .val (.int (Int32.ofNat len)), .unset, .unset, .unset] [.int (Int32.ofNat len)])) := c1.trans (by
    refine XS.iloadN X0.here hexec rfl (hb hbytes d0) rfl ?_
    exact Steps.refl _)
  obtain ⟨T3, B3, X3, ba3, bs3, bv3, bh3, bf3, st3⟩ := X0.anew hexec (atype := .byte) (wk W (.arrayClass .byte)) rfl (by show len * 1 ≤ _; omega) (by omega) (g := (mkF m 1 #[.val (.ref b), .val (.int (Int32.ofNat o)), .val (.int (Int32.ofNat len)), .unset, .unset, .unset] [.int (Int32.ofNat len)])) rfl (hb hbytes d1) (rest := []) rfl (Nat.le_refl _) (by show 0 + len ≤ len; omega)
  rw [hh0] at ba3 st3
  have kp3 : XT.Kept s T3 := (XT.Kept.of_eq hh0).push bh3
  have hA3 := hA.keep X3.warmed.alike (kp3 _ _ hA.1.1)
  have hne : b ≠ s.heap.size := hA.1.ne
  have c4 : Steps p.tables e below (s₁.setTop (entryFrame m #[.ref b, .int (Int32.ofNat o), .int (Int32.ofNat len)] 6)) (T3.setTop (mkF m 3 #[.val (.ref b), .val (.int (Int32.ofNat o)), .val (.int (Int32.ofNat len)), .unset, .unset, .unset] [.ref s.heap.size])) := c2.trans (st3 _ (Steps.refl _))
  have c5 : Steps p.tables e below (s₁.setTop (entryFrame m #[.ref b, .int (Int32.ofNat o), .int (Int32.ofNat len)] 6)) (T3.setTop (mkF m 9 #[.val (.ref b), .val (.int (Int32.ofNat o)), .val (.int (Int32.ofNat len)), .val (.ref s.heap.size), .unset, .unset] [.int (Int32.ofNat len), .int 0, .ref s.heap.size, .int (Int32.ofNat o), .ref b])) := c4.trans (by
    refine XS.astoreN X3.here hexec rfl (hb hbytes d3) rfl rfl rfl ?_
    refine XS.aloadN X3.here hexec rfl (hb hbytes d4) rfl rfl ?_
    refine XS.iloadN X3.here hexec rfl (hb hbytes d5) rfl ?_
    refine XS.aloadN X3.here hexec rfl (hb hbytes d6) rfl rfl ?_
    refine iconstV X3.here hexec rfl 0 (hb hbytes d7) (by decide) ?_
    refine XS.iloadN X3.here hexec rfl (hb hbytes d8) rfl ?_
    exact Steps.refl _)
  obtain ⟨v6, T6, X6, E6, g6⟩ := X3.callS hexec (Cmp5.law l b A s.heap.size B3 o 0 len) hown (wks W (staticW U16 115 Cmp5.yN)) (wk W Cmp5.tab) (W := 0) (Nat.le_of_ble_eq_true rfl) (Nat.le_of_ble_eq_true rfl) (Nat.le_refl _) (by show 0 + len + 0 ≤ len; omega) (g := (mkF m 9 #[.val (.ref b), .val (.int (Int32.ofNat o)), .val (.int (Int32.ofNat len)), .val (.ref s.heap.size), .unset, .unset] [.int (Int32.ofNat len), .int (Int32.ofNat 0), .ref s.heap.size, .int (Int32.ofNat o), .ref b])) rfl (by rw [hml]; rfl) c5 (argsL := [.ref b, .int (Int32.ofNat o), .ref s.heap.size, .int (Int32.ofNat 0), .int (Int32.ofNat len)]) (rest := []) rfl rfl (by show 2 * 0 + 0 ≤ _; decide) (hb hbytes d9) (⟨rfl, hA3, ba3, hne, l1, by rw [bs3]; simp, hp⟩)
  obtain ⟨rfl, B6, p6, f6⟩ := E6
  have c7 : Steps p.tables e below (s₁.setTop (entryFrame m #[.ref b, .int (Int32.ofNat o), .int (Int32.ofNat len)] 6)) (T6.setTop (mkF m 12 #[.val (.ref b), .val (.int (Int32.ofNat o)), .val (.int (Int32.ofNat len)), .val (.ref s.heap.size), .unset, .unset] [.int (Int32.ofNat len)])) := g6
  have c8 : Steps p.tables e below (s₁.setTop (entryFrame m #[.ref b, .int (Int32.ofNat o), .int (Int32.ofNat len)] 6)) (T6.setTop (mkF m 58 #[.val (.ref b), .val (.int (Int32.ofNat o)), .val (.int (Int32.ofNat len)), .val (.ref s.heap.size), .val (.int (Int32.ofNat len)), .unset] [.ref s.heap.size])) := c7.trans (by
    refine XS.istore X6.here hexec rfl (hb hbytes d12) rfl rfl ?_
    refine XS.iload X6.here hexec rfl (hb hbytes d14) rfl ?_
    refine XS.iloadN X6.here hexec rfl (hb hbytes d16) rfl ?_
    refine XS.icmpYes X6.here hexec rfl (pc0 := 17) rfl (hb hbytes d17) rfl (ii_eq_t rfl) (by decide) rfl ?_
    refine XS.aloadN X6.here hexec rfl (hb hbytes d57) rfl rfl ?_
    exact Steps.refl _)
  have X8 := X6.wide (L' := []) (cells' := 1) (slots' := len) (fun x hx hlt => by
    simp only [List.nil_append, copyLocs, List.mem_map, List.mem_range] at hx
    obtain ⟨i, -, rfl⟩ := hx
    exact absurd hlt (Nat.lt_irrefl _)) (Nat.le_refl _) (by omega)
  exact ⟨T6, some (.ref s.heap.size), _, _, _, X8, rfl, rfl, rfl, (fun h => by cases h), ⟨⟨rfl, B6, ba3.like (X3.warmed.alike.symm.trans X6.warmed.alike) p6.1 f6.1 f6.2.1 f6.2.2.1, f6.2.1.trans bv3, by rw [X6.warmed.alike.findClass, f6.1]; exact bf3, by rw [f6.2.2.1, bs3]; simp, fun j hj => by rw [f6.2.2.2 j, if_pos (by omega)]; rfl, kp3.put p6 (Nat.le_refl _)⟩, by rw [p6.2.2, bh3, hh0]; simp⟩, fun fs hl => c8.trans (X8.areturnOut hexec rfl hret rfl (hb hbytes d58) hl)⟩
end Cmp3
namespace CodL
def yN : MethodName := ⟨"java/lang/StringUTF16", "coderFromArrayLen", "([BI)B"⟩
abbrev yB : ByteArray := jdk_52_method_15_code
theorem d0 : decode yB 0 = .ok (.iload_n 1, 1) := by decide +kernel
theorem d1 : decode yB 1 = .ok (.aload_n 0, 1) := by decide +kernel
theorem d2 : decode yB 2 = .ok (.arraylength, 1) := by decide +kernel
theorem d3 : decode yB 3 = .ok (.isub, 1) := by decide +kernel
theorem d4 : decode yB 4 = .ok (.bipush 31, 2) := by decide +kernel
theorem d6 : decode yB 6 = .ok (.iushr, 1) := by decide +kernel
theorem d7 : decode yB 7 = .ok (.i2b, 1) := by decide +kernel
theorem d8 : decode yB 8 = .ok (.ireturn, 1) := by decide +kernel
def site : List Cond := []
def tab : Cond := tabOf yN yB 2 (some .byte) site
def P (d : Addr) (B : Cell) (args : Array Value) (s : State) : Prop := args = #[.ref d, .int (Int32.ofNat B.slots.size)] ∧ Arr .byte d B s
def E (r : Option Value) (s u : State) : Prop := XT.PureE (some (.int 0)) r s u
/-- an array as long as the number of chars: LATIN1 -/
theorem law (l : Launch) (d : Addr) (B : Cell) : Law l yN 2 2 0 0 yB 2 (some .byte) site (P d B) E [] 0 0 := by
  refine Law.of_walk (plainFor_of_name (by decide +kernel)) (by decide +kernel) (by decide +kernel) (by decide) (fun _ _ h => by rw [h.1]; rfl) (fun _ U U' hal hh h => ⟨h.1, h.2.mv hal hh⟩) (fun r U U' V V' h1 hal h2 h => XT.PureE.mv r U U' V V' h1 hal h2 h) ?_
  intro p e s m args below meth c s₁ X0 hexec hbytes hml hret hlk hnm hown hh0 W hP
  obtain ⟨rfl, hB⟩ := hP
  have hB0 := hB.mv X0.warmed.alike hh0
  have c1 : Steps p.tables e below (s₁.setTop (entryFrame m #[.ref d, .int (Int32.ofNat B.slots.size)] 2)) (s₁.setTop (mkF m 0 #[.val (.ref d), .val (.int (Int32.ofNat B.slots.size))] [])) := entry rfl
  have c2 : Steps p.tables e below (s₁.setTop (entryFrame m #[.ref d, .int (Int32.ofNat B.slots.size)] 2)) (s₁.setTop (mkF m 2 #[.val (.ref d), .val (.int (Int32.ofNat B.slots.size))] [.ref d, .int (Int32.ofNat B.slots.size)])) := c1.trans (by
    refine XS.iloadN X0.here hexec rfl (hb hbytes d0) rfl ?_
    refine XS.aloadN X0.here hexec rfl (hb hbytes d1) rfl rfl ?_
    exact Steps.refl _)
  have c3 : Steps p.tables e below (s₁.setTop (entryFrame m #[.ref d, .int (Int32.ofNat B.slots.size)] 2)) (s₁.setTop (mkF m 8 #[.val (.ref d), .val (.int (Int32.ofNat B.slots.size))] [.int (lo8 (ushr (Int32.ofNat B.slots.size - Int32.ofNat B.slots.size) 31))])) := c2.trans (by
    refine X0.alen hexec hB0 rfl rfl (hb hbytes d2) ?_
    refine XS.isub X0.here hexec rfl (hb hbytes d3) rfl ?_
    refine bipushV X0.here hexec rfl 31 (hb hbytes d4) (by decide) ?_
    refine iushr X0.here hexec rfl (hb hbytes d6) rfl ?_
    refine i2b X0.here hexec rfl (hb hbytes d7) rfl ?_
    exact Steps.refl _)
  have e0 : lo8 (ushr (Int32.ofNat B.slots.size - Int32.ofNat B.slots.size) 31) = 0 := by rw [Int32.sub_self]; decide
  rw [e0] at c3
  exact ⟨s₁, some (.int 0), _, _, _, X0, rfl, rfl, rfl, (fun h => by cases h), ⟨rfl, hh0⟩, fun fs hl => c3.trans (X0.ireturnOut hexec hret rfl (Or.inr (Or.inr (Or.inl rfl))) (hb hbytes d8) hl)⟩
end CodL
/-- the String at a is Latin-1 over a new byte[] (the heap's one new cell): the low bytes of the len chars of A from o on; every cell but a is kept -/
def Got (a : Addr) (D : Cell) (fV fC : Field) (A : Cell) (o len : Nat) (r : Option Value) (s u : State) : Prop := r = none ∧ ∃ D' V : Cell, Blank "java/lang/String" a D' u ∧ Same D D' [fV.slot, fC.slot] ∧ D'.slots[fV.slot]? = some (.ref s.heap.size) ∧ D'.slots[fC.slot]? = some (.int 0) ∧ Arr .byte s.heap.size V u ∧ V.vm = .none ∧ u.vm.findClass "[B" = some V.cls ∧ V.slots.size = len ∧ (∀ j, j < len → V.slots[j]? = some (.int (lo8 (cv A (o + j))))) ∧ (∀ (y : Addr) (c : Cell), y ≠ a → s.heap[y]? = some c → u.heap[y]? = some c) ∧ u.heap.size = s.heap.size + 1
theorem Got.mv {a : Addr} {D A : Cell} {fV fC : Field} {o len : Nat} : ∀ r (U U' V V' : State), U'.heap = U.heap → V.vm.Alike V'.vm → V'.heap = V.heap → Got a D fV fC A o len r U V → Got a D fV fC A o len r U' V' :=
  fun r U U' V V' h1 hal h2 ⟨e0, D', X, a1, a2, a3, a4, a5, a6, a7, a8, a9, a10, a11⟩ => ⟨e0, D', X, a1.mv hal h2, a2, by rw [h1]; exact a3, a4, by rw [h1]; exact a5.mv hal h2, a6, by rw [hal.findClass]; exact a7, a8, a9, by rw [h1, h2]; exact a10, by rw [h1, h2]; exact a11⟩
namespace New4
def yN : MethodName := ⟨"java/lang/String", "<init>", "([CIILjava/lang/Void;)V"⟩
abbrev yB : ByteArray := jdk_42_method_149_code
theorem d0 : decode yB 0 = .ok (.aload_n 0, 1) := by decide +kernel
theorem d1 : decode yB 1 = .ok (.invokespecial 1, 3) := by decide +kernel
theorem d4 : decode yB 4 = .ok (.iload_n 3, 1) := by decide +kernel
theorem d5 : decode yB 5 = .ok (.ifCond (.ne) 22, 3) := by decide +kernel
theorem d27 : decode yB 27 = .ok (.getstatic 38, 3) := by decide +kernel
theorem d30 : decode yB 30 = .ok (.ifCond (.eq) 28, 3) := by decide +kernel
theorem d33 : decode yB 33 = .ok (.aload_n 1, 1) := by decide +kernel
theorem d34 : decode yB 34 = .ok (.iload_n 2, 1) := by decide +kernel
theorem d35 : decode yB 35 = .ok (.iload_n 3, 1) := by decide +kernel
theorem d36 : decode yB 36 = .ok (.invokestatic 177, 3) := by decide +kernel
theorem d39 : decode yB 39 = .ok (.astore 5, 2) := by decide +kernel
theorem d41 : decode yB 41 = .ok (.aload_n 0, 1) := by decide +kernel
theorem d42 : decode yB 42 = .ok (.aload 5, 2) := by decide +kernel
theorem d44 : decode yB 44 = .ok (.iload_n 3, 1) := by decide +kernel
theorem d45 : decode yB 45 = .ok (.invokestatic 47, 3) := by decide +kernel
theorem d48 : decode yB 48 = .ok (.putfield 15, 3) := by decide +kernel
theorem d51 : decode yB 51 = .ok (.aload_n 0, 1) := by decide +kernel
theorem d52 : decode yB 52 = .ok (.aload 5, 2) := by decide +kernel
theorem d54 : decode yB 54 = .ok (.putfield 9, 3) := by decide +kernel
theorem d57 : decode yB 57 = .ok (.return_, 1) := by decide +kernel
def site : List Cond := [.fieldLink "java/lang/String" 38 "java/lang/String" "COMPACT_STRINGS" "Z", Cmp3.tab, CodL.tab, .laysFinal "java/lang/String" "java/lang/String" "value" "[B", .fieldLink "java/lang/String" 9 "java/lang/String" "value" "[B", .laysFinal "java/lang/String" "java/lang/String" "coder" "B", .fieldLink "java/lang/String" 15 "java/lang/String" "coder" "B"] ++ objW "java/lang/String" 1 ++ staticW "java/lang/String" 177 Cmp3.yN ++ staticW "java/lang/String" 47 CodL.yN
def tab : Cond := tabOf yN yB 6 none site
def P (a : Addr) (D : Cell) (fV fC : Field) (b : Addr) (A : Cell) (z : Int32) (o len : Nat) (args : Array Value) (s : State) : Prop := args = #[.ref a, .ref b, .int (Int32.ofNat o), .int (Int32.ofNat len), .null] ∧ Blank "java/lang/String" a D s ∧ Found "java/lang/String" "value" "[B" fV s ∧ Found "java/lang/String" "coder" "B" fC s ∧ Ch b A s ∧ StaticIs s "java/lang/String" "COMPACT_STRINGS" "Z" (.int z) ∧ ¬ z = 0 ∧ 0 < len ∧ o + len ≤ A.slots.size ∧ len ≤ 536870912 ∧ ∀ i, i < len → ¬ 255 < cv A (o + i)
def E (a : Addr) (D : Cell) (fV fC : Field) (A : Cell) (o len : Nat) (r : Option Value) (s u : State) : Prop := Got a D fV fC A o len r s u
/-- len > 0, no char of the range above 255: a Latin-1 String of their low bytes -/
theorem law (l : Launch) (a : Addr) (D : Cell) (fV fC : Field) (b : Addr) (A : Cell) (z : Int32) (o len : Nat) : Law l yN 5 4 2 35 yB 6 none site (P a D fV fC b A z o len) (E a D fV fC A o len) [⟨a, fC.slot⟩, ⟨a, fV.slot⟩] 1 len := by
  refine Law.of_walk (plainFor_of_name (by decide +kernel)) (by decide +kernel) (by decide +kernel) (by decide) (fun _ _ h => by rw [h.1]; rfl) (fun _ U U' hal hh h => ⟨h.1, h.2.1.mv hal hh, h.2.2.1.al hal, h.2.2.2.1.al hal, h.2.2.2.2.1.mv hal hh, h.2.2.2.2.2.1.there hal hh, h.2.2.2.2.2.2⟩) (fun r U U' V V' h1 hal h2 h => Got.mv r U U' V V' h1 hal h2 h) ?_
  intro p e s m args below meth c s₁ X0 hexec hbytes hml hret hlk hnm hown hh0 W hP
  obtain ⟨rfl, hB, f1, f2, hA, s1, hz, l0, l1, l2, hp⟩ := hP
  have a31 := hA.1.2.2.2
  have c1 : Steps p.tables e below (s₁.setTop (entryFrame m #[.ref a, .ref b, .int (Int32.ofNat o), .int (Int32.ofNat len), .null] 6)) (s₁.setTop (mkF m 0 #[.val (.ref a), .val (.ref b), .val (.int (Int32.ofNat o)), .val (.int (Int32.ofNat len)), .val .null, .unset] [])) := entry rfl
  have c2 : Steps p.tables e below (s₁.setTop (entryFrame m #[.ref a, .ref b, .int (Int32.ofNat o), .int (Int32.ofNat len), .null] 6)) (s₁.setTop (mkF m 1 #[.val (.ref a), .val (.ref b), .val (.int (Int32.ofNat o)), .val (.int (Int32.ofNat len)), .val .null, .unset] [.ref a])) := c1.trans (by
    refine XS.aloadN X0.here hexec rfl (hb hbytes d0) rfl rfl ?_
    exact Steps.refl _)
  obtain ⟨T3, X3, q3, st3⟩ := X0.oinit hexec hown (wks W (objW "java/lang/String" 1)) (g := (mkF m 1 #[.val (.ref a), .val (.ref b), .val (.int (Int32.ofNat o)), .val (.int (Int32.ofNat len)), .val .null, .unset] [.ref a])) rfl (by rw [hml]; rfl) (rest := []) rfl (hb hbytes d1) (W := 0) (by show 2 * 0 + 0 ≤ _; decide) (Nat.le_of_ble_eq_true rfl) (Nat.le_of_ble_eq_true rfl)
  have hh3 := q3.trans hh0
  have c4 : Steps p.tables e below (s₁.setTop (entryFrame m #[.ref a, .ref b, .int (Int32.ofNat o), .int (Int32.ofNat len), .null] 6)) (T3.setTop (mkF m 27 #[.val (.ref a), .val (.ref b), .val (.int (Int32.ofNat o)), .val (.int (Int32.ofNat len)), .val .null, .unset] [])) := (c2.trans (st3 _ (Steps.refl _))).trans (by
    refine XS.iloadN X3.here hexec rfl (hb hbytes d4) rfl ?_
    refine XS.ifYes X3.here hexec rfl (pc0 := 5) rfl (hb hbytes d5) rfl (i0_ne_t (nz32 (by omega) l0)) (by decide) rfl ?_
    exact Steps.refl _)
  obtain ⟨T5, X5, q5, st5⟩ := X3.sget hexec hown (wk W (.fieldLink "java/lang/String" 38 "java/lang/String" "COMPACT_STRINGS" "Z")) s1 (fun _ _ h => by rw [hh3]; exact h) (g := (mkF m 27 #[.val (.ref a), .val (.ref b), .val (.int (Int32.ofNat o)), .val (.int (Int32.ofNat len)), .val .null, .unset] [])) rfl (hb hbytes d27)
  have hh5 := q5.trans hh3
  have c6 : Steps p.tables e below (s₁.setTop (entryFrame m #[.ref a, .ref b, .int (Int32.ofNat o), .int (Int32.ofNat len), .null] 6)) (T5.setTop (mkF m 30 #[.val (.ref a), .val (.ref b), .val (.int (Int32.ofNat o)), .val (.int (Int32.ofNat len)), .val .null, .unset] [.int z])) := c4.trans (st5 _ (Steps.refl _))
  have c7 : Steps p.tables e below (s₁.setTop (entryFrame m #[.ref a, .ref b, .int (Int32.ofNat o), .int (Int32.ofNat len), .null] 6)) (T5.setTop (mkF m 36 #[.val (.ref a), .val (.ref b), .val (.int (Int32.ofNat o)), .val (.int (Int32.ofNat len)), .val .null, .unset] [.int (Int32.ofNat len), .int (Int32.ofNat o), .ref b])) := c6.trans (by
    refine XS.ifNo X5.here hexec rfl (hb hbytes d30) rfl (i0_eq_f hz) ?_
    refine XS.aloadN X5.here hexec rfl (hb hbytes d33) rfl rfl ?_
    refine XS.iloadN X5.here hexec rfl (hb hbytes d34) rfl ?_
    refine XS.iloadN X5.here hexec rfl (hb hbytes d35) rfl ?_
    exact Steps.refl _)
  obtain ⟨v8, T8, X8, E8, g8⟩ := X5.callS hexec (Cmp3.law l b A o len) hown (wks W (staticW "java/lang/String" 177 Cmp3.yN)) (wk W Cmp3.tab) (W := 0) (Nat.le_of_ble_eq_true rfl) (Nat.le_of_ble_eq_true rfl) (Nat.le_refl _) (by show 0 + len ≤ len; omega) (g := (mkF m 36 #[.val (.ref a), .val (.ref b), .val (.int (Int32.ofNat o)), .val (.int (Int32.ofNat len)), .val .null, .unset] [.int (Int32.ofNat len), .int (Int32.ofNat o), .ref b])) rfl (by rw [hml]; rfl) c7 (argsL := [.ref b, .int (Int32.ofNat o), .int (Int32.ofNat len)]) (rest := []) rfl rfl (by show 2 * 0 + 0 ≤ _; decide) (hb hbytes d36) (⟨rfl, hA.mv X5.warmed.alike hh5, l1, l2, hp⟩)
  obtain ⟨e8, z8⟩ := E8
  obtain ⟨rfl, N, n1, n2, n3, n4, n5, n6⟩ := NewArr.mv _ T5 s _ _ hh5.symm (Vm.Alike.refl _) rfl e8
  rw [hh5] at z8
  have hB1 := hB.keep X8.warmed.alike (n6 _ _ hB.1)
  have hne : s.heap.size ≠ a := (Nat.ne_of_lt (Array.getElem?_eq_some_iff.mp hB.1).1).symm
  have c9 : Steps p.tables e below (s₁.setTop (entryFrame m #[.ref a, .ref b, .int (Int32.ofNat o), .int (Int32.ofNat len), .null] 6)) (T8.setTop (mkF m 39 #[.val (.ref a), .val (.ref b), .val (.int (Int32.ofNat o)), .val (.int (Int32.ofNat len)), .val .null, .unset] [.ref s.heap.size])) := g8
  have c10 : Steps p.tables e below (s₁.setTop (entryFrame m #[.ref a, .ref b, .int (Int32.ofNat o), .int (Int32.ofNat len), .null] 6)) (T8.setTop (mkF m 45 #[.val (.ref a), .val (.ref b), .val (.int (Int32.ofNat o)), .val (.int (Int32.ofNat len)), .val .null, .val (.ref s.heap.size)] [.int (Int32.ofNat N.slots.size), .ref s.heap.size, .ref a])) := by
    have hc : Steps p.tables e below (s₁.setTop (entryFrame m #[.ref a, .ref b, .int (Int32.ofNat o), .int (Int32.ofNat len), .null] 6)) (T8.setTop (mkF m 45 #[.val (.ref a), .val (.ref b), .val (.int (Int32.ofNat o)), .val (.int (Int32.ofNat len)), .val .null, .val (.ref s.heap.size)] [.int (Int32.ofNat len), .ref s.heap.size, .ref a])) := c9.trans (by
      refine XS.astore X8.here hexec rfl (hb hbytes d39) rfl rfl rfl ?_
      refine XS.aloadN X8.here hexec rfl (hb hbytes d41) rfl rfl ?_
      refine XS.aload X8.here hexec rfl (hb hbytes d42) rfl rfl ?_
      refine XS.iloadN X8.here hexec rfl (hb hbytes d44) rfl ?_
      exact Steps.refl _)
    rw [n4]; exact hc
  obtain ⟨v11, T11, X11, E11, g11⟩ := X8.callS hexec (CodL.law l s.heap.size N) hown (wks W (staticW "java/lang/String" 47 CodL.yN)) (wk W CodL.tab) (W := 1) (Nat.le_of_ble_eq_true rfl) (Nat.le_of_ble_eq_true rfl) (Nat.le_refl _) (by show 0 + len + 0 ≤ len; omega) (g := (mkF m 45 #[.val (.ref a), .val (.ref b), .val (.int (Int32.ofNat o)), .val (.int (Int32.ofNat len)), .val .null, .val (.ref s.heap.size)] [.int (Int32.ofNat N.slots.size), .ref s.heap.size, .ref a])) rfl (by rw [hml]; rfl) c10 (argsL := [.ref s.heap.size, .int (Int32.ofNat N.slots.size)]) (rest := [.ref a]) rfl rfl (by show 2 * 0 + (1 + 0) ≤ _; decide) (hb hbytes d45) (⟨rfl, n1⟩)
  obtain ⟨rfl, q11⟩ := E11
  have hB11 := hB1.mv (X8.warmed.alike.symm.trans X11.warmed.alike) q11
  have c12 : Steps p.tables e below (s₁.setTop (entryFrame m #[.ref a, .ref b, .int (Int32.ofNat o), .int (Int32.ofNat len), .null] 6)) (T11.setTop (mkF m 48 #[.val (.ref a), .val (.ref b), .val (.int (Int32.ofNat o)), .val (.int (Int32.ofNat len)), .val .null, .val (.ref s.heap.size)] [.int 0, .ref a])) := g11
  obtain ⟨T13, X13, p13, bl13, sl13, st13⟩ := X11.finit hexec hown (wk W (.fieldLink "java/lang/String" 15 "java/lang/String" "coder" "B")) (Or.inr ⟨_, (wk W (.laysFinal "java/lang/String" "java/lang/String" "coder" "B"))⟩) (Or.inl ⟨rfl, hnm⟩) f2 (Or.inl rfl) hB11 (t := .byte) (by decide +kernel) rfl (g := (mkF m 48 #[.val (.ref a), .val (.ref b), .val (.int (Int32.ofNat o)), .val (.int (Int32.ofNat len)), .val .null, .val (.ref s.heap.size)] [.int 0, .ref a])) rfl (rest := []) rfl (hb hbytes d48)
  have c14 : Steps p.tables e below (s₁.setTop (entryFrame m #[.ref a, .ref b, .int (Int32.ofNat o), .int (Int32.ofNat len), .null] 6)) (T13.setTop (mkF m 54 #[.val (.ref a), .val (.ref b), .val (.int (Int32.ofNat o)), .val (.int (Int32.ofNat len)), .val .null, .val (.ref s.heap.size)] [.ref s.heap.size, .ref a])) := (c12.trans (st13 _ (Steps.refl _))).trans (by
    refine XS.aloadN X13.here hexec rfl (hb hbytes d51) rfl rfl ?_
    refine XS.aload X13.here hexec rfl (hb hbytes d52) rfl rfl ?_
    exact Steps.refl _)
  obtain ⟨T15, X15, p15, bl15, sl15, st15⟩ := X13.finit hexec hown (wk W (.fieldLink "java/lang/String" 9 "java/lang/String" "value" "[B")) (Or.inr ⟨_, (wk W (.laysFinal "java/lang/String" "java/lang/String" "value" "[B"))⟩) (Or.inl ⟨rfl, hnm⟩) f1 (Or.inl rfl) bl13 (t := (.array .byte)) (by decide +kernel) rfl (g := (mkF m 54 #[.val (.ref a), .val (.ref b), .val (.int (Int32.ofNat o)), .val (.int (Int32.ofNat len)), .val .null, .val (.ref s.heap.size)] [.ref s.heap.size, .ref a])) rfl (rest := []) rfl (hb hbytes d54)
  have c16 : Steps p.tables e below (s₁.setTop (entryFrame m #[.ref a, .ref b, .int (Int32.ofNat o), .int (Int32.ofNat len), .null] 6)) (T15.setTop (mkF m 57 #[.val (.ref a), .val (.ref b), .val (.int (Int32.ofNat o)), .val (.int (Int32.ofNat len)), .val .null, .val (.ref s.heap.size)] [])) := c14.trans (st15 _ (Steps.refl _))
  have ap := apart (Or.inr ⟨_, (wk W (.laysFinal "java/lang/String" "java/lang/String" "value" "[B"))⟩) (Or.inr ⟨_, (wk W (.laysFinal "java/lang/String" "java/lang/String" "coder" "B"))⟩) f1 f2 (t₁ := .array .byte) (t₂ := .byte) (by decide +kernel) (by decide +kernel) (by decide)
  have al := X8.warmed.alike.symm.trans X15.warmed.alike
  have n7 : T11.heap[s.heap.size]? = some N := by rw [q11]; exact n1.1
  exact ⟨T15, none, _, _, _, X15, by simp, rfl, by omega, (fun _ => rfl), ⟨rfl, _, N, bl15, ((Same.refl D _).set _ (by simp)).set _ (by simp), sl15, (Cell.slots_setSlot_ne _ ap).trans sl13, n1.keep al (p15.other hne (p13.other hne n7)), n2, by rw [al.findClass]; exact n3, n4, n5, fun y c h1 h2 => p15.other h1 (p13.other h1 (by rw [q11]; exact n6 y c h2)), by rw [p15.2.2, p13.2.2, q11]; exact z8⟩, fun fs hl => c16.trans (X15.returnOut hexec hret (hb hbytes d57) hl)⟩
end New4
namespace New1
def yN : MethodName := ⟨"java/lang/String", "<init>", "([C)V"⟩
abbrev yB : ByteArray := jdk_42_method_3_code
theorem d0 : decode yB 0 = .ok (.aload_n 0, 1) := by decide +kernel
theorem d1 : decode yB 1 = .ok (.aload_n 1, 1) := by decide +kernel
theorem d2 : decode yB 2 = .ok (.iconst 0, 1) := by decide +kernel
theorem d3 : decode yB 3 = .ok (.aload_n 1, 1) := by decide +kernel
theorem d4 : decode yB 4 = .ok (.arraylength, 1) := by decide +kernel
theorem d5 : decode yB 5 = .ok (.aconst_null, 1) := by decide +kernel
theorem d6 : decode yB 6 = .ok (.invokespecial 27, 3) := by decide +kernel
theorem d9 : decode yB 9 = .ok (.return_, 1) := by decide +kernel
def site : List Cond := [New4.tab] ++ initW "java/lang/String" 27 New4.yN
def tab : Cond := tabOf yN yB 2 none site
def P (a : Addr) (D : Cell) (fV fC : Field) (b : Addr) (A : Cell) (z : Int32) (args : Array Value) (s : State) : Prop := args = #[.ref a, .ref b] ∧ Blank "java/lang/String" a D s ∧ Found "java/lang/String" "value" "[B" fV s ∧ Found "java/lang/String" "coder" "B" fC s ∧ Ch b A s ∧ StaticIs s "java/lang/String" "COMPACT_STRINGS" "Z" (.int z) ∧ ¬ z = 0 ∧ 0 < A.slots.size ∧ A.slots.size ≤ 536870912 ∧ ∀ i, i < A.slots.size → ¬ 255 < cv A i
def E (a : Addr) (D : Cell) (fV fC : Field) (A : Cell) (r : Option Value) (s u : State) : Prop := Got a D fV fC A 0 A.slots.size r s u
/-- new String(chars), not empty, no char above 255: a Latin-1 String of their low bytes -/
theorem law (l : Launch) (a : Addr) (D : Cell) (fV fC : Field) (b : Addr) (A : Cell) (z : Int32) : Law l yN 2 1 3 52 yB 2 none site (P a D fV fC b A z) (E a D fV fC A) [⟨a, fC.slot⟩, ⟨a, fV.slot⟩] 1 A.slots.size := by
  refine Law.of_walk (plainFor_of_name (by decide +kernel)) (by decide +kernel) (by decide +kernel) (by decide) (fun _ _ h => by rw [h.1]; rfl) (fun _ U U' hal hh h => ⟨h.1, h.2.1.mv hal hh, h.2.2.1.al hal, h.2.2.2.1.al hal, h.2.2.2.2.1.mv hal hh, h.2.2.2.2.2.1.there hal hh, h.2.2.2.2.2.2⟩) (fun r U U' V V' h1 hal h2 h => Got.mv r U U' V V' h1 hal h2 h) ?_
  intro p e s m args below meth c s₁ X0 hexec hbytes hml hret hlk hnm hown hh0 W hP
  obtain ⟨rfl, hB, f1, f2, hA, s1, hz, l0, l2, hp⟩ := hP
  have c1 : Steps p.tables e below (s₁.setTop (entryFrame m #[.ref a, .ref b] 2)) (s₁.setTop (mkF m 0 #[.val (.ref a), .val (.ref b)] [])) := entry rfl
  have c2 : Steps p.tables e below (s₁.setTop (entryFrame m #[.ref a, .ref b] 2)) (s₁.setTop (mkF m 6 #[.val (.ref a), .val (.ref b)] [.null, .int (Int32.ofNat A.slots.size), .int 0, .ref b, .ref a])) := c1.trans (by
    refine XS.aloadN X0.here hexec rfl (hb hbytes d0) rfl rfl ?_
    refine XS.aloadN X0.here hexec rfl (hb hbytes d1) rfl rfl ?_
    refine iconstV X0.here hexec rfl 0 (hb hbytes d2) (by decide) ?_
    refine XS.aloadN X0.here hexec rfl (hb hbytes d3) rfl rfl ?_
    refine X0.alen hexec (hA.1.mv X0.warmed.alike hh0) rfl rfl (hb hbytes d4) ?_
    refine XS.aconstNull X0.here hexec rfl (hb hbytes d5) ?_
    exact Steps.refl _)
  obtain ⟨v3, T3, X3, E3, g3⟩ := X0.callN hexec (New4.law l a D fV fC b A z 0 A.slots.size) rfl hown (wks W (initW "java/lang/String" 27 New4.yN)) (W New4.tab (by simp only [site, List.mem_cons, List.mem_append, true_or, or_true])) (W := 0) (Nat.le_of_ble_eq_true rfl) (Nat.le_of_ble_eq_true rfl) (Nat.le_refl _) (by show 0 + A.slots.size ≤ A.slots.size; omega) (g := (mkF m 6 #[.val (.ref a), .val (.ref b)] [.null, .int (Int32.ofNat A.slots.size), .int (Int32.ofNat 0), .ref b, .ref a])) rfl (by rw [hml]; rfl) c2 (argsL := [.ref b, .int (Int32.ofNat 0), .int (Int32.ofNat A.slots.size), .null]) (rest := []) rfl rfl (by show 2 * 0 + 0 ≤ _; decide) (hb hbytes d6) (⟨rfl, hB.mv X0.warmed.alike hh0, f1.al X0.warmed.alike, f2.al X0.warmed.alike, hA.mv X0.warmed.alike hh0, s1.there X0.warmed.alike hh0, hz, l0, by omega, l2, fun i hi => by rw [Nat.zero_add]; exact hp i hi⟩)
  have e0 := Got.mv _ s₁ s _ _ hh0.symm (Vm.Alike.refl _) rfl E3
  obtain rfl := e0.1
  have c4 : Steps p.tables e below (s₁.setTop (entryFrame m #[.ref a, .ref b] 2)) (T3.setTop (mkF m 9 #[.val (.ref a), .val (.ref b)] [])) := g3
  exact ⟨T3, none, _, _, _, X3, by simp, rfl, by omega, (fun _ => rfl), e0, fun fs hl => c4.trans (X3.returnOut hexec hret (hb hbytes d9) hl)⟩
theorem pays {l : Launch} {R : Room} {p : Program} {e : Env} {below : List Frame} {s : State} {sargs : Array Value} {len W : Nat} (a : Addr) (D : Cell) (fV fC : Field) (b : Addr) (A : Cell) (z : Int32) (htab : tab.before sargs s = true) (hfr : 4 ≤ R.frames) (hlo : W + 65 ≤ R.locals) :
    Back l R p e below s sargs yN len W (fun A₁ a₁ => A₁.cells + 1 ≤ R.cells ∧ A₁.slots + A.slots.size ≤ R.slots ∧ P a D fV fC b A z a₁ A₁.U) (fun A₁ _ v₁ B₁ => E a D fV fC A v₁ A₁.U B₁.U ∧ B₁.locs = A₁.locs ++ [⟨a, fC.slot⟩, ⟨a, fV.slot⟩] ∧ B₁.cells = A₁.cells + 1 ∧ B₁.slots = A₁.slots + A.slots.size) :=
  (law l a D fV fC b A z).pays htab hfr (by omega)
end New1
end StrChars
namespace StrChars.Road
open Jvm Sem ClassFile Op Lib Jvm.Stand Jvm.Free Jvm.Free.XT
open Jvm.Lib.Cold (StaticIs)
abbrev ST : String := "java/lang/String"
/-- every table word that New1's law asks, flat -/
abbrev words : List Jvm.Cond := [.code New1.yN New1.yB 2 none, .initialized ST, .methodLink ST 27 New4.yN, .instanceMethod New4.yN,
  .code New4.yN New4.yB 6 none, .fieldLink ST 38 ST "COMPACT_STRINGS" "Z", .laysFinal ST ST "value" "[B", .fieldLink ST 9 ST "value" "[B", .laysFinal ST ST "coder" "B", .fieldLink ST 15 ST "coder" "B",
  .methodLink ST 1 Lib.objectInit, .instanceMethod Lib.objectInit, .code Lib.objectInit ⟨#[0xb1]⟩ 1 none, .methodLink ST 177 Cmp3.yN, .static Cmp3.yN, .methodLink ST 47 CodL.yN, .static CodL.yN,
  .code Cmp3.yN Cmp3.yB 6 (some (.array .byte)), .initialized U16, .arrayClass .byte, .methodLink U16 115 Cmp5.yN, .static Cmp5.yN, .code Cmp5.yN Cmp5.yB 7 (some .int), .code CodL.yN CodL.yB 2 (some .byte)]
theorem tab_of {a : Array Value} {s : State} (h : ∀ w ∈ words, w.before a s = true) : New1.tab.before a s = true := by
  have h5 : Cmp5.tab.before a s = true := unparts (wk h (.code Cmp5.yN Cmp5.yB 7 (some .int))) (wks h (.initialized Cmp5.yN.cls :: Cmp5.site))
  have hc : CodL.tab.before a s = true := unparts (wk h (.code CodL.yN CodL.yB 2 (some .byte))) (wks h (.initialized CodL.yN.cls :: CodL.site))
  have q5 : ∀ w ∈ Cmp5.tab :: words, w.before a s = true := fun w hw => (List.mem_cons.mp hw).elim (fun e => e ▸ h5) (h w)
  have h3 : Cmp3.tab.before a s = true := unparts (wk q5 (.code Cmp3.yN Cmp3.yB 6 (some (.array .byte)))) (wks q5 (.initialized Cmp3.yN.cls :: Cmp3.site))
  have q3 : ∀ w ∈ Cmp3.tab :: CodL.tab :: words, w.before a s = true := fun w hw => (List.mem_cons.mp hw).elim (fun e => e ▸ h3) fun hw => (List.mem_cons.mp hw).elim (fun e => e ▸ hc) (h w)
  have h4 : New4.tab.before a s = true := unparts (wk q3 (.code New4.yN New4.yB 6 none)) (wks q3 (.initialized New4.yN.cls :: New4.site))
  have q4 : ∀ w ∈ New4.tab :: words, w.before a s = true := fun w hw => (List.mem_cons.mp hw).elim (fun e => e ▸ h4) (h w)
  exact unparts (wk q4 (.code New1.yN New1.yB 2 none)) (wks q4 (.initialized New1.yN.cls :: New1.site))
/-- the words ride from the start Z to the walk's own state -/
theorem moved {Z s : State} {a0 args : Array Value} (hZ : Z.Warmed39 s.vm) (hw : ∀ d ∈ words, d.before a0 Z = true) : ∀ d ∈ words, d.before args s = true := fun d hd => by
  have q := hw d hd
  have t : ∀ d ∈ words, d = .arrayClass .byte ∨ (d.onTables && d.keepsFace) = true := by decide +kernel
  rcases t d hd with rfl | t
  · exact RoadKit.mvA hZ q
  · exact RoadKit.mv hZ q t
/-- WHAT COMES BACK, over the tables of the start Z: h the heap at the call, h' behind it -/
def Q (Z : State) (x : Addr) (A : Cell) (h : Heap) (v : Option Value) (h' : Heap) (L : List Loc) : Prop := v = none ∧ (∀ y ∈ L, y.base = x) ∧ RoadKit.Keep h h' [x] ∧ h'.size = h.size + 1 ∧ RoadKit.Exa Z h' x ST ∧ RoadKit.Fld Z h' x ST "value" "[B" (.ref h.size) ∧ RoadKit.Fld Z h' x ST "coder" "B" (.int 0) ∧
  (∃ V : Cell, RoadKit.Arr Z h' h.size V .byte ∧ V.vm = .none ∧ Z.vm.findClass "[B" = some V.cls ∧ V.slots.size = A.slots.size ∧ ∀ j, j < A.slots.size → V.slots[j]? = some (.int (lo8 (cv A j)))) ∧
  ∀ (O n d : String) (w : Value), RoadKit.Fld Z h x O n d w → RoadKit.slotOf Z O n d ≠ RoadKit.slotOf Z ST "value" "[B" → RoadKit.slotOf Z O n d ≠ RoadKit.slotOf Z ST "coder" "B" → RoadKit.Fld Z h' x O n d w
/-- **new String(chars) AT A CALL, IN THE ROAD'S FORM**: for specialBack behind newO: x the fresh String, b the char[] with the cell A -/
theorem back {p : Program} {l : Launch} {e : Env} {R : Room} {s : State} {args : Array Value} {below : List Frame} {len W : Nat} {Z : State} {a0 : Array Value} {h : Heap} (hZ : Z.Warmed39 s.vm) (hw : ∀ d ∈ words, d.before a0 Z = true) {kI : Nat} (wi : (Jvm.Cond.instantiable ST kI).before a0 Z = true)
    {x b : Addr} {A : Cell} {z : Int32} {v0 c0 : Value} (E : RoadKit.Exa Z h x ST) (V : RoadKit.Fld Z h x ST "value" "[B" v0) (C : RoadKit.Fld Z h x ST "coder" "B" c0) (K : RoadKit.Arr Z h b A .char) (hty : Typed .char A) (S : RoadKit.Sta Z h ST "COMPACT_STRINGS" "Z" (.int z)) (hz : ¬ z = 0)
    (l0 : 0 < A.slots.size) (l2 : A.slots.size ≤ 536870912) (hp : ∀ i, i < A.slots.size → ¬ 255 < cv A i) (hfr : 4 ≤ R.frames) (hlo : W + 65 ≤ R.locals) :
    Back l R p e below s args New1.yN len W (fun P a => a = #[.ref x, .ref b] ∧ P.U.heap = h ∧ P.cells + 1 ≤ R.cells ∧ P.slots + A.slots.size ≤ R.slots)
      (fun P _ v B => ∃ L, Q Z x A h v B.U.heap L ∧ B.locs = P.locs ++ L ∧ B.cells = P.cells + 1 ∧ B.slots = P.slots + A.slots.size) := by
  intro m meth c P g ig mk a X hg hsize hdg hW hn hp'
  obtain ⟨rfl, rfl, r1, r2⟩ := hp'
  have al : Z.vm.Alike P.U.vm := hZ.alike.trans X.warmed.alike
  obtain ⟨D, cfV, kV, iV, fV, hD, gV, stV, knV, obV, asV, slV⟩ := id V
  obtain ⟨D', cfC, kC, iC, fC, hD', gC, stC, -, -, asC, slC⟩ := id C
  cases hD.symm.trans hD'
  obtain ⟨D2, kD, e1, e2, e3, e4, e5⟩ := id E
  cases hD.symm.trans e1
  obtain ⟨c2, k2, i1, i2, i3, -⟩ := Cond.instantiable_spec wi
  cases e2.symm.trans i1
  cases e3.symm.trans i2
  obtain ⟨kU, u1, u2⟩ := al.2.2 _ _ e3
  have hB : Blank ST x D P.U := ⟨hD, ⟨knV, fun q hq => by rw [hq] at obV; cases obV⟩, by rw [al.findClass]; exact e2, kU, u1, by rw [u2]; exact i3, by rw [u2]; exact e5 i3⟩
  have F1 : Found ST "value" "[B" fV P.U := ⟨SBG.found_only al ⟨cfV, kV, iV, gV⟩, stV⟩
  have F2 : Found ST "coder" "B" fC P.U := ⟨SBG.found_only al ⟨cfC, kC, iC, gC⟩, stC⟩
  have hA : Ch b A P.U := ⟨⟨K.1, State.isArrayOf_alike al K.2.1, K.2.2, by omega⟩, hty⟩
  have hS : StaticIs P.U ST "COMPACT_STRINGS" "Z" (.int z) := by
    obtain ⟨cfS, iS, kS, fS, st, cS, t1, t2, t3, t4, t5, t6, t7⟩ := S
    exact StaticIs.there (s := { Z with heap := P.U.heap }) ⟨cfS, iS, kS, fS, st, cS, t1, t2, t3, t4, t5, (fun q => by rw [q] at t6; cases t6), t7⟩ al rfl
  obtain ⟨v, B, X', ⟨⟨hv, E', V', q1, q2, q3, q4, q5, q6, q7, q8, q9, q10, q11⟩, hl, hc, hs⟩, st⟩ := New1.pays x D fV fC b A z (tab_of (moved hZ hw)) hfr hlo m meth c P g ig mk _ X hg hsize hdg hW hn ⟨r1, r2, rfl, hB, F1, F2, hA, hS, hz, l0, l2, hp⟩
  have al' : Z.vm.Alike B.U.vm := hZ.alike.trans X'.warmed.alike
  have hsz : E'.slots.size = D.slots.size := by
    obtain ⟨-, -, -, kB, w1, w2, w3⟩ := q1
    obtain ⟨kB', y1, y2⟩ := al'.2.2 _ _ e3
    rw [q2.2.1] at w1
    cases w1.symm.trans y1
    rw [w3, e5 i3, y2]
  refine ⟨v, B, X', ⟨_, ⟨hv, ?_, ⟨by omega, fun y cy hy hn' => q10 y cy (by simpa using hn') hy, fun y cy hy => ?_⟩, q11, ⟨E', _, q1.1, by rw [q2.2.1]; exact e2, by rw [q2.2.1]; exact e3, by rw [q2.1]; exact obV, fun _ => by rw [hsz]; exact e5 i3⟩,
    ⟨E', cfV, kV, iV, fV, q1.1, gV, stV, by rw [q2.1]; exact knV, by rw [q2.1]; exact obV, by rw [q2.2.1]; exact asV, q3⟩, ⟨E', cfC, kC, iC, fC, q1.1, gC, stC, by rw [q2.1]; exact knV, by rw [q2.1]; exact obV, by rw [q2.2.1]; exact asC, q4⟩,
    ⟨V', ⟨q5.1, State.isArrayOf_alike al'.symm q5.2.1, q5.2.2.1⟩, q6, by rw [← al'.findClass]; exact q7, q8, fun j hj => by have := q9 j hj; rwa [Nat.zero_add] at this⟩, fun O n d w F n1 n2 => ?_⟩, hl, hc, hs⟩, st⟩
  · intro y hy
    simp only [List.mem_cons, List.not_mem_nil, or_false] at hy
    rcases hy with rfl | rfl <;> rfl
  · by_cases q : y = x
    · subst q
      cases hD.symm.trans hy
      exact ⟨E', q1.1, q2.2.1, q2.1, hsz⟩
    · exact ⟨cy, q10 y cy q hy, rfl, rfl, rfl⟩
  · obtain ⟨D3, cf, k, i, f, g1, g2, g3, g4, g5, g6, g7⟩ := F
    cases hD.symm.trans g1
    simp only [RoadKit.slotOf, g2, gV, gC, Option.map_some, Option.getD_some] at n1 n2
    exact ⟨E', cf, k, i, f, q1.1, g2, g3, by rw [q2.1]; exact g4, by rw [q2.1]; exact g5, by rw [q2.2.1]; exact g6, by rw [q2.2.2 f.slot (by simp [n1, n2])]; exact g7⟩
end StrChars.Road
namespace StrChars.Road
open Jvm Sem ClassFile Op Lib Jvm.Stand Jvm.Free Jvm.Free.XT
/-- WHAT COMES BACK, the byte[] as a list of values -/
def QA (Z : State) (x : Addr) (zn : Int32) (cs : List Int32) (h : Heap) (v : Option Value) (h' : Heap) (L : List Loc) : Prop := v = none ∧ (∀ y ∈ L, y.base = x) ∧ RoadKit.Keep h h' [x] ∧ h'.size = h.size + 1 ∧ RoadKit.Exa Z h' x ST ∧ RoadKit.Fld Z h' x ST "value" "[B" (.ref h.size) ∧ RoadKit.Fld Z h' x ST "coder" "B" (.int 0) ∧
  (∃ kb, Z.vm.findClass "[B" = some kb ∧ RoadKit.Arv Z h' h.size kb .byte zn (cs.map fun c => .int (lo8 c)) (.int 0)) ∧
  ∀ (O n d : String) (w : Value), RoadKit.Fld Z h x O n d w → RoadKit.slotOf Z O n d ≠ RoadKit.slotOf Z ST "value" "[B" → RoadKit.slotOf Z O n d ≠ RoadKit.slotOf Z ST "coder" "B" → RoadKit.Fld Z h' x O n d w
/-- **new String(chars) AT A CALL, THE ARRAYS AS LISTS**: the char[] at b holds cs, not empty, no char above 255 -/
theorem backArv {p : Program} {l : Launch} {e : Env} {R : Room} {s : State} {args : Array Value} {below : List Frame} {len W : Nat} {Z : State} {a0 : Array Value} {h : Heap} (hZ : Z.Warmed39 s.vm) (hw : ∀ d ∈ words, d.before a0 Z = true) {kI : Nat} (wi : (Jvm.Cond.instantiable ST kI).before a0 Z = true)
    {x b : Addr} {k : ClassId} {zn z : Int32} {cs : List Int32} {dv v0 c0 : Value} (E : RoadKit.Exa Z h x ST) (V : RoadKit.Fld Z h x ST "value" "[B" v0) (C : RoadKit.Fld Z h x ST "coder" "B" c0) (K : RoadKit.Arv Z h b k .char zn (cs.map Value.int) dv) (S : RoadKit.Sta Z h ST "COMPACT_STRINGS" "Z" (.int z)) (hz : ¬ z = 0)
    (hlen : zn.toNatClampNeg = cs.length) (h0 : 0 < cs.length) (hbig : cs.length ≤ 536870912) (hall : ∀ c ∈ cs, ¬ 255 < c) (hfr : 4 ≤ R.frames) (hlo : W + 65 ≤ R.locals) :
    Back l R p e below s args New1.yN len W (fun P a => a = #[.ref x, .ref b] ∧ P.U.heap = h ∧ P.cells + 1 ≤ R.cells ∧ P.slots + cs.length ≤ R.slots)
      (fun P _ v B => ∃ L, QA Z x zn cs h v B.U.heap L ∧ B.locs = P.locs ++ L ∧ B.cells = P.cells + 1 ∧ B.slots = P.slots + cs.length) := by
  obtain ⟨A, K1, K2, K3, K4, K5, K6⟩ := K
  have e : A.slots.size = cs.length := K3.trans hlen
  have hat : ∀ (i : Nat) (hi : i < cs.length), A.slots[i]? = some (.int cs[i]) := fun i hi => by rw [K5 i (by omega)]; simp [List.getD_eq_getElem?_getD, hi]
  have hcv : ∀ (i : Nat) (hi : i < cs.length), cv A i = cs[i] := fun i hi => by unfold cv; rw [hat i hi]
  have hty : Typed .char A := fun i v hv => by
    have hi : i < A.slots.size := (Array.getElem?_eq_some_iff.mp hv).1
    have q := K5 i hi
    rw [hv] at q
    rw [Option.some.inj q]
    exact K6 i hi
  refine Back.mono (back hZ hw wi E V C K1 hty S hz (by omega) (by omega) (fun i hi => by rw [hcv i (by omega)]; exact hall _ (List.getElem_mem _)) hfr hlo) (fun P a hp => ⟨hp.1, hp.2.1, hp.2.2.1, by rw [e]; exact hp.2.2.2⟩) (fun P a v B hp hq => ?_)
  obtain ⟨L, ⟨q1, q2, q3, q4, q5, q6, q7, ⟨V', v1, v2, v3, v4, v5⟩, q9⟩, hl, hc, hs⟩ := hq
  refine ⟨L, ⟨q1, q2, q3, q4, q5, q6, q7, ⟨V'.cls, v3, V', v1, rfl, by rw [v4, e, hlen], K4, fun i hi => ?_, fun i hi => ?_⟩, q9⟩, hl, hc, by rw [hs, e]⟩
  · have hi' : i < cs.length := by omega
    rw [v5 i (by omega), hcv i hi']; simp [List.getD_eq_getElem?_getD, hi']
  · have hi' : i < cs.length := by omega
    simp only [List.getD_eq_getElem?_getD, List.getElem?_map, List.getElem?_eq_getElem hi', Option.map_some, Option.getD_some]
    exact fits_lo8 _
end StrChars.Road
namespace StrChars.Road
open Jvm Sem ClassFile Op Lib Jvm.Stand Jvm.Free Jvm.Free.XT
/-- WHAT COMES BACK, in the writer's own shape -/
def QV (Z : State) (x : Addr) (N : Int32) (bs : List Int32) (h : Heap) (n0 : Nat) (v : Option Value) (h' : Heap) (L : List Loc) : Prop := v = none ∧ RoadKit.Fr n0 L ∧ RoadKit.Keep h h' [x] ∧ RoadKit.Exa Z h' x ST ∧ RoadKit.Fld Z h' x ST "coder" "B" (.int 0) ∧
  ∃ (t : Addr) (kb : ClassId), n0 ≤ t ∧ h.size ≤ t ∧ ¬ t = x ∧ RoadKit.Fld Z h' x ST "value" "[B" (.ref t) ∧ RoadKit.Arv Z h' t kb .byte N (bs.map Value.int) (.int 0)
/-- **new String(chars) AT A CALL, FOR THE WRITER**: a char[] of n known ints, each 0 to 255 -/
theorem backV {p : Program} {l : Launch} {e : Env} {R : Room} {s : State} {args : Array Value} {below : List Frame} {len W : Nat} {Z : State} {a0 : Array Value} {h : Heap} (hZ : Z.Warmed39 s.vm) (hw : ∀ d ∈ words, d.before a0 Z = true) {kI : Nat} (wi : (Jvm.Cond.instantiable ST kI).before a0 Z = true)
    {x b : Addr} {kC : ClassId} {cs bs : List Int32} {d v0 c0 : Value} {z N : Int32} {n n0 : Nat} (hx0 : n0 ≤ x) (hh0 : n0 ≤ h.size) (E : RoadKit.Exa Z h x ST) (V : RoadKit.Fld Z h x ST "value" "[B" v0) (C : RoadKit.Fld Z h x ST "coder" "B" c0) (K : RoadKit.Arv Z h b kC .char N (cs.map Value.int) d) (S : RoadKit.Sta Z h ST "COMPACT_STRINGS" "Z" (.int z)) (hz : ¬ z = 0)
    (hn : cs.length = n) (hN : N = Int32.ofNat n) (l0 : 0 < n) (l2 : n ≤ 4000) (hp : ∀ c ∈ cs, ¬ c < 0 ∧ ¬ (255 : Int32) < c) (hb : bs = cs.map (fun c => c.toInt8.toInt32)) (hfr : 4 ≤ R.frames) (hlo : W + 65 ≤ R.locals) :
    Back l R p e below s args (⟨"java/lang/String", "<init>", "([C)V"⟩ : MethodName) len W (fun P a => a = #[.ref x, .ref b] ∧ P.U.heap = h ∧ P.cells + 1 ≤ R.cells ∧ P.slots + n ≤ R.slots)
      (fun P _ v B => ∃ L, QV Z x N bs h n0 v B.U.heap L ∧ B.locs = P.locs ++ L ∧ B.cells = P.cells + 1 ∧ B.slots = P.slots + n) := by
  subst hn hN hb
  refine Back.mono (backArv hZ hw wi E V C K S hz (n32 (by omega)) l0 (by omega) (fun c hc => (hp c hc).2) hfr hlo) (fun P a hp => hp) (fun P a v B hp hq => ?_)
  obtain ⟨L, ⟨q1, q2, q3, q4, q5, q6, q7, ⟨kb, v1, v2⟩, q9⟩, hl, hc, hs⟩ := hq
  exact ⟨L, ⟨q1, fun y hy => by rw [q2 y hy]; exact hx0, q3, q5, q7, h.size, kb, hh0, Nat.le_refl _, Nat.ne_of_gt E.lt, q6, by rw [List.map_map]; exact v2⟩, hl, hc, hs⟩
end StrChars.Road
end Jvm.Pilot.@@N@@
namespace Jvm.Pilot.@@N@@
open Jvm Jvm.ClassFile Sem Op Lib Jvm.Free Jvm.Stand Jvm.LawKit Jvm.RoadKit Bundle Jvm.Pilot.@@N@@.Jvm.D
/-- from T the run goes on to an end of which Qf says what it is -/
def Goes (tb : Tables) (e : Env) (below : List Frame) (Qf : Outcome → State → Prop) (T : State) : Prop := ∃ s₂ o, Steps tb e below T s₂ ∧ s₂.status = .running ∧ Ended s₂ below o ∧ Qf o s₂
theorem Goes.to {tb : Tables} {e : Env} {below : List Frame} {Qf : Outcome → State → Prop} {T T' : State} (k : ∀ t, Steps tb e below T' t → Steps tb e below T t) (h : Goes tb e below Qf T') : Goes tb e below Qf T := by
  obtain ⟨s, o, h1, h2⟩ := h; exact ⟨s, o, k s h1, h2⟩
theorem Goes.thru {tb : Tables} {e : Env} {below : List Frame} {Qf : Outcome → State → Prop} {T T' : State} (k : Steps tb e below T T') (h : Goes tb e below Qf T') : Goes tb e below Qf T := by
  obtain ⟨s, o, h1, h2⟩ := h; exact ⟨s, o, k.trans h1, h2⟩
theorem own_old {Z : State} {n0 : Nat} {h : Heap} (O : Old Z n0 h) : n0 ≤ h.size := O.1 ▸ O.2.1
theorem own_ext_keep {h h' : Heap} (K : Keep h h' []) : Ext h h' := ⟨K.1, fun a c q => K.2.1 a c q nin0⟩
theorem own_nsroot {Z : State} {a0 : Array Value} {O K : String} {n : Nat} (w : (Jvm.Cond.noSuperclass O).before a0 Z = true) (wk : (Jvm.Cond.instantiable K n).before a0 Z = true) (hn : O ≠ K) : NS Z O K := by
  obtain ⟨c, k, h1, h2, h3, -, -⟩ := Cond.noSuperclass_spec w
  obtain ⟨t, k2, g1, -⟩ := Cond.instantiable_spec wk
  have ne := ids_ne h1 g1 hn
  refine ⟨c, t, h1, g1, fun fuel => ?_⟩
  cases fuel with
  | zero => rfl
  | succ f => simp [Vm.isSubclassAux, ne, h2, h3]
theorem own_nsno {Z : State} {a0 : Array Value} {C S K : String} {n : Nat} (w : (Jvm.Cond.superclass C S).before a0 Z = true) (wk : (Jvm.Cond.instantiable K n).before a0 Z = true) (ns : NS Z C K) (hn : C ≠ K) : ∃ c t, Z.vm.findClass C = some c ∧ Z.vm.findClass K = some t ∧ Z.vm.assignable c t = false := by
  obtain ⟨c, t, h0, g0, n3⟩ := ns
  obtain ⟨p, k, kp, h1, h2, h3, h4, h5, -, h7⟩ := Cond.superclass_spec h0 w
  obtain ⟨t', k', g1, g2, g5, g7, -⟩ := Cond.instantiable_spec wk
  cases g0.symm.trans g1
  have ne := ids_ne h0 g0 hn
  refine ⟨c, t, h0, g0, ?_⟩
  show Z.vm.assignableAux (255 + 1) c t = false
  simp [Vm.assignableAux, ne, h2, g2, h5, g5, (Bool.or_eq_false_iff.mp g7).1, Vm.isSubclass, n3]
theorem own_selp {s : State} {args : Array Value} {y : MethodName} {n : Nat} (wi : (Jvm.Cond.instantiable y.cls n).before args s = true) (hp : (Jvm.Cond.privateMethod y).before args s = true) (hinst : (Jvm.Cond.instanceMethod y).before args s = true) (hy : y.cls ≠ "java/lang/invoke/MethodHandle" ∧ y.cls ≠ "java/lang/invoke/VarHandle") : (Jvm.Cond.selects y.cls y y).before args s = true := by
  obtain ⟨c, k, h1, h2, -, h4, -⟩ := Cond.instantiable_spec wi
  exact selects_self_of_private h1 h2 (Bool.or_eq_false_iff.mp h4).1 (Cond.privateMethod_at hp) hinst hy
theorem own_keep_ext {h h' : Heap} (E : Ext h h') : Keep h h' [] := (Keep.refl h []).ext E
theorem own_len {s : State} {args : Array Value} {t : Term} {a : Addr} {cl : Cell} {ty : FieldType} {k : Int32} (ht : t.eval args s none [] s = some (.ref a)) (A : Arr s s.heap a cl ty) (h : (Cond.eq (.length t) (.int k)).value args s none s [] = some true) : cl.slots.size < 2 ^ 31 ∧ cl.slots.size.toInt32 = k := by
  obtain ⟨x, y, e1, e2, -, k2⟩ := cmp_v (Or.inl h)
  obtain rfl : Value.int k = y := Option.some.inj e2
  obtain ⟨z, rfl⟩ := k2
  have q : (z = k) := gotT (P := z = k) (by simp [Cond.value, e1, e2]) h
  subst q
  have hA := A.fin (Vm.Alike.refl _)
  by_cases hl : cl.slots.size < 2 ^ 31
  · rw [len_f ht hA hl] at e1
    exact ⟨hl, by simpa using e1⟩
  · simp [Term.eval, ht, hA, hl] at e1
theorem own_stR {s : State} {args : Array Value} {t u : Term} {b : Addr} (h : (Cond.eq t u).value args s none s [] = some true) (hu : u.eval args s none [] s = some (.ref b)) : t.eval args s none [] s = some (.ref b) := by
  obtain ⟨x, y, e1, e2, k1, k2⟩ := cmp_v (Or.inl h)
  obtain rfl : y = Value.ref b := Option.some.inj (e2.symm.trans hu)
  have hx : x.isRef = true := by cases x <;> simp [Kin, Value.isRef] at k1 k2 ⊢
  have q : x = Value.ref b := gotT (eq_R e1 e2 hx rfl) h
  subst q; exact e1
theorem own_fldI {s : State} {args : Array Value} {t : Term} {a : Addr} {C n d : String} {k : Int32} (ht : t.eval args s none [] s = some (.ref a)) (h : (Cond.eq (.field t C n d) (.int k)).value args s none s [] = some true) : Fld s s.heap a C n d (.int k) := by
  obtain ⟨x, y, e1, e2, -, k2⟩ := cmp_v (Or.inl h)
  obtain rfl : Value.int k = y := Option.some.inj e2
  obtain ⟨z, rfl⟩ := k2
  have q : (z = k) := gotT (P := z = k) (by simp [Cond.value, e1, e2]) h
  subst q
  exact Fld.start (by rw [← fld_at ht]; exact e1)
theorem own_fldL {s : State} {args : Array Value} {t : Term} {a : Addr} {C n d : String} {k : Int64} (ht : t.eval args s none [] s = some (.ref a)) (h : (Cond.eq (.field t C n d) (.long k)).value args s none s [] = some true) : Fld s s.heap a C n d (.long k) := by
  obtain ⟨x, y, e1, e2, -, k2⟩ := cmp_v (Or.inl h)
  obtain rfl : Value.long k = y := Option.some.inj e2
  obtain ⟨z, rfl⟩ := k2
  have q : (z = k) := gotT (P := z = k) (by simp [Cond.value, e1, e2]) h
  subst q
  exact Fld.start (by rw [← fld_at ht]; exact e1)
theorem own_fldN {s : State} {args : Array Value} {t : Term} {a : Addr} {C n d : String} (ht : t.eval args s none [] s = some (.ref a)) (h : (Cond.eq (.field t C n d) .null).value args s none s [] = some true) : Fld s s.heap a C n d .null :=
  Fld.start (by rw [← fld_at ht]; exact null_v h)
theorem own_fldR {s : State} {args : Array Value} {t : Term} {a b : Addr} {C n d : String} (ht : t.eval args s none [] s = some (.ref a)) (h : (Term.field t C n d).eval args s none [] s = some (.ref b)) : Fld s s.heap a C n d (.ref b) :=
  Fld.start (by rw [← fld_at ht]; exact h)
theorem own_stI {s : State} {args : Array Value} {t : Term} {k : Int32} (h : (Cond.eq t (.int k)).value args s none s [] = some true) : t.eval args s none [] s = some (.int k) := by
  obtain ⟨x, y, e1, e2, -, k2⟩ := cmp_v (Or.inl h)
  obtain rfl : Value.int k = y := Option.some.inj e2
  obtain ⟨z, rfl⟩ := k2
  have q : (z = k) := gotT (P := z = k) (by simp [Cond.value, e1, e2]) h
  subst q; exact e1
theorem own_narc {f : Int32} (h : ¬ f < 0 ∧ ¬ (255 : Int32) < f) : nar .char f = f := by
  obtain ⟨h1, h2⟩ := h
  have e0 : (0 : Int32).toInt = 0 := rfl
  have e1 : (255 : Int32).toInt = 255 := rfl
  rw [Int32.lt_iff_toInt_lt] at h1 h2
  have q := c_i2c f
  apply Int32.toInt_inj.mp
  show f.toUInt32.toUInt16.toUInt32.toInt32.toInt = f.toInt
  omega
theorem own_i2c (x : Int32) : ¬ ((x &&& (255 : Int32)).toUInt32.toUInt16.toUInt32.toInt32) < 0 ∧ ¬ (255 : Int32) < ((x &&& (255 : Int32)).toUInt32.toUInt16.toUInt32.toInt32) := by
  have q := c_i2c (x &&& 255)
  have h := c_mask x 255 8 (by decide) (by decide)
  have e0 : (0 : Int32).toInt = 0 := rfl
  have e1 : (255 : Int32).toInt = 255 := rfl
  rw [Int32.lt_iff_toInt_lt, Int32.lt_iff_toInt_lt]
  omega
theorem own_b8 {f g : Int32} (hf : ¬ f < 0 ∧ ¬ (255 : Int32) < f) (hg : ¬ g < 0 ∧ ¬ (255 : Int32) < g) : f.toInt8.toInt32 = g.toInt8.toInt32 ↔ f = g := by
  obtain ⟨h1, h2⟩ := hf
  obtain ⟨h3, h4⟩ := hg
  have e0 : (0 : Int32).toInt = 0 := rfl
  have e1 : (255 : Int32).toInt = 255 := rfl
  rw [Int32.lt_iff_toInt_lt] at h1 h2 h3 h4
  have q := c_i2b f
  have q' := c_i2b g
  rw [← Int32.toInt_inj, ← Int32.toInt_inj]
  omega
theorem own_nz {s : State} {args : Array Value} {t : Term} {z : Int32} (ht : t.eval args s none [] s = some (.int z)) (h : (Jvm.Cond.not (.eq t (.int (0 : Int32)))).value args s none s [] = some true) : ¬ z = 0 := by
  have q := not_v h
  exact gotF (P := z = 0) (by simp [Cond.value, ht, Term.eval]) q
theorem own_and3 (x : Int32) : (x &&& (3 : Int32)) = (0 : Int32) ∨ (x &&& (3 : Int32)) = (1 : Int32) ∨ (x &&& (3 : Int32)) = (2 : Int32) ∨ (x &&& (3 : Int32)) = (3 : Int32) := by
  have h := c_mask x 3 2 (by decide) (by decide)
  have e0 : (0 : Int32).toInt = 0 := rfl
  have e1 : (1 : Int32).toInt = 1 := rfl
  have e2 : (2 : Int32).toInt = 2 := rfl
  have e3 : (3 : Int32).toInt = 3 := rfl
  simp only [← Int32.toInt_inj, h, e0, e1, e2, e3]
  omega
def Nar (Z : State) (z_cs : Int32) : Prop := (Sta Z Z.heap "java/lang/String" "COMPACT_STRINGS" "Z" (.int z_cs)) ∧ (¬ z_cs = 0)
theorem d10_0 : decode jdk_43_method_13_code 0 = .ok (.aload_n 0, 1) := by decide +kernel
theorem d10_1 : decode jdk_43_method_13_code 1 = .ok (.arraylength, 1) := by decide +kernel
theorem d10_2 : decode jdk_43_method_13_code 2 = .ok (.aload_n 1, 1) := by decide +kernel
theorem d10_3 : decode jdk_43_method_13_code 3 = .ok (.arraylength, 1) := by decide +kernel
theorem d10_4 : decode jdk_43_method_13_code 4 = .ok (.if_icmp .ne 30, 3) := by decide +kernel
theorem d10_7 : decode jdk_43_method_13_code 7 = .ok (.iconst 0, 1) := by decide +kernel
theorem d10_8 : decode jdk_43_method_13_code 8 = .ok (.istore_n 2, 1) := by decide +kernel
theorem d10_9 : decode jdk_43_method_13_code 9 = .ok (.iload_n 2, 1) := by decide +kernel
theorem d10_10 : decode jdk_43_method_13_code 10 = .ok (.aload_n 0, 1) := by decide +kernel
theorem d10_11 : decode jdk_43_method_13_code 11 = .ok (.arraylength, 1) := by decide +kernel
theorem d10_12 : decode jdk_43_method_13_code 12 = .ok (.if_icmp .ge 20, 3) := by decide +kernel
theorem d10_15 : decode jdk_43_method_13_code 15 = .ok (.aload_n 0, 1) := by decide +kernel
theorem d10_16 : decode jdk_43_method_13_code 16 = .ok (.iload_n 2, 1) := by decide +kernel
theorem d10_17 : decode jdk_43_method_13_code 17 = .ok (.baload, 1) := by decide +kernel
theorem d10_18 : decode jdk_43_method_13_code 18 = .ok (.aload_n 1, 1) := by decide +kernel
theorem d10_19 : decode jdk_43_method_13_code 19 = .ok (.iload_n 2, 1) := by decide +kernel
theorem d10_20 : decode jdk_43_method_13_code 20 = .ok (.baload, 1) := by decide +kernel
theorem d10_21 : decode jdk_43_method_13_code 21 = .ok (.if_icmp .eq 5, 3) := by decide +kernel
theorem d10_24 : decode jdk_43_method_13_code 24 = .ok (.iconst 0, 1) := by decide +kernel
theorem d10_25 : decode jdk_43_method_13_code 25 = .ok (.ireturn, 1) := by decide +kernel
theorem d10_26 : decode jdk_43_method_13_code 26 = .ok (.iinc 2 1, 3) := by decide +kernel
theorem d10_29 : decode jdk_43_method_13_code 29 = .ok (.goto (-20), 3) := by decide +kernel
theorem d10_32 : decode jdk_43_method_13_code 32 = .ok (.iconst 1, 1) := by decide +kernel
theorem d10_33 : decode jdk_43_method_13_code 33 = .ok (.ireturn, 1) := by decide +kernel
theorem pn_10 : plainName "java/lang/StringLatin1" = true := by first | (simp [plainName, overriddenIn]; done) | decide +kernel
theorem ef_rmL (m : MethodId) (x0 : Addr) (x1 : Addr) : entryFrame m #[(.ref x0), (.ref x1)] 3 = mkF m 0 #[.val (.ref x0), .val (.ref x1), .unset] [] := by first | (simp [entryFrame, mkF, argsToLocals, Value.category]; done) | rfl
def Q_rmL (Z : State) (ya : Addr) (yb : Addr) (z_cs : Int32) (ka : ClassId) (kb : ClassId) (u1 : Int32) (u2 : Int32) (r : Int32) (h0 : Heap) (n0 : Nat) (v : Option Value) (h : Heap) (L : List Loc) : Prop := v = some (.int r) ∧ Fr n0 L ∧ h = h0
set_option maxRecDepth 65536 in
set_option maxHeartbeats 40000000 in
theorem rmL (l : Launch) (Z : State) (a0 : Array Value) (hw : ∀ d ∈ tables_1, d.before a0 Z = true) (ws : List Jvm.Cond) (ya : Addr) (yb : Addr) (z_cs : Int32) (ka : ClassId) (kb : ClassId) (u1 : Int32) (u2 : Int32) (r : Int32) (h0 : Heap) (n0 : Nat) (O0 : Old Z n0 h0) (NF : Nar Z z_cs) (V_ya : Arv Z h0 ya ka .byte (1 : Int32) [(.int u1)] (.int (0 : Int32))) (V_yb : Arv Z h0 yb kb .byte (1 : Int32) [(.int u2)] (.int (0 : Int32))) (hr : r = if u1 = u2 then 1 else 0) :
    MetFree l (⟨"java/lang/StringLatin1", "equals", "([B[B)Z"⟩ : MethodName) (head1 (Jvm.Cond.code (⟨"java/lang/StringLatin1", "equals", "([B[B)Z"⟩ : MethodName) jdk_43_method_13_code 3 (some .boolean) :: ws) ({ frames := 0, cells := 0, slots := 0, locals := 0 } : Room)) (fun a U => a = #[(.ref ya), (.ref yb)] ∧ Z.Warmed39 U.vm ∧ U.heap = h0) (fun _ _ _ _ _ => True) (fun _ U o U' => ∃ v L, o = .returned v ∧ Q_rmL Z ya yb z_cs ka kb u1 u2 r h0 n0 v U'.heap L ∧ FrameEnd U o U' L ({ frames := 0, cells := 0, slots := 0, locals := 0 } : Room).cells ({ frames := 0, cells := 0, slots := 0, locals := 0 } : Room).slots) := by
  refine MetFree.of_bodySF (plainFor_of_name pn_10) hisR ?_
  intro p e s m args below meth c s₁ Bd hml0 hP hK
  obtain ⟨rfl, hZ, hh⟩ := hP
  have hx := Bd.exec
  have hby := Bd.bytes
  have hml : c.maxLocals = 3 := hml0
  have hown : s.vm.findClass "java/lang/StringLatin1" = some m.cls := findClass_of_methodNamed Bd.named
  have hnm := (name_of_methodNamed Bd.named Bd.method).1
  have X0 : Stand p l e ({ frames := 0, cells := 0, slots := 0, locals := 0 } : Room) s m #[(.ref ya), (.ref yb)] below meth c s₁ [] 0 0 := Stand.of_body Bd
  have e0 : s₁.heap = h0 := by rw [← hh, Bd.state]; rfl
  have N0 := Fr.nil n0
  suffices G : ∀ (Qf : Outcome → State → Prop), Qf = (fun (_ : Array Value) (U : State) (o : Outcome) (U' : State) => ∃ v L, o = .returned v ∧ Q_rmL Z ya yb z_cs ka kb u1 u2 r h0 n0 v U'.heap L ∧ FrameEnd U o U' L ({ frames := 0, cells := 0, slots := 0, locals := 0 } : Room).cells ({ frames := 0, cells := 0, slots := 0, locals := 0 } : Room).slots) #[] s → Goes p.tables e below Qf (s₁.setTop (mkF m 0 #[.val (.ref ya), .val (.ref yb), .unset] [])) by
    obtain ⟨s₂, o, g1, g2, g3, g4⟩ := G _ rfl
    exact ⟨s₂, o, castTop (ef_rmL m _ _) g1, g2, g3, g4⟩
  intro Qf hQf
  obtain ⟨S_cs, nz_cs⟩ := id NF
  refine Goes.to (T' := s₁.setTop (mkF m 1 #[.val (.ref ya), .val (.ref yb), .unset] [(.ref ya)])) (fun t k => XS.aloadN X0.here hx rfl (hb hby d10_0) rfl rfl k) ?_
  obtain ⟨cl1, Ar1, q1, S1, Ng1, H1, G1⟩ := id V_ya
  refine Goes.to (T' := s₁.setTop (mkF m 2 #[.val (.ref ya), .val (.ref yb), .unset] [(.int (1 : Int32))])) (fun t k => X0.arraylength hx (by rw [e0]; exact Ar1.1) (State.isArrayOf_alike hZ.alike Ar1.2.1) (g := (mkF m 1 #[.val (.ref ya), .val (.ref yb), .unset] [(.ref ya)])) rfl rfl (hb hby d10_1) _ (by rw [len_of S1 Ng1]; exact k)) ?_
  refine Goes.to (T' := s₁.setTop (mkF m 3 #[.val (.ref ya), .val (.ref yb), .unset] [(.ref yb), (.int (1 : Int32))])) (fun t k => XS.aloadN X0.here hx rfl (hb hby d10_2) rfl rfl k) ?_
  obtain ⟨cl2, Ar2, q2, S2, Ng2, H2, G2⟩ := id V_yb
  refine Goes.to (T' := s₁.setTop (mkF m 4 #[.val (.ref ya), .val (.ref yb), .unset] [(.int (1 : Int32)), (.int (1 : Int32))])) (fun t k => X0.arraylength hx (by rw [e0]; exact Ar2.1) (State.isArrayOf_alike hZ.alike Ar2.2.1) (g := (mkF m 3 #[.val (.ref ya), .val (.ref yb), .unset] [(.ref yb), (.int (1 : Int32))])) rfl rfl (hb hby d10_3) _ (by rw [len_of S2 Ng2]; exact k)) ?_
  refine Goes.to (T' := s₁.setTop (mkF m 7 #[.val (.ref ya), .val (.ref yb), .unset] [])) (fun t k => XS.icmpNo X0.here hx rfl (hb hby d10_4) rfl (teq (by decide)).2 k) ?_
  refine Goes.to (T' := s₁.setTop (mkF m 8 #[.val (.ref ya), .val (.ref yb), .unset] [(.int (0 : Int32))])) (fun t k => XS.iconst X0.here hx rfl (hb hby d10_7) k) ?_
  refine Goes.to (T' := s₁.setTop (mkF m 9 #[.val (.ref ya), .val (.ref yb), .val (.int (0 : Int32))] [])) (fun t k => XS.istoreN X0.here hx rfl (hb hby d10_8) rfl (l' := #[.val (.ref ya), .val (.ref yb), .val (.int (0 : Int32))]) rfl k) ?_
  refine Goes.to (T' := s₁.setTop (mkF m 10 #[.val (.ref ya), .val (.ref yb), .val (.int (0 : Int32))] [(.int (0 : Int32))])) (fun t k => XS.iloadN X0.here hx rfl (hb hby d10_9) rfl k) ?_
  refine Goes.to (T' := s₁.setTop (mkF m 11 #[.val (.ref ya), .val (.ref yb), .val (.int (0 : Int32))] [(.ref ya), (.int (0 : Int32))])) (fun t k => XS.aloadN X0.here hx rfl (hb hby d10_10) rfl rfl k) ?_
  obtain ⟨cl3, Ar3, q3, S3, Ng3, H3, G3⟩ := id V_ya
  refine Goes.to (T' := s₁.setTop (mkF m 12 #[.val (.ref ya), .val (.ref yb), .val (.int (0 : Int32))] [(.int (1 : Int32)), (.int (0 : Int32))])) (fun t k => X0.arraylength hx (by rw [e0]; exact Ar3.1) (State.isArrayOf_alike hZ.alike Ar3.2.1) (g := (mkF m 11 #[.val (.ref ya), .val (.ref yb), .val (.int (0 : Int32))] [(.ref ya), (.int (0 : Int32))])) rfl rfl (hb hby d10_11) _ (by rw [len_of S3 Ng3]; exact k)) ?_
  refine Goes.to (T' := s₁.setTop (mkF m 15 #[.val (.ref ya), .val (.ref yb), .val (.int (0 : Int32))] [])) (fun t k => XS.icmpNo X0.here hx rfl (hb hby d10_12) rfl (tlt (by decide)).2.1 k) ?_
  refine Goes.to (T' := s₁.setTop (mkF m 16 #[.val (.ref ya), .val (.ref yb), .val (.int (0 : Int32))] [(.ref ya)])) (fun t k => XS.aloadN X0.here hx rfl (hb hby d10_15) rfl rfl k) ?_
  refine Goes.to (T' := s₁.setTop (mkF m 17 #[.val (.ref ya), .val (.ref yb), .val (.int (0 : Int32))] [(.int (0 : Int32)), (.ref ya)])) (fun t k => XS.iloadN X0.here hx rfl (hb hby d10_16) rfl k) ?_
  obtain ⟨cl4, Ar4, q4, S4, Ng4, H4, G4⟩ := id V_ya
  have hin4 : ¬ ((0 : Int32) < 0 ∨ cl4.slots.size ≤ ((0 : Int32)).toNatClampNeg) := inb_of S4 ⟨by decide, by decide⟩
  refine Goes.to (T' := s₁.setTop (mkF m 18 #[.val (.ref ya), .val (.ref yb), .val (.int (0 : Int32))] [(.int u1)])) (X0.baloadBytes hx (j := (0 : Int32)) (v := (.int u1)) (by rw [e0]; exact Ar4.1) (State.isArrayOf_alike hZ.alike Ar4.2.1) Ar4.2.2 hin4 (H4.at hin4 rfl) (g := (mkF m 17 #[.val (.ref ya), .val (.ref yb), .val (.int (0 : Int32))] [(.int (0 : Int32)), (.ref ya)])) rfl rfl (hb hby d10_17)) ?_
  refine Goes.to (T' := s₁.setTop (mkF m 19 #[.val (.ref ya), .val (.ref yb), .val (.int (0 : Int32))] [(.ref yb), (.int u1)])) (fun t k => XS.aloadN X0.here hx rfl (hb hby d10_18) rfl rfl k) ?_
  refine Goes.to (T' := s₁.setTop (mkF m 20 #[.val (.ref ya), .val (.ref yb), .val (.int (0 : Int32))] [(.int (0 : Int32)), (.ref yb), (.int u1)])) (fun t k => XS.iloadN X0.here hx rfl (hb hby d10_19) rfl k) ?_
  obtain ⟨cl5, Ar5, q5, S5, Ng5, H5, G5⟩ := id V_yb
  have hin5 : ¬ ((0 : Int32) < 0 ∨ cl5.slots.size ≤ ((0 : Int32)).toNatClampNeg) := inb_of S5 ⟨by decide, by decide⟩
  refine Goes.to (T' := s₁.setTop (mkF m 21 #[.val (.ref ya), .val (.ref yb), .val (.int (0 : Int32))] [(.int u2), (.int u1)])) (X0.baloadBytes hx (j := (0 : Int32)) (v := (.int u2)) (by rw [e0]; exact Ar5.1) (State.isArrayOf_alike hZ.alike Ar5.2.1) Ar5.2.2 hin5 (H5.at hin5 rfl) (g := (mkF m 20 #[.val (.ref ya), .val (.ref yb), .val (.int (0 : Int32))] [(.int (0 : Int32)), (.ref yb), (.int u1)])) rfl rfl (hb hby d10_20)) ?_
  rcases Decidable.em (u1 = u2) with hc21_6 | hc21_6
  · skip
    refine Goes.to (T' := s₁.setTop (mkF m 26 #[.val (.ref ya), .val (.ref yb), .val (.int (0 : Int32))] [])) (fun t k => XS.icmpYes X0.here hx rfl (pc0 := 21) (pc' := 26) rfl (hb hby d10_21) rfl (teq hc21_6).1 (by decide) (by decide) k) ?_
    refine Goes.to (T' := s₁.setTop (mkF m 29 #[.val (.ref ya), .val (.ref yb), .val (.int ((0 : Int32) + (1 : Int32)))] [])) (fun t k => XS.iinc X0.here hx rfl (hb hby d10_26) rfl (l' := #[.val (.ref ya), .val (.ref yb), .val (.int ((0 : Int32) + (1 : Int32)))]) rfl k) ?_
    rw [show ((0 : Int32) + (1 : Int32)) = (1 : Int32) from by decide +kernel]
    refine Goes.to (T' := s₁.setTop (mkF m 9 #[.val (.ref ya), .val (.ref yb), .val (.int (1 : Int32))] [])) (fun t k => XS.goto X0.here hx rfl (pc0 := 29) (pc' := 9) rfl (hb hby d10_29) (by decide) (by decide) k) ?_
    refine Goes.to (T' := s₁.setTop (mkF m 10 #[.val (.ref ya), .val (.ref yb), .val (.int (1 : Int32))] [(.int (1 : Int32))])) (fun t k => XS.iloadN X0.here hx rfl (hb hby d10_9) rfl k) ?_
    refine Goes.to (T' := s₁.setTop (mkF m 11 #[.val (.ref ya), .val (.ref yb), .val (.int (1 : Int32))] [(.ref ya), (.int (1 : Int32))])) (fun t k => XS.aloadN X0.here hx rfl (hb hby d10_10) rfl rfl k) ?_
    obtain ⟨cl7, Ar7, q7, S7, Ng7, H7, G7⟩ := id V_ya
    refine Goes.to (T' := s₁.setTop (mkF m 12 #[.val (.ref ya), .val (.ref yb), .val (.int (1 : Int32))] [(.int (1 : Int32)), (.int (1 : Int32))])) (fun t k => X0.arraylength hx (by rw [e0]; exact Ar7.1) (State.isArrayOf_alike hZ.alike Ar7.2.1) (g := (mkF m 11 #[.val (.ref ya), .val (.ref yb), .val (.int (1 : Int32))] [(.ref ya), (.int (1 : Int32))])) rfl rfl (hb hby d10_11) _ (by rw [len_of S7 Ng7]; exact k)) ?_
    refine Goes.to (T' := s₁.setTop (mkF m 32 #[.val (.ref ya), .val (.ref yb), .val (.int (1 : Int32))] [])) (fun t k => XS.icmpYes X0.here hx rfl (pc0 := 12) (pc' := 32) rfl (hb hby d10_12) rfl (flt (by decide)).2.1 (by decide) (by decide) k) ?_
    refine Goes.to (T' := s₁.setTop (mkF m 33 #[.val (.ref ya), .val (.ref yb), .val (.int (1 : Int32))] [(.int (1 : Int32))])) (fun t k => XS.iconst X0.here hx rfl (hb hby d10_32) k) ?_
    obtain ⟨fs, hrL, hrun, hended, hW, hsame⟩ := X0.leave (v := some (.int (1 : Int32))) (fun h => by rw [Bd.returns] at h; cases h)
    subst hQf
    refine ⟨_, _, retN X0 hx (t := .boolean) Bd.returns (by simp) (hb hby d10_33) hrL, hrun, hended, _, _, rfl, ?_, ⟨_, rfl⟩, hW, hsame.mono (by decide) (by decide)⟩
    show (fun (v : Option Value) (h : Heap) (L : List Loc) => v = some (.int r) ∧ Fr n0 L ∧ h = h0) (some (.int (1 : Int32))) s₁.heap _
    rw [e0]
    have hv : ((1 : Int32) : Int32) = r := by rw [hr]; first | (simp [hc21_6]; done) | ((repeat' split) <;> first | rfl | contradiction | simp_all)
    exact ⟨by rw [hv], N0, rfl⟩
  · skip
    refine Goes.to (T' := s₁.setTop (mkF m 24 #[.val (.ref ya), .val (.ref yb), .val (.int (0 : Int32))] [])) (fun t k => XS.icmpNo X0.here hx rfl (hb hby d10_21) rfl (feq hc21_6).1 k) ?_
    refine Goes.to (T' := s₁.setTop (mkF m 25 #[.val (.ref ya), .val (.ref yb), .val (.int (0 : Int32))] [(.int (0 : Int32))])) (fun t k => XS.iconst X0.here hx rfl (hb hby d10_24) k) ?_
    obtain ⟨fs, hrL, hrun, hended, hW, hsame⟩ := X0.leave (v := some (.int (0 : Int32))) (fun h => by rw [Bd.returns] at h; cases h)
    subst hQf
    refine ⟨_, _, retN X0 hx (t := .boolean) Bd.returns (by simp) (hb hby d10_25) hrL, hrun, hended, _, _, rfl, ?_, ⟨_, rfl⟩, hW, hsame.mono (by decide) (by decide)⟩
    show (fun (v : Option Value) (h : Heap) (L : List Loc) => v = some (.int r) ∧ Fr n0 L ∧ h = h0) (some (.int (0 : Int32))) s₁.heap _
    rw [e0]
    have hv : ((0 : Int32) : Int32) = r := by rw [hr]; first | (simp [hc21_6]; done) | ((repeat' split) <;> first | rfl | contradiction | simp_all)
    exact ⟨by rw [hv], N0, rfl⟩
theorem pd_26 : parseMethodDescriptor "([B[B)Z" = some ⟨[(.array .byte), (.array .byte)], some .boolean⟩ := by decide +kernel
theorem d9_0 : decode jdk_42_method_66_code 0 = .ok (.aload_n 0, 1) := by decide +kernel
theorem d9_1 : decode jdk_42_method_66_code 1 = .ok (.aload_n 1, 1) := by decide +kernel
theorem d9_2 : decode jdk_42_method_66_code 2 = .ok (.if_acmp .ne 5, 3) := by decide +kernel
theorem d9_7 : decode jdk_42_method_66_code 7 = .ok (.aload_n 1, 1) := by decide +kernel
theorem d9_8 : decode jdk_42_method_66_code 8 = .ok (.instanceof 10, 3) := by decide +kernel
theorem d9_11 : decode jdk_42_method_66_code 11 = .ok (.ifCond .eq 43, 3) := by decide +kernel
theorem d9_14 : decode jdk_42_method_66_code 14 = .ok (.aload_n 1, 1) := by decide +kernel
theorem d9_15 : decode jdk_42_method_66_code 15 = .ok (.checkcast 10, 3) := by decide +kernel
theorem d9_18 : decode jdk_42_method_66_code 18 = .ok (.astore_n 2, 1) := by decide +kernel
theorem d9_19 : decode jdk_42_method_66_code 19 = .ok (.getstatic 38, 3) := by decide +kernel
theorem d9_22 : decode jdk_42_method_66_code 22 = .ok (.ifCond .eq 14, 3) := by decide +kernel
theorem d9_25 : decode jdk_42_method_66_code 25 = .ok (.aload_n 0, 1) := by decide +kernel
theorem d9_26 : decode jdk_42_method_66_code 26 = .ok (.getfield 15, 3) := by decide +kernel
theorem d9_29 : decode jdk_42_method_66_code 29 = .ok (.aload_n 2, 1) := by decide +kernel
theorem d9_30 : decode jdk_42_method_66_code 30 = .ok (.getfield 15, 3) := by decide +kernel
theorem d9_33 : decode jdk_42_method_66_code 33 = .ok (.if_icmp .ne 21, 3) := by decide +kernel
theorem d9_36 : decode jdk_42_method_66_code 36 = .ok (.aload_n 0, 1) := by decide +kernel
theorem d9_37 : decode jdk_42_method_66_code 37 = .ok (.getfield 9, 3) := by decide +kernel
theorem d9_40 : decode jdk_42_method_66_code 40 = .ok (.aload_n 2, 1) := by decide +kernel
theorem d9_41 : decode jdk_42_method_66_code 41 = .ok (.getfield 9, 3) := by decide +kernel
theorem d9_44 : decode jdk_42_method_66_code 44 = .ok (.invokestatic 541, 3) := by decide +kernel
theorem d9_47 : decode jdk_42_method_66_code 47 = .ok (.ifCond .eq 7, 3) := by decide +kernel
theorem d9_50 : decode jdk_42_method_66_code 50 = .ok (.iconst 1, 1) := by decide +kernel
theorem d9_51 : decode jdk_42_method_66_code 51 = .ok (.goto 4, 3) := by decide +kernel
theorem d9_54 : decode jdk_42_method_66_code 54 = .ok (.iconst 0, 1) := by decide +kernel
theorem d9_55 : decode jdk_42_method_66_code 55 = .ok (.ireturn, 1) := by decide +kernel
theorem pn_9 : plainName "java/lang/String" = true := by first | (simp [plainName, overriddenIn]; done) | decide +kernel
theorem ef_rmSE (m : MethodId) (x0 : Addr) (x1 : Addr) : entryFrame m #[(.ref x0), (.ref x1)] 3 = mkF m 0 #[.val (.ref x0), .val (.ref x1), .unset] [] := by first | (simp [entryFrame, mkF, argsToLocals, Value.category]; done) | rfl
def Q_rmSE (Z : State) (xa : Addr) (xb : Addr) (z_cs : Int32) (y1 : Addr) (y2 : Addr) (k1 : ClassId) (k2 : ClassId) (u1 : Int32) (u2 : Int32) (r : Int32) (h0 : Heap) (n0 : Nat) (v : Option Value) (h : Heap) (L : List Loc) : Prop := v = some (.int r) ∧ Fr n0 L ∧ h = h0
set_option maxRecDepth 65536 in
set_option maxHeartbeats 40000000 in
theorem rmSE (l : Launch) (Z : State) (a0 : Array Value) (hw : ∀ d ∈ tables_1, d.before a0 Z = true) (ws : List Jvm.Cond) (xa : Addr) (xb : Addr) (z_cs : Int32) (y1 : Addr) (y2 : Addr) (k1 : ClassId) (k2 : ClassId) (u1 : Int32) (u2 : Int32) (r : Int32) (h0 : Heap) (n0 : Nat) (O0 : Old Z n0 h0) (NF : Nar Z z_cs) (E_xa : Exa Z h0 xa "java/lang/String") (F_coder_xa : Fld Z h0 xa "java/lang/String" "coder" "B" (.int (0 : Int32))) (F_value_xa : Fld Z h0 xa "java/lang/String" "value" "[B" (.ref y1)) (E_xb : Exa Z h0 xb "java/lang/String") (F_coder_xb : Fld Z h0 xb "java/lang/String" "coder" "B" (.int (0 : Int32))) (F_value_xb : Fld Z h0 xb "java/lang/String" "value" "[B" (.ref y2)) (V_y1 : Arv Z h0 y1 k1 .byte (1 : Int32) [(.int u1)] (.int (0 : Int32))) (V_y2 : Arv Z h0 y2 k2 .byte (1 : Int32) [(.int u2)] (.int (0 : Int32))) (hne : ¬ xa = xb) (hr : r = if u1 = u2 then 1 else 0) :
    MetFree l (⟨"java/lang/String", "equals", "(Ljava/lang/Object;)Z"⟩ : MethodName) (head1 (Jvm.Cond.code (⟨"java/lang/String", "equals", "(Ljava/lang/Object;)Z"⟩ : MethodName) jdk_42_method_66_code 3 (some .boolean) :: ws) ({ frames := 1, cells := 0, slots := 0, locals := 32 } : Room)) (fun a U => a = #[(.ref xa), (.ref xb)] ∧ Z.Warmed39 U.vm ∧ U.heap = h0) (fun _ _ _ _ _ => True) (fun _ U o U' => ∃ v L, o = .returned v ∧ Q_rmSE Z xa xb z_cs y1 y2 k1 k2 u1 u2 r h0 n0 v U'.heap L ∧ FrameEnd U o U' L ({ frames := 1, cells := 0, slots := 0, locals := 32 } : Room).cells ({ frames := 1, cells := 0, slots := 0, locals := 32 } : Room).slots) := by
  refine MetFree.of_bodySF (plainFor_of_name pn_9) hisR ?_
  intro p e s m args below meth c s₁ Bd hml0 hP hK
  obtain ⟨rfl, hZ, hh⟩ := hP
  have hx := Bd.exec
  have hby := Bd.bytes
  have hml : c.maxLocals = 3 := hml0
  have hown : s.vm.findClass "java/lang/String" = some m.cls := findClass_of_methodNamed Bd.named
  have hnm := (name_of_methodNamed Bd.named Bd.method).1
  have X0 : Stand p l e ({ frames := 1, cells := 0, slots := 0, locals := 32 } : Room) s m #[(.ref xa), (.ref xb)] below meth c s₁ [] 0 0 := Stand.of_body Bd
  have e0 : s₁.heap = h0 := by rw [← hh, Bd.state]; rfl
  have N0 := Fr.nil n0
  suffices G : ∀ (Qf : Outcome → State → Prop), Qf = (fun (_ : Array Value) (U : State) (o : Outcome) (U' : State) => ∃ v L, o = .returned v ∧ Q_rmSE Z xa xb z_cs y1 y2 k1 k2 u1 u2 r h0 n0 v U'.heap L ∧ FrameEnd U o U' L ({ frames := 1, cells := 0, slots := 0, locals := 32 } : Room).cells ({ frames := 1, cells := 0, slots := 0, locals := 32 } : Room).slots) #[] s → Goes p.tables e below Qf (s₁.setTop (mkF m 0 #[.val (.ref xa), .val (.ref xb), .unset] [])) by
    obtain ⟨s₂, o, g1, g2, g3, g4⟩ := G _ rfl
    exact ⟨s₂, o, castTop (ef_rmSE m _ _) g1, g2, g3, g4⟩
  intro Qf hQf
  obtain ⟨S_cs, nz_cs⟩ := id NF
  refine Goes.to (T' := s₁.setTop (mkF m 1 #[.val (.ref xa), .val (.ref xb), .unset] [(.ref xa)])) (fun t k => XS.aloadN X0.here hx rfl (hb hby d9_0) rfl rfl k) ?_
  refine Goes.to (T' := s₁.setTop (mkF m 2 #[.val (.ref xa), .val (.ref xb), .unset] [(.ref xb), (.ref xa)])) (fun t k => XS.aloadN X0.here hx rfl (hb hby d9_1) rfl rfl k) ?_
  refine Goes.to (T' := s₁.setTop (mkF m 7 #[.val (.ref xa), .val (.ref xb), .unset] [])) (fun t k => Jvm.RoadKit.acmp (g := (mkF m 2 #[.val (.ref xa), .val (.ref xb), .unset] [(.ref xb), (.ref xa)])) X0 hx rfl rfl rfl (pc0 := 2) (pc' := 7) (same := false) rfl (hb hby d9_2) rfl (decide_eq_false fun q => hne (Value.ref.inj q)) (by decide) (by decide) k) ?_
  refine Goes.to (T' := s₁.setTop (mkF m 8 #[.val (.ref xa), .val (.ref xb), .unset] [(.ref xb)])) (fun t k => XS.aloadN X0.here hx rfl (hb hby d9_7) rfl rfl k) ?_
  obtain ⟨T1, X1, e1, st1⟩ := instY X0 hx hZ hown (hw _ (List.mem_of_getElem? (i := 57) rfl)) e0 (Ins.self E_xb) (g := (mkF m 8 #[.val (.ref xa), .val (.ref xb), .unset] [(.ref xb)])) rfl rfl (hb hby d9_8)
  refine Goes.to (T' := T1.setTop (mkF m 11 #[.val (.ref xa), .val (.ref xb), .unset] [(.int (1 : Int32))])) st1 ?_
  refine Goes.to (T' := T1.setTop (mkF m 14 #[.val (.ref xa), .val (.ref xb), .unset] [])) (fun t k => XS.ifNo X1.here hx rfl (hb hby d9_11) rfl ((if0 _ _).trans (feq (by decide)).1) k) ?_
  refine Goes.to (T' := T1.setTop (mkF m 15 #[.val (.ref xa), .val (.ref xb), .unset] [(.ref xb)])) (fun t k => XS.aloadN X1.here hx rfl (hb hby d9_14) rfl rfl k) ?_
  obtain ⟨T2, X2, e2, st2⟩ := castY X1 hx hZ hown (hw _ (List.mem_of_getElem? (i := 57) rfl)) e1 (Ins.self E_xb) (g := (mkF m 15 #[.val (.ref xa), .val (.ref xb), .unset] [(.ref xb)])) rfl rfl (hb hby d9_15)
  refine Goes.to (T' := T2.setTop (mkF m 18 #[.val (.ref xa), .val (.ref xb), .unset] [(.ref xb)])) st2 ?_
  refine Goes.to (T' := T2.setTop (mkF m 19 #[.val (.ref xa), .val (.ref xb), .val (.ref xb)] [])) (fun t k => XS.astoreN X2.here hx rfl (hb hby d9_18) rfl rfl (l' := #[.val (.ref xa), .val (.ref xb), .val (.ref xb)]) rfl k) ?_
  obtain ⟨T3, X3, e3, st3⟩ := getS2 X2 hx hZ hown (host := "") (Or.inl (hw _ (List.mem_of_getElem? (i := 14) rfl))) Via.refl e2 (S_cs.ext O0.2) (g := (mkF m 19 #[.val (.ref xa), .val (.ref xb), .val (.ref xb)] [])) rfl (hb hby d9_19)
  refine Goes.to (T' := T3.setTop (mkF m 22 #[.val (.ref xa), .val (.ref xb), .val (.ref xb)] [(.int z_cs)])) st3 ?_
  refine Goes.to (T' := T3.setTop (mkF m 25 #[.val (.ref xa), .val (.ref xb), .val (.ref xb)] [])) (fun t k => XS.ifNo X3.here hx rfl (hb hby d9_22) rfl ((if0 _ _).trans (feq nz_cs).1) k) ?_
  refine Goes.to (T' := T3.setTop (mkF m 26 #[.val (.ref xa), .val (.ref xb), .val (.ref xb)] [(.ref xa)])) (fun t k => XS.aloadN X3.here hx rfl (hb hby d9_25) rfl rfl k) ?_
  obtain ⟨T4, X4, e4, st4⟩ := getF X3 hx hZ hown (host := "") (Or.inl (hw _ (List.mem_of_getElem? (i := 26) rfl))) Via.refl e3 F_coder_xa (g := (mkF m 26 #[.val (.ref xa), .val (.ref xb), .val (.ref xb)] [(.ref xa)])) rfl rfl (hb hby d9_26)
  refine Goes.to (T' := T4.setTop (mkF m 29 #[.val (.ref xa), .val (.ref xb), .val (.ref xb)] [(.int (0 : Int32))])) st4 ?_
  refine Goes.to (T' := T4.setTop (mkF m 30 #[.val (.ref xa), .val (.ref xb), .val (.ref xb)] [(.ref xb), (.int (0 : Int32))])) (fun t k => XS.aloadN X4.here hx rfl (hb hby d9_29) rfl rfl k) ?_
  obtain ⟨T5, X5, e5, st5⟩ := getF X4 hx hZ hown (host := "") (Or.inl (hw _ (List.mem_of_getElem? (i := 26) rfl))) Via.refl e4 F_coder_xb (g := (mkF m 30 #[.val (.ref xa), .val (.ref xb), .val (.ref xb)] [(.ref xb), (.int (0 : Int32))])) rfl rfl (hb hby d9_30)
  refine Goes.to (T' := T5.setTop (mkF m 33 #[.val (.ref xa), .val (.ref xb), .val (.ref xb)] [(.int (0 : Int32)), (.int (0 : Int32))])) st5 ?_
  refine Goes.to (T' := T5.setTop (mkF m 36 #[.val (.ref xa), .val (.ref xb), .val (.ref xb)] [])) (fun t k => XS.icmpNo X5.here hx rfl (hb hby d9_33) rfl (teq (by decide)).2 k) ?_
  refine Goes.to (T' := T5.setTop (mkF m 37 #[.val (.ref xa), .val (.ref xb), .val (.ref xb)] [(.ref xa)])) (fun t k => XS.aloadN X5.here hx rfl (hb hby d9_36) rfl rfl k) ?_
  obtain ⟨T6, X6, e6, st6⟩ := getF X5 hx hZ hown (host := "") (Or.inl (hw _ (List.mem_of_getElem? (i := 28) rfl))) Via.refl e5 F_value_xa (g := (mkF m 37 #[.val (.ref xa), .val (.ref xb), .val (.ref xb)] [(.ref xa)])) rfl rfl (hb hby d9_37)
  refine Goes.to (T' := T6.setTop (mkF m 40 #[.val (.ref xa), .val (.ref xb), .val (.ref xb)] [(.ref y1)])) st6 ?_
  refine Goes.to (T' := T6.setTop (mkF m 41 #[.val (.ref xa), .val (.ref xb), .val (.ref xb)] [(.ref xb), (.ref y1)])) (fun t k => XS.aloadN X6.here hx rfl (hb hby d9_40) rfl rfl k) ?_
  obtain ⟨T7, X7, e7, st7⟩ := getF X6 hx hZ hown (host := "") (Or.inl (hw _ (List.mem_of_getElem? (i := 28) rfl))) Via.refl e6 F_value_xb (g := (mkF m 41 #[.val (.ref xa), .val (.ref xb), .val (.ref xb)] [(.ref xb), (.ref y1)])) rfl rfl (hb hby d9_41)
  refine Goes.to (T' := T7.setTop (mkF m 44 #[.val (.ref xa), .val (.ref xb), .val (.ref xb)] [(.ref y2), (.ref y1)])) st7 ?_
  obtain ⟨_, _, ⟨T8, L8, k8, n8⟩, -, X8, ⟨Lc8, hQ8, l8, y8, z8⟩, st8⟩ := Jvm.LawKit.callS X7 hx (y := (⟨"java/lang/StringLatin1", "equals", "([B[B)Z"⟩ : MethodName)) hown (mvT hZ (hw _ (List.mem_of_getElem? (i := 58) rfl))) (mvT hZ (hw _ (List.mem_of_getElem? (i := 59) rfl))) (mvT hZ (hw _ (List.mem_of_getElem? (i := 60) rfl))) (mvT hZ (hw _ (List.mem_of_getElem? (i := 61) rfl))) (by decide) (backOf (W := 0) (rmL l Z a0 hw [] y1 y2 z_cs k1 k2 u1 u2 (if u1 = u2 then 1 else 0) h0 n0 O0 NF V_y1 V_y2 rfl) hZ (hw _ (List.mem_of_getElem? (i := 61) rfl)) (hw _ (List.mem_of_getElem? (i := 60) rfl)) (by decide) (by decide)) (g := (mkF m 44 #[.val (.ref xa), .val (.ref xb), .val (.ref xb)] [(.ref y2), (.ref y1)])) rfl (by rw [hml]; rfl) (argsL := [(.ref y1), (.ref y2)]) (rest := []) (lenOf pd_26 rfl) rfl (by show 2 * 0 + _ ≤ _; exact Nat.le_of_eq rfl) (hb hby d9_44) (fun _ _ => ⟨rfl, e7, (by decide : 0 + 0 ≤ _), (by decide : 0 + 0 ≤ _)⟩)
  dsimp only [Pt.U, Pt.locs, Pt.cells, Pt.slots] at X8 l8 y8 z8 st8 hQ8
  subst l8 y8 z8
  obtain ⟨rfl, Nq8, e8⟩ := hQ8
  have N8 := Fr.app N0 Nq8
  refine Goes.to (T' := T8.setTop (mkF m 47 #[.val (.ref xa), .val (.ref xb), .val (.ref xb)] [(.int (if u1 = u2 then (1 : Int32) else 0))])) st8 ?_
  rcases Decidable.em (u1 = u2) with hs9 | hs9
  · rw [if_pos hs9]
    refine Goes.to (T' := T8.setTop (mkF m 50 #[.val (.ref xa), .val (.ref xb), .val (.ref xb)] [])) (fun t k => XS.ifNo X8.here hx rfl (hb hby d9_47) rfl ((if0 _ _).trans (feq (by decide)).1) k) ?_
    refine Goes.to (T' := T8.setTop (mkF m 51 #[.val (.ref xa), .val (.ref xb), .val (.ref xb)] [(.int (1 : Int32))])) (fun t k => XS.iconst X8.here hx rfl (hb hby d9_50) k) ?_
    refine Goes.to (T' := T8.setTop (mkF m 55 #[.val (.ref xa), .val (.ref xb), .val (.ref xb)] [(.int (1 : Int32))])) (fun t k => XS.goto X8.here hx rfl (pc0 := 51) (pc' := 55) rfl (hb hby d9_51) (by decide) (by decide) k) ?_
    obtain ⟨fs, hrL, hrun, hended, hW, hsame⟩ := X8.leave (v := some (.int (1 : Int32))) (fun h => by rw [Bd.returns] at h; cases h)
    subst hQf
    refine ⟨_, _, retN X8 hx (t := .boolean) Bd.returns (by simp) (hb hby d9_55) hrL, hrun, hended, _, _, rfl, ?_, ⟨_, rfl⟩, hW, hsame.mono (by decide) (by decide)⟩
    show (fun (v : Option Value) (h : Heap) (L : List Loc) => v = some (.int r) ∧ Fr n0 L ∧ h = h0) (some (.int (1 : Int32))) T8.heap _
    rw [e8]
    have hv : ((1 : Int32) : Int32) = r := by rw [hr]; first | (simp [hne, nz_cs, hs9]; done) | ((repeat' split) <;> first | rfl | contradiction | simp_all)
    exact ⟨by rw [hv], N8, rfl⟩
  · rw [if_neg hs9]
    refine Goes.to (T' := T8.setTop (mkF m 54 #[.val (.ref xa), .val (.ref xb), .val (.ref xb)] [])) (fun t k => XS.ifYes X8.here hx rfl (pc0 := 47) (pc' := 54) rfl (hb hby d9_47) rfl ((if0 _ _).trans (teq (by decide)).1) (by decide) (by decide) k) ?_
    refine Goes.to (T' := T8.setTop (mkF m 55 #[.val (.ref xa), .val (.ref xb), .val (.ref xb)] [(.int (0 : Int32))])) (fun t k => XS.iconst X8.here hx rfl (hb hby d9_54) k) ?_
    obtain ⟨fs, hrL, hrun, hended, hW, hsame⟩ := X8.leave (v := some (.int (0 : Int32))) (fun h => by rw [Bd.returns] at h; cases h)
    subst hQf
    refine ⟨_, _, retN X8 hx (t := .boolean) Bd.returns (by simp) (hb hby d9_55) hrL, hrun, hended, _, _, rfl, ?_, ⟨_, rfl⟩, hW, hsame.mono (by decide) (by decide)⟩
    show (fun (v : Option Value) (h : Heap) (L : List Loc) => v = some (.int r) ∧ Fr n0 L ∧ h = h0) (some (.int (0 : Int32))) T8.heap _
    rw [e8]
    have hv : ((0 : Int32) : Int32) = r := by rw [hr]; first | (simp [hne, nz_cs, hs9]; done) | ((repeat' split) <;> first | rfl | contradiction | simp_all)
    exact ⟨by rw [hv], N8, rfl⟩
theorem d9_5 : decode jdk_42_method_66_code 5 = .ok (.iconst 1, 1) := by decide +kernel
theorem d9_6 : decode jdk_42_method_66_code 6 = .ok (.ireturn, 1) := by decide +kernel
theorem ef_rmSS (m : MethodId) (x0 : Addr) (x1 : Addr) : entryFrame m #[(.ref x0), (.ref x1)] 3 = mkF m 0 #[.val (.ref x0), .val (.ref x1), .unset] [] := by first | (simp [entryFrame, mkF, argsToLocals, Value.category]; done) | rfl
def Q_rmSS (Z : State) (xa : Addr) (z_cs : Int32) (h0 : Heap) (n0 : Nat) (v : Option Value) (h : Heap) (L : List Loc) : Prop := v = some (.int 1) ∧ Fr n0 L ∧ h = h0
set_option maxRecDepth 65536 in
set_option maxHeartbeats 40000000 in
theorem rmSS (l : Launch) (Z : State) (a0 : Array Value) (hw : ∀ d ∈ tables_1, d.before a0 Z = true) (ws : List Jvm.Cond) (xa : Addr) (z_cs : Int32) (h0 : Heap) (n0 : Nat) (O0 : Old Z n0 h0) (NF : Nar Z z_cs) :
    MetFree l (⟨"java/lang/String", "equals", "(Ljava/lang/Object;)Z"⟩ : MethodName) (head1 (Jvm.Cond.code (⟨"java/lang/String", "equals", "(Ljava/lang/Object;)Z"⟩ : MethodName) jdk_42_method_66_code 3 (some .boolean) :: ws) ({ frames := 0, cells := 0, slots := 0, locals := 0 } : Room)) (fun a U => a = #[(.ref xa), (.ref xa)] ∧ Z.Warmed39 U.vm ∧ U.heap = h0) (fun _ _ _ _ _ => True) (fun _ U o U' => ∃ v L, o = .returned v ∧ Q_rmSS Z xa z_cs h0 n0 v U'.heap L ∧ FrameEnd U o U' L ({ frames := 0, cells := 0, slots := 0, locals := 0 } : Room).cells ({ frames := 0, cells := 0, slots := 0, locals := 0 } : Room).slots) := by
  refine MetFree.of_bodySF (plainFor_of_name pn_9) hisR ?_
  intro p e s m args below meth c s₁ Bd hml0 hP hK
  obtain ⟨rfl, hZ, hh⟩ := hP
  have hx := Bd.exec
  have hby := Bd.bytes
  have hml : c.maxLocals = 3 := hml0
  have hown : s.vm.findClass "java/lang/String" = some m.cls := findClass_of_methodNamed Bd.named
  have hnm := (name_of_methodNamed Bd.named Bd.method).1
  have X0 : Stand p l e ({ frames := 0, cells := 0, slots := 0, locals := 0 } : Room) s m #[(.ref xa), (.ref xa)] below meth c s₁ [] 0 0 := Stand.of_body Bd
  have e0 : s₁.heap = h0 := by rw [← hh, Bd.state]; rfl
  have N0 := Fr.nil n0
  suffices G : ∀ (Qf : Outcome → State → Prop), Qf = (fun (_ : Array Value) (U : State) (o : Outcome) (U' : State) => ∃ v L, o = .returned v ∧ Q_rmSS Z xa z_cs h0 n0 v U'.heap L ∧ FrameEnd U o U' L ({ frames := 0, cells := 0, slots := 0, locals := 0 } : Room).cells ({ frames := 0, cells := 0, slots := 0, locals := 0 } : Room).slots) #[] s → Goes p.tables e below Qf (s₁.setTop (mkF m 0 #[.val (.ref xa), .val (.ref xa), .unset] [])) by
    obtain ⟨s₂, o, g1, g2, g3, g4⟩ := G _ rfl
    exact ⟨s₂, o, castTop (ef_rmSS m _ _) g1, g2, g3, g4⟩
  intro Qf hQf
  obtain ⟨S_cs, nz_cs⟩ := id NF
  refine Goes.to (T' := s₁.setTop (mkF m 1 #[.val (.ref xa), .val (.ref xa), .unset] [(.ref xa)])) (fun t k => XS.aloadN X0.here hx rfl (hb hby d9_0) rfl rfl k) ?_
  refine Goes.to (T' := s₁.setTop (mkF m 2 #[.val (.ref xa), .val (.ref xa), .unset] [(.ref xa), (.ref xa)])) (fun t k => XS.aloadN X0.here hx rfl (hb hby d9_1) rfl rfl k) ?_
  refine Goes.to (T' := s₁.setTop (mkF m 5 #[.val (.ref xa), .val (.ref xa), .unset] [])) (fun t k => Jvm.RoadKit.acmp (g := (mkF m 2 #[.val (.ref xa), .val (.ref xa), .unset] [(.ref xa), (.ref xa)])) X0 hx rfl rfl rfl (pc0 := 2) (pc' := 5) (same := true) rfl (hb hby d9_2) rfl (decide_eq_true rfl) (by decide) (by decide) k) ?_
  refine Goes.to (T' := s₁.setTop (mkF m 6 #[.val (.ref xa), .val (.ref xa), .unset] [(.int (1 : Int32))])) (fun t k => XS.iconst X0.here hx rfl (hb hby d9_5) k) ?_
  obtain ⟨fs, hrL, hrun, hended, hW, hsame⟩ := X0.leave (v := some (.int (1 : Int32))) (fun h => by rw [Bd.returns] at h; cases h)
  subst hQf
  refine ⟨_, _, retN X0 hx (t := .boolean) Bd.returns (by simp) (hb hby d9_6) hrL, hrun, hended, _, _, rfl, ?_, ⟨_, rfl⟩, hW, hsame.mono (by decide) (by decide)⟩
  show (fun (v : Option Value) (h : Heap) (L : List Loc) => v = some (.int 1) ∧ Fr n0 L ∧ h = h0) (some (.int (1 : Int32))) s₁.heap _
  rw [e0]
  exact ⟨rfl, N0, rfl⟩
theorem d7_0 : decode prog_5_method_1_code 0 = .ok (.aload_n 0, 1) := by decide +kernel
theorem d7_1 : decode prog_5_method_1_code 1 = .ok (.invokespecial 1, 3) := by decide +kernel
theorem d7_4 : decode prog_5_method_1_code 4 = .ok (.aload_n 0, 1) := by decide +kernel
theorem d7_5 : decode prog_5_method_1_code 5 = .ok (.lload_n 1, 1) := by decide +kernel
theorem d7_6 : decode prog_5_method_1_code 6 = .ok (.putfield 7, 3) := by decide +kernel
theorem d7_9 : decode prog_5_method_1_code 9 = .ok (.aload_n 0, 1) := by decide +kernel
theorem d7_10 : decode prog_5_method_1_code 10 = .ok (.lload_n 3, 1) := by decide +kernel
theorem d7_11 : decode prog_5_method_1_code 11 = .ok (.putfield 13, 3) := by decide +kernel
theorem d7_14 : decode prog_5_method_1_code 14 = .ok (.aload_n 0, 1) := by decide +kernel
theorem d7_15 : decode prog_5_method_1_code 15 = .ok (.aload 5, 2) := by decide +kernel
theorem d7_17 : decode prog_5_method_1_code 17 = .ok (.putfield 16, 3) := by decide +kernel
theorem d7_20 : decode prog_5_method_1_code 20 = .ok (.aload_n 0, 1) := by decide +kernel
theorem d7_21 : decode prog_5_method_1_code 21 = .ok (.aload 6, 2) := by decide +kernel
theorem d7_23 : decode prog_5_method_1_code 23 = .ok (.putfield 20, 3) := by decide +kernel
theorem d7_26 : decode prog_5_method_1_code 26 = .ok (.return_, 1) := by decide +kernel
theorem pn_7 : plainName "com/example/inman/inman/Move" = true := by first | (simp [plainName, overriddenIn]; done) | decide +kernel
theorem ef_rmMI (m : MethodId) (x0 : Addr) (x1 : Int64) (x2 : Int64) (x3 : Addr) (x4 : Addr) : entryFrame m #[(.ref x0), (.long x1), (.long x2), (.ref x3), (.ref x4)] 7 = mkF m 0 #[.val (.ref x0), .val (.long x1), .second, .val (.long x2), .second, .val (.ref x3), .val (.ref x4)] [] := by first | (simp [entryFrame, mkF, argsToLocals, Value.category]; done) | rfl
def Q_rmMI (Z : State) (xa : Addr) (qa : Int64) (qb : Int64) (xf : Addr) (xt : Addr) (z_cs : Int32) (h0 : Heap) (n0 : Nat) (v : Option Value) (h : Heap) (L : List Loc) : Prop := v = none ∧ Fr n0 L ∧ Keep h0 h [xa] ∧ Fld Z h xa "com/example/inman/inman/Move" "first" "J" (.long qa) ∧ Fld Z h xa "com/example/inman/inman/Move" "last" "J" (.long qb) ∧ Fld Z h xa "com/example/inman/inman/Move" "from" "Ljava/lang/String;" (.ref xf) ∧ Fld Z h xa "com/example/inman/inman/Move" "to" "Ljava/lang/String;" (.ref xt)
set_option maxRecDepth 65536 in
set_option maxHeartbeats 40000000 in
theorem rmMI (l : Launch) (Z : State) (a0 : Array Value) (hw : ∀ d ∈ tables_1, d.before a0 Z = true) (ws : List Jvm.Cond) (xa : Addr) (qa : Int64) (qb : Int64) (xf : Addr) (xt : Addr) (z_cs : Int32) (h0 : Heap) (n0 : Nat) (O0 : Old Z n0 h0) (NF : Nar Z z_cs) (E_xa : Exa Z h0 xa "com/example/inman/inman/Move") (F_first_xa : Fld Z h0 xa "com/example/inman/inman/Move" "first" "J" (.long (0 : Int64))) (F_last_xa : Fld Z h0 xa "com/example/inman/inman/Move" "last" "J" (.long (0 : Int64))) (F_from_xa : Fld Z h0 xa "com/example/inman/inman/Move" "from" "Ljava/lang/String;" .null) (F_to_xa : Fld Z h0 xa "com/example/inman/inman/Move" "to" "Ljava/lang/String;" .null) (g_xa : n0 ≤ xa) :
    MetFree l (⟨"com/example/inman/inman/Move", "<init>", "(JJLjava/lang/String;Ljava/lang/String;)V"⟩ : MethodName) (head1 (Jvm.Cond.code (⟨"com/example/inman/inman/Move", "<init>", "(JJLjava/lang/String;Ljava/lang/String;)V"⟩ : MethodName) prog_5_method_1_code 7 none :: ws) ({ frames := 1, cells := 0, slots := 0, locals := 12 } : Room)) (fun a U => a = #[(.ref xa), (.long qa), (.long qb), (.ref xf), (.ref xt)] ∧ Z.Warmed39 U.vm ∧ U.heap = h0) (fun _ _ _ _ _ => True) (fun _ U o U' => ∃ v L, o = .returned v ∧ Q_rmMI Z xa qa qb xf xt z_cs h0 n0 v U'.heap L ∧ FrameEnd U o U' L ({ frames := 1, cells := 0, slots := 0, locals := 12 } : Room).cells ({ frames := 1, cells := 0, slots := 0, locals := 12 } : Room).slots) := by
  refine MetFree.of_bodySF (plainFor_of_name pn_7) hisR ?_
  intro p e s m args below meth c s₁ Bd hml0 hP hK
  obtain ⟨rfl, hZ, hh⟩ := hP
  have hx := Bd.exec
  have hby := Bd.bytes
  have hml : c.maxLocals = 7 := hml0
  have hown : s.vm.findClass "com/example/inman/inman/Move" = some m.cls := findClass_of_methodNamed Bd.named
  have hnm := (name_of_methodNamed Bd.named Bd.method).1
  have X0 : Stand p l e ({ frames := 1, cells := 0, slots := 0, locals := 12 } : Room) s m #[(.ref xa), (.long qa), (.long qb), (.ref xf), (.ref xt)] below meth c s₁ [] 0 0 := Stand.of_body Bd
  have e0 : s₁.heap = h0 := by rw [← hh, Bd.state]; rfl
  have N0 := Fr.nil n0
  have K0 := Keep.refl h0 [xa]
  suffices G : ∀ (Qf : Outcome → State → Prop), Qf = (fun (_ : Array Value) (U : State) (o : Outcome) (U' : State) => ∃ v L, o = .returned v ∧ Q_rmMI Z xa qa qb xf xt z_cs h0 n0 v U'.heap L ∧ FrameEnd U o U' L ({ frames := 1, cells := 0, slots := 0, locals := 12 } : Room).cells ({ frames := 1, cells := 0, slots := 0, locals := 12 } : Room).slots) #[] s → Goes p.tables e below Qf (s₁.setTop (mkF m 0 #[.val (.ref xa), .val (.long qa), .second, .val (.long qb), .second, .val (.ref xf), .val (.ref xt)] [])) by
    obtain ⟨s₂, o, g1, g2, g3, g4⟩ := G _ rfl
    exact ⟨s₂, o, castTop (ef_rmMI m _ _ _ _ _) g1, g2, g3, g4⟩
  intro Qf hQf
  obtain ⟨S_cs, nz_cs⟩ := id NF
  refine Goes.to (T' := s₁.setTop (mkF m 1 #[.val (.ref xa), .val (.long qa), .second, .val (.long qb), .second, .val (.ref xf), .val (.ref xt)] [(.ref xa)])) (fun t k => XS.aloadN X0.here hx rfl (hb hby d7_0) rfl rfl k) ?_
  obtain ⟨T1, X1, e1, st1⟩ := initO X0 hx hZ hown (hw _ (List.mem_of_getElem? (i := 36) rfl)) (hw _ (List.mem_of_getElem? (i := 12) rfl)) (hw _ (List.mem_of_getElem? (i := 13) rfl)) e0 (g := (mkF m 1 #[.val (.ref xa), .val (.long qa), .second, .val (.long qb), .second, .val (.ref xf), .val (.ref xt)] [(.ref xa)])) rfl (by rw [hml]; rfl) rfl (hb hby d7_1) (by decide) (W := 0) (by show 2 * 0 + _ ≤ _; exact Nat.le_of_eq rfl) (by decide)
  refine Goes.to (T' := T1.setTop (mkF m 4 #[.val (.ref xa), .val (.long qa), .second, .val (.long qb), .second, .val (.ref xf), .val (.ref xt)] [])) st1 ?_
  refine Goes.to (T' := T1.setTop (mkF m 5 #[.val (.ref xa), .val (.long qa), .second, .val (.long qb), .second, .val (.ref xf), .val (.ref xt)] [(.ref xa)])) (fun t k => XS.aloadN X1.here hx rfl (hb hby d7_4) rfl rfl k) ?_
  refine Goes.to (T' := T1.setTop (mkF m 6 #[.val (.ref xa), .val (.long qa), .second, .val (.long qb), .second, .val (.ref xf), .val (.ref xt)] [(.long qa), (.ref xa)])) (fun t k => XS.lloadN X1.here hx rfl (hb hby d7_5) rfl k) ?_
  obtain ⟨T2, h2, X2, e2, W2, st2⟩ := putF X1 hx hZ hown (host := "") (Or.inl (hw _ (List.mem_of_getElem? (i := 37) rfl))) Via.refl e1 F_first_xa E_xa (Or.inr ⟨(hw _ (List.mem_of_getElem? (i := 38) rfl)), rfl, hnm⟩) (hw _ (List.mem_of_getElem? (i := 31) rfl)) (ty := .long) (by decide) rfl rfl (g := (mkF m 6 #[.val (.ref xa), .val (.long qa), .second, .val (.long qb), .second, .val (.ref xf), .val (.ref xt)] [(.long qa), (.ref xa)])) rfl rfl (hb hby d7_6)
  have F_first_xa := F_first_xa.same W2
  have E_xa := E_xa.wr W2
  have F_last_xa := F_last_xa.other W2 (Or.inr (slot_ne (Or.inr (hw _ (List.mem_of_getElem? (i := 40) rfl))) (Or.inr (hw _ (List.mem_of_getElem? (i := 38) rfl))) (by decide) (t := .long) (t' := .long) (by decide) (by decide)))
  have F_from_xa := F_from_xa.other W2 (Or.inr (slot_ne (Or.inr (hw _ (List.mem_of_getElem? (i := 42) rfl))) (Or.inr (hw _ (List.mem_of_getElem? (i := 38) rfl))) (by decide) (t := (.object "java/lang/String")) (t' := .long) (by decide) (by decide)))
  have F_to_xa := F_to_xa.other W2 (Or.inr (slot_ne (Or.inr (hw _ (List.mem_of_getElem? (i := 44) rfl))) (Or.inr (hw _ (List.mem_of_getElem? (i := 38) rfl))) (by decide) (t := (.object "java/lang/String")) (t' := .long) (by decide) (by decide)))
  have O0 := O0.wr W2 g_xa
  have K0 := K0.wr W2 (Or.inl (List.mem_of_getElem? (i := 0) rfl))
  have N2 := Fr.snoc X2 N0 g_xa
  refine Goes.to (T' := T2.setTop (mkF m 9 #[.val (.ref xa), .val (.long qa), .second, .val (.long qb), .second, .val (.ref xf), .val (.ref xt)] [])) st2 ?_
  refine Goes.to (T' := T2.setTop (mkF m 10 #[.val (.ref xa), .val (.long qa), .second, .val (.long qb), .second, .val (.ref xf), .val (.ref xt)] [(.ref xa)])) (fun t k => XS.aloadN X2.here hx rfl (hb hby d7_9) rfl rfl k) ?_
  refine Goes.to (T' := T2.setTop (mkF m 11 #[.val (.ref xa), .val (.long qa), .second, .val (.long qb), .second, .val (.ref xf), .val (.ref xt)] [(.long qb), (.ref xa)])) (fun t k => XS.lloadN X2.here hx rfl (hb hby d7_10) rfl k) ?_
  obtain ⟨T3, h3, X3, e3, W3, st3⟩ := putF X2 hx hZ hown (host := "") (Or.inl (hw _ (List.mem_of_getElem? (i := 39) rfl))) Via.refl e2 F_last_xa E_xa (Or.inr ⟨(hw _ (List.mem_of_getElem? (i := 40) rfl)), rfl, hnm⟩) (hw _ (List.mem_of_getElem? (i := 31) rfl)) (ty := .long) (by decide) rfl rfl (g := (mkF m 11 #[.val (.ref xa), .val (.long qa), .second, .val (.long qb), .second, .val (.ref xf), .val (.ref xt)] [(.long qb), (.ref xa)])) rfl rfl (hb hby d7_11)
  have F_last_xa := F_last_xa.same W3
  have E_xa := E_xa.wr W3
  have F_first_xa := F_first_xa.other W3 (Or.inr (slot_ne (Or.inr (hw _ (List.mem_of_getElem? (i := 38) rfl))) (Or.inr (hw _ (List.mem_of_getElem? (i := 40) rfl))) (by decide) (t := .long) (t' := .long) (by decide) (by decide)))
  have F_from_xa := F_from_xa.other W3 (Or.inr (slot_ne (Or.inr (hw _ (List.mem_of_getElem? (i := 42) rfl))) (Or.inr (hw _ (List.mem_of_getElem? (i := 40) rfl))) (by decide) (t := (.object "java/lang/String")) (t' := .long) (by decide) (by decide)))
  have F_to_xa := F_to_xa.other W3 (Or.inr (slot_ne (Or.inr (hw _ (List.mem_of_getElem? (i := 44) rfl))) (Or.inr (hw _ (List.mem_of_getElem? (i := 40) rfl))) (by decide) (t := (.object "java/lang/String")) (t' := .long) (by decide) (by decide)))
  have O0 := O0.wr W3 g_xa
  have K0 := K0.wr W3 (Or.inl (List.mem_of_getElem? (i := 0) rfl))
  have N3 := Fr.snoc X3 N2 g_xa
  refine Goes.to (T' := T3.setTop (mkF m 14 #[.val (.ref xa), .val (.long qa), .second, .val (.long qb), .second, .val (.ref xf), .val (.ref xt)] [])) st3 ?_
  refine Goes.to (T' := T3.setTop (mkF m 15 #[.val (.ref xa), .val (.long qa), .second, .val (.long qb), .second, .val (.ref xf), .val (.ref xt)] [(.ref xa)])) (fun t k => XS.aloadN X3.here hx rfl (hb hby d7_14) rfl rfl k) ?_
  refine Goes.to (T' := T3.setTop (mkF m 17 #[.val (.ref xa), .val (.long qa), .second, .val (.long qb), .second, .val (.ref xf), .val (.ref xt)] [(.ref xf), (.ref xa)])) (fun t k => XS.aload X3.here hx rfl (hb hby d7_15) rfl rfl k) ?_
  obtain ⟨T4, h4, X4, e4, W4, st4⟩ := putF X3 hx hZ hown (host := "") (Or.inl (hw _ (List.mem_of_getElem? (i := 41) rfl))) Via.refl e3 F_from_xa E_xa (Or.inr ⟨(hw _ (List.mem_of_getElem? (i := 42) rfl)), rfl, hnm⟩) (hw _ (List.mem_of_getElem? (i := 31) rfl)) (ty := (.object "java/lang/String")) (by decide) rfl rfl (g := (mkF m 17 #[.val (.ref xa), .val (.long qa), .second, .val (.long qb), .second, .val (.ref xf), .val (.ref xt)] [(.ref xf), (.ref xa)])) rfl rfl (hb hby d7_17)
  have F_from_xa := F_from_xa.same W4
  have E_xa := E_xa.wr W4
  have F_first_xa := F_first_xa.other W4 (Or.inr (slot_ne (Or.inr (hw _ (List.mem_of_getElem? (i := 38) rfl))) (Or.inr (hw _ (List.mem_of_getElem? (i := 42) rfl))) (by decide) (t := .long) (t' := (.object "java/lang/String")) (by decide) (by decide)))
  have F_last_xa := F_last_xa.other W4 (Or.inr (slot_ne (Or.inr (hw _ (List.mem_of_getElem? (i := 40) rfl))) (Or.inr (hw _ (List.mem_of_getElem? (i := 42) rfl))) (by decide) (t := .long) (t' := (.object "java/lang/String")) (by decide) (by decide)))
  have F_to_xa := F_to_xa.other W4 (Or.inr (slot_ne (Or.inr (hw _ (List.mem_of_getElem? (i := 44) rfl))) (Or.inr (hw _ (List.mem_of_getElem? (i := 42) rfl))) (by decide) (t := (.object "java/lang/String")) (t' := (.object "java/lang/String")) (by decide) (by decide)))
  have O0 := O0.wr W4 g_xa
  have K0 := K0.wr W4 (Or.inl (List.mem_of_getElem? (i := 0) rfl))
  have N4 := Fr.snoc X4 N3 g_xa
  refine Goes.to (T' := T4.setTop (mkF m 20 #[.val (.ref xa), .val (.long qa), .second, .val (.long qb), .second, .val (.ref xf), .val (.ref xt)] [])) st4 ?_
  refine Goes.to (T' := T4.setTop (mkF m 21 #[.val (.ref xa), .val (.long qa), .second, .val (.long qb), .second, .val (.ref xf), .val (.ref xt)] [(.ref xa)])) (fun t k => XS.aloadN X4.here hx rfl (hb hby d7_20) rfl rfl k) ?_
  refine Goes.to (T' := T4.setTop (mkF m 23 #[.val (.ref xa), .val (.long qa), .second, .val (.long qb), .second, .val (.ref xf), .val (.ref xt)] [(.ref xt), (.ref xa)])) (fun t k => XS.aload X4.here hx rfl (hb hby d7_21) rfl rfl k) ?_
  obtain ⟨T5, h5, X5, e5, W5, st5⟩ := putF X4 hx hZ hown (host := "") (Or.inl (hw _ (List.mem_of_getElem? (i := 43) rfl))) Via.refl e4 F_to_xa E_xa (Or.inr ⟨(hw _ (List.mem_of_getElem? (i := 44) rfl)), rfl, hnm⟩) (hw _ (List.mem_of_getElem? (i := 31) rfl)) (ty := (.object "java/lang/String")) (by decide) rfl rfl (g := (mkF m 23 #[.val (.ref xa), .val (.long qa), .second, .val (.long qb), .second, .val (.ref xf), .val (.ref xt)] [(.ref xt), (.ref xa)])) rfl rfl (hb hby d7_23)
  have F_to_xa := F_to_xa.same W5
  have E_xa := E_xa.wr W5
  have F_first_xa := F_first_xa.other W5 (Or.inr (slot_ne (Or.inr (hw _ (List.mem_of_getElem? (i := 38) rfl))) (Or.inr (hw _ (List.mem_of_getElem? (i := 44) rfl))) (by decide) (t := .long) (t' := (.object "java/lang/String")) (by decide) (by decide)))
  have F_last_xa := F_last_xa.other W5 (Or.inr (slot_ne (Or.inr (hw _ (List.mem_of_getElem? (i := 40) rfl))) (Or.inr (hw _ (List.mem_of_getElem? (i := 44) rfl))) (by decide) (t := .long) (t' := (.object "java/lang/String")) (by decide) (by decide)))
  have F_from_xa := F_from_xa.other W5 (Or.inr (slot_ne (Or.inr (hw _ (List.mem_of_getElem? (i := 42) rfl))) (Or.inr (hw _ (List.mem_of_getElem? (i := 44) rfl))) (by decide) (t := (.object "java/lang/String")) (t' := (.object "java/lang/String")) (by decide) (by decide)))
  have O0 := O0.wr W5 g_xa
  have K0 := K0.wr W5 (Or.inl (List.mem_of_getElem? (i := 0) rfl))
  have N5 := Fr.snoc X5 N4 g_xa
  refine Goes.to (T' := T5.setTop (mkF m 26 #[.val (.ref xa), .val (.long qa), .second, .val (.long qb), .second, .val (.ref xf), .val (.ref xt)] [])) st5 ?_
  obtain ⟨fs, hrL, hrun, hended, hW, hsame⟩ := X5.leave (v := none) (fun _ => rfl)
  subst hQf
  refine ⟨_, _, X5.returnOut hx Bd.returns (hb hby d7_26) hrL, hrun, hended, _, _, rfl, ?_, ⟨_, rfl⟩, hW, hsame.mono (by decide) (by decide)⟩
  show (fun (v : Option Value) (h : Heap) (L : List Loc) => v = none ∧ Fr n0 L ∧ Keep h0 h [xa] ∧ Fld Z h xa "com/example/inman/inman/Move" "first" "J" (.long qa) ∧ Fld Z h xa "com/example/inman/inman/Move" "last" "J" (.long qb) ∧ Fld Z h xa "com/example/inman/inman/Move" "from" "Ljava/lang/String;" (.ref xf) ∧ Fld Z h xa "com/example/inman/inman/Move" "to" "Ljava/lang/String;" (.ref xt)) (none) T5.heap _
  rw [e5]
  exact ⟨rfl, N5, K0, F_first_xa, F_last_xa, F_from_xa, F_to_xa⟩
theorem pd_73 : parseMethodDescriptor "(Ljava/lang/Object;)Z" = some ⟨[(.object "java/lang/Object")], some .boolean⟩ := by decide +kernel
theorem d8_0 : decode prog_5_method_6_code 0 = .ok (.aload_n 1, 1) := by decide +kernel
theorem d8_1 : decode prog_5_method_6_code 1 = .ok (.instanceof 8, 3) := by decide +kernel
theorem d8_4 : decode prog_5_method_6_code 4 = .ok (.ifCond .eq 64, 3) := by decide +kernel
theorem d8_7 : decode prog_5_method_6_code 7 = .ok (.aload_n 1, 1) := by decide +kernel
theorem d8_8 : decode prog_5_method_6_code 8 = .ok (.checkcast 8, 3) := by decide +kernel
theorem d8_11 : decode prog_5_method_6_code 11 = .ok (.astore_n 2, 1) := by decide +kernel
theorem d8_12 : decode prog_5_method_6_code 12 = .ok (.aload_n 0, 1) := by decide +kernel
theorem d8_13 : decode prog_5_method_6_code 13 = .ok (.getfield 7, 3) := by decide +kernel
theorem d8_16 : decode prog_5_method_6_code 16 = .ok (.aload_n 2, 1) := by decide +kernel
theorem d8_17 : decode prog_5_method_6_code 17 = .ok (.getfield 7, 3) := by decide +kernel
theorem d8_20 : decode prog_5_method_6_code 20 = .ok (.lcmp, 1) := by decide +kernel
theorem d8_21 : decode prog_5_method_6_code 21 = .ok (.ifCond .ne 47, 3) := by decide +kernel
theorem d8_24 : decode prog_5_method_6_code 24 = .ok (.aload_n 0, 1) := by decide +kernel
theorem d8_25 : decode prog_5_method_6_code 25 = .ok (.getfield 13, 3) := by decide +kernel
theorem d8_28 : decode prog_5_method_6_code 28 = .ok (.aload_n 2, 1) := by decide +kernel
theorem d8_29 : decode prog_5_method_6_code 29 = .ok (.getfield 13, 3) := by decide +kernel
theorem d8_32 : decode prog_5_method_6_code 32 = .ok (.lcmp, 1) := by decide +kernel
theorem d8_33 : decode prog_5_method_6_code 33 = .ok (.ifCond .ne 35, 3) := by decide +kernel
theorem d8_36 : decode prog_5_method_6_code 36 = .ok (.aload_n 0, 1) := by decide +kernel
theorem d8_37 : decode prog_5_method_6_code 37 = .ok (.getfield 16, 3) := by decide +kernel
theorem d8_40 : decode prog_5_method_6_code 40 = .ok (.aload_n 2, 1) := by decide +kernel
theorem d8_41 : decode prog_5_method_6_code 41 = .ok (.getfield 16, 3) := by decide +kernel
theorem d8_44 : decode prog_5_method_6_code 44 = .ok (.invokevirtual 23, 3) := by decide +kernel
theorem d8_47 : decode prog_5_method_6_code 47 = .ok (.ifCond .eq 21, 3) := by decide +kernel
theorem d8_50 : decode prog_5_method_6_code 50 = .ok (.aload_n 0, 1) := by decide +kernel
theorem d8_51 : decode prog_5_method_6_code 51 = .ok (.getfield 20, 3) := by decide +kernel
theorem d8_54 : decode prog_5_method_6_code 54 = .ok (.aload_n 2, 1) := by decide +kernel
theorem d8_55 : decode prog_5_method_6_code 55 = .ok (.getfield 20, 3) := by decide +kernel
theorem d8_58 : decode prog_5_method_6_code 58 = .ok (.invokevirtual 23, 3) := by decide +kernel
theorem d8_61 : decode prog_5_method_6_code 61 = .ok (.ifCond .eq 7, 3) := by decide +kernel
theorem d8_64 : decode prog_5_method_6_code 64 = .ok (.iconst 1, 1) := by decide +kernel
theorem d8_65 : decode prog_5_method_6_code 65 = .ok (.goto 4, 3) := by decide +kernel
theorem d8_68 : decode prog_5_method_6_code 68 = .ok (.iconst 0, 1) := by decide +kernel
theorem d8_69 : decode prog_5_method_6_code 69 = .ok (.ireturn, 1) := by decide +kernel
theorem pn_8 : plainName "com/example/inman/inman/Move" = true := by first | (simp [plainName, overriddenIn]; done) | decide +kernel
theorem ef_rmME (m : MethodId) (x0 : Addr) (x1 : Addr) : entryFrame m #[(.ref x0), (.ref x1)] 3 = mkF m 0 #[.val (.ref x0), .val (.ref x1), .unset] [] := by first | (simp [entryFrame, mkF, argsToLocals, Value.category]; done) | rfl
def Q_rmME (Z : State) (xa : Addr) (xb : Addr) (z_cs : Int32) (qa : Int64) (qb : Int64) (qc : Int64) (qd : Int64) (xf1 : Addr) (xf2 : Addr) (xt1 : Addr) (xt2 : Addr) (y1 : Addr) (y2 : Addr) (y3 : Addr) (y4 : Addr) (k1 : ClassId) (k2 : ClassId) (k3 : ClassId) (k4 : ClassId) (u1 : Int32) (u2 : Int32) (u3 : Int32) (u4 : Int32) (r : Int32) (h0 : Heap) (n0 : Nat) (v : Option Value) (h : Heap) (L : List Loc) : Prop := v = some (.int r) ∧ Fr n0 L ∧ h = h0
set_option maxRecDepth 65536 in
set_option maxHeartbeats 40000000 in
theorem rmME (l : Launch) (Z : State) (a0 : Array Value) (hw : ∀ d ∈ tables_1, d.before a0 Z = true) (ws : List Jvm.Cond) (xa : Addr) (xb : Addr) (z_cs : Int32) (qa : Int64) (qb : Int64) (qc : Int64) (qd : Int64) (xf1 : Addr) (xf2 : Addr) (xt1 : Addr) (xt2 : Addr) (y1 : Addr) (y2 : Addr) (y3 : Addr) (y4 : Addr) (k1 : ClassId) (k2 : ClassId) (k3 : ClassId) (k4 : ClassId) (u1 : Int32) (u2 : Int32) (u3 : Int32) (u4 : Int32) (r : Int32) (h0 : Heap) (n0 : Nat) (O0 : Old Z n0 h0) (NF : Nar Z z_cs) (E_xb : Exa Z h0 xb "com/example/inman/inman/Move") (F_first_xa : Fld Z h0 xa "com/example/inman/inman/Move" "first" "J" (.long qa)) (F_last_xa : Fld Z h0 xa "com/example/inman/inman/Move" "last" "J" (.long qb)) (F_from_xa : Fld Z h0 xa "com/example/inman/inman/Move" "from" "Ljava/lang/String;" (.ref xf1)) (F_to_xa : Fld Z h0 xa "com/example/inman/inman/Move" "to" "Ljava/lang/String;" (.ref xt1)) (F_first_xb : Fld Z h0 xb "com/example/inman/inman/Move" "first" "J" (.long qc)) (F_last_xb : Fld Z h0 xb "com/example/inman/inman/Move" "last" "J" (.long qd)) (F_from_xb : Fld Z h0 xb "com/example/inman/inman/Move" "from" "Ljava/lang/String;" (.ref xf2)) (F_to_xb : Fld Z h0 xb "com/example/inman/inman/Move" "to" "Ljava/lang/String;" (.ref xt2)) (E_xf1 : Exa Z h0 xf1 "java/lang/String") (F_coder_xf1 : Fld Z h0 xf1 "java/lang/String" "coder" "B" (.int (0 : Int32))) (F_value_xf1 : Fld Z h0 xf1 "java/lang/String" "value" "[B" (.ref y1)) (E_xf2 : Exa Z h0 xf2 "java/lang/String") (F_coder_xf2 : Fld Z h0 xf2 "java/lang/String" "coder" "B" (.int (0 : Int32))) (F_value_xf2 : Fld Z h0 xf2 "java/lang/String" "value" "[B" (.ref y2)) (E_xt1 : Exa Z h0 xt1 "java/lang/String") (F_coder_xt1 : Fld Z h0 xt1 "java/lang/String" "coder" "B" (.int (0 : Int32))) (F_value_xt1 : Fld Z h0 xt1 "java/lang/String" "value" "[B" (.ref y3)) (E_xt2 : Exa Z h0 xt2 "java/lang/String") (F_coder_xt2 : Fld Z h0 xt2 "java/lang/String" "coder" "B" (.int (0 : Int32))) (F_value_xt2 : Fld Z h0 xt2 "java/lang/String" "value" "[B" (.ref y4)) (V_y1 : Arv Z h0 y1 k1 .byte (1 : Int32) [(.int u1)] (.int (0 : Int32))) (V_y2 : Arv Z h0 y2 k2 .byte (1 : Int32) [(.int u2)] (.int (0 : Int32))) (V_y3 : Arv Z h0 y3 k3 .byte (1 : Int32) [(.int u3)] (.int (0 : Int32))) (V_y4 : Arv Z h0 y4 k4 .byte (1 : Int32) [(.int u4)] (.int (0 : Int32))) (hn_f : ¬ xf1 = xf2) (hn_t : ¬ xt1 = xt2) (hr : r = if qa = qc ∧ qb = qd ∧ u1 = u2 ∧ u3 = u4 then 1 else 0) :
    MetFree l (⟨"com/example/inman/inman/Move", "equals", "(Ljava/lang/Object;)Z"⟩ : MethodName) (head1 (Jvm.Cond.code (⟨"com/example/inman/inman/Move", "equals", "(Ljava/lang/Object;)Z"⟩ : MethodName) prog_5_method_6_code 3 (some .boolean) :: ws) ({ frames := 2, cells := 0, slots := 0, locals := 64 } : Room)) (fun a U => a = #[(.ref xa), (.ref xb)] ∧ Z.Warmed39 U.vm ∧ U.heap = h0) (fun _ _ _ _ _ => True) (fun _ U o U' => ∃ v L, o = .returned v ∧ Q_rmME Z xa xb z_cs qa qb qc qd xf1 xf2 xt1 xt2 y1 y2 y3 y4 k1 k2 k3 k4 u1 u2 u3 u4 r h0 n0 v U'.heap L ∧ FrameEnd U o U' L ({ frames := 2, cells := 0, slots := 0, locals := 64 } : Room).cells ({ frames := 2, cells := 0, slots := 0, locals := 64 } : Room).slots) := by
  refine MetFree.of_bodySF (plainFor_of_name pn_8) hisR ?_
  intro p e s m args below meth c s₁ Bd hml0 hP hK
  obtain ⟨rfl, hZ, hh⟩ := hP
  have hx := Bd.exec
  have hby := Bd.bytes
  have hml : c.maxLocals = 3 := hml0
  have hown : s.vm.findClass "com/example/inman/inman/Move" = some m.cls := findClass_of_methodNamed Bd.named
  have hnm := (name_of_methodNamed Bd.named Bd.method).1
  have X0 : Stand p l e ({ frames := 2, cells := 0, slots := 0, locals := 64 } : Room) s m #[(.ref xa), (.ref xb)] below meth c s₁ [] 0 0 := Stand.of_body Bd
  have e0 : s₁.heap = h0 := by rw [← hh, Bd.state]; rfl
  have N0 := Fr.nil n0
  suffices G : ∀ (Qf : Outcome → State → Prop), Qf = (fun (_ : Array Value) (U : State) (o : Outcome) (U' : State) => ∃ v L, o = .returned v ∧ Q_rmME Z xa xb z_cs qa qb qc qd xf1 xf2 xt1 xt2 y1 y2 y3 y4 k1 k2 k3 k4 u1 u2 u3 u4 r h0 n0 v U'.heap L ∧ FrameEnd U o U' L ({ frames := 2, cells := 0, slots := 0, locals := 64 } : Room).cells ({ frames := 2, cells := 0, slots := 0, locals := 64 } : Room).slots) #[] s → Goes p.tables e below Qf (s₁.setTop (mkF m 0 #[.val (.ref xa), .val (.ref xb), .unset] [])) by
    obtain ⟨s₂, o, g1, g2, g3, g4⟩ := G _ rfl
    exact ⟨s₂, o, castTop (ef_rmME m _ _) g1, g2, g3, g4⟩
  intro Qf hQf
  obtain ⟨S_cs, nz_cs⟩ := id NF
  refine Goes.to (T' := s₁.setTop (mkF m 1 #[.val (.ref xa), .val (.ref xb), .unset] [(.ref xb)])) (fun t k => XS.aloadN X0.here hx rfl (hb hby d8_0) rfl rfl k) ?_
  obtain ⟨T1, X1, e1, st1⟩ := instY X0 hx hZ hown (hw _ (List.mem_of_getElem? (i := 50) rfl)) e0 (Ins.self E_xb) (g := (mkF m 1 #[.val (.ref xa), .val (.ref xb), .unset] [(.ref xb)])) rfl rfl (hb hby d8_1)
  refine Goes.to (T' := T1.setTop (mkF m 4 #[.val (.ref xa), .val (.ref xb), .unset] [(.int (1 : Int32))])) st1 ?_
  refine Goes.to (T' := T1.setTop (mkF m 7 #[.val (.ref xa), .val (.ref xb), .unset] [])) (fun t k => XS.ifNo X1.here hx rfl (hb hby d8_4) rfl ((if0 _ _).trans (feq (by decide)).1) k) ?_
  refine Goes.to (T' := T1.setTop (mkF m 8 #[.val (.ref xa), .val (.ref xb), .unset] [(.ref xb)])) (fun t k => XS.aloadN X1.here hx rfl (hb hby d8_7) rfl rfl k) ?_
  obtain ⟨T2, X2, e2, st2⟩ := castY X1 hx hZ hown (hw _ (List.mem_of_getElem? (i := 50) rfl)) e1 (Ins.self E_xb) (g := (mkF m 8 #[.val (.ref xa), .val (.ref xb), .unset] [(.ref xb)])) rfl rfl (hb hby d8_8)
  refine Goes.to (T' := T2.setTop (mkF m 11 #[.val (.ref xa), .val (.ref xb), .unset] [(.ref xb)])) st2 ?_
  refine Goes.to (T' := T2.setTop (mkF m 12 #[.val (.ref xa), .val (.ref xb), .val (.ref xb)] [])) (fun t k => XS.astoreN X2.here hx rfl (hb hby d8_11) rfl rfl (l' := #[.val (.ref xa), .val (.ref xb), .val (.ref xb)]) rfl k) ?_
  refine Goes.to (T' := T2.setTop (mkF m 13 #[.val (.ref xa), .val (.ref xb), .val (.ref xb)] [(.ref xa)])) (fun t k => XS.aloadN X2.here hx rfl (hb hby d8_12) rfl rfl k) ?_
  obtain ⟨T3, X3, e3, st3⟩ := getF X2 hx hZ hown (host := "") (Or.inl (hw _ (List.mem_of_getElem? (i := 37) rfl))) Via.refl e2 F_first_xa (g := (mkF m 13 #[.val (.ref xa), .val (.ref xb), .val (.ref xb)] [(.ref xa)])) rfl rfl (hb hby d8_13)
  refine Goes.to (T' := T3.setTop (mkF m 16 #[.val (.ref xa), .val (.ref xb), .val (.ref xb)] [(.long qa)])) st3 ?_
  refine Goes.to (T' := T3.setTop (mkF m 17 #[.val (.ref xa), .val (.ref xb), .val (.ref xb)] [(.ref xb), (.long qa)])) (fun t k => XS.aloadN X3.here hx rfl (hb hby d8_16) rfl rfl k) ?_
  obtain ⟨T4, X4, e4, st4⟩ := getF X3 hx hZ hown (host := "") (Or.inl (hw _ (List.mem_of_getElem? (i := 37) rfl))) Via.refl e3 F_first_xb (g := (mkF m 17 #[.val (.ref xa), .val (.ref xb), .val (.ref xb)] [(.ref xb), (.long qa)])) rfl rfl (hb hby d8_17)
  refine Goes.to (T' := T4.setTop (mkF m 20 #[.val (.ref xa), .val (.ref xb), .val (.ref xb)] [(.long qc), (.long qa)])) st4 ?_
  refine Goes.to (T' := T4.setTop (mkF m 21 #[.val (.ref xa), .val (.ref xb), .val (.ref xb)] [(.int (lcmpW qa qc))])) (fun t k => XS.lcmp X4.here hx rfl (hb hby d8_20) rfl k) ?_
  rcases Decidable.em (qa = qc) with hc21_5 | hc21_5
  · skip
    refine Goes.to (T' := T4.setTop (mkF m 24 #[.val (.ref xa), .val (.ref xb), .val (.ref xb)] [])) (fun t k => XS.ifNo X4.here hx rfl (hb hby d8_21) rfl ((if0 _ _).trans (teq ((lw_eq qa qc).mpr hc21_5)).2) k) ?_
    refine Goes.to (T' := T4.setTop (mkF m 25 #[.val (.ref xa), .val (.ref xb), .val (.ref xb)] [(.ref xa)])) (fun t k => XS.aloadN X4.here hx rfl (hb hby d8_24) rfl rfl k) ?_
    obtain ⟨T6, X6, e6, st6⟩ := getF X4 hx hZ hown (host := "") (Or.inl (hw _ (List.mem_of_getElem? (i := 39) rfl))) Via.refl e4 F_last_xa (g := (mkF m 25 #[.val (.ref xa), .val (.ref xb), .val (.ref xb)] [(.ref xa)])) rfl rfl (hb hby d8_25)
    refine Goes.to (T' := T6.setTop (mkF m 28 #[.val (.ref xa), .val (.ref xb), .val (.ref xb)] [(.long qb)])) st6 ?_
    refine Goes.to (T' := T6.setTop (mkF m 29 #[.val (.ref xa), .val (.ref xb), .val (.ref xb)] [(.ref xb), (.long qb)])) (fun t k => XS.aloadN X6.here hx rfl (hb hby d8_28) rfl rfl k) ?_
    obtain ⟨T7, X7, e7, st7⟩ := getF X6 hx hZ hown (host := "") (Or.inl (hw _ (List.mem_of_getElem? (i := 39) rfl))) Via.refl e6 F_last_xb (g := (mkF m 29 #[.val (.ref xa), .val (.ref xb), .val (.ref xb)] [(.ref xb), (.long qb)])) rfl rfl (hb hby d8_29)
    refine Goes.to (T' := T7.setTop (mkF m 32 #[.val (.ref xa), .val (.ref xb), .val (.ref xb)] [(.long qd), (.long qb)])) st7 ?_
    refine Goes.to (T' := T7.setTop (mkF m 33 #[.val (.ref xa), .val (.ref xb), .val (.ref xb)] [(.int (lcmpW qb qd))])) (fun t k => XS.lcmp X7.here hx rfl (hb hby d8_32) rfl k) ?_
    rcases Decidable.em (qb = qd) with hc33_8 | hc33_8
    · skip
      refine Goes.to (T' := T7.setTop (mkF m 36 #[.val (.ref xa), .val (.ref xb), .val (.ref xb)] [])) (fun t k => XS.ifNo X7.here hx rfl (hb hby d8_33) rfl ((if0 _ _).trans (teq ((lw_eq qb qd).mpr hc33_8)).2) k) ?_
      refine Goes.to (T' := T7.setTop (mkF m 37 #[.val (.ref xa), .val (.ref xb), .val (.ref xb)] [(.ref xa)])) (fun t k => XS.aloadN X7.here hx rfl (hb hby d8_36) rfl rfl k) ?_
      obtain ⟨T9, X9, e9, st9⟩ := getF X7 hx hZ hown (host := "") (Or.inl (hw _ (List.mem_of_getElem? (i := 41) rfl))) Via.refl e7 F_from_xa (g := (mkF m 37 #[.val (.ref xa), .val (.ref xb), .val (.ref xb)] [(.ref xa)])) rfl rfl (hb hby d8_37)
      refine Goes.to (T' := T9.setTop (mkF m 40 #[.val (.ref xa), .val (.ref xb), .val (.ref xb)] [(.ref xf1)])) st9 ?_
      refine Goes.to (T' := T9.setTop (mkF m 41 #[.val (.ref xa), .val (.ref xb), .val (.ref xb)] [(.ref xb), (.ref xf1)])) (fun t k => XS.aloadN X9.here hx rfl (hb hby d8_40) rfl rfl k) ?_
      obtain ⟨T10, X10, e10, st10⟩ := getF X9 hx hZ hown (host := "") (Or.inl (hw _ (List.mem_of_getElem? (i := 41) rfl))) Via.refl e9 F_from_xb (g := (mkF m 41 #[.val (.ref xa), .val (.ref xb), .val (.ref xb)] [(.ref xb), (.ref xf1)])) rfl rfl (hb hby d8_41)
      refine Goes.to (T' := T10.setTop (mkF m 44 #[.val (.ref xa), .val (.ref xb), .val (.ref xb)] [(.ref xf2), (.ref xf1)])) st10 ?_
      obtain ⟨cq11, kq11, q11a, q11b, q11c⟩ := isOf hZ e10 E_xf1
      obtain ⟨_, _, ⟨T11, L11, k11, n11⟩, -, X11, ⟨Lc11, hQ11, l11, y11, z11⟩, st11⟩ := X10.virtualBack hx (y := (⟨"java/lang/String", "equals", "(Ljava/lang/Object;)Z"⟩ : MethodName)) (z := (⟨"java/lang/String", "equals", "(Ljava/lang/Object;)Z"⟩ : MethodName)) hown (mvT hZ (hw _ (List.mem_of_getElem? (i := 52) rfl))) (mvT hZ (hw _ (List.mem_of_getElem? (i := 53) rfl))) (notFace_of_selects (args := #[]) (mvT hZ (hw _ (List.mem_of_getElem? (i := 55) rfl)))) (mvT hZ (hw _ (List.mem_of_getElem? (i := 55) rfl))) (mvT hZ (hw _ (List.mem_of_getElem? (i := 54) rfl))) (by decide) (backOf (W := 0) (rmSE l Z a0 hw [] xf1 xf2 z_cs y1 y2 k1 k2 u1 u2 (if u1 = u2 then 1 else 0) h0 n0 O0 NF E_xf1 F_coder_xf1 F_value_xf1 E_xf2 F_coder_xf2 F_value_xf2 V_y1 V_y2 hn_f rfl) hZ (hw _ (List.mem_of_getElem? (i := 56) rfl)) (hw _ (List.mem_of_getElem? (i := 3) rfl)) (by decide) (by decide)) q11a q11c (g := (mkF m 44 #[.val (.ref xa), .val (.ref xb), .val (.ref xb)] [(.ref xf2), (.ref xf1)])) rfl (by rw [hml]; rfl) (Steps.refl _) (argsL := [(.ref xf2)]) (rest := []) (lenOf pd_73 rfl) rfl (by show 2 * 0 + _ ≤ _; exact Nat.le_of_eq rfl) (hb hby d8_44) (fun _ _ => ⟨rfl, e10, (by decide : 0 + 0 ≤ _), (by decide : 0 + 0 ≤ _)⟩)
      dsimp only [Pt.U, Pt.locs, Pt.cells, Pt.slots] at X11 l11 y11 z11 st11 hQ11
      subst l11 y11 z11
      obtain ⟨rfl, Nq11, e11⟩ := hQ11
      have N11 := Fr.app N0 Nq11
      refine Goes.thru (T' := T11.setTop (mkF m 47 #[.val (.ref xa), .val (.ref xb), .val (.ref xb)] [(.int (if u1 = u2 then (1 : Int32) else 0))])) st11 ?_
      rcases Decidable.em (u1 = u2) with hs12 | hs12
      · rw [if_pos hs12]
        refine Goes.to (T' := T11.setTop (mkF m 50 #[.val (.ref xa), .val (.ref xb), .val (.ref xb)] [])) (fun t k => XS.ifNo X11.here hx rfl (hb hby d8_47) rfl ((if0 _ _).trans (feq (by decide)).1) k) ?_
        refine Goes.to (T' := T11.setTop (mkF m 51 #[.val (.ref xa), .val (.ref xb), .val (.ref xb)] [(.ref xa)])) (fun t k => XS.aloadN X11.here hx rfl (hb hby d8_50) rfl rfl k) ?_
        obtain ⟨T13, X13, e13, st13⟩ := getF X11 hx hZ hown (host := "") (Or.inl (hw _ (List.mem_of_getElem? (i := 43) rfl))) Via.refl e11 F_to_xa (g := (mkF m 51 #[.val (.ref xa), .val (.ref xb), .val (.ref xb)] [(.ref xa)])) rfl rfl (hb hby d8_51)
        refine Goes.to (T' := T13.setTop (mkF m 54 #[.val (.ref xa), .val (.ref xb), .val (.ref xb)] [(.ref xt1)])) st13 ?_
        refine Goes.to (T' := T13.setTop (mkF m 55 #[.val (.ref xa), .val (.ref xb), .val (.ref xb)] [(.ref xb), (.ref xt1)])) (fun t k => XS.aloadN X13.here hx rfl (hb hby d8_54) rfl rfl k) ?_
        obtain ⟨T14, X14, e14, st14⟩ := getF X13 hx hZ hown (host := "") (Or.inl (hw _ (List.mem_of_getElem? (i := 43) rfl))) Via.refl e13 F_to_xb (g := (mkF m 55 #[.val (.ref xa), .val (.ref xb), .val (.ref xb)] [(.ref xb), (.ref xt1)])) rfl rfl (hb hby d8_55)
        refine Goes.to (T' := T14.setTop (mkF m 58 #[.val (.ref xa), .val (.ref xb), .val (.ref xb)] [(.ref xt2), (.ref xt1)])) st14 ?_
        obtain ⟨cq15, kq15, q15a, q15b, q15c⟩ := isOf hZ e14 E_xt1
        obtain ⟨_, _, ⟨T15, L15, k15, n15⟩, -, X15, ⟨Lc15, hQ15, l15, y15, z15⟩, st15⟩ := X14.virtualBack hx (y := (⟨"java/lang/String", "equals", "(Ljava/lang/Object;)Z"⟩ : MethodName)) (z := (⟨"java/lang/String", "equals", "(Ljava/lang/Object;)Z"⟩ : MethodName)) hown (mvT hZ (hw _ (List.mem_of_getElem? (i := 52) rfl))) (mvT hZ (hw _ (List.mem_of_getElem? (i := 53) rfl))) (notFace_of_selects (args := #[]) (mvT hZ (hw _ (List.mem_of_getElem? (i := 55) rfl)))) (mvT hZ (hw _ (List.mem_of_getElem? (i := 55) rfl))) (mvT hZ (hw _ (List.mem_of_getElem? (i := 54) rfl))) (by decide) (backOf (W := 0) (rmSE l Z a0 hw [] xt1 xt2 z_cs y3 y4 k3 k4 u3 u4 (if u3 = u4 then 1 else 0) h0 n0 O0 NF E_xt1 F_coder_xt1 F_value_xt1 E_xt2 F_coder_xt2 F_value_xt2 V_y3 V_y4 hn_t rfl) hZ (hw _ (List.mem_of_getElem? (i := 56) rfl)) (hw _ (List.mem_of_getElem? (i := 3) rfl)) (by decide) (by decide)) q15a q15c (g := (mkF m 58 #[.val (.ref xa), .val (.ref xb), .val (.ref xb)] [(.ref xt2), (.ref xt1)])) rfl (by rw [hml]; rfl) (Steps.refl _) (argsL := [(.ref xt2)]) (rest := []) (lenOf pd_73 rfl) rfl (by show 2 * 0 + _ ≤ _; exact Nat.le_of_eq rfl) (hb hby d8_58) (fun _ _ => ⟨rfl, e14, (by decide : 0 + 0 ≤ _), (by decide : 0 + 0 ≤ _)⟩)
        dsimp only [Pt.U, Pt.locs, Pt.cells, Pt.slots] at X15 l15 y15 z15 st15 hQ15
        subst l15 y15 z15
        obtain ⟨rfl, Nq15, e15⟩ := hQ15
        have N15 := Fr.app N11 Nq15
        refine Goes.thru (T' := T15.setTop (mkF m 61 #[.val (.ref xa), .val (.ref xb), .val (.ref xb)] [(.int (if u3 = u4 then (1 : Int32) else 0))])) st15 ?_
        rcases Decidable.em (u3 = u4) with hs16 | hs16
        · rw [if_pos hs16]
          refine Goes.to (T' := T15.setTop (mkF m 64 #[.val (.ref xa), .val (.ref xb), .val (.ref xb)] [])) (fun t k => XS.ifNo X15.here hx rfl (hb hby d8_61) rfl ((if0 _ _).trans (feq (by decide)).1) k) ?_
          refine Goes.to (T' := T15.setTop (mkF m 65 #[.val (.ref xa), .val (.ref xb), .val (.ref xb)] [(.int (1 : Int32))])) (fun t k => XS.iconst X15.here hx rfl (hb hby d8_64) k) ?_
          refine Goes.to (T' := T15.setTop (mkF m 69 #[.val (.ref xa), .val (.ref xb), .val (.ref xb)] [(.int (1 : Int32))])) (fun t k => XS.goto X15.here hx rfl (pc0 := 65) (pc' := 69) rfl (hb hby d8_65) (by decide) (by decide) k) ?_
          obtain ⟨fs, hrL, hrun, hended, hW, hsame⟩ := X15.leave (v := some (.int (1 : Int32))) (fun h => by rw [Bd.returns] at h; cases h)
          subst hQf
          refine ⟨_, _, retN X15 hx (t := .boolean) Bd.returns (by simp) (hb hby d8_69) hrL, hrun, hended, _, _, rfl, ?_, ⟨_, rfl⟩, hW, hsame.mono (by decide) (by decide)⟩
          show (fun (v : Option Value) (h : Heap) (L : List Loc) => v = some (.int r) ∧ Fr n0 L ∧ h = h0) (some (.int (1 : Int32))) T15.heap _
          rw [e15]
          have hv : ((1 : Int32) : Int32) = r := by rw [hr]; first | (simp [hc21_5, hc33_8, hs12, hs16]; done) | ((repeat' split) <;> first | rfl | contradiction | simp_all)
          exact ⟨by rw [hv], N15, rfl⟩
        · rw [if_neg hs16]
          refine Goes.to (T' := T15.setTop (mkF m 68 #[.val (.ref xa), .val (.ref xb), .val (.ref xb)] [])) (fun t k => XS.ifYes X15.here hx rfl (pc0 := 61) (pc' := 68) rfl (hb hby d8_61) rfl ((if0 _ _).trans (teq (by decide)).1) (by decide) (by decide) k) ?_
          refine Goes.to (T' := T15.setTop (mkF m 69 #[.val (.ref xa), .val (.ref xb), .val (.ref xb)] [(.int (0 : Int32))])) (fun t k => XS.iconst X15.here hx rfl (hb hby d8_68) k) ?_
          obtain ⟨fs, hrL, hrun, hended, hW, hsame⟩ := X15.leave (v := some (.int (0 : Int32))) (fun h => by rw [Bd.returns] at h; cases h)
          subst hQf
          refine ⟨_, _, retN X15 hx (t := .boolean) Bd.returns (by simp) (hb hby d8_69) hrL, hrun, hended, _, _, rfl, ?_, ⟨_, rfl⟩, hW, hsame.mono (by decide) (by decide)⟩
          show (fun (v : Option Value) (h : Heap) (L : List Loc) => v = some (.int r) ∧ Fr n0 L ∧ h = h0) (some (.int (0 : Int32))) T15.heap _
          rw [e15]
          have hv : ((0 : Int32) : Int32) = r := by rw [hr]; first | (simp [hc21_5, hc33_8, hs12, hs16]; done) | ((repeat' split) <;> first | rfl | contradiction | simp_all)
          exact ⟨by rw [hv], N15, rfl⟩
      · rw [if_neg hs12]
        refine Goes.to (T' := T11.setTop (mkF m 68 #[.val (.ref xa), .val (.ref xb), .val (.ref xb)] [])) (fun t k => XS.ifYes X11.here hx rfl (pc0 := 47) (pc' := 68) rfl (hb hby d8_47) rfl ((if0 _ _).trans (teq (by decide)).1) (by decide) (by decide) k) ?_
        refine Goes.to (T' := T11.setTop (mkF m 69 #[.val (.ref xa), .val (.ref xb), .val (.ref xb)] [(.int (0 : Int32))])) (fun t k => XS.iconst X11.here hx rfl (hb hby d8_68) k) ?_
        obtain ⟨fs, hrL, hrun, hended, hW, hsame⟩ := X11.leave (v := some (.int (0 : Int32))) (fun h => by rw [Bd.returns] at h; cases h)
        subst hQf
        refine ⟨_, _, retN X11 hx (t := .boolean) Bd.returns (by simp) (hb hby d8_69) hrL, hrun, hended, _, _, rfl, ?_, ⟨_, rfl⟩, hW, hsame.mono (by decide) (by decide)⟩
        show (fun (v : Option Value) (h : Heap) (L : List Loc) => v = some (.int r) ∧ Fr n0 L ∧ h = h0) (some (.int (0 : Int32))) T11.heap _
        rw [e11]
        have hv : ((0 : Int32) : Int32) = r := by rw [hr]; first | (simp [hc21_5, hc33_8, hs12]; done) | ((repeat' split) <;> first | rfl | contradiction | simp_all)
        exact ⟨by rw [hv], N11, rfl⟩
    · skip
      refine Goes.to (T' := T7.setTop (mkF m 68 #[.val (.ref xa), .val (.ref xb), .val (.ref xb)] [])) (fun t k => XS.ifYes X7.here hx rfl (pc0 := 33) (pc' := 68) rfl (hb hby d8_33) rfl ((if0 _ _).trans (feq (fun q => hc33_8 ((lw_eq qb qd).mp q))).2) (by decide) (by decide) k) ?_
      refine Goes.to (T' := T7.setTop (mkF m 69 #[.val (.ref xa), .val (.ref xb), .val (.ref xb)] [(.int (0 : Int32))])) (fun t k => XS.iconst X7.here hx rfl (hb hby d8_68) k) ?_
      obtain ⟨fs, hrL, hrun, hended, hW, hsame⟩ := X7.leave (v := some (.int (0 : Int32))) (fun h => by rw [Bd.returns] at h; cases h)
      subst hQf
      refine ⟨_, _, retN X7 hx (t := .boolean) Bd.returns (by simp) (hb hby d8_69) hrL, hrun, hended, _, _, rfl, ?_, ⟨_, rfl⟩, hW, hsame.mono (by decide) (by decide)⟩
      show (fun (v : Option Value) (h : Heap) (L : List Loc) => v = some (.int r) ∧ Fr n0 L ∧ h = h0) (some (.int (0 : Int32))) T7.heap _
      rw [e7]
      have hv : ((0 : Int32) : Int32) = r := by rw [hr]; first | (simp [hc21_5, hc33_8]; done) | ((repeat' split) <;> first | rfl | contradiction | simp_all)
      exact ⟨by rw [hv], N0, rfl⟩
  · skip
    refine Goes.to (T' := T4.setTop (mkF m 68 #[.val (.ref xa), .val (.ref xb), .val (.ref xb)] [])) (fun t k => XS.ifYes X4.here hx rfl (pc0 := 21) (pc' := 68) rfl (hb hby d8_21) rfl ((if0 _ _).trans (feq (fun q => hc21_5 ((lw_eq qa qc).mp q))).2) (by decide) (by decide) k) ?_
    refine Goes.to (T' := T4.setTop (mkF m 69 #[.val (.ref xa), .val (.ref xb), .val (.ref xb)] [(.int (0 : Int32))])) (fun t k => XS.iconst X4.here hx rfl (hb hby d8_68) k) ?_
    obtain ⟨fs, hrL, hrun, hended, hW, hsame⟩ := X4.leave (v := some (.int (0 : Int32))) (fun h => by rw [Bd.returns] at h; cases h)
    subst hQf
    refine ⟨_, _, retN X4 hx (t := .boolean) Bd.returns (by simp) (hb hby d8_69) hrL, hrun, hended, _, _, rfl, ?_, ⟨_, rfl⟩, hW, hsame.mono (by decide) (by decide)⟩
    show (fun (v : Option Value) (h : Heap) (L : List Loc) => v = some (.int r) ∧ Fr n0 L ∧ h = h0) (some (.int (0 : Int32))) T4.heap _
    rw [e4]
    have hv : ((0 : Int32) : Int32) = r := by rw [hr]; first | (simp [hc21_5]; done) | ((repeat' split) <;> first | rfl | contradiction | simp_all)
    exact ⟨by rw [hv], N0, rfl⟩
theorem ef_rmMS (m : MethodId) (x0 : Addr) (x1 : Addr) : entryFrame m #[(.ref x0), (.ref x1)] 3 = mkF m 0 #[.val (.ref x0), .val (.ref x1), .unset] [] := by first | (simp [entryFrame, mkF, argsToLocals, Value.category]; done) | rfl
def Q_rmMS (Z : State) (xa : Addr) (z_cs : Int32) (qa : Int64) (qb : Int64) (xf1 : Addr) (xt1 : Addr) (h0 : Heap) (n0 : Nat) (v : Option Value) (h : Heap) (L : List Loc) : Prop := v = some (.int 1) ∧ Fr n0 L ∧ h = h0
set_option maxRecDepth 65536 in
set_option maxHeartbeats 40000000 in
theorem rmMS (l : Launch) (Z : State) (a0 : Array Value) (hw : ∀ d ∈ tables_1, d.before a0 Z = true) (ws : List Jvm.Cond) (xa : Addr) (z_cs : Int32) (qa : Int64) (qb : Int64) (xf1 : Addr) (xt1 : Addr) (h0 : Heap) (n0 : Nat) (O0 : Old Z n0 h0) (NF : Nar Z z_cs) (E_xa : Exa Z h0 xa "com/example/inman/inman/Move") (F_first_xa : Fld Z h0 xa "com/example/inman/inman/Move" "first" "J" (.long qa)) (F_last_xa : Fld Z h0 xa "com/example/inman/inman/Move" "last" "J" (.long qb)) (F_from_xa : Fld Z h0 xa "com/example/inman/inman/Move" "from" "Ljava/lang/String;" (.ref xf1)) (F_to_xa : Fld Z h0 xa "com/example/inman/inman/Move" "to" "Ljava/lang/String;" (.ref xt1)) (E_xf1 : Exa Z h0 xf1 "java/lang/String") (E_xt1 : Exa Z h0 xt1 "java/lang/String") :
    MetFree l (⟨"com/example/inman/inman/Move", "equals", "(Ljava/lang/Object;)Z"⟩ : MethodName) (head1 (Jvm.Cond.code (⟨"com/example/inman/inman/Move", "equals", "(Ljava/lang/Object;)Z"⟩ : MethodName) prog_5_method_6_code 3 (some .boolean) :: ws) ({ frames := 2, cells := 0, slots := 0, locals := 64 } : Room)) (fun a U => a = #[(.ref xa), (.ref xa)] ∧ Z.Warmed39 U.vm ∧ U.heap = h0) (fun _ _ _ _ _ => True) (fun _ U o U' => ∃ v L, o = .returned v ∧ Q_rmMS Z xa z_cs qa qb xf1 xt1 h0 n0 v U'.heap L ∧ FrameEnd U o U' L ({ frames := 2, cells := 0, slots := 0, locals := 64 } : Room).cells ({ frames := 2, cells := 0, slots := 0, locals := 64 } : Room).slots) := by
  refine MetFree.of_bodySF (plainFor_of_name pn_8) hisR ?_
  intro p e s m args below meth c s₁ Bd hml0 hP hK
  obtain ⟨rfl, hZ, hh⟩ := hP
  have hx := Bd.exec
  have hby := Bd.bytes
  have hml : c.maxLocals = 3 := hml0
  have hown : s.vm.findClass "com/example/inman/inman/Move" = some m.cls := findClass_of_methodNamed Bd.named
  have hnm := (name_of_methodNamed Bd.named Bd.method).1
  have X0 : Stand p l e ({ frames := 2, cells := 0, slots := 0, locals := 64 } : Room) s m #[(.ref xa), (.ref xa)] below meth c s₁ [] 0 0 := Stand.of_body Bd
  have e0 : s₁.heap = h0 := by rw [← hh, Bd.state]; rfl
  have N0 := Fr.nil n0
  suffices G : ∀ (Qf : Outcome → State → Prop), Qf = (fun (_ : Array Value) (U : State) (o : Outcome) (U' : State) => ∃ v L, o = .returned v ∧ Q_rmMS Z xa z_cs qa qb xf1 xt1 h0 n0 v U'.heap L ∧ FrameEnd U o U' L ({ frames := 2, cells := 0, slots := 0, locals := 64 } : Room).cells ({ frames := 2, cells := 0, slots := 0, locals := 64 } : Room).slots) #[] s → Goes p.tables e below Qf (s₁.setTop (mkF m 0 #[.val (.ref xa), .val (.ref xa), .unset] [])) by
    obtain ⟨s₂, o, g1, g2, g3, g4⟩ := G _ rfl
    exact ⟨s₂, o, castTop (ef_rmMS m _ _) g1, g2, g3, g4⟩
  intro Qf hQf
  obtain ⟨S_cs, nz_cs⟩ := id NF
  refine Goes.to (T' := s₁.setTop (mkF m 1 #[.val (.ref xa), .val (.ref xa), .unset] [(.ref xa)])) (fun t k => XS.aloadN X0.here hx rfl (hb hby d8_0) rfl rfl k) ?_
  obtain ⟨T1, X1, e1, st1⟩ := instY X0 hx hZ hown (hw _ (List.mem_of_getElem? (i := 50) rfl)) e0 (Ins.self E_xa) (g := (mkF m 1 #[.val (.ref xa), .val (.ref xa), .unset] [(.ref xa)])) rfl rfl (hb hby d8_1)
  refine Goes.to (T' := T1.setTop (mkF m 4 #[.val (.ref xa), .val (.ref xa), .unset] [(.int (1 : Int32))])) st1 ?_
  refine Goes.to (T' := T1.setTop (mkF m 7 #[.val (.ref xa), .val (.ref xa), .unset] [])) (fun t k => XS.ifNo X1.here hx rfl (hb hby d8_4) rfl ((if0 _ _).trans (feq (by decide)).1) k) ?_
  refine Goes.to (T' := T1.setTop (mkF m 8 #[.val (.ref xa), .val (.ref xa), .unset] [(.ref xa)])) (fun t k => XS.aloadN X1.here hx rfl (hb hby d8_7) rfl rfl k) ?_
  obtain ⟨T2, X2, e2, st2⟩ := castY X1 hx hZ hown (hw _ (List.mem_of_getElem? (i := 50) rfl)) e1 (Ins.self E_xa) (g := (mkF m 8 #[.val (.ref xa), .val (.ref xa), .unset] [(.ref xa)])) rfl rfl (hb hby d8_8)
  refine Goes.to (T' := T2.setTop (mkF m 11 #[.val (.ref xa), .val (.ref xa), .unset] [(.ref xa)])) st2 ?_
  refine Goes.to (T' := T2.setTop (mkF m 12 #[.val (.ref xa), .val (.ref xa), .val (.ref xa)] [])) (fun t k => XS.astoreN X2.here hx rfl (hb hby d8_11) rfl rfl (l' := #[.val (.ref xa), .val (.ref xa), .val (.ref xa)]) rfl k) ?_
  refine Goes.to (T' := T2.setTop (mkF m 13 #[.val (.ref xa), .val (.ref xa), .val (.ref xa)] [(.ref xa)])) (fun t k => XS.aloadN X2.here hx rfl (hb hby d8_12) rfl rfl k) ?_
  obtain ⟨T3, X3, e3, st3⟩ := getF X2 hx hZ hown (host := "") (Or.inl (hw _ (List.mem_of_getElem? (i := 37) rfl))) Via.refl e2 F_first_xa (g := (mkF m 13 #[.val (.ref xa), .val (.ref xa), .val (.ref xa)] [(.ref xa)])) rfl rfl (hb hby d8_13)
  refine Goes.to (T' := T3.setTop (mkF m 16 #[.val (.ref xa), .val (.ref xa), .val (.ref xa)] [(.long qa)])) st3 ?_
  refine Goes.to (T' := T3.setTop (mkF m 17 #[.val (.ref xa), .val (.ref xa), .val (.ref xa)] [(.ref xa), (.long qa)])) (fun t k => XS.aloadN X3.here hx rfl (hb hby d8_16) rfl rfl k) ?_
  obtain ⟨T4, X4, e4, st4⟩ := getF X3 hx hZ hown (host := "") (Or.inl (hw _ (List.mem_of_getElem? (i := 37) rfl))) Via.refl e3 F_first_xa (g := (mkF m 17 #[.val (.ref xa), .val (.ref xa), .val (.ref xa)] [(.ref xa), (.long qa)])) rfl rfl (hb hby d8_17)
  refine Goes.to (T' := T4.setTop (mkF m 20 #[.val (.ref xa), .val (.ref xa), .val (.ref xa)] [(.long qa), (.long qa)])) st4 ?_
  refine Goes.to (T' := T4.setTop (mkF m 21 #[.val (.ref xa), .val (.ref xa), .val (.ref xa)] [(.int (lcmpW qa qa))])) (fun t k => XS.lcmp X4.here hx rfl (hb hby d8_20) rfl k) ?_
  refine Goes.to (T' := T4.setTop (mkF m 24 #[.val (.ref xa), .val (.ref xa), .val (.ref xa)] [])) (fun t k => XS.ifNo X4.here hx rfl (hb hby d8_21) rfl ((if0 _ _).trans (teq ((lw_eq qa qa).mpr (rfl : qa = qa))).2) k) ?_
  refine Goes.to (T' := T4.setTop (mkF m 25 #[.val (.ref xa), .val (.ref xa), .val (.ref xa)] [(.ref xa)])) (fun t k => XS.aloadN X4.here hx rfl (hb hby d8_24) rfl rfl k) ?_
  obtain ⟨T5, X5, e5, st5⟩ := getF X4 hx hZ hown (host := "") (Or.inl (hw _ (List.mem_of_getElem? (i := 39) rfl))) Via.refl e4 F_last_xa (g := (mkF m 25 #[.val (.ref xa), .val (.ref xa), .val (.ref xa)] [(.ref xa)])) rfl rfl (hb hby d8_25)
  refine Goes.to (T' := T5.setTop (mkF m 28 #[.val (.ref xa), .val (.ref xa), .val (.ref xa)] [(.long qb)])) st5 ?_
  refine Goes.to (T' := T5.setTop (mkF m 29 #[.val (.ref xa), .val (.ref xa), .val (.ref xa)] [(.ref xa), (.long qb)])) (fun t k => XS.aloadN X5.here hx rfl (hb hby d8_28) rfl rfl k) ?_
  obtain ⟨T6, X6, e6, st6⟩ := getF X5 hx hZ hown (host := "") (Or.inl (hw _ (List.mem_of_getElem? (i := 39) rfl))) Via.refl e5 F_last_xa (g := (mkF m 29 #[.val (.ref xa), .val (.ref xa), .val (.ref xa)] [(.ref xa), (.long qb)])) rfl rfl (hb hby d8_29)
  refine Goes.to (T' := T6.setTop (mkF m 32 #[.val (.ref xa), .val (.ref xa), .val (.ref xa)] [(.long qb), (.long qb)])) st6 ?_
  refine Goes.to (T' := T6.setTop (mkF m 33 #[.val (.ref xa), .val (.ref xa), .val (.ref xa)] [(.int (lcmpW qb qb))])) (fun t k => XS.lcmp X6.here hx rfl (hb hby d8_32) rfl k) ?_
  refine Goes.to (T' := T6.setTop (mkF m 36 #[.val (.ref xa), .val (.ref xa), .val (.ref xa)] [])) (fun t k => XS.ifNo X6.here hx rfl (hb hby d8_33) rfl ((if0 _ _).trans (teq ((lw_eq qb qb).mpr (rfl : qb = qb))).2) k) ?_
  refine Goes.to (T' := T6.setTop (mkF m 37 #[.val (.ref xa), .val (.ref xa), .val (.ref xa)] [(.ref xa)])) (fun t k => XS.aloadN X6.here hx rfl (hb hby d8_36) rfl rfl k) ?_
  obtain ⟨T7, X7, e7, st7⟩ := getF X6 hx hZ hown (host := "") (Or.inl (hw _ (List.mem_of_getElem? (i := 41) rfl))) Via.refl e6 F_from_xa (g := (mkF m 37 #[.val (.ref xa), .val (.ref xa), .val (.ref xa)] [(.ref xa)])) rfl rfl (hb hby d8_37)
  refine Goes.to (T' := T7.setTop (mkF m 40 #[.val (.ref xa), .val (.ref xa), .val (.ref xa)] [(.ref xf1)])) st7 ?_
  refine Goes.to (T' := T7.setTop (mkF m 41 #[.val (.ref xa), .val (.ref xa), .val (.ref xa)] [(.ref xa), (.ref xf1)])) (fun t k => XS.aloadN X7.here hx rfl (hb hby d8_40) rfl rfl k) ?_
  obtain ⟨T8, X8, e8, st8⟩ := getF X7 hx hZ hown (host := "") (Or.inl (hw _ (List.mem_of_getElem? (i := 41) rfl))) Via.refl e7 F_from_xa (g := (mkF m 41 #[.val (.ref xa), .val (.ref xa), .val (.ref xa)] [(.ref xa), (.ref xf1)])) rfl rfl (hb hby d8_41)
  refine Goes.to (T' := T8.setTop (mkF m 44 #[.val (.ref xa), .val (.ref xa), .val (.ref xa)] [(.ref xf1), (.ref xf1)])) st8 ?_
  obtain ⟨cq9, kq9, q9a, q9b, q9c⟩ := isOf hZ e8 E_xf1
  obtain ⟨_, _, ⟨T9, L9, k9, n9⟩, -, X9, ⟨Lc9, hQ9, l9, y9, z9⟩, st9⟩ := X8.virtualBack hx (y := (⟨"java/lang/String", "equals", "(Ljava/lang/Object;)Z"⟩ : MethodName)) (z := (⟨"java/lang/String", "equals", "(Ljava/lang/Object;)Z"⟩ : MethodName)) hown (mvT hZ (hw _ (List.mem_of_getElem? (i := 52) rfl))) (mvT hZ (hw _ (List.mem_of_getElem? (i := 53) rfl))) (notFace_of_selects (args := #[]) (mvT hZ (hw _ (List.mem_of_getElem? (i := 55) rfl)))) (mvT hZ (hw _ (List.mem_of_getElem? (i := 55) rfl))) (mvT hZ (hw _ (List.mem_of_getElem? (i := 54) rfl))) (by decide) (backOf (W := 0) (rmSS l Z a0 hw [] xf1 z_cs  h0 n0 O0 NF ) hZ (hw _ (List.mem_of_getElem? (i := 56) rfl)) (hw _ (List.mem_of_getElem? (i := 3) rfl)) (by decide) (by decide)) q9a q9c (g := (mkF m 44 #[.val (.ref xa), .val (.ref xa), .val (.ref xa)] [(.ref xf1), (.ref xf1)])) rfl (by rw [hml]; rfl) (Steps.refl _) (argsL := [(.ref xf1)]) (rest := []) (lenOf pd_73 rfl) rfl (by show 2 * 0 + _ ≤ _; exact Nat.le_of_eq rfl) (hb hby d8_44) (fun _ _ => ⟨rfl, e8, (by decide : 0 + 0 ≤ _), (by decide : 0 + 0 ≤ _)⟩)
  dsimp only [Pt.U, Pt.locs, Pt.cells, Pt.slots] at X9 l9 y9 z9 st9 hQ9
  subst l9 y9 z9
  obtain ⟨rfl, Nq9, e9⟩ := hQ9
  have N9 := Fr.app N0 Nq9
  refine Goes.thru (T' := T9.setTop (mkF m 47 #[.val (.ref xa), .val (.ref xa), .val (.ref xa)] [(.int (1 : Int32))])) st9 ?_
  refine Goes.to (T' := T9.setTop (mkF m 50 #[.val (.ref xa), .val (.ref xa), .val (.ref xa)] [])) (fun t k => XS.ifNo X9.here hx rfl (hb hby d8_47) rfl ((if0 _ _).trans (feq (by decide)).1) k) ?_
  refine Goes.to (T' := T9.setTop (mkF m 51 #[.val (.ref xa), .val (.ref xa), .val (.ref xa)] [(.ref xa)])) (fun t k => XS.aloadN X9.here hx rfl (hb hby d8_50) rfl rfl k) ?_
  obtain ⟨T10, X10, e10, st10⟩ := getF X9 hx hZ hown (host := "") (Or.inl (hw _ (List.mem_of_getElem? (i := 43) rfl))) Via.refl e9 F_to_xa (g := (mkF m 51 #[.val (.ref xa), .val (.ref xa), .val (.ref xa)] [(.ref xa)])) rfl rfl (hb hby d8_51)
  refine Goes.to (T' := T10.setTop (mkF m 54 #[.val (.ref xa), .val (.ref xa), .val (.ref xa)] [(.ref xt1)])) st10 ?_
  refine Goes.to (T' := T10.setTop (mkF m 55 #[.val (.ref xa), .val (.ref xa), .val (.ref xa)] [(.ref xa), (.ref xt1)])) (fun t k => XS.aloadN X10.here hx rfl (hb hby d8_54) rfl rfl k) ?_
  obtain ⟨T11, X11, e11, st11⟩ := getF X10 hx hZ hown (host := "") (Or.inl (hw _ (List.mem_of_getElem? (i := 43) rfl))) Via.refl e10 F_to_xa (g := (mkF m 55 #[.val (.ref xa), .val (.ref xa), .val (.ref xa)] [(.ref xa), (.ref xt1)])) rfl rfl (hb hby d8_55)
  refine Goes.to (T' := T11.setTop (mkF m 58 #[.val (.ref xa), .val (.ref xa), .val (.ref xa)] [(.ref xt1), (.ref xt1)])) st11 ?_
  obtain ⟨cq12, kq12, q12a, q12b, q12c⟩ := isOf hZ e11 E_xt1
  obtain ⟨_, _, ⟨T12, L12, k12, n12⟩, -, X12, ⟨Lc12, hQ12, l12, y12, z12⟩, st12⟩ := X11.virtualBack hx (y := (⟨"java/lang/String", "equals", "(Ljava/lang/Object;)Z"⟩ : MethodName)) (z := (⟨"java/lang/String", "equals", "(Ljava/lang/Object;)Z"⟩ : MethodName)) hown (mvT hZ (hw _ (List.mem_of_getElem? (i := 52) rfl))) (mvT hZ (hw _ (List.mem_of_getElem? (i := 53) rfl))) (notFace_of_selects (args := #[]) (mvT hZ (hw _ (List.mem_of_getElem? (i := 55) rfl)))) (mvT hZ (hw _ (List.mem_of_getElem? (i := 55) rfl))) (mvT hZ (hw _ (List.mem_of_getElem? (i := 54) rfl))) (by decide) (backOf (W := 0) (rmSS l Z a0 hw [] xt1 z_cs  h0 n0 O0 NF ) hZ (hw _ (List.mem_of_getElem? (i := 56) rfl)) (hw _ (List.mem_of_getElem? (i := 3) rfl)) (by decide) (by decide)) q12a q12c (g := (mkF m 58 #[.val (.ref xa), .val (.ref xa), .val (.ref xa)] [(.ref xt1), (.ref xt1)])) rfl (by rw [hml]; rfl) (Steps.refl _) (argsL := [(.ref xt1)]) (rest := []) (lenOf pd_73 rfl) rfl (by show 2 * 0 + _ ≤ _; exact Nat.le_of_eq rfl) (hb hby d8_58) (fun _ _ => ⟨rfl, e11, (by decide : 0 + 0 ≤ _), (by decide : 0 + 0 ≤ _)⟩)
  dsimp only [Pt.U, Pt.locs, Pt.cells, Pt.slots] at X12 l12 y12 z12 st12 hQ12
  subst l12 y12 z12
  obtain ⟨rfl, Nq12, e12⟩ := hQ12
  have N12 := Fr.app N9 Nq12
  refine Goes.thru (T' := T12.setTop (mkF m 61 #[.val (.ref xa), .val (.ref xa), .val (.ref xa)] [(.int (1 : Int32))])) st12 ?_
  refine Goes.to (T' := T12.setTop (mkF m 64 #[.val (.ref xa), .val (.ref xa), .val (.ref xa)] [])) (fun t k => XS.ifNo X12.here hx rfl (hb hby d8_61) rfl ((if0 _ _).trans (feq (by decide)).1) k) ?_
  refine Goes.to (T' := T12.setTop (mkF m 65 #[.val (.ref xa), .val (.ref xa), .val (.ref xa)] [(.int (1 : Int32))])) (fun t k => XS.iconst X12.here hx rfl (hb hby d8_64) k) ?_
  refine Goes.to (T' := T12.setTop (mkF m 69 #[.val (.ref xa), .val (.ref xa), .val (.ref xa)] [(.int (1 : Int32))])) (fun t k => XS.goto X12.here hx rfl (pc0 := 65) (pc' := 69) rfl (hb hby d8_65) (by decide) (by decide) k) ?_
  obtain ⟨fs, hrL, hrun, hended, hW, hsame⟩ := X12.leave (v := some (.int (1 : Int32))) (fun h => by rw [Bd.returns] at h; cases h)
  subst hQf
  refine ⟨_, _, retN X12 hx (t := .boolean) Bd.returns (by simp) (hb hby d8_69) hrL, hrun, hended, _, _, rfl, ?_, ⟨_, rfl⟩, hW, hsame.mono (by decide) (by decide)⟩
  show (fun (v : Option Value) (h : Heap) (L : List Loc) => v = some (.int 1) ∧ Fr n0 L ∧ h = h0) (some (.int (1 : Int32))) T12.heap _
  rw [e12]
  exact ⟨rfl, N12, rfl⟩
theorem ef_rmM0 (m : MethodId) (x0 : Addr) : entryFrame m #[(.ref x0), .null] 3 = mkF m 0 #[.val (.ref x0), .val .null, .unset] [] := by first | (simp [entryFrame, mkF, argsToLocals, Value.category]; done) | rfl
def Q_rmM0 (Z : State) (xa : Addr) (z_cs : Int32) (h0 : Heap) (n0 : Nat) (v : Option Value) (h : Heap) (L : List Loc) : Prop := v = some (.int 0) ∧ Fr n0 L ∧ h = h0
set_option maxRecDepth 65536 in
set_option maxHeartbeats 40000000 in
theorem rmM0 (l : Launch) (Z : State) (a0 : Array Value) (hw : ∀ d ∈ tables_1, d.before a0 Z = true) (ws : List Jvm.Cond) (xa : Addr) (z_cs : Int32) (h0 : Heap) (n0 : Nat) (O0 : Old Z n0 h0) (NF : Nar Z z_cs) :
    MetFree l (⟨"com/example/inman/inman/Move", "equals", "(Ljava/lang/Object;)Z"⟩ : MethodName) (head1 (Jvm.Cond.code (⟨"com/example/inman/inman/Move", "equals", "(Ljava/lang/Object;)Z"⟩ : MethodName) prog_5_method_6_code 3 (some .boolean) :: ws) ({ frames := 0, cells := 0, slots := 0, locals := 0 } : Room)) (fun a U => a = #[(.ref xa), .null] ∧ Z.Warmed39 U.vm ∧ U.heap = h0) (fun _ _ _ _ _ => True) (fun _ U o U' => ∃ v L, o = .returned v ∧ Q_rmM0 Z xa z_cs h0 n0 v U'.heap L ∧ FrameEnd U o U' L ({ frames := 0, cells := 0, slots := 0, locals := 0 } : Room).cells ({ frames := 0, cells := 0, slots := 0, locals := 0 } : Room).slots) := by
  refine MetFree.of_bodySF (plainFor_of_name pn_8) hisR ?_
  intro p e s m args below meth c s₁ Bd hml0 hP hK
  obtain ⟨rfl, hZ, hh⟩ := hP
  have hx := Bd.exec
  have hby := Bd.bytes
  have hml : c.maxLocals = 3 := hml0
  have hown : s.vm.findClass "com/example/inman/inman/Move" = some m.cls := findClass_of_methodNamed Bd.named
  have hnm := (name_of_methodNamed Bd.named Bd.method).1
  have X0 : Stand p l e ({ frames := 0, cells := 0, slots := 0, locals := 0 } : Room) s m #[(.ref xa), .null] below meth c s₁ [] 0 0 := Stand.of_body Bd
  have e0 : s₁.heap = h0 := by rw [← hh, Bd.state]; rfl
  have N0 := Fr.nil n0
  suffices G : ∀ (Qf : Outcome → State → Prop), Qf = (fun (_ : Array Value) (U : State) (o : Outcome) (U' : State) => ∃ v L, o = .returned v ∧ Q_rmM0 Z xa z_cs h0 n0 v U'.heap L ∧ FrameEnd U o U' L ({ frames := 0, cells := 0, slots := 0, locals := 0 } : Room).cells ({ frames := 0, cells := 0, slots := 0, locals := 0 } : Room).slots) #[] s → Goes p.tables e below Qf (s₁.setTop (mkF m 0 #[.val (.ref xa), .val .null, .unset] [])) by
    obtain ⟨s₂, o, g1, g2, g3, g4⟩ := G _ rfl
    exact ⟨s₂, o, castTop (ef_rmM0 m _) g1, g2, g3, g4⟩
  intro Qf hQf
  obtain ⟨S_cs, nz_cs⟩ := id NF
  refine Goes.to (T' := s₁.setTop (mkF m 1 #[.val (.ref xa), .val .null, .unset] [.null])) (fun t k => XS.aloadN X0.here hx rfl (hb hby d8_0) rfl rfl k) ?_
  refine Goes.to (T' := s₁.setTop (mkF m 4 #[.val (.ref xa), .val .null, .unset] [(.int (0 : Int32))])) (X0.instanceofNull hx (g := (mkF m 1 #[.val (.ref xa), .val .null, .unset] [.null])) rfl rfl (hb hby d8_1)) ?_
  refine Goes.to (T' := s₁.setTop (mkF m 68 #[.val (.ref xa), .val .null, .unset] [])) (fun t k => XS.ifYes X0.here hx rfl (pc0 := 4) (pc' := 68) rfl (hb hby d8_4) rfl ((if0 _ _).trans (teq (by decide)).1) (by decide) (by decide) k) ?_
  refine Goes.to (T' := s₁.setTop (mkF m 69 #[.val (.ref xa), .val .null, .unset] [(.int (0 : Int32))])) (fun t k => XS.iconst X0.here hx rfl (hb hby d8_68) k) ?_
  obtain ⟨fs, hrL, hrun, hended, hW, hsame⟩ := X0.leave (v := some (.int (0 : Int32))) (fun h => by rw [Bd.returns] at h; cases h)
  subst hQf
  refine ⟨_, _, retN X0 hx (t := .boolean) Bd.returns (by simp) (hb hby d8_69) hrL, hrun, hended, _, _, rfl, ?_, ⟨_, rfl⟩, hW, hsame.mono (by decide) (by decide)⟩
  show (fun (v : Option Value) (h : Heap) (L : List Loc) => v = some (.int 0) ∧ Fr n0 L ∧ h = h0) (some (.int (0 : Int32))) s₁.heap _
  rw [e0]
  exact ⟨rfl, N0, rfl⟩
theorem ef_rmMI0 (m : MethodId) (x0 : Addr) (x1 : Addr) : entryFrame m #[(.ref x0), (.ref x1)] 3 = mkF m 0 #[.val (.ref x0), .val (.ref x1), .unset] [] := by first | (simp [entryFrame, mkF, argsToLocals, Value.category]; done) | rfl
def Q_rmMI0 (Z : State) (xa : Addr) (xb : Addr) (z_cs : Int32) (h0 : Heap) (n0 : Nat) (v : Option Value) (h : Heap) (L : List Loc) : Prop := v = some (.int 0) ∧ Fr n0 L ∧ h = h0
set_option maxRecDepth 65536 in
set_option maxHeartbeats 40000000 in
theorem rmMI0 (l : Launch) (Z : State) (a0 : Array Value) (hw : ∀ d ∈ tables_1, d.before a0 Z = true) (ws : List Jvm.Cond) (xa : Addr) (xb : Addr) (z_cs : Int32) (h0 : Heap) (n0 : Nat) (O0 : Old Z n0 h0) (NF : Nar Z z_cs) (E_xb : Exa Z h0 xb "java/lang/String") :
    MetFree l (⟨"com/example/inman/inman/Move", "equals", "(Ljava/lang/Object;)Z"⟩ : MethodName) (head1 (Jvm.Cond.code (⟨"com/example/inman/inman/Move", "equals", "(Ljava/lang/Object;)Z"⟩ : MethodName) prog_5_method_6_code 3 (some .boolean) :: ws) ({ frames := 0, cells := 0, slots := 0, locals := 0 } : Room)) (fun a U => a = #[(.ref xa), (.ref xb)] ∧ Z.Warmed39 U.vm ∧ U.heap = h0) (fun _ _ _ _ _ => True) (fun _ U o U' => ∃ v L, o = .returned v ∧ Q_rmMI0 Z xa xb z_cs h0 n0 v U'.heap L ∧ FrameEnd U o U' L ({ frames := 0, cells := 0, slots := 0, locals := 0 } : Room).cells ({ frames := 0, cells := 0, slots := 0, locals := 0 } : Room).slots) := by
  refine MetFree.of_bodySF (plainFor_of_name pn_8) hisR ?_
  intro p e s m args below meth c s₁ Bd hml0 hP hK
  obtain ⟨rfl, hZ, hh⟩ := hP
  have hx := Bd.exec
  have hby := Bd.bytes
  have hml : c.maxLocals = 3 := hml0
  have hown : s.vm.findClass "com/example/inman/inman/Move" = some m.cls := findClass_of_methodNamed Bd.named
  have hnm := (name_of_methodNamed Bd.named Bd.method).1
  have X0 : Stand p l e ({ frames := 0, cells := 0, slots := 0, locals := 0 } : Room) s m #[(.ref xa), (.ref xb)] below meth c s₁ [] 0 0 := Stand.of_body Bd
  have e0 : s₁.heap = h0 := by rw [← hh, Bd.state]; rfl
  have N0 := Fr.nil n0
  suffices G : ∀ (Qf : Outcome → State → Prop), Qf = (fun (_ : Array Value) (U : State) (o : Outcome) (U' : State) => ∃ v L, o = .returned v ∧ Q_rmMI0 Z xa xb z_cs h0 n0 v U'.heap L ∧ FrameEnd U o U' L ({ frames := 0, cells := 0, slots := 0, locals := 0 } : Room).cells ({ frames := 0, cells := 0, slots := 0, locals := 0 } : Room).slots) #[] s → Goes p.tables e below Qf (s₁.setTop (mkF m 0 #[.val (.ref xa), .val (.ref xb), .unset] [])) by
    obtain ⟨s₂, o, g1, g2, g3, g4⟩ := G _ rfl
    exact ⟨s₂, o, castTop (ef_rmMI0 m _ _) g1, g2, g3, g4⟩
  intro Qf hQf
  obtain ⟨S_cs, nz_cs⟩ := id NF
  refine Goes.to (T' := s₁.setTop (mkF m 1 #[.val (.ref xa), .val (.ref xb), .unset] [(.ref xb)])) (fun t k => XS.aloadN X0.here hx rfl (hb hby d8_0) rfl rfl k) ?_
  obtain ⟨T1, X1, e1, st1⟩ := instNo X0 hx hZ hown (hw _ (List.mem_of_getElem? (i := 50) rfl)) e0 E_xb (own_nsno (hw _ (List.mem_of_getElem? (i := 62) rfl)) (hw _ (List.mem_of_getElem? (i := 31) rfl)) (NS.step (hw _ (List.mem_of_getElem? (i := 62) rfl)) (own_nsroot (hw _ (List.mem_of_getElem? (i := 63) rfl)) (hw _ (List.mem_of_getElem? (i := 31) rfl)) (by decide)) (by decide)) (by decide)) (g := (mkF m 1 #[.val (.ref xa), .val (.ref xb), .unset] [(.ref xb)])) rfl rfl (hb hby d8_1)
  refine Goes.to (T' := T1.setTop (mkF m 4 #[.val (.ref xa), .val (.ref xb), .unset] [(.int (0 : Int32))])) st1 ?_
  refine Goes.to (T' := T1.setTop (mkF m 68 #[.val (.ref xa), .val (.ref xb), .unset] [])) (fun t k => XS.ifYes X1.here hx rfl (pc0 := 4) (pc' := 68) rfl (hb hby d8_4) rfl ((if0 _ _).trans (teq (by decide)).1) (by decide) (by decide) k) ?_
  refine Goes.to (T' := T1.setTop (mkF m 69 #[.val (.ref xa), .val (.ref xb), .unset] [(.int (0 : Int32))])) (fun t k => XS.iconst X1.here hx rfl (hb hby d8_68) k) ?_
  obtain ⟨fs, hrL, hrun, hended, hW, hsame⟩ := X1.leave (v := some (.int (0 : Int32))) (fun h => by rw [Bd.returns] at h; cases h)
  subst hQf
  refine ⟨_, _, retN X1 hx (t := .boolean) Bd.returns (by simp) (hb hby d8_69) hrL, hrun, hended, _, _, rfl, ?_, ⟨_, rfl⟩, hW, hsame.mono (by decide) (by decide)⟩
  show (fun (v : Option Value) (h : Heap) (L : List Loc) => v = some (.int 0) ∧ Fr n0 L ∧ h = h0) (some (.int (0 : Int32))) T1.heap _
  rw [e1]
  exact ⟨rfl, N0, rfl⟩
theorem own_ifc {P R : Prop} [Decidable P] [Decidable R] (h : P ↔ R) : (if P then (1 : Int32) else 0) = if R then 1 else 0 := by
  by_cases q : P
  · rw [if_pos q, if_pos (h.mp q)]
  · rw [if_neg q, if_neg (fun r => q (h.mpr r))]
theorem own_fe1 {q0 c2 q1 d2 : Int64} {f1 f2 t1 t2 g1 g2 s1 s2 fe : Int32} (hfe : fe = if q0 = c2 ∧ q1 = d2 ∧ f1 = f2 ∧ t1 = t2 then 1 else 0) (hf : g1 = g2 ↔ f1 = f2) (ht : s1 = s2 ↔ t1 = t2) : fe = if q0 = c2 ∧ q1 = d2 ∧ g1 = g2 ∧ s1 = s2 then 1 else 0 :=
  hfe.trans (own_ifc ⟨fun h => ⟨h.1, h.2.1, hf.mpr h.2.2.1, ht.mpr h.2.2.2⟩, fun h => ⟨h.1, h.2.1, hf.mp h.2.2.1, ht.mp h.2.2.2⟩⟩)
theorem own_fe2 {q0 c2 q1 d2 : Int64} {f1 f2 t1 t2 g1 g2 s1 s2 fe : Int32} (hfe : fe = if q0 = c2 ∧ q1 = d2 ∧ f1 = f2 ∧ t1 = t2 then 1 else 0) (hf : g1 = g2 ↔ f1 = f2) (ht : s1 = s2 ↔ t1 = t2) : fe = if c2 = q0 ∧ d2 = q1 ∧ g2 = g1 ∧ s2 = s1 then 1 else 0 :=
  hfe.trans (own_ifc ⟨fun h => ⟨h.1.symm, h.2.1.symm, (hf.mpr h.2.2.1).symm, (ht.mpr h.2.2.2).symm⟩, fun h => ⟨h.1.symm, h.2.1.symm, hf.mp h.2.2.1.symm, ht.mp h.2.2.2.symm⟩⟩)
theorem pd_110 : parseMethodDescriptor "([C)V" = some ⟨[(.array .char)], none⟩ := by decide +kernel
theorem pd_111 : parseMethodDescriptor "(JJLjava/lang/String;Ljava/lang/String;)V" = some ⟨[.long, .long, (.object "java/lang/String"), (.object "java/lang/String")], none⟩ := by decide +kernel
def Q_rm0 (Z : State) (q0 : Int64) (q1 : Int64) (q2 : Int64) (q3 : Int64) (p4 : Int32) (p5 : Int32) (z_cs : Int32) (h0 : Heap) (n0 : Nat) (v : Option Value) (h : Heap) (L : List Loc) : Prop := v = some (.int 1) ∧ Fr n0 L
set_option maxRecDepth 65536 in
set_option maxHeartbeats 40000000 in
theorem rm0_J255 (l : Launch) (Z : State) (a0 : Array Value) (hw : ∀ d ∈ tables_1, d.before a0 Z = true) (ws : List Jvm.Cond) (q0 : Int64) (q1 : Int64) (q2 : Int64) (q3 : Int64) (p4 : Int32) (p5 : Int32) (z_cs : Int32) (h0 : Heap) (n0 : Nat) (NF : Nar Z z_cs) (p : Program) (e : Env) (s : State) (m : MethodId) (below : List Frame) (meth : _) (c : _) (s₁ : State) (Bd : BodyLoose p l x (head1 (Jvm.Cond.code x code maxLocals ret :: ws) room_1) code maxLocals ret e s m #[(.long q0), (.long q1), (.long q2), (.long q3), (.int p4), (.int p5)] below meth c s₁) (hml : c.maxLocals = 33) (hZ : Z.Warmed39 s.vm) (Qf : Outcome → State → Prop) (hQf : Qf = (fun (_ : Array Value) (U : State) (o : Outcome) (U' : State) => ∃ v L, o = .returned v ∧ Q_rm0 Z q0 q1 q2 q3 p4 p5 z_cs h0 n0 v U'.heap L ∧ FrameEnd U o U' L room_1.cells room_1.slots) #[] s) (b5 : Addr) (b8 : Addr) (b11 : Addr) (b14 : Addr) (b17 : Addr) (b19 : Addr) (b21 : Addr) (b23 : Addr) (b25 : Addr) (b27 : Addr) (t18 : Addr) (t20 : Addr) (t22 : Addr) (t24 : Addr) (kb18 : ClassId) (kb20 : ClassId) (kb22 : ClassId) (kb24 : ClassId) (c2 : Int64) (d2 : Int64) (f1 : Int32) (t1 : Int32) (f2 : Int32) (t2 : Int32) (h_f1 : ¬ f1 < 0 ∧ ¬ (255 : Int32) < f1) (h_t1 : ¬ t1 < 0 ∧ ¬ (255 : Int32) < t1) (h_f2 : ¬ f2 < 0 ∧ ¬ (255 : Int32) < f2) (h_t2 : ¬ t2 < 0 ∧ ¬ (255 : Int32) < t2) (ne_b17_b21 : b17 ≠ b21) (ne_b21_b17 : b21 ≠ b17) (ne_b19_b23 : b19 ≠ b23) (ne_b23_b19 : b23 ≠ b19) (TC : State) (locsC : List Loc) (hC : Heap) (fe : Int32) (XC : Stand p l e room_1 s m #[(.long q0), (.long q1), (.long q2), (.long q3), (.int p4), (.int p5)] below meth c TC locsC 14 32) (eC : TC.heap = hC) (OC : Old Z n0 hC) (E_b17 : Exa Z hC b17 "java/lang/String") (F_coder_b17 : Fld Z hC b17 "java/lang/String" "coder" "B" (.int (0 : Int32))) (F_value_b17 : Fld Z hC b17 "java/lang/String" "value" "[B" (.ref t18)) (V_t18 : Arv Z hC t18 kb18 .byte (1 : Int32) [(.int f1.toInt8.toInt32)] (.int (0 : Int32))) (E_b19 : Exa Z hC b19 "java/lang/String") (F_coder_b19 : Fld Z hC b19 "java/lang/String" "coder" "B" (.int (0 : Int32))) (F_value_b19 : Fld Z hC b19 "java/lang/String" "value" "[B" (.ref t20)) (V_t20 : Arv Z hC t20 kb20 .byte (1 : Int32) [(.int t1.toInt8.toInt32)] (.int (0 : Int32))) (E_b21 : Exa Z hC b21 "java/lang/String") (F_coder_b21 : Fld Z hC b21 "java/lang/String" "coder" "B" (.int (0 : Int32))) (F_value_b21 : Fld Z hC b21 "java/lang/String" "value" "[B" (.ref t22)) (V_t22 : Arv Z hC t22 kb22 .byte (1 : Int32) [(.int f2.toInt8.toInt32)] (.int (0 : Int32))) (E_b23 : Exa Z hC b23 "java/lang/String") (F_coder_b23 : Fld Z hC b23 "java/lang/String" "coder" "B" (.int (0 : Int32))) (F_value_b23 : Fld Z hC b23 "java/lang/String" "value" "[B" (.ref t24)) (V_t24 : Arv Z hC t24 kb24 .byte (1 : Int32) [(.int t2.toInt8.toInt32)] (.int (0 : Int32))) (E_b25 : Exa Z hC b25 "com/example/inman/inman/Move") (F_first_b25 : Fld Z hC b25 "com/example/inman/inman/Move" "first" "J" (.long q0)) (F_last_b25 : Fld Z hC b25 "com/example/inman/inman/Move" "last" "J" (.long q1)) (F_from_b25 : Fld Z hC b25 "com/example/inman/inman/Move" "from" "Ljava/lang/String;" (.ref b17)) (F_to_b25 : Fld Z hC b25 "com/example/inman/inman/Move" "to" "Ljava/lang/String;" (.ref b19)) (E_b27 : Exa Z hC b27 "com/example/inman/inman/Move") (F_first_b27 : Fld Z hC b27 "com/example/inman/inman/Move" "first" "J" (.long c2)) (F_last_b27 : Fld Z hC b27 "com/example/inman/inman/Move" "last" "J" (.long d2)) (F_from_b27 : Fld Z hC b27 "com/example/inman/inman/Move" "from" "Ljava/lang/String;" (.ref b21)) (F_to_b27 : Fld Z hC b27 "com/example/inman/inman/Move" "to" "Ljava/lang/String;" (.ref b23)) (NC : Fr n0 locsC) (hfe : fe = if q0 = c2 ∧ q1 = d2 ∧ f1 = f2 ∧ t1 = t2 then 1 else 0) : Goes p.tables e below Qf (TC.setTop (mkF m 255 #[.val (.long q0), .second, .val (.long q1), .second, .val (.long q2), .second, .val (.long q3), .second, .val (.int p4), .val (.int p5), .val (.long c2), .second, .val (.long d2), .second, .val (.int f1), .val (.int t1), .val (.int f2), .val (.int t2), .val (.ref b5), .val (.ref b8), .val (.ref b11), .val (.ref b14), .val (.ref b17), .val (.ref b19), .val (.ref b21), .val (.ref b23), .val (.ref b25), .val (.ref b27), .val (.int fe), .unset, .unset, .unset, .unset] [])) := by
  have hx := Bd.exec
  have hby := Bd.bytes
  have hown : s.vm.findClass "com/example/inman/inman/MoveEqualsPinLaw" = some m.cls := findClass_of_methodNamed Bd.named
  have hnm := (name_of_methodNamed Bd.named Bd.method).1
  obtain ⟨S_cs, nz_cs⟩ := id NF
  refine Goes.to (T' := TC.setTop (mkF m 257 #[.val (.long q0), .second, .val (.long q1), .second, .val (.long q2), .second, .val (.long q3), .second, .val (.int p4), .val (.int p5), .val (.long c2), .second, .val (.long d2), .second, .val (.int f1), .val (.int t1), .val (.int f2), .val (.int t2), .val (.ref b5), .val (.ref b8), .val (.ref b11), .val (.ref b14), .val (.ref b17), .val (.ref b19), .val (.ref b21), .val (.ref b23), .val (.ref b25), .val (.ref b27), .val (.int fe), .unset, .unset, .unset, .unset] [(.int p5)])) (fun t k => XS.iload XC.here hx rfl (hb hby at_255) rfl k) ?_
  refine Goes.to (T' := TC.setTop (mkF m 258 #[.val (.long q0), .second, .val (.long q1), .second, .val (.long q2), .second, .val (.long q3), .second, .val (.int p4), .val (.int p5), .val (.long c2), .second, .val (.long d2), .second, .val (.int f1), .val (.int t1), .val (.int f2), .val (.int t2), .val (.ref b5), .val (.ref b8), .val (.ref b11), .val (.ref b14), .val (.ref b17), .val (.ref b19), .val (.ref b21), .val (.ref b23), .val (.ref b25), .val (.ref b27), .val (.int fe), .unset, .unset, .unset, .unset] [(.int (4 : Int32)), (.int p5)])) (fun t k => XS.iconst XC.here hx rfl (hb hby at_257) k) ?_
  refine Goes.to (T' := TC.setTop (mkF m 259 #[.val (.long q0), .second, .val (.long q1), .second, .val (.long q2), .second, .val (.long q3), .second, .val (.int p4), .val (.int p5), .val (.long c2), .second, .val (.long d2), .second, .val (.int f1), .val (.int t1), .val (.int f2), .val (.int t2), .val (.ref b5), .val (.ref b8), .val (.ref b11), .val (.ref b14), .val (.ref b17), .val (.ref b19), .val (.ref b21), .val (.ref b23), .val (.ref b25), .val (.ref b27), .val (.int fe), .unset, .unset, .unset, .unset] [(.int ((p5.toUInt32 >>> ((4 : Int32) &&& 31).toUInt32).toInt32))])) (fun t k => XS.iushr XC.here hx rfl (hb hby at_258) rfl k) ?_
  refine Goes.to (T' := TC.setTop (mkF m 260 #[.val (.long q0), .second, .val (.long q1), .second, .val (.long q2), .second, .val (.long q3), .second, .val (.int p4), .val (.int p5), .val (.long c2), .second, .val (.long d2), .second, .val (.int f1), .val (.int t1), .val (.int f2), .val (.int t2), .val (.ref b5), .val (.ref b8), .val (.ref b11), .val (.ref b14), .val (.ref b17), .val (.ref b19), .val (.ref b21), .val (.ref b23), .val (.ref b25), .val (.ref b27), .val (.int fe), .unset, .unset, .unset, .unset] [(.int (3 : Int32)), (.int ((p5.toUInt32 >>> ((4 : Int32) &&& 31).toUInt32).toInt32))])) (fun t k => XS.iconst XC.here hx rfl (hb hby at_259) k) ?_
  refine Goes.to (T' := TC.setTop (mkF m 261 #[.val (.long q0), .second, .val (.long q1), .second, .val (.long q2), .second, .val (.long q3), .second, .val (.int p4), .val (.int p5), .val (.long c2), .second, .val (.long d2), .second, .val (.int f1), .val (.int t1), .val (.int f2), .val (.int t2), .val (.ref b5), .val (.ref b8), .val (.ref b11), .val (.ref b14), .val (.ref b17), .val (.ref b19), .val (.ref b21), .val (.ref b23), .val (.ref b25), .val (.ref b27), .val (.int fe), .unset, .unset, .unset, .unset] [(.int (((p5.toUInt32 >>> ((4 : Int32) &&& 31).toUInt32).toInt32) &&& (3 : Int32)))])) (fun t k => XS.iand XC.here hx rfl (hb hby at_260) rfl k) ?_
  rcases own_and3 ((p5.toUInt32 >>> ((4 : Int32) &&& 31).toUInt32).toInt32) with hv_29 | hv_29 | hv_29 | hv_29
  · rw [hv_29]
    refine Goes.to (T' := TC.setTop (mkF m 263 #[.val (.long q0), .second, .val (.long q1), .second, .val (.long q2), .second, .val (.long q3), .second, .val (.int p4), .val (.int p5), .val (.long c2), .second, .val (.long d2), .second, .val (.int f1), .val (.int t1), .val (.int f2), .val (.int t2), .val (.ref b5), .val (.ref b8), .val (.ref b11), .val (.ref b14), .val (.ref b17), .val (.ref b19), .val (.ref b21), .val (.ref b23), .val (.ref b25), .val (.ref b27), .val (.int fe), .val (.int (0 : Int32)), .unset, .unset, .unset] [])) (fun t k => XS.istore XC.here hx rfl (hb hby at_261) rfl (l' := #[.val (.long q0), .second, .val (.long q1), .second, .val (.long q2), .second, .val (.long q3), .second, .val (.int p4), .val (.int p5), .val (.long c2), .second, .val (.long d2), .second, .val (.int f1), .val (.int t1), .val (.int f2), .val (.int t2), .val (.ref b5), .val (.ref b8), .val (.ref b11), .val (.ref b14), .val (.ref b17), .val (.ref b19), .val (.ref b21), .val (.ref b23), .val (.ref b25), .val (.ref b27), .val (.int fe), .val (.int (0 : Int32)), .unset, .unset, .unset]) rfl k) ?_
    refine Goes.to (T' := TC.setTop (mkF m 265 #[.val (.long q0), .second, .val (.long q1), .second, .val (.long q2), .second, .val (.long q3), .second, .val (.int p4), .val (.int p5), .val (.long c2), .second, .val (.long d2), .second, .val (.int f1), .val (.int t1), .val (.int f2), .val (.int t2), .val (.ref b5), .val (.ref b8), .val (.ref b11), .val (.ref b14), .val (.ref b17), .val (.ref b19), .val (.ref b21), .val (.ref b23), .val (.ref b25), .val (.ref b27), .val (.int fe), .val (.int (0 : Int32)), .unset, .unset, .unset] [(.ref b27)])) (fun t k => XS.aload XC.here hx rfl (hb hby at_263) rfl rfl k) ?_
    refine Goes.to (T' := TC.setTop (mkF m 267 #[.val (.long q0), .second, .val (.long q1), .second, .val (.long q2), .second, .val (.long q3), .second, .val (.int p4), .val (.int p5), .val (.long c2), .second, .val (.long d2), .second, .val (.int f1), .val (.int t1), .val (.int f2), .val (.int t2), .val (.ref b5), .val (.ref b8), .val (.ref b11), .val (.ref b14), .val (.ref b17), .val (.ref b19), .val (.ref b21), .val (.ref b23), .val (.ref b25), .val (.ref b27), .val (.int fe), .val (.int (0 : Int32)), .val (.ref b27), .unset, .unset] [])) (fun t k => XS.astore XC.here hx rfl (hb hby at_265) rfl rfl (l' := #[.val (.long q0), .second, .val (.long q1), .second, .val (.long q2), .second, .val (.long q3), .second, .val (.int p4), .val (.int p5), .val (.long c2), .second, .val (.long d2), .second, .val (.int f1), .val (.int t1), .val (.int f2), .val (.int t2), .val (.ref b5), .val (.ref b8), .val (.ref b11), .val (.ref b14), .val (.ref b17), .val (.ref b19), .val (.ref b21), .val (.ref b23), .val (.ref b25), .val (.ref b27), .val (.int fe), .val (.int (0 : Int32)), .val (.ref b27), .unset, .unset]) rfl k) ?_
    refine Goes.to (T' := TC.setTop (mkF m 269 #[.val (.long q0), .second, .val (.long q1), .second, .val (.long q2), .second, .val (.long q3), .second, .val (.int p4), .val (.int p5), .val (.long c2), .second, .val (.long d2), .second, .val (.int f1), .val (.int t1), .val (.int f2), .val (.int t2), .val (.ref b5), .val (.ref b8), .val (.ref b11), .val (.ref b14), .val (.ref b17), .val (.ref b19), .val (.ref b21), .val (.ref b23), .val (.ref b25), .val (.ref b27), .val (.int fe), .val (.int (0 : Int32)), .val (.ref b27), .unset, .unset] [(.int fe)])) (fun t k => XS.iload XC.here hx rfl (hb hby at_267) rfl k) ?_
    refine Goes.to (T' := TC.setTop (mkF m 271 #[.val (.long q0), .second, .val (.long q1), .second, .val (.long q2), .second, .val (.long q3), .second, .val (.int p4), .val (.int p5), .val (.long c2), .second, .val (.long d2), .second, .val (.int f1), .val (.int t1), .val (.int f2), .val (.int t2), .val (.ref b5), .val (.ref b8), .val (.ref b11), .val (.ref b14), .val (.ref b17), .val (.ref b19), .val (.ref b21), .val (.ref b23), .val (.ref b25), .val (.ref b27), .val (.int fe), .val (.int (0 : Int32)), .val (.ref b27), .val (.int fe), .unset] [])) (fun t k => XS.istore XC.here hx rfl (hb hby at_269) rfl (l' := #[.val (.long q0), .second, .val (.long q1), .second, .val (.long q2), .second, .val (.long q3), .second, .val (.int p4), .val (.int p5), .val (.long c2), .second, .val (.long d2), .second, .val (.int f1), .val (.int t1), .val (.int f2), .val (.int t2), .val (.ref b5), .val (.ref b8), .val (.ref b11), .val (.ref b14), .val (.ref b17), .val (.ref b19), .val (.ref b21), .val (.ref b23), .val (.ref b25), .val (.ref b27), .val (.int fe), .val (.int (0 : Int32)), .val (.ref b27), .val (.int fe), .unset]) rfl k) ?_
    refine Goes.to (T' := TC.setTop (mkF m 273 #[.val (.long q0), .second, .val (.long q1), .second, .val (.long q2), .second, .val (.long q3), .second, .val (.int p4), .val (.int p5), .val (.long c2), .second, .val (.long d2), .second, .val (.int f1), .val (.int t1), .val (.int f2), .val (.int t2), .val (.ref b5), .val (.ref b8), .val (.ref b11), .val (.ref b14), .val (.ref b17), .val (.ref b19), .val (.ref b21), .val (.ref b23), .val (.ref b25), .val (.ref b27), .val (.int fe), .val (.int (0 : Int32)), .val (.ref b27), .val (.int fe), .unset] [(.int (0 : Int32))])) (fun t k => XS.iload XC.here hx rfl (hb hby at_271) rfl k) ?_
    refine Goes.to (T' := TC.setTop (mkF m 274 #[.val (.long q0), .second, .val (.long q1), .second, .val (.long q2), .second, .val (.long q3), .second, .val (.int p4), .val (.int p5), .val (.long c2), .second, .val (.long d2), .second, .val (.int f1), .val (.int t1), .val (.int f2), .val (.int t2), .val (.ref b5), .val (.ref b8), .val (.ref b11), .val (.ref b14), .val (.ref b17), .val (.ref b19), .val (.ref b21), .val (.ref b23), .val (.ref b25), .val (.ref b27), .val (.int fe), .val (.int (0 : Int32)), .val (.ref b27), .val (.int fe), .unset] [(.int (1 : Int32)), (.int (0 : Int32))])) (fun t k => XS.iconst XC.here hx rfl (hb hby at_273) k) ?_
    refine Goes.to (T' := TC.setTop (mkF m 286 #[.val (.long q0), .second, .val (.long q1), .second, .val (.long q2), .second, .val (.long q3), .second, .val (.int p4), .val (.int p5), .val (.long c2), .second, .val (.long d2), .second, .val (.int f1), .val (.int t1), .val (.int f2), .val (.int t2), .val (.ref b5), .val (.ref b8), .val (.ref b11), .val (.ref b14), .val (.ref b17), .val (.ref b19), .val (.ref b21), .val (.ref b23), .val (.ref b25), .val (.ref b27), .val (.int fe), .val (.int (0 : Int32)), .val (.ref b27), .val (.int fe), .unset] [])) (fun t k => XS.icmpYes XC.here hx rfl (pc0 := 274) (pc' := 286) rfl (hb hby at_274) rfl (feq (by decide)).2 (by decide) (by decide) k) ?_
    refine Goes.to (T' := TC.setTop (mkF m 288 #[.val (.long q0), .second, .val (.long q1), .second, .val (.long q2), .second, .val (.long q3), .second, .val (.int p4), .val (.int p5), .val (.long c2), .second, .val (.long d2), .second, .val (.int f1), .val (.int t1), .val (.int f2), .val (.int t2), .val (.ref b5), .val (.ref b8), .val (.ref b11), .val (.ref b14), .val (.ref b17), .val (.ref b19), .val (.ref b21), .val (.ref b23), .val (.ref b25), .val (.ref b27), .val (.int fe), .val (.int (0 : Int32)), .val (.ref b27), .val (.int fe), .unset] [(.int (0 : Int32))])) (fun t k => XS.iload XC.here hx rfl (hb hby at_286) rfl k) ?_
    refine Goes.to (T' := TC.setTop (mkF m 289 #[.val (.long q0), .second, .val (.long q1), .second, .val (.long q2), .second, .val (.long q3), .second, .val (.int p4), .val (.int p5), .val (.long c2), .second, .val (.long d2), .second, .val (.int f1), .val (.int t1), .val (.int f2), .val (.int t2), .val (.ref b5), .val (.ref b8), .val (.ref b11), .val (.ref b14), .val (.ref b17), .val (.ref b19), .val (.ref b21), .val (.ref b23), .val (.ref b25), .val (.ref b27), .val (.int fe), .val (.int (0 : Int32)), .val (.ref b27), .val (.int fe), .unset] [(.int (2 : Int32)), (.int (0 : Int32))])) (fun t k => XS.iconst XC.here hx rfl (hb hby at_288) k) ?_
    refine Goes.to (T' := TC.setTop (mkF m 299 #[.val (.long q0), .second, .val (.long q1), .second, .val (.long q2), .second, .val (.long q3), .second, .val (.int p4), .val (.int p5), .val (.long c2), .second, .val (.long d2), .second, .val (.int f1), .val (.int t1), .val (.int f2), .val (.int t2), .val (.ref b5), .val (.ref b8), .val (.ref b11), .val (.ref b14), .val (.ref b17), .val (.ref b19), .val (.ref b21), .val (.ref b23), .val (.ref b25), .val (.ref b27), .val (.int fe), .val (.int (0 : Int32)), .val (.ref b27), .val (.int fe), .unset] [])) (fun t k => XS.icmpYes XC.here hx rfl (pc0 := 289) (pc' := 299) rfl (hb hby at_289) rfl (feq (by decide)).2 (by decide) (by decide) k) ?_
    refine Goes.to (T' := TC.setTop (mkF m 301 #[.val (.long q0), .second, .val (.long q1), .second, .val (.long q2), .second, .val (.long q3), .second, .val (.int p4), .val (.int p5), .val (.long c2), .second, .val (.long d2), .second, .val (.int f1), .val (.int t1), .val (.int f2), .val (.int t2), .val (.ref b5), .val (.ref b8), .val (.ref b11), .val (.ref b14), .val (.ref b17), .val (.ref b19), .val (.ref b21), .val (.ref b23), .val (.ref b25), .val (.ref b27), .val (.int fe), .val (.int (0 : Int32)), .val (.ref b27), .val (.int fe), .unset] [(.ref b25)])) (fun t k => XS.aload XC.here hx rfl (hb hby at_299) rfl rfl k) ?_
    refine Goes.to (T' := TC.setTop (mkF m 303 #[.val (.long q0), .second, .val (.long q1), .second, .val (.long q2), .second, .val (.long q3), .second, .val (.int p4), .val (.int p5), .val (.long c2), .second, .val (.long d2), .second, .val (.int f1), .val (.int t1), .val (.int f2), .val (.int t2), .val (.ref b5), .val (.ref b8), .val (.ref b11), .val (.ref b14), .val (.ref b17), .val (.ref b19), .val (.ref b21), .val (.ref b23), .val (.ref b25), .val (.ref b27), .val (.int fe), .val (.int (0 : Int32)), .val (.ref b27), .val (.int fe), .unset] [(.ref b27), (.ref b25)])) (fun t k => XS.aload XC.here hx rfl (hb hby at_301) rfl rfl k) ?_
    obtain ⟨cq30, kq30, q30a, q30b, q30c⟩ := isOf hZ eC E_b25
    obtain ⟨_, _, ⟨T30, L30, k30, n30⟩, -, X30, ⟨Lc30, hQ30, l30, y30, z30⟩, st30⟩ := XC.virtualBack hx (y := (⟨"com/example/inman/inman/Move", "equals", "(Ljava/lang/Object;)Z"⟩ : MethodName)) (z := (⟨"com/example/inman/inman/Move", "equals", "(Ljava/lang/Object;)Z"⟩ : MethodName)) hown (mvT hZ (hw _ (List.mem_of_getElem? (i := 45) rfl))) (mvT hZ (hw _ (List.mem_of_getElem? (i := 46) rfl))) (notFace_of_selects (args := #[]) (mvT hZ (hw _ (List.mem_of_getElem? (i := 48) rfl)))) (mvT hZ (hw _ (List.mem_of_getElem? (i := 48) rfl))) (mvT hZ (hw _ (List.mem_of_getElem? (i := 47) rfl))) (by decide) (backOf (W := 0) (rmME l Z a0 hw [] b25 b27 z_cs q0 q1 c2 d2 b17 b21 b19 b23 t18 t22 t20 t24 kb18 kb22 kb20 kb24 (f1.toInt8.toInt32) (f2.toInt8.toInt32) (t1.toInt8.toInt32) (t2.toInt8.toInt32) fe hC n0 OC NF E_b27 F_first_b25 F_last_b25 F_from_b25 F_to_b25 F_first_b27 F_last_b27 F_from_b27 F_to_b27 E_b17 F_coder_b17 F_value_b17 E_b21 F_coder_b21 F_value_b21 E_b19 F_coder_b19 F_value_b19 E_b23 F_coder_b23 F_value_b23 V_t18 V_t22 V_t20 V_t24 ne_b17_b21 ne_b19_b23 (own_fe1 hfe (own_b8 h_f1 h_f2) (own_b8 h_t1 h_t2))) hZ (hw _ (List.mem_of_getElem? (i := 49) rfl)) (hw _ (List.mem_of_getElem? (i := 32) rfl)) (by decide) (by decide)) q30a q30c (g := (mkF m 303 #[.val (.long q0), .second, .val (.long q1), .second, .val (.long q2), .second, .val (.long q3), .second, .val (.int p4), .val (.int p5), .val (.long c2), .second, .val (.long d2), .second, .val (.int f1), .val (.int t1), .val (.int f2), .val (.int t2), .val (.ref b5), .val (.ref b8), .val (.ref b11), .val (.ref b14), .val (.ref b17), .val (.ref b19), .val (.ref b21), .val (.ref b23), .val (.ref b25), .val (.ref b27), .val (.int fe), .val (.int (0 : Int32)), .val (.ref b27), .val (.int fe), .unset] [(.ref b27), (.ref b25)])) rfl (by rw [hml]; rfl) (Steps.refl _) (argsL := [(.ref b27)]) (rest := []) (lenOf pd_73 rfl) rfl (by show 2 * 0 + _ ≤ _; exact Nat.le_of_eq rfl) (hb hby at_303) (fun _ _ => ⟨rfl, eC, (by decide : 14 + 0 ≤ _), (by decide : 32 + 0 ≤ _)⟩)
    dsimp only [Pt.U, Pt.locs, Pt.cells, Pt.slots] at X30 l30 y30 z30 st30 hQ30
    subst l30 y30 z30
    obtain ⟨rfl, Nq30, e30⟩ := hQ30
    have N30 := Fr.app NC Nq30
    refine Goes.thru (T' := T30.setTop (mkF m 306 #[.val (.long q0), .second, .val (.long q1), .second, .val (.long q2), .second, .val (.long q3), .second, .val (.int p4), .val (.int p5), .val (.long c2), .second, .val (.long d2), .second, .val (.int f1), .val (.int t1), .val (.int f2), .val (.int t2), .val (.ref b5), .val (.ref b8), .val (.ref b11), .val (.ref b14), .val (.ref b17), .val (.ref b19), .val (.ref b21), .val (.ref b23), .val (.ref b25), .val (.ref b27), .val (.int fe), .val (.int (0 : Int32)), .val (.ref b27), .val (.int fe), .unset] [(.int fe)])) st30 ?_
    refine Goes.to (T' := T30.setTop (mkF m 308 #[.val (.long q0), .second, .val (.long q1), .second, .val (.long q2), .second, .val (.long q3), .second, .val (.int p4), .val (.int p5), .val (.long c2), .second, .val (.long d2), .second, .val (.int f1), .val (.int t1), .val (.int f2), .val (.int t2), .val (.ref b5), .val (.ref b8), .val (.ref b11), .val (.ref b14), .val (.ref b17), .val (.ref b19), .val (.ref b21), .val (.ref b23), .val (.ref b25), .val (.ref b27), .val (.int fe), .val (.int (0 : Int32)), .val (.ref b27), .val (.int fe), .unset] [(.int fe), (.int fe)])) (fun t k => XS.iload X30.here hx rfl (hb hby at_306) rfl k) ?_
    refine Goes.to (T' := T30.setTop (mkF m 311 #[.val (.long q0), .second, .val (.long q1), .second, .val (.long q2), .second, .val (.long q3), .second, .val (.int p4), .val (.int p5), .val (.long c2), .second, .val (.long d2), .second, .val (.int f1), .val (.int t1), .val (.int f2), .val (.int t2), .val (.ref b5), .val (.ref b8), .val (.ref b11), .val (.ref b14), .val (.ref b17), .val (.ref b19), .val (.ref b21), .val (.ref b23), .val (.ref b25), .val (.ref b27), .val (.int fe), .val (.int (0 : Int32)), .val (.ref b27), .val (.int fe), .unset] [])) (fun t k => XS.icmpNo X30.here hx rfl (hb hby at_308) rfl (teq rfl).2 k) ?_
    refine Goes.to (T' := T30.setTop (mkF m 312 #[.val (.long q0), .second, .val (.long q1), .second, .val (.long q2), .second, .val (.long q3), .second, .val (.int p4), .val (.int p5), .val (.long c2), .second, .val (.long d2), .second, .val (.int f1), .val (.int t1), .val (.int f2), .val (.int t2), .val (.ref b5), .val (.ref b8), .val (.ref b11), .val (.ref b14), .val (.ref b17), .val (.ref b19), .val (.ref b21), .val (.ref b23), .val (.ref b25), .val (.ref b27), .val (.int fe), .val (.int (0 : Int32)), .val (.ref b27), .val (.int fe), .unset] [(.int (1 : Int32))])) (fun t k => XS.iconst X30.here hx rfl (hb hby at_311) k) ?_
    refine Goes.to (T' := T30.setTop (mkF m 316 #[.val (.long q0), .second, .val (.long q1), .second, .val (.long q2), .second, .val (.long q3), .second, .val (.int p4), .val (.int p5), .val (.long c2), .second, .val (.long d2), .second, .val (.int f1), .val (.int t1), .val (.int f2), .val (.int t2), .val (.ref b5), .val (.ref b8), .val (.ref b11), .val (.ref b14), .val (.ref b17), .val (.ref b19), .val (.ref b21), .val (.ref b23), .val (.ref b25), .val (.ref b27), .val (.int fe), .val (.int (0 : Int32)), .val (.ref b27), .val (.int fe), .unset] [(.int (1 : Int32))])) (fun t k => XS.goto X30.here hx rfl (pc0 := 312) (pc' := 316) rfl (hb hby at_312) (by decide) (by decide) k) ?_
    refine Goes.to (T' := T30.setTop (mkF m 318 #[.val (.long q0), .second, .val (.long q1), .second, .val (.long q2), .second, .val (.long q3), .second, .val (.int p4), .val (.int p5), .val (.long c2), .second, .val (.long d2), .second, .val (.int f1), .val (.int t1), .val (.int f2), .val (.int t2), .val (.ref b5), .val (.ref b8), .val (.ref b11), .val (.ref b14), .val (.ref b17), .val (.ref b19), .val (.ref b21), .val (.ref b23), .val (.ref b25), .val (.ref b27), .val (.int fe), .val (.int (0 : Int32)), .val (.ref b27), .val (.int fe), .val (.int (1 : Int32))] [])) (fun t k => XS.istore X30.here hx rfl (hb hby at_316) rfl (l' := #[.val (.long q0), .second, .val (.long q1), .second, .val (.long q2), .second, .val (.long q3), .second, .val (.int p4), .val (.int p5), .val (.long c2), .second, .val (.long d2), .second, .val (.int f1), .val (.int t1), .val (.int f2), .val (.int t2), .val (.ref b5), .val (.ref b8), .val (.ref b11), .val (.ref b14), .val (.ref b17), .val (.ref b19), .val (.ref b21), .val (.ref b23), .val (.ref b25), .val (.ref b27), .val (.int fe), .val (.int (0 : Int32)), .val (.ref b27), .val (.int fe), .val (.int (1 : Int32))]) rfl k) ?_
    refine Goes.to (T' := T30.setTop (mkF m 320 #[.val (.long q0), .second, .val (.long q1), .second, .val (.long q2), .second, .val (.long q3), .second, .val (.int p4), .val (.int p5), .val (.long c2), .second, .val (.long d2), .second, .val (.int f1), .val (.int t1), .val (.int f2), .val (.int t2), .val (.ref b5), .val (.ref b8), .val (.ref b11), .val (.ref b14), .val (.ref b17), .val (.ref b19), .val (.ref b21), .val (.ref b23), .val (.ref b25), .val (.ref b27), .val (.int fe), .val (.int (0 : Int32)), .val (.ref b27), .val (.int fe), .val (.int (1 : Int32))] [(.int (0 : Int32))])) (fun t k => XS.iload X30.here hx rfl (hb hby at_318) rfl k) ?_
    refine Goes.to (T' := T30.setTop (mkF m 329 #[.val (.long q0), .second, .val (.long q1), .second, .val (.long q2), .second, .val (.long q3), .second, .val (.int p4), .val (.int p5), .val (.long c2), .second, .val (.long d2), .second, .val (.int f1), .val (.int t1), .val (.int f2), .val (.int t2), .val (.ref b5), .val (.ref b8), .val (.ref b11), .val (.ref b14), .val (.ref b17), .val (.ref b19), .val (.ref b21), .val (.ref b23), .val (.ref b25), .val (.ref b27), .val (.int fe), .val (.int (0 : Int32)), .val (.ref b27), .val (.int fe), .val (.int (1 : Int32))] [])) (fun t k => XS.ifYes X30.here hx rfl (pc0 := 320) (pc' := 329) rfl (hb hby at_320) rfl ((if0 _ _).trans (teq (by decide)).1) (by decide) (by decide) k) ?_
    refine Goes.to (T' := T30.setTop (mkF m 331 #[.val (.long q0), .second, .val (.long q1), .second, .val (.long q2), .second, .val (.long q3), .second, .val (.int p4), .val (.int p5), .val (.long c2), .second, .val (.long d2), .second, .val (.int f1), .val (.int t1), .val (.int f2), .val (.int t2), .val (.ref b5), .val (.ref b8), .val (.ref b11), .val (.ref b14), .val (.ref b17), .val (.ref b19), .val (.ref b21), .val (.ref b23), .val (.ref b25), .val (.ref b27), .val (.int fe), .val (.int (0 : Int32)), .val (.ref b27), .val (.int fe), .val (.int (1 : Int32))] [(.int (1 : Int32))])) (fun t k => XS.iload X30.here hx rfl (hb hby at_329) rfl k) ?_
    refine Goes.to (T' := T30.setTop (mkF m 334 #[.val (.long q0), .second, .val (.long q1), .second, .val (.long q2), .second, .val (.long q3), .second, .val (.int p4), .val (.int p5), .val (.long c2), .second, .val (.long d2), .second, .val (.int f1), .val (.int t1), .val (.int f2), .val (.int t2), .val (.ref b5), .val (.ref b8), .val (.ref b11), .val (.ref b14), .val (.ref b17), .val (.ref b19), .val (.ref b21), .val (.ref b23), .val (.ref b25), .val (.ref b27), .val (.int fe), .val (.int (0 : Int32)), .val (.ref b27), .val (.int fe), .val (.int (1 : Int32))] [])) (fun t k => XS.ifNo X30.here hx rfl (hb hby at_331) rfl ((if0 _ _).trans (feq (by decide)).1) k) ?_
    refine Goes.to (T' := T30.setTop (mkF m 336 #[.val (.long q0), .second, .val (.long q1), .second, .val (.long q2), .second, .val (.long q3), .second, .val (.int p4), .val (.int p5), .val (.long c2), .second, .val (.long d2), .second, .val (.int f1), .val (.int t1), .val (.int f2), .val (.int t2), .val (.ref b5), .val (.ref b8), .val (.ref b11), .val (.ref b14), .val (.ref b17), .val (.ref b19), .val (.ref b21), .val (.ref b23), .val (.ref b25), .val (.ref b27), .val (.int fe), .val (.int (0 : Int32)), .val (.ref b27), .val (.int fe), .val (.int (1 : Int32))] [(.ref b27)])) (fun t k => XS.aload X30.here hx rfl (hb hby at_334) rfl rfl k) ?_
    refine Goes.to (T' := T30.setTop (mkF m 338 #[.val (.long q0), .second, .val (.long q1), .second, .val (.long q2), .second, .val (.long q3), .second, .val (.int p4), .val (.int p5), .val (.long c2), .second, .val (.long d2), .second, .val (.int f1), .val (.int t1), .val (.int f2), .val (.int t2), .val (.ref b5), .val (.ref b8), .val (.ref b11), .val (.ref b14), .val (.ref b17), .val (.ref b19), .val (.ref b21), .val (.ref b23), .val (.ref b25), .val (.ref b27), .val (.int fe), .val (.int (0 : Int32)), .val (.ref b27), .val (.int fe), .val (.int (1 : Int32))] [(.ref b25), (.ref b27)])) (fun t k => XS.aload X30.here hx rfl (hb hby at_336) rfl rfl k) ?_
    obtain ⟨cq31, kq31, q31a, q31b, q31c⟩ := isOf hZ e30 E_b27
    obtain ⟨_, _, ⟨T31, L31, k31, n31⟩, -, X31, ⟨Lc31, hQ31, l31, y31, z31⟩, st31⟩ := X30.virtualBack hx (y := (⟨"com/example/inman/inman/Move", "equals", "(Ljava/lang/Object;)Z"⟩ : MethodName)) (z := (⟨"com/example/inman/inman/Move", "equals", "(Ljava/lang/Object;)Z"⟩ : MethodName)) hown (mvT hZ (hw _ (List.mem_of_getElem? (i := 45) rfl))) (mvT hZ (hw _ (List.mem_of_getElem? (i := 46) rfl))) (notFace_of_selects (args := #[]) (mvT hZ (hw _ (List.mem_of_getElem? (i := 48) rfl)))) (mvT hZ (hw _ (List.mem_of_getElem? (i := 48) rfl))) (mvT hZ (hw _ (List.mem_of_getElem? (i := 47) rfl))) (by decide) (backOf (W := 0) (rmME l Z a0 hw [] b27 b25 z_cs c2 d2 q0 q1 b21 b17 b23 b19 t22 t18 t24 t20 kb22 kb18 kb24 kb20 (f2.toInt8.toInt32) (f1.toInt8.toInt32) (t2.toInt8.toInt32) (t1.toInt8.toInt32) fe hC n0 OC NF E_b25 F_first_b27 F_last_b27 F_from_b27 F_to_b27 F_first_b25 F_last_b25 F_from_b25 F_to_b25 E_b21 F_coder_b21 F_value_b21 E_b17 F_coder_b17 F_value_b17 E_b23 F_coder_b23 F_value_b23 E_b19 F_coder_b19 F_value_b19 V_t22 V_t18 V_t24 V_t20 ne_b21_b17 ne_b23_b19 (own_fe2 hfe (own_b8 h_f1 h_f2) (own_b8 h_t1 h_t2))) hZ (hw _ (List.mem_of_getElem? (i := 49) rfl)) (hw _ (List.mem_of_getElem? (i := 32) rfl)) (by decide) (by decide)) q31a q31c (g := (mkF m 338 #[.val (.long q0), .second, .val (.long q1), .second, .val (.long q2), .second, .val (.long q3), .second, .val (.int p4), .val (.int p5), .val (.long c2), .second, .val (.long d2), .second, .val (.int f1), .val (.int t1), .val (.int f2), .val (.int t2), .val (.ref b5), .val (.ref b8), .val (.ref b11), .val (.ref b14), .val (.ref b17), .val (.ref b19), .val (.ref b21), .val (.ref b23), .val (.ref b25), .val (.ref b27), .val (.int fe), .val (.int (0 : Int32)), .val (.ref b27), .val (.int fe), .val (.int (1 : Int32))] [(.ref b25), (.ref b27)])) rfl (by rw [hml]; rfl) (Steps.refl _) (argsL := [(.ref b25)]) (rest := []) (lenOf pd_73 rfl) rfl (by show 2 * 0 + _ ≤ _; exact Nat.le_of_eq rfl) (hb hby at_338) (fun _ _ => ⟨rfl, e30, (by decide : 14 + 0 ≤ _), (by decide : 32 + 0 ≤ _)⟩)
    dsimp only [Pt.U, Pt.locs, Pt.cells, Pt.slots] at X31 l31 y31 z31 st31 hQ31
    subst l31 y31 z31
    obtain ⟨rfl, Nq31, e31⟩ := hQ31
    have N31 := Fr.app N30 Nq31
    refine Goes.thru (T' := T31.setTop (mkF m 341 #[.val (.long q0), .second, .val (.long q1), .second, .val (.long q2), .second, .val (.long q3), .second, .val (.int p4), .val (.int p5), .val (.long c2), .second, .val (.long d2), .second, .val (.int f1), .val (.int t1), .val (.int f2), .val (.int t2), .val (.ref b5), .val (.ref b8), .val (.ref b11), .val (.ref b14), .val (.ref b17), .val (.ref b19), .val (.ref b21), .val (.ref b23), .val (.ref b25), .val (.ref b27), .val (.int fe), .val (.int (0 : Int32)), .val (.ref b27), .val (.int fe), .val (.int (1 : Int32))] [(.int fe)])) st31 ?_
    refine Goes.to (T' := T31.setTop (mkF m 343 #[.val (.long q0), .second, .val (.long q1), .second, .val (.long q2), .second, .val (.long q3), .second, .val (.int p4), .val (.int p5), .val (.long c2), .second, .val (.long d2), .second, .val (.int f1), .val (.int t1), .val (.int f2), .val (.int t2), .val (.ref b5), .val (.ref b8), .val (.ref b11), .val (.ref b14), .val (.ref b17), .val (.ref b19), .val (.ref b21), .val (.ref b23), .val (.ref b25), .val (.ref b27), .val (.int fe), .val (.int (0 : Int32)), .val (.ref b27), .val (.int fe), .val (.int (1 : Int32))] [(.int fe), (.int fe)])) (fun t k => XS.iload X31.here hx rfl (hb hby at_341) rfl k) ?_
    refine Goes.to (T' := T31.setTop (mkF m 346 #[.val (.long q0), .second, .val (.long q1), .second, .val (.long q2), .second, .val (.long q3), .second, .val (.int p4), .val (.int p5), .val (.long c2), .second, .val (.long d2), .second, .val (.int f1), .val (.int t1), .val (.int f2), .val (.int t2), .val (.ref b5), .val (.ref b8), .val (.ref b11), .val (.ref b14), .val (.ref b17), .val (.ref b19), .val (.ref b21), .val (.ref b23), .val (.ref b25), .val (.ref b27), .val (.int fe), .val (.int (0 : Int32)), .val (.ref b27), .val (.int fe), .val (.int (1 : Int32))] [])) (fun t k => XS.icmpNo X31.here hx rfl (hb hby at_343) rfl (teq rfl).2 k) ?_
    refine Goes.to (T' := T31.setTop (mkF m 347 #[.val (.long q0), .second, .val (.long q1), .second, .val (.long q2), .second, .val (.long q3), .second, .val (.int p4), .val (.int p5), .val (.long c2), .second, .val (.long d2), .second, .val (.int f1), .val (.int t1), .val (.int f2), .val (.int t2), .val (.ref b5), .val (.ref b8), .val (.ref b11), .val (.ref b14), .val (.ref b17), .val (.ref b19), .val (.ref b21), .val (.ref b23), .val (.ref b25), .val (.ref b27), .val (.int fe), .val (.int (0 : Int32)), .val (.ref b27), .val (.int fe), .val (.int (1 : Int32))] [(.int (1 : Int32))])) (fun t k => XS.iconst X31.here hx rfl (hb hby at_346) k) ?_
    refine Goes.to (T' := T31.setTop (mkF m 351 #[.val (.long q0), .second, .val (.long q1), .second, .val (.long q2), .second, .val (.long q3), .second, .val (.int p4), .val (.int p5), .val (.long c2), .second, .val (.long d2), .second, .val (.int f1), .val (.int t1), .val (.int f2), .val (.int t2), .val (.ref b5), .val (.ref b8), .val (.ref b11), .val (.ref b14), .val (.ref b17), .val (.ref b19), .val (.ref b21), .val (.ref b23), .val (.ref b25), .val (.ref b27), .val (.int fe), .val (.int (0 : Int32)), .val (.ref b27), .val (.int fe), .val (.int (1 : Int32))] [(.int (1 : Int32))])) (fun t k => XS.goto X31.here hx rfl (pc0 := 347) (pc' := 351) rfl (hb hby at_347) (by decide) (by decide) k) ?_
    refine Goes.to (T' := T31.setTop (mkF m 353 #[.val (.long q0), .second, .val (.long q1), .second, .val (.long q2), .second, .val (.long q3), .second, .val (.int p4), .val (.int p5), .val (.long c2), .second, .val (.long d2), .second, .val (.int f1), .val (.int t1), .val (.int f2), .val (.int t2), .val (.ref b5), .val (.ref b8), .val (.ref b11), .val (.ref b14), .val (.ref b17), .val (.ref b19), .val (.ref b21), .val (.ref b23), .val (.ref b25), .val (.ref b27), .val (.int fe), .val (.int (0 : Int32)), .val (.ref b27), .val (.int fe), .val (.int (1 : Int32))] [])) (fun t k => XS.istore X31.here hx rfl (hb hby at_351) rfl (l' := #[.val (.long q0), .second, .val (.long q1), .second, .val (.long q2), .second, .val (.long q3), .second, .val (.int p4), .val (.int p5), .val (.long c2), .second, .val (.long d2), .second, .val (.int f1), .val (.int t1), .val (.int f2), .val (.int t2), .val (.ref b5), .val (.ref b8), .val (.ref b11), .val (.ref b14), .val (.ref b17), .val (.ref b19), .val (.ref b21), .val (.ref b23), .val (.ref b25), .val (.ref b27), .val (.int fe), .val (.int (0 : Int32)), .val (.ref b27), .val (.int fe), .val (.int (1 : Int32))]) rfl k) ?_
    refine Goes.to (T' := T31.setTop (mkF m 355 #[.val (.long q0), .second, .val (.long q1), .second, .val (.long q2), .second, .val (.long q3), .second, .val (.int p4), .val (.int p5), .val (.long c2), .second, .val (.long d2), .second, .val (.int f1), .val (.int t1), .val (.int f2), .val (.int t2), .val (.ref b5), .val (.ref b8), .val (.ref b11), .val (.ref b14), .val (.ref b17), .val (.ref b19), .val (.ref b21), .val (.ref b23), .val (.ref b25), .val (.ref b27), .val (.int fe), .val (.int (0 : Int32)), .val (.ref b27), .val (.int fe), .val (.int (1 : Int32))] [(.int (1 : Int32))])) (fun t k => XS.iload X31.here hx rfl (hb hby at_353) rfl k) ?_
    refine Goes.to (T' := T31.setTop (mkF m 358 #[.val (.long q0), .second, .val (.long q1), .second, .val (.long q2), .second, .val (.long q3), .second, .val (.int p4), .val (.int p5), .val (.long c2), .second, .val (.long d2), .second, .val (.int f1), .val (.int t1), .val (.int f2), .val (.int t2), .val (.ref b5), .val (.ref b8), .val (.ref b11), .val (.ref b14), .val (.ref b17), .val (.ref b19), .val (.ref b21), .val (.ref b23), .val (.ref b25), .val (.ref b27), .val (.int fe), .val (.int (0 : Int32)), .val (.ref b27), .val (.int fe), .val (.int (1 : Int32))] [])) (fun t k => XS.ifNo X31.here hx rfl (hb hby at_355) rfl ((if0 _ _).trans (feq (by decide)).1) k) ?_
    refine Goes.to (T' := T31.setTop (mkF m 360 #[.val (.long q0), .second, .val (.long q1), .second, .val (.long q2), .second, .val (.long q3), .second, .val (.int p4), .val (.int p5), .val (.long c2), .second, .val (.long d2), .second, .val (.int f1), .val (.int t1), .val (.int f2), .val (.int t2), .val (.ref b5), .val (.ref b8), .val (.ref b11), .val (.ref b14), .val (.ref b17), .val (.ref b19), .val (.ref b21), .val (.ref b23), .val (.ref b25), .val (.ref b27), .val (.int fe), .val (.int (0 : Int32)), .val (.ref b27), .val (.int fe), .val (.int (1 : Int32))] [(.ref b25)])) (fun t k => XS.aload X31.here hx rfl (hb hby at_358) rfl rfl k) ?_
    refine Goes.to (T' := T31.setTop (mkF m 362 #[.val (.long q0), .second, .val (.long q1), .second, .val (.long q2), .second, .val (.long q3), .second, .val (.int p4), .val (.int p5), .val (.long c2), .second, .val (.long d2), .second, .val (.int f1), .val (.int t1), .val (.int f2), .val (.int t2), .val (.ref b5), .val (.ref b8), .val (.ref b11), .val (.ref b14), .val (.ref b17), .val (.ref b19), .val (.ref b21), .val (.ref b23), .val (.ref b25), .val (.ref b27), .val (.int fe), .val (.int (0 : Int32)), .val (.ref b27), .val (.int fe), .val (.int (1 : Int32))] [(.ref b25), (.ref b25)])) (fun t k => XS.aload X31.here hx rfl (hb hby at_360) rfl rfl k) ?_
    obtain ⟨cq32, kq32, q32a, q32b, q32c⟩ := isOf hZ e31 E_b25
    obtain ⟨_, _, ⟨T32, L32, k32, n32⟩, -, X32, ⟨Lc32, hQ32, l32, y32, z32⟩, st32⟩ := X31.virtualBack hx (y := (⟨"com/example/inman/inman/Move", "equals", "(Ljava/lang/Object;)Z"⟩ : MethodName)) (z := (⟨"com/example/inman/inman/Move", "equals", "(Ljava/lang/Object;)Z"⟩ : MethodName)) hown (mvT hZ (hw _ (List.mem_of_getElem? (i := 45) rfl))) (mvT hZ (hw _ (List.mem_of_getElem? (i := 46) rfl))) (notFace_of_selects (args := #[]) (mvT hZ (hw _ (List.mem_of_getElem? (i := 48) rfl)))) (mvT hZ (hw _ (List.mem_of_getElem? (i := 48) rfl))) (mvT hZ (hw _ (List.mem_of_getElem? (i := 47) rfl))) (by decide) (backOf (W := 0) (rmMS l Z a0 hw [] b25 z_cs q0 q1 b17 b19 hC n0 OC NF E_b25 F_first_b25 F_last_b25 F_from_b25 F_to_b25 E_b17 E_b19) hZ (hw _ (List.mem_of_getElem? (i := 49) rfl)) (hw _ (List.mem_of_getElem? (i := 32) rfl)) (by decide) (by decide)) q32a q32c (g := (mkF m 362 #[.val (.long q0), .second, .val (.long q1), .second, .val (.long q2), .second, .val (.long q3), .second, .val (.int p4), .val (.int p5), .val (.long c2), .second, .val (.long d2), .second, .val (.int f1), .val (.int t1), .val (.int f2), .val (.int t2), .val (.ref b5), .val (.ref b8), .val (.ref b11), .val (.ref b14), .val (.ref b17), .val (.ref b19), .val (.ref b21), .val (.ref b23), .val (.ref b25), .val (.ref b27), .val (.int fe), .val (.int (0 : Int32)), .val (.ref b27), .val (.int fe), .val (.int (1 : Int32))] [(.ref b25), (.ref b25)])) rfl (by rw [hml]; rfl) (Steps.refl _) (argsL := [(.ref b25)]) (rest := []) (lenOf pd_73 rfl) rfl (by show 2 * 0 + _ ≤ _; exact Nat.le_of_eq rfl) (hb hby at_362) (fun _ _ => ⟨rfl, e31, (by decide : 14 + 0 ≤ _), (by decide : 32 + 0 ≤ _)⟩)
    dsimp only [Pt.U, Pt.locs, Pt.cells, Pt.slots] at X32 l32 y32 z32 st32 hQ32
    subst l32 y32 z32
    obtain ⟨rfl, Nq32, e32⟩ := hQ32
    have N32 := Fr.app N31 Nq32
    refine Goes.thru (T' := T32.setTop (mkF m 365 #[.val (.long q0), .second, .val (.long q1), .second, .val (.long q2), .second, .val (.long q3), .second, .val (.int p4), .val (.int p5), .val (.long c2), .second, .val (.long d2), .second, .val (.int f1), .val (.int t1), .val (.int f2), .val (.int t2), .val (.ref b5), .val (.ref b8), .val (.ref b11), .val (.ref b14), .val (.ref b17), .val (.ref b19), .val (.ref b21), .val (.ref b23), .val (.ref b25), .val (.ref b27), .val (.int fe), .val (.int (0 : Int32)), .val (.ref b27), .val (.int fe), .val (.int (1 : Int32))] [(.int (1 : Int32))])) st32 ?_
    refine Goes.to (T' := T32.setTop (mkF m 368 #[.val (.long q0), .second, .val (.long q1), .second, .val (.long q2), .second, .val (.long q3), .second, .val (.int p4), .val (.int p5), .val (.long c2), .second, .val (.long d2), .second, .val (.int f1), .val (.int t1), .val (.int f2), .val (.int t2), .val (.ref b5), .val (.ref b8), .val (.ref b11), .val (.ref b14), .val (.ref b17), .val (.ref b19), .val (.ref b21), .val (.ref b23), .val (.ref b25), .val (.ref b27), .val (.int fe), .val (.int (0 : Int32)), .val (.ref b27), .val (.int fe), .val (.int (1 : Int32))] [])) (fun t k => XS.ifNo X32.here hx rfl (hb hby at_365) rfl ((if0 _ _).trans (feq (by decide)).1) k) ?_
    refine Goes.to (T' := T32.setTop (mkF m 369 #[.val (.long q0), .second, .val (.long q1), .second, .val (.long q2), .second, .val (.long q3), .second, .val (.int p4), .val (.int p5), .val (.long c2), .second, .val (.long d2), .second, .val (.int f1), .val (.int t1), .val (.int f2), .val (.int t2), .val (.ref b5), .val (.ref b8), .val (.ref b11), .val (.ref b14), .val (.ref b17), .val (.ref b19), .val (.ref b21), .val (.ref b23), .val (.ref b25), .val (.ref b27), .val (.int fe), .val (.int (0 : Int32)), .val (.ref b27), .val (.int fe), .val (.int (1 : Int32))] [(.int (1 : Int32))])) (fun t k => XS.iconst X32.here hx rfl (hb hby at_368) k) ?_
    refine Goes.to (T' := T32.setTop (mkF m 373 #[.val (.long q0), .second, .val (.long q1), .second, .val (.long q2), .second, .val (.long q3), .second, .val (.int p4), .val (.int p5), .val (.long c2), .second, .val (.long d2), .second, .val (.int f1), .val (.int t1), .val (.int f2), .val (.int t2), .val (.ref b5), .val (.ref b8), .val (.ref b11), .val (.ref b14), .val (.ref b17), .val (.ref b19), .val (.ref b21), .val (.ref b23), .val (.ref b25), .val (.ref b27), .val (.int fe), .val (.int (0 : Int32)), .val (.ref b27), .val (.int fe), .val (.int (1 : Int32))] [(.int (1 : Int32))])) (fun t k => XS.goto X32.here hx rfl (pc0 := 369) (pc' := 373) rfl (hb hby at_369) (by decide) (by decide) k) ?_
    obtain ⟨fs, hrL, hrun, hended, hW, hsame⟩ := X32.leave (v := some (.int (1 : Int32))) (fun h => by rw [Bd.returns] at h; cases h)
    subst hQf
    refine ⟨_, _, retN X32 hx (t := .boolean) Bd.returns (by simp) (hb hby at_373) hrL, hrun, hended, _, _, rfl, ?_, ⟨_, rfl⟩, hW, hsame.mono (by decide) (by decide)⟩
    show (fun (v : Option Value) (h : Heap) (L : List Loc) => v = some (.int 1) ∧ Fr n0 L) (some (.int (1 : Int32))) T32.heap _
    rw [e32]
    exact ⟨rfl, N32⟩
  · rw [hv_29]
    refine Goes.to (T' := TC.setTop (mkF m 263 #[.val (.long q0), .second, .val (.long q1), .second, .val (.long q2), .second, .val (.long q3), .second, .val (.int p4), .val (.int p5), .val (.long c2), .second, .val (.long d2), .second, .val (.int f1), .val (.int t1), .val (.int f2), .val (.int t2), .val (.ref b5), .val (.ref b8), .val (.ref b11), .val (.ref b14), .val (.ref b17), .val (.ref b19), .val (.ref b21), .val (.ref b23), .val (.ref b25), .val (.ref b27), .val (.int fe), .val (.int (1 : Int32)), .unset, .unset, .unset] [])) (fun t k => XS.istore XC.here hx rfl (hb hby at_261) rfl (l' := #[.val (.long q0), .second, .val (.long q1), .second, .val (.long q2), .second, .val (.long q3), .second, .val (.int p4), .val (.int p5), .val (.long c2), .second, .val (.long d2), .second, .val (.int f1), .val (.int t1), .val (.int f2), .val (.int t2), .val (.ref b5), .val (.ref b8), .val (.ref b11), .val (.ref b14), .val (.ref b17), .val (.ref b19), .val (.ref b21), .val (.ref b23), .val (.ref b25), .val (.ref b27), .val (.int fe), .val (.int (1 : Int32)), .unset, .unset, .unset]) rfl k) ?_
    refine Goes.to (T' := TC.setTop (mkF m 265 #[.val (.long q0), .second, .val (.long q1), .second, .val (.long q2), .second, .val (.long q3), .second, .val (.int p4), .val (.int p5), .val (.long c2), .second, .val (.long d2), .second, .val (.int f1), .val (.int t1), .val (.int f2), .val (.int t2), .val (.ref b5), .val (.ref b8), .val (.ref b11), .val (.ref b14), .val (.ref b17), .val (.ref b19), .val (.ref b21), .val (.ref b23), .val (.ref b25), .val (.ref b27), .val (.int fe), .val (.int (1 : Int32)), .unset, .unset, .unset] [(.ref b27)])) (fun t k => XS.aload XC.here hx rfl (hb hby at_263) rfl rfl k) ?_
    refine Goes.to (T' := TC.setTop (mkF m 267 #[.val (.long q0), .second, .val (.long q1), .second, .val (.long q2), .second, .val (.long q3), .second, .val (.int p4), .val (.int p5), .val (.long c2), .second, .val (.long d2), .second, .val (.int f1), .val (.int t1), .val (.int f2), .val (.int t2), .val (.ref b5), .val (.ref b8), .val (.ref b11), .val (.ref b14), .val (.ref b17), .val (.ref b19), .val (.ref b21), .val (.ref b23), .val (.ref b25), .val (.ref b27), .val (.int fe), .val (.int (1 : Int32)), .val (.ref b27), .unset, .unset] [])) (fun t k => XS.astore XC.here hx rfl (hb hby at_265) rfl rfl (l' := #[.val (.long q0), .second, .val (.long q1), .second, .val (.long q2), .second, .val (.long q3), .second, .val (.int p4), .val (.int p5), .val (.long c2), .second, .val (.long d2), .second, .val (.int f1), .val (.int t1), .val (.int f2), .val (.int t2), .val (.ref b5), .val (.ref b8), .val (.ref b11), .val (.ref b14), .val (.ref b17), .val (.ref b19), .val (.ref b21), .val (.ref b23), .val (.ref b25), .val (.ref b27), .val (.int fe), .val (.int (1 : Int32)), .val (.ref b27), .unset, .unset]) rfl k) ?_
    refine Goes.to (T' := TC.setTop (mkF m 269 #[.val (.long q0), .second, .val (.long q1), .second, .val (.long q2), .second, .val (.long q3), .second, .val (.int p4), .val (.int p5), .val (.long c2), .second, .val (.long d2), .second, .val (.int f1), .val (.int t1), .val (.int f2), .val (.int t2), .val (.ref b5), .val (.ref b8), .val (.ref b11), .val (.ref b14), .val (.ref b17), .val (.ref b19), .val (.ref b21), .val (.ref b23), .val (.ref b25), .val (.ref b27), .val (.int fe), .val (.int (1 : Int32)), .val (.ref b27), .unset, .unset] [(.int fe)])) (fun t k => XS.iload XC.here hx rfl (hb hby at_267) rfl k) ?_
    refine Goes.to (T' := TC.setTop (mkF m 271 #[.val (.long q0), .second, .val (.long q1), .second, .val (.long q2), .second, .val (.long q3), .second, .val (.int p4), .val (.int p5), .val (.long c2), .second, .val (.long d2), .second, .val (.int f1), .val (.int t1), .val (.int f2), .val (.int t2), .val (.ref b5), .val (.ref b8), .val (.ref b11), .val (.ref b14), .val (.ref b17), .val (.ref b19), .val (.ref b21), .val (.ref b23), .val (.ref b25), .val (.ref b27), .val (.int fe), .val (.int (1 : Int32)), .val (.ref b27), .val (.int fe), .unset] [])) (fun t k => XS.istore XC.here hx rfl (hb hby at_269) rfl (l' := #[.val (.long q0), .second, .val (.long q1), .second, .val (.long q2), .second, .val (.long q3), .second, .val (.int p4), .val (.int p5), .val (.long c2), .second, .val (.long d2), .second, .val (.int f1), .val (.int t1), .val (.int f2), .val (.int t2), .val (.ref b5), .val (.ref b8), .val (.ref b11), .val (.ref b14), .val (.ref b17), .val (.ref b19), .val (.ref b21), .val (.ref b23), .val (.ref b25), .val (.ref b27), .val (.int fe), .val (.int (1 : Int32)), .val (.ref b27), .val (.int fe), .unset]) rfl k) ?_
    refine Goes.to (T' := TC.setTop (mkF m 273 #[.val (.long q0), .second, .val (.long q1), .second, .val (.long q2), .second, .val (.long q3), .second, .val (.int p4), .val (.int p5), .val (.long c2), .second, .val (.long d2), .second, .val (.int f1), .val (.int t1), .val (.int f2), .val (.int t2), .val (.ref b5), .val (.ref b8), .val (.ref b11), .val (.ref b14), .val (.ref b17), .val (.ref b19), .val (.ref b21), .val (.ref b23), .val (.ref b25), .val (.ref b27), .val (.int fe), .val (.int (1 : Int32)), .val (.ref b27), .val (.int fe), .unset] [(.int (1 : Int32))])) (fun t k => XS.iload XC.here hx rfl (hb hby at_271) rfl k) ?_
    refine Goes.to (T' := TC.setTop (mkF m 274 #[.val (.long q0), .second, .val (.long q1), .second, .val (.long q2), .second, .val (.long q3), .second, .val (.int p4), .val (.int p5), .val (.long c2), .second, .val (.long d2), .second, .val (.int f1), .val (.int t1), .val (.int f2), .val (.int t2), .val (.ref b5), .val (.ref b8), .val (.ref b11), .val (.ref b14), .val (.ref b17), .val (.ref b19), .val (.ref b21), .val (.ref b23), .val (.ref b25), .val (.ref b27), .val (.int fe), .val (.int (1 : Int32)), .val (.ref b27), .val (.int fe), .unset] [(.int (1 : Int32)), (.int (1 : Int32))])) (fun t k => XS.iconst XC.here hx rfl (hb hby at_273) k) ?_
    refine Goes.to (T' := TC.setTop (mkF m 277 #[.val (.long q0), .second, .val (.long q1), .second, .val (.long q2), .second, .val (.long q3), .second, .val (.int p4), .val (.int p5), .val (.long c2), .second, .val (.long d2), .second, .val (.int f1), .val (.int t1), .val (.int f2), .val (.int t2), .val (.ref b5), .val (.ref b8), .val (.ref b11), .val (.ref b14), .val (.ref b17), .val (.ref b19), .val (.ref b21), .val (.ref b23), .val (.ref b25), .val (.ref b27), .val (.int fe), .val (.int (1 : Int32)), .val (.ref b27), .val (.int fe), .unset] [])) (fun t k => XS.icmpNo XC.here hx rfl (hb hby at_274) rfl (teq (by decide)).2 k) ?_
    refine Goes.to (T' := TC.setTop (mkF m 278 #[.val (.long q0), .second, .val (.long q1), .second, .val (.long q2), .second, .val (.long q3), .second, .val (.int p4), .val (.int p5), .val (.long c2), .second, .val (.long d2), .second, .val (.int f1), .val (.int t1), .val (.int f2), .val (.int t2), .val (.ref b5), .val (.ref b8), .val (.ref b11), .val (.ref b14), .val (.ref b17), .val (.ref b19), .val (.ref b21), .val (.ref b23), .val (.ref b25), .val (.ref b27), .val (.int fe), .val (.int (1 : Int32)), .val (.ref b27), .val (.int fe), .unset] [.null])) (fun t k => XS.aconstNull XC.here hx rfl (hb hby at_277) k) ?_
    refine Goes.to (T' := TC.setTop (mkF m 280 #[.val (.long q0), .second, .val (.long q1), .second, .val (.long q2), .second, .val (.long q3), .second, .val (.int p4), .val (.int p5), .val (.long c2), .second, .val (.long d2), .second, .val (.int f1), .val (.int t1), .val (.int f2), .val (.int t2), .val (.ref b5), .val (.ref b8), .val (.ref b11), .val (.ref b14), .val (.ref b17), .val (.ref b19), .val (.ref b21), .val (.ref b23), .val (.ref b25), .val (.ref b27), .val (.int fe), .val (.int (1 : Int32)), .val .null, .val (.int fe), .unset] [])) (fun t k => XS.astore XC.here hx rfl (hb hby at_278) rfl rfl (l' := #[.val (.long q0), .second, .val (.long q1), .second, .val (.long q2), .second, .val (.long q3), .second, .val (.int p4), .val (.int p5), .val (.long c2), .second, .val (.long d2), .second, .val (.int f1), .val (.int t1), .val (.int f2), .val (.int t2), .val (.ref b5), .val (.ref b8), .val (.ref b11), .val (.ref b14), .val (.ref b17), .val (.ref b19), .val (.ref b21), .val (.ref b23), .val (.ref b25), .val (.ref b27), .val (.int fe), .val (.int (1 : Int32)), .val .null, .val (.int fe), .unset]) rfl k) ?_
    refine Goes.to (T' := TC.setTop (mkF m 281 #[.val (.long q0), .second, .val (.long q1), .second, .val (.long q2), .second, .val (.long q3), .second, .val (.int p4), .val (.int p5), .val (.long c2), .second, .val (.long d2), .second, .val (.int f1), .val (.int t1), .val (.int f2), .val (.int t2), .val (.ref b5), .val (.ref b8), .val (.ref b11), .val (.ref b14), .val (.ref b17), .val (.ref b19), .val (.ref b21), .val (.ref b23), .val (.ref b25), .val (.ref b27), .val (.int fe), .val (.int (1 : Int32)), .val .null, .val (.int fe), .unset] [(.int (0 : Int32))])) (fun t k => XS.iconst XC.here hx rfl (hb hby at_280) k) ?_
    refine Goes.to (T' := TC.setTop (mkF m 283 #[.val (.long q0), .second, .val (.long q1), .second, .val (.long q2), .second, .val (.long q3), .second, .val (.int p4), .val (.int p5), .val (.long c2), .second, .val (.long d2), .second, .val (.int f1), .val (.int t1), .val (.int f2), .val (.int t2), .val (.ref b5), .val (.ref b8), .val (.ref b11), .val (.ref b14), .val (.ref b17), .val (.ref b19), .val (.ref b21), .val (.ref b23), .val (.ref b25), .val (.ref b27), .val (.int fe), .val (.int (1 : Int32)), .val .null, .val (.int (0 : Int32)), .unset] [])) (fun t k => XS.istore XC.here hx rfl (hb hby at_281) rfl (l' := #[.val (.long q0), .second, .val (.long q1), .second, .val (.long q2), .second, .val (.long q3), .second, .val (.int p4), .val (.int p5), .val (.long c2), .second, .val (.long d2), .second, .val (.int f1), .val (.int t1), .val (.int f2), .val (.int t2), .val (.ref b5), .val (.ref b8), .val (.ref b11), .val (.ref b14), .val (.ref b17), .val (.ref b19), .val (.ref b21), .val (.ref b23), .val (.ref b25), .val (.ref b27), .val (.int fe), .val (.int (1 : Int32)), .val .null, .val (.int (0 : Int32)), .unset]) rfl k) ?_
    refine Goes.to (T' := TC.setTop (mkF m 299 #[.val (.long q0), .second, .val (.long q1), .second, .val (.long q2), .second, .val (.long q3), .second, .val (.int p4), .val (.int p5), .val (.long c2), .second, .val (.long d2), .second, .val (.int f1), .val (.int t1), .val (.int f2), .val (.int t2), .val (.ref b5), .val (.ref b8), .val (.ref b11), .val (.ref b14), .val (.ref b17), .val (.ref b19), .val (.ref b21), .val (.ref b23), .val (.ref b25), .val (.ref b27), .val (.int fe), .val (.int (1 : Int32)), .val .null, .val (.int (0 : Int32)), .unset] [])) (fun t k => XS.goto XC.here hx rfl (pc0 := 283) (pc' := 299) rfl (hb hby at_283) (by decide) (by decide) k) ?_
    refine Goes.to (T' := TC.setTop (mkF m 301 #[.val (.long q0), .second, .val (.long q1), .second, .val (.long q2), .second, .val (.long q3), .second, .val (.int p4), .val (.int p5), .val (.long c2), .second, .val (.long d2), .second, .val (.int f1), .val (.int t1), .val (.int f2), .val (.int t2), .val (.ref b5), .val (.ref b8), .val (.ref b11), .val (.ref b14), .val (.ref b17), .val (.ref b19), .val (.ref b21), .val (.ref b23), .val (.ref b25), .val (.ref b27), .val (.int fe), .val (.int (1 : Int32)), .val .null, .val (.int (0 : Int32)), .unset] [(.ref b25)])) (fun t k => XS.aload XC.here hx rfl (hb hby at_299) rfl rfl k) ?_
    refine Goes.to (T' := TC.setTop (mkF m 303 #[.val (.long q0), .second, .val (.long q1), .second, .val (.long q2), .second, .val (.long q3), .second, .val (.int p4), .val (.int p5), .val (.long c2), .second, .val (.long d2), .second, .val (.int f1), .val (.int t1), .val (.int f2), .val (.int t2), .val (.ref b5), .val (.ref b8), .val (.ref b11), .val (.ref b14), .val (.ref b17), .val (.ref b19), .val (.ref b21), .val (.ref b23), .val (.ref b25), .val (.ref b27), .val (.int fe), .val (.int (1 : Int32)), .val .null, .val (.int (0 : Int32)), .unset] [.null, (.ref b25)])) (fun t k => XS.aload XC.here hx rfl (hb hby at_301) rfl rfl k) ?_
    obtain ⟨cq33, kq33, q33a, q33b, q33c⟩ := isOf hZ eC E_b25
    obtain ⟨_, _, ⟨T33, L33, k33, n33⟩, -, X33, ⟨Lc33, hQ33, l33, y33, z33⟩, st33⟩ := XC.virtualBack hx (y := (⟨"com/example/inman/inman/Move", "equals", "(Ljava/lang/Object;)Z"⟩ : MethodName)) (z := (⟨"com/example/inman/inman/Move", "equals", "(Ljava/lang/Object;)Z"⟩ : MethodName)) hown (mvT hZ (hw _ (List.mem_of_getElem? (i := 45) rfl))) (mvT hZ (hw _ (List.mem_of_getElem? (i := 46) rfl))) (notFace_of_selects (args := #[]) (mvT hZ (hw _ (List.mem_of_getElem? (i := 48) rfl)))) (mvT hZ (hw _ (List.mem_of_getElem? (i := 48) rfl))) (mvT hZ (hw _ (List.mem_of_getElem? (i := 47) rfl))) (by decide) (backOf (W := 0) (rmM0 l Z a0 hw [] b25 z_cs  hC n0 OC NF ) hZ (hw _ (List.mem_of_getElem? (i := 49) rfl)) (hw _ (List.mem_of_getElem? (i := 32) rfl)) (by decide) (by decide)) q33a q33c (g := (mkF m 303 #[.val (.long q0), .second, .val (.long q1), .second, .val (.long q2), .second, .val (.long q3), .second, .val (.int p4), .val (.int p5), .val (.long c2), .second, .val (.long d2), .second, .val (.int f1), .val (.int t1), .val (.int f2), .val (.int t2), .val (.ref b5), .val (.ref b8), .val (.ref b11), .val (.ref b14), .val (.ref b17), .val (.ref b19), .val (.ref b21), .val (.ref b23), .val (.ref b25), .val (.ref b27), .val (.int fe), .val (.int (1 : Int32)), .val .null, .val (.int (0 : Int32)), .unset] [.null, (.ref b25)])) rfl (by rw [hml]; rfl) (Steps.refl _) (argsL := [.null]) (rest := []) (lenOf pd_73 rfl) rfl (by show 2 * 0 + _ ≤ _; exact Nat.le_of_eq rfl) (hb hby at_303) (fun _ _ => ⟨rfl, eC, (by decide : 14 + 0 ≤ _), (by decide : 32 + 0 ≤ _)⟩)
    dsimp only [Pt.U, Pt.locs, Pt.cells, Pt.slots] at X33 l33 y33 z33 st33 hQ33
    subst l33 y33 z33
    obtain ⟨rfl, Nq33, e33⟩ := hQ33
    have N33 := Fr.app NC Nq33
    refine Goes.thru (T' := T33.setTop (mkF m 306 #[.val (.long q0), .second, .val (.long q1), .second, .val (.long q2), .second, .val (.long q3), .second, .val (.int p4), .val (.int p5), .val (.long c2), .second, .val (.long d2), .second, .val (.int f1), .val (.int t1), .val (.int f2), .val (.int t2), .val (.ref b5), .val (.ref b8), .val (.ref b11), .val (.ref b14), .val (.ref b17), .val (.ref b19), .val (.ref b21), .val (.ref b23), .val (.ref b25), .val (.ref b27), .val (.int fe), .val (.int (1 : Int32)), .val .null, .val (.int (0 : Int32)), .unset] [(.int (0 : Int32))])) st33 ?_
    refine Goes.to (T' := T33.setTop (mkF m 308 #[.val (.long q0), .second, .val (.long q1), .second, .val (.long q2), .second, .val (.long q3), .second, .val (.int p4), .val (.int p5), .val (.long c2), .second, .val (.long d2), .second, .val (.int f1), .val (.int t1), .val (.int f2), .val (.int t2), .val (.ref b5), .val (.ref b8), .val (.ref b11), .val (.ref b14), .val (.ref b17), .val (.ref b19), .val (.ref b21), .val (.ref b23), .val (.ref b25), .val (.ref b27), .val (.int fe), .val (.int (1 : Int32)), .val .null, .val (.int (0 : Int32)), .unset] [(.int (0 : Int32)), (.int (0 : Int32))])) (fun t k => XS.iload X33.here hx rfl (hb hby at_306) rfl k) ?_
    refine Goes.to (T' := T33.setTop (mkF m 311 #[.val (.long q0), .second, .val (.long q1), .second, .val (.long q2), .second, .val (.long q3), .second, .val (.int p4), .val (.int p5), .val (.long c2), .second, .val (.long d2), .second, .val (.int f1), .val (.int t1), .val (.int f2), .val (.int t2), .val (.ref b5), .val (.ref b8), .val (.ref b11), .val (.ref b14), .val (.ref b17), .val (.ref b19), .val (.ref b21), .val (.ref b23), .val (.ref b25), .val (.ref b27), .val (.int fe), .val (.int (1 : Int32)), .val .null, .val (.int (0 : Int32)), .unset] [])) (fun t k => XS.icmpNo X33.here hx rfl (hb hby at_308) rfl (teq (by decide)).2 k) ?_
    refine Goes.to (T' := T33.setTop (mkF m 312 #[.val (.long q0), .second, .val (.long q1), .second, .val (.long q2), .second, .val (.long q3), .second, .val (.int p4), .val (.int p5), .val (.long c2), .second, .val (.long d2), .second, .val (.int f1), .val (.int t1), .val (.int f2), .val (.int t2), .val (.ref b5), .val (.ref b8), .val (.ref b11), .val (.ref b14), .val (.ref b17), .val (.ref b19), .val (.ref b21), .val (.ref b23), .val (.ref b25), .val (.ref b27), .val (.int fe), .val (.int (1 : Int32)), .val .null, .val (.int (0 : Int32)), .unset] [(.int (1 : Int32))])) (fun t k => XS.iconst X33.here hx rfl (hb hby at_311) k) ?_
    refine Goes.to (T' := T33.setTop (mkF m 316 #[.val (.long q0), .second, .val (.long q1), .second, .val (.long q2), .second, .val (.long q3), .second, .val (.int p4), .val (.int p5), .val (.long c2), .second, .val (.long d2), .second, .val (.int f1), .val (.int t1), .val (.int f2), .val (.int t2), .val (.ref b5), .val (.ref b8), .val (.ref b11), .val (.ref b14), .val (.ref b17), .val (.ref b19), .val (.ref b21), .val (.ref b23), .val (.ref b25), .val (.ref b27), .val (.int fe), .val (.int (1 : Int32)), .val .null, .val (.int (0 : Int32)), .unset] [(.int (1 : Int32))])) (fun t k => XS.goto X33.here hx rfl (pc0 := 312) (pc' := 316) rfl (hb hby at_312) (by decide) (by decide) k) ?_
    refine Goes.to (T' := T33.setTop (mkF m 318 #[.val (.long q0), .second, .val (.long q1), .second, .val (.long q2), .second, .val (.long q3), .second, .val (.int p4), .val (.int p5), .val (.long c2), .second, .val (.long d2), .second, .val (.int f1), .val (.int t1), .val (.int f2), .val (.int t2), .val (.ref b5), .val (.ref b8), .val (.ref b11), .val (.ref b14), .val (.ref b17), .val (.ref b19), .val (.ref b21), .val (.ref b23), .val (.ref b25), .val (.ref b27), .val (.int fe), .val (.int (1 : Int32)), .val .null, .val (.int (0 : Int32)), .val (.int (1 : Int32))] [])) (fun t k => XS.istore X33.here hx rfl (hb hby at_316) rfl (l' := #[.val (.long q0), .second, .val (.long q1), .second, .val (.long q2), .second, .val (.long q3), .second, .val (.int p4), .val (.int p5), .val (.long c2), .second, .val (.long d2), .second, .val (.int f1), .val (.int t1), .val (.int f2), .val (.int t2), .val (.ref b5), .val (.ref b8), .val (.ref b11), .val (.ref b14), .val (.ref b17), .val (.ref b19), .val (.ref b21), .val (.ref b23), .val (.ref b25), .val (.ref b27), .val (.int fe), .val (.int (1 : Int32)), .val .null, .val (.int (0 : Int32)), .val (.int (1 : Int32))]) rfl k) ?_
    refine Goes.to (T' := T33.setTop (mkF m 320 #[.val (.long q0), .second, .val (.long q1), .second, .val (.long q2), .second, .val (.long q3), .second, .val (.int p4), .val (.int p5), .val (.long c2), .second, .val (.long d2), .second, .val (.int f1), .val (.int t1), .val (.int f2), .val (.int t2), .val (.ref b5), .val (.ref b8), .val (.ref b11), .val (.ref b14), .val (.ref b17), .val (.ref b19), .val (.ref b21), .val (.ref b23), .val (.ref b25), .val (.ref b27), .val (.int fe), .val (.int (1 : Int32)), .val .null, .val (.int (0 : Int32)), .val (.int (1 : Int32))] [(.int (1 : Int32))])) (fun t k => XS.iload X33.here hx rfl (hb hby at_318) rfl k) ?_
    refine Goes.to (T' := T33.setTop (mkF m 323 #[.val (.long q0), .second, .val (.long q1), .second, .val (.long q2), .second, .val (.long q3), .second, .val (.int p4), .val (.int p5), .val (.long c2), .second, .val (.long d2), .second, .val (.int f1), .val (.int t1), .val (.int f2), .val (.int t2), .val (.ref b5), .val (.ref b8), .val (.ref b11), .val (.ref b14), .val (.ref b17), .val (.ref b19), .val (.ref b21), .val (.ref b23), .val (.ref b25), .val (.ref b27), .val (.int fe), .val (.int (1 : Int32)), .val .null, .val (.int (0 : Int32)), .val (.int (1 : Int32))] [])) (fun t k => XS.ifNo X33.here hx rfl (hb hby at_320) rfl ((if0 _ _).trans (feq (by decide)).1) k) ?_
    refine Goes.to (T' := T33.setTop (mkF m 325 #[.val (.long q0), .second, .val (.long q1), .second, .val (.long q2), .second, .val (.long q3), .second, .val (.int p4), .val (.int p5), .val (.long c2), .second, .val (.long d2), .second, .val (.int f1), .val (.int t1), .val (.int f2), .val (.int t2), .val (.ref b5), .val (.ref b8), .val (.ref b11), .val (.ref b14), .val (.ref b17), .val (.ref b19), .val (.ref b21), .val (.ref b23), .val (.ref b25), .val (.ref b27), .val (.int fe), .val (.int (1 : Int32)), .val .null, .val (.int (0 : Int32)), .val (.int (1 : Int32))] [(.int (1 : Int32))])) (fun t k => XS.iload X33.here hx rfl (hb hby at_323) rfl k) ?_
    refine Goes.to (T' := T33.setTop (mkF m 326 #[.val (.long q0), .second, .val (.long q1), .second, .val (.long q2), .second, .val (.long q3), .second, .val (.int p4), .val (.int p5), .val (.long c2), .second, .val (.long d2), .second, .val (.int f1), .val (.int t1), .val (.int f2), .val (.int t2), .val (.ref b5), .val (.ref b8), .val (.ref b11), .val (.ref b14), .val (.ref b17), .val (.ref b19), .val (.ref b21), .val (.ref b23), .val (.ref b25), .val (.ref b27), .val (.int fe), .val (.int (1 : Int32)), .val .null, .val (.int (0 : Int32)), .val (.int (1 : Int32))] [(.int (3 : Int32)), (.int (1 : Int32))])) (fun t k => XS.iconst X33.here hx rfl (hb hby at_325) k) ?_
    refine Goes.to (T' := T33.setTop (mkF m 353 #[.val (.long q0), .second, .val (.long q1), .second, .val (.long q2), .second, .val (.long q3), .second, .val (.int p4), .val (.int p5), .val (.long c2), .second, .val (.long d2), .second, .val (.int f1), .val (.int t1), .val (.int f2), .val (.int t2), .val (.ref b5), .val (.ref b8), .val (.ref b11), .val (.ref b14), .val (.ref b17), .val (.ref b19), .val (.ref b21), .val (.ref b23), .val (.ref b25), .val (.ref b27), .val (.int fe), .val (.int (1 : Int32)), .val .null, .val (.int (0 : Int32)), .val (.int (1 : Int32))] [])) (fun t k => XS.icmpYes X33.here hx rfl (pc0 := 326) (pc' := 353) rfl (hb hby at_326) rfl (feq (by decide)).2 (by decide) (by decide) k) ?_
    refine Goes.to (T' := T33.setTop (mkF m 355 #[.val (.long q0), .second, .val (.long q1), .second, .val (.long q2), .second, .val (.long q3), .second, .val (.int p4), .val (.int p5), .val (.long c2), .second, .val (.long d2), .second, .val (.int f1), .val (.int t1), .val (.int f2), .val (.int t2), .val (.ref b5), .val (.ref b8), .val (.ref b11), .val (.ref b14), .val (.ref b17), .val (.ref b19), .val (.ref b21), .val (.ref b23), .val (.ref b25), .val (.ref b27), .val (.int fe), .val (.int (1 : Int32)), .val .null, .val (.int (0 : Int32)), .val (.int (1 : Int32))] [(.int (1 : Int32))])) (fun t k => XS.iload X33.here hx rfl (hb hby at_353) rfl k) ?_
    refine Goes.to (T' := T33.setTop (mkF m 358 #[.val (.long q0), .second, .val (.long q1), .second, .val (.long q2), .second, .val (.long q3), .second, .val (.int p4), .val (.int p5), .val (.long c2), .second, .val (.long d2), .second, .val (.int f1), .val (.int t1), .val (.int f2), .val (.int t2), .val (.ref b5), .val (.ref b8), .val (.ref b11), .val (.ref b14), .val (.ref b17), .val (.ref b19), .val (.ref b21), .val (.ref b23), .val (.ref b25), .val (.ref b27), .val (.int fe), .val (.int (1 : Int32)), .val .null, .val (.int (0 : Int32)), .val (.int (1 : Int32))] [])) (fun t k => XS.ifNo X33.here hx rfl (hb hby at_355) rfl ((if0 _ _).trans (feq (by decide)).1) k) ?_
    refine Goes.to (T' := T33.setTop (mkF m 360 #[.val (.long q0), .second, .val (.long q1), .second, .val (.long q2), .second, .val (.long q3), .second, .val (.int p4), .val (.int p5), .val (.long c2), .second, .val (.long d2), .second, .val (.int f1), .val (.int t1), .val (.int f2), .val (.int t2), .val (.ref b5), .val (.ref b8), .val (.ref b11), .val (.ref b14), .val (.ref b17), .val (.ref b19), .val (.ref b21), .val (.ref b23), .val (.ref b25), .val (.ref b27), .val (.int fe), .val (.int (1 : Int32)), .val .null, .val (.int (0 : Int32)), .val (.int (1 : Int32))] [(.ref b25)])) (fun t k => XS.aload X33.here hx rfl (hb hby at_358) rfl rfl k) ?_
    refine Goes.to (T' := T33.setTop (mkF m 362 #[.val (.long q0), .second, .val (.long q1), .second, .val (.long q2), .second, .val (.long q3), .second, .val (.int p4), .val (.int p5), .val (.long c2), .second, .val (.long d2), .second, .val (.int f1), .val (.int t1), .val (.int f2), .val (.int t2), .val (.ref b5), .val (.ref b8), .val (.ref b11), .val (.ref b14), .val (.ref b17), .val (.ref b19), .val (.ref b21), .val (.ref b23), .val (.ref b25), .val (.ref b27), .val (.int fe), .val (.int (1 : Int32)), .val .null, .val (.int (0 : Int32)), .val (.int (1 : Int32))] [(.ref b25), (.ref b25)])) (fun t k => XS.aload X33.here hx rfl (hb hby at_360) rfl rfl k) ?_
    obtain ⟨cq34, kq34, q34a, q34b, q34c⟩ := isOf hZ e33 E_b25
    obtain ⟨_, _, ⟨T34, L34, k34, n34⟩, -, X34, ⟨Lc34, hQ34, l34, y34, z34⟩, st34⟩ := X33.virtualBack hx (y := (⟨"com/example/inman/inman/Move", "equals", "(Ljava/lang/Object;)Z"⟩ : MethodName)) (z := (⟨"com/example/inman/inman/Move", "equals", "(Ljava/lang/Object;)Z"⟩ : MethodName)) hown (mvT hZ (hw _ (List.mem_of_getElem? (i := 45) rfl))) (mvT hZ (hw _ (List.mem_of_getElem? (i := 46) rfl))) (notFace_of_selects (args := #[]) (mvT hZ (hw _ (List.mem_of_getElem? (i := 48) rfl)))) (mvT hZ (hw _ (List.mem_of_getElem? (i := 48) rfl))) (mvT hZ (hw _ (List.mem_of_getElem? (i := 47) rfl))) (by decide) (backOf (W := 0) (rmMS l Z a0 hw [] b25 z_cs q0 q1 b17 b19 hC n0 OC NF E_b25 F_first_b25 F_last_b25 F_from_b25 F_to_b25 E_b17 E_b19) hZ (hw _ (List.mem_of_getElem? (i := 49) rfl)) (hw _ (List.mem_of_getElem? (i := 32) rfl)) (by decide) (by decide)) q34a q34c (g := (mkF m 362 #[.val (.long q0), .second, .val (.long q1), .second, .val (.long q2), .second, .val (.long q3), .second, .val (.int p4), .val (.int p5), .val (.long c2), .second, .val (.long d2), .second, .val (.int f1), .val (.int t1), .val (.int f2), .val (.int t2), .val (.ref b5), .val (.ref b8), .val (.ref b11), .val (.ref b14), .val (.ref b17), .val (.ref b19), .val (.ref b21), .val (.ref b23), .val (.ref b25), .val (.ref b27), .val (.int fe), .val (.int (1 : Int32)), .val .null, .val (.int (0 : Int32)), .val (.int (1 : Int32))] [(.ref b25), (.ref b25)])) rfl (by rw [hml]; rfl) (Steps.refl _) (argsL := [(.ref b25)]) (rest := []) (lenOf pd_73 rfl) rfl (by show 2 * 0 + _ ≤ _; exact Nat.le_of_eq rfl) (hb hby at_362) (fun _ _ => ⟨rfl, e33, (by decide : 14 + 0 ≤ _), (by decide : 32 + 0 ≤ _)⟩)
    dsimp only [Pt.U, Pt.locs, Pt.cells, Pt.slots] at X34 l34 y34 z34 st34 hQ34
    subst l34 y34 z34
    obtain ⟨rfl, Nq34, e34⟩ := hQ34
    have N34 := Fr.app N33 Nq34
    refine Goes.thru (T' := T34.setTop (mkF m 365 #[.val (.long q0), .second, .val (.long q1), .second, .val (.long q2), .second, .val (.long q3), .second, .val (.int p4), .val (.int p5), .val (.long c2), .second, .val (.long d2), .second, .val (.int f1), .val (.int t1), .val (.int f2), .val (.int t2), .val (.ref b5), .val (.ref b8), .val (.ref b11), .val (.ref b14), .val (.ref b17), .val (.ref b19), .val (.ref b21), .val (.ref b23), .val (.ref b25), .val (.ref b27), .val (.int fe), .val (.int (1 : Int32)), .val .null, .val (.int (0 : Int32)), .val (.int (1 : Int32))] [(.int (1 : Int32))])) st34 ?_
    refine Goes.to (T' := T34.setTop (mkF m 368 #[.val (.long q0), .second, .val (.long q1), .second, .val (.long q2), .second, .val (.long q3), .second, .val (.int p4), .val (.int p5), .val (.long c2), .second, .val (.long d2), .second, .val (.int f1), .val (.int t1), .val (.int f2), .val (.int t2), .val (.ref b5), .val (.ref b8), .val (.ref b11), .val (.ref b14), .val (.ref b17), .val (.ref b19), .val (.ref b21), .val (.ref b23), .val (.ref b25), .val (.ref b27), .val (.int fe), .val (.int (1 : Int32)), .val .null, .val (.int (0 : Int32)), .val (.int (1 : Int32))] [])) (fun t k => XS.ifNo X34.here hx rfl (hb hby at_365) rfl ((if0 _ _).trans (feq (by decide)).1) k) ?_
    refine Goes.to (T' := T34.setTop (mkF m 369 #[.val (.long q0), .second, .val (.long q1), .second, .val (.long q2), .second, .val (.long q3), .second, .val (.int p4), .val (.int p5), .val (.long c2), .second, .val (.long d2), .second, .val (.int f1), .val (.int t1), .val (.int f2), .val (.int t2), .val (.ref b5), .val (.ref b8), .val (.ref b11), .val (.ref b14), .val (.ref b17), .val (.ref b19), .val (.ref b21), .val (.ref b23), .val (.ref b25), .val (.ref b27), .val (.int fe), .val (.int (1 : Int32)), .val .null, .val (.int (0 : Int32)), .val (.int (1 : Int32))] [(.int (1 : Int32))])) (fun t k => XS.iconst X34.here hx rfl (hb hby at_368) k) ?_
    refine Goes.to (T' := T34.setTop (mkF m 373 #[.val (.long q0), .second, .val (.long q1), .second, .val (.long q2), .second, .val (.long q3), .second, .val (.int p4), .val (.int p5), .val (.long c2), .second, .val (.long d2), .second, .val (.int f1), .val (.int t1), .val (.int f2), .val (.int t2), .val (.ref b5), .val (.ref b8), .val (.ref b11), .val (.ref b14), .val (.ref b17), .val (.ref b19), .val (.ref b21), .val (.ref b23), .val (.ref b25), .val (.ref b27), .val (.int fe), .val (.int (1 : Int32)), .val .null, .val (.int (0 : Int32)), .val (.int (1 : Int32))] [(.int (1 : Int32))])) (fun t k => XS.goto X34.here hx rfl (pc0 := 369) (pc' := 373) rfl (hb hby at_369) (by decide) (by decide) k) ?_
    obtain ⟨fs, hrL, hrun, hended, hW, hsame⟩ := X34.leave (v := some (.int (1 : Int32))) (fun h => by rw [Bd.returns] at h; cases h)
    subst hQf
    refine ⟨_, _, retN X34 hx (t := .boolean) Bd.returns (by simp) (hb hby at_373) hrL, hrun, hended, _, _, rfl, ?_, ⟨_, rfl⟩, hW, hsame.mono (by decide) (by decide)⟩
    show (fun (v : Option Value) (h : Heap) (L : List Loc) => v = some (.int 1) ∧ Fr n0 L) (some (.int (1 : Int32))) T34.heap _
    rw [e34]
    exact ⟨rfl, N34⟩
  · rw [hv_29]
    refine Goes.to (T' := TC.setTop (mkF m 263 #[.val (.long q0), .second, .val (.long q1), .second, .val (.long q2), .second, .val (.long q3), .second, .val (.int p4), .val (.int p5), .val (.long c2), .second, .val (.long d2), .second, .val (.int f1), .val (.int t1), .val (.int f2), .val (.int t2), .val (.ref b5), .val (.ref b8), .val (.ref b11), .val (.ref b14), .val (.ref b17), .val (.ref b19), .val (.ref b21), .val (.ref b23), .val (.ref b25), .val (.ref b27), .val (.int fe), .val (.int (2 : Int32)), .unset, .unset, .unset] [])) (fun t k => XS.istore XC.here hx rfl (hb hby at_261) rfl (l' := #[.val (.long q0), .second, .val (.long q1), .second, .val (.long q2), .second, .val (.long q3), .second, .val (.int p4), .val (.int p5), .val (.long c2), .second, .val (.long d2), .second, .val (.int f1), .val (.int t1), .val (.int f2), .val (.int t2), .val (.ref b5), .val (.ref b8), .val (.ref b11), .val (.ref b14), .val (.ref b17), .val (.ref b19), .val (.ref b21), .val (.ref b23), .val (.ref b25), .val (.ref b27), .val (.int fe), .val (.int (2 : Int32)), .unset, .unset, .unset]) rfl k) ?_
    refine Goes.to (T' := TC.setTop (mkF m 265 #[.val (.long q0), .second, .val (.long q1), .second, .val (.long q2), .second, .val (.long q3), .second, .val (.int p4), .val (.int p5), .val (.long c2), .second, .val (.long d2), .second, .val (.int f1), .val (.int t1), .val (.int f2), .val (.int t2), .val (.ref b5), .val (.ref b8), .val (.ref b11), .val (.ref b14), .val (.ref b17), .val (.ref b19), .val (.ref b21), .val (.ref b23), .val (.ref b25), .val (.ref b27), .val (.int fe), .val (.int (2 : Int32)), .unset, .unset, .unset] [(.ref b27)])) (fun t k => XS.aload XC.here hx rfl (hb hby at_263) rfl rfl k) ?_
    refine Goes.to (T' := TC.setTop (mkF m 267 #[.val (.long q0), .second, .val (.long q1), .second, .val (.long q2), .second, .val (.long q3), .second, .val (.int p4), .val (.int p5), .val (.long c2), .second, .val (.long d2), .second, .val (.int f1), .val (.int t1), .val (.int f2), .val (.int t2), .val (.ref b5), .val (.ref b8), .val (.ref b11), .val (.ref b14), .val (.ref b17), .val (.ref b19), .val (.ref b21), .val (.ref b23), .val (.ref b25), .val (.ref b27), .val (.int fe), .val (.int (2 : Int32)), .val (.ref b27), .unset, .unset] [])) (fun t k => XS.astore XC.here hx rfl (hb hby at_265) rfl rfl (l' := #[.val (.long q0), .second, .val (.long q1), .second, .val (.long q2), .second, .val (.long q3), .second, .val (.int p4), .val (.int p5), .val (.long c2), .second, .val (.long d2), .second, .val (.int f1), .val (.int t1), .val (.int f2), .val (.int t2), .val (.ref b5), .val (.ref b8), .val (.ref b11), .val (.ref b14), .val (.ref b17), .val (.ref b19), .val (.ref b21), .val (.ref b23), .val (.ref b25), .val (.ref b27), .val (.int fe), .val (.int (2 : Int32)), .val (.ref b27), .unset, .unset]) rfl k) ?_
    refine Goes.to (T' := TC.setTop (mkF m 269 #[.val (.long q0), .second, .val (.long q1), .second, .val (.long q2), .second, .val (.long q3), .second, .val (.int p4), .val (.int p5), .val (.long c2), .second, .val (.long d2), .second, .val (.int f1), .val (.int t1), .val (.int f2), .val (.int t2), .val (.ref b5), .val (.ref b8), .val (.ref b11), .val (.ref b14), .val (.ref b17), .val (.ref b19), .val (.ref b21), .val (.ref b23), .val (.ref b25), .val (.ref b27), .val (.int fe), .val (.int (2 : Int32)), .val (.ref b27), .unset, .unset] [(.int fe)])) (fun t k => XS.iload XC.here hx rfl (hb hby at_267) rfl k) ?_
    refine Goes.to (T' := TC.setTop (mkF m 271 #[.val (.long q0), .second, .val (.long q1), .second, .val (.long q2), .second, .val (.long q3), .second, .val (.int p4), .val (.int p5), .val (.long c2), .second, .val (.long d2), .second, .val (.int f1), .val (.int t1), .val (.int f2), .val (.int t2), .val (.ref b5), .val (.ref b8), .val (.ref b11), .val (.ref b14), .val (.ref b17), .val (.ref b19), .val (.ref b21), .val (.ref b23), .val (.ref b25), .val (.ref b27), .val (.int fe), .val (.int (2 : Int32)), .val (.ref b27), .val (.int fe), .unset] [])) (fun t k => XS.istore XC.here hx rfl (hb hby at_269) rfl (l' := #[.val (.long q0), .second, .val (.long q1), .second, .val (.long q2), .second, .val (.long q3), .second, .val (.int p4), .val (.int p5), .val (.long c2), .second, .val (.long d2), .second, .val (.int f1), .val (.int t1), .val (.int f2), .val (.int t2), .val (.ref b5), .val (.ref b8), .val (.ref b11), .val (.ref b14), .val (.ref b17), .val (.ref b19), .val (.ref b21), .val (.ref b23), .val (.ref b25), .val (.ref b27), .val (.int fe), .val (.int (2 : Int32)), .val (.ref b27), .val (.int fe), .unset]) rfl k) ?_
    refine Goes.to (T' := TC.setTop (mkF m 273 #[.val (.long q0), .second, .val (.long q1), .second, .val (.long q2), .second, .val (.long q3), .second, .val (.int p4), .val (.int p5), .val (.long c2), .second, .val (.long d2), .second, .val (.int f1), .val (.int t1), .val (.int f2), .val (.int t2), .val (.ref b5), .val (.ref b8), .val (.ref b11), .val (.ref b14), .val (.ref b17), .val (.ref b19), .val (.ref b21), .val (.ref b23), .val (.ref b25), .val (.ref b27), .val (.int fe), .val (.int (2 : Int32)), .val (.ref b27), .val (.int fe), .unset] [(.int (2 : Int32))])) (fun t k => XS.iload XC.here hx rfl (hb hby at_271) rfl k) ?_
    refine Goes.to (T' := TC.setTop (mkF m 274 #[.val (.long q0), .second, .val (.long q1), .second, .val (.long q2), .second, .val (.long q3), .second, .val (.int p4), .val (.int p5), .val (.long c2), .second, .val (.long d2), .second, .val (.int f1), .val (.int t1), .val (.int f2), .val (.int t2), .val (.ref b5), .val (.ref b8), .val (.ref b11), .val (.ref b14), .val (.ref b17), .val (.ref b19), .val (.ref b21), .val (.ref b23), .val (.ref b25), .val (.ref b27), .val (.int fe), .val (.int (2 : Int32)), .val (.ref b27), .val (.int fe), .unset] [(.int (1 : Int32)), (.int (2 : Int32))])) (fun t k => XS.iconst XC.here hx rfl (hb hby at_273) k) ?_
    refine Goes.to (T' := TC.setTop (mkF m 286 #[.val (.long q0), .second, .val (.long q1), .second, .val (.long q2), .second, .val (.long q3), .second, .val (.int p4), .val (.int p5), .val (.long c2), .second, .val (.long d2), .second, .val (.int f1), .val (.int t1), .val (.int f2), .val (.int t2), .val (.ref b5), .val (.ref b8), .val (.ref b11), .val (.ref b14), .val (.ref b17), .val (.ref b19), .val (.ref b21), .val (.ref b23), .val (.ref b25), .val (.ref b27), .val (.int fe), .val (.int (2 : Int32)), .val (.ref b27), .val (.int fe), .unset] [])) (fun t k => XS.icmpYes XC.here hx rfl (pc0 := 274) (pc' := 286) rfl (hb hby at_274) rfl (feq (by decide)).2 (by decide) (by decide) k) ?_
    refine Goes.to (T' := TC.setTop (mkF m 288 #[.val (.long q0), .second, .val (.long q1), .second, .val (.long q2), .second, .val (.long q3), .second, .val (.int p4), .val (.int p5), .val (.long c2), .second, .val (.long d2), .second, .val (.int f1), .val (.int t1), .val (.int f2), .val (.int t2), .val (.ref b5), .val (.ref b8), .val (.ref b11), .val (.ref b14), .val (.ref b17), .val (.ref b19), .val (.ref b21), .val (.ref b23), .val (.ref b25), .val (.ref b27), .val (.int fe), .val (.int (2 : Int32)), .val (.ref b27), .val (.int fe), .unset] [(.int (2 : Int32))])) (fun t k => XS.iload XC.here hx rfl (hb hby at_286) rfl k) ?_
    refine Goes.to (T' := TC.setTop (mkF m 289 #[.val (.long q0), .second, .val (.long q1), .second, .val (.long q2), .second, .val (.long q3), .second, .val (.int p4), .val (.int p5), .val (.long c2), .second, .val (.long d2), .second, .val (.int f1), .val (.int t1), .val (.int f2), .val (.int t2), .val (.ref b5), .val (.ref b8), .val (.ref b11), .val (.ref b14), .val (.ref b17), .val (.ref b19), .val (.ref b21), .val (.ref b23), .val (.ref b25), .val (.ref b27), .val (.int fe), .val (.int (2 : Int32)), .val (.ref b27), .val (.int fe), .unset] [(.int (2 : Int32)), (.int (2 : Int32))])) (fun t k => XS.iconst XC.here hx rfl (hb hby at_288) k) ?_
    refine Goes.to (T' := TC.setTop (mkF m 292 #[.val (.long q0), .second, .val (.long q1), .second, .val (.long q2), .second, .val (.long q3), .second, .val (.int p4), .val (.int p5), .val (.long c2), .second, .val (.long d2), .second, .val (.int f1), .val (.int t1), .val (.int f2), .val (.int t2), .val (.ref b5), .val (.ref b8), .val (.ref b11), .val (.ref b14), .val (.ref b17), .val (.ref b19), .val (.ref b21), .val (.ref b23), .val (.ref b25), .val (.ref b27), .val (.int fe), .val (.int (2 : Int32)), .val (.ref b27), .val (.int fe), .unset] [])) (fun t k => XS.icmpNo XC.here hx rfl (hb hby at_289) rfl (teq (by decide)).2 k) ?_
    refine Goes.to (T' := TC.setTop (mkF m 294 #[.val (.long q0), .second, .val (.long q1), .second, .val (.long q2), .second, .val (.long q3), .second, .val (.int p4), .val (.int p5), .val (.long c2), .second, .val (.long d2), .second, .val (.int f1), .val (.int t1), .val (.int f2), .val (.int t2), .val (.ref b5), .val (.ref b8), .val (.ref b11), .val (.ref b14), .val (.ref b17), .val (.ref b19), .val (.ref b21), .val (.ref b23), .val (.ref b25), .val (.ref b27), .val (.int fe), .val (.int (2 : Int32)), .val (.ref b27), .val (.int fe), .unset] [(.ref b21)])) (fun t k => XS.aload XC.here hx rfl (hb hby at_292) rfl rfl k) ?_
    refine Goes.to (T' := TC.setTop (mkF m 296 #[.val (.long q0), .second, .val (.long q1), .second, .val (.long q2), .second, .val (.long q3), .second, .val (.int p4), .val (.int p5), .val (.long c2), .second, .val (.long d2), .second, .val (.int f1), .val (.int t1), .val (.int f2), .val (.int t2), .val (.ref b5), .val (.ref b8), .val (.ref b11), .val (.ref b14), .val (.ref b17), .val (.ref b19), .val (.ref b21), .val (.ref b23), .val (.ref b25), .val (.ref b27), .val (.int fe), .val (.int (2 : Int32)), .val (.ref b21), .val (.int fe), .unset] [])) (fun t k => XS.astore XC.here hx rfl (hb hby at_294) rfl rfl (l' := #[.val (.long q0), .second, .val (.long q1), .second, .val (.long q2), .second, .val (.long q3), .second, .val (.int p4), .val (.int p5), .val (.long c2), .second, .val (.long d2), .second, .val (.int f1), .val (.int t1), .val (.int f2), .val (.int t2), .val (.ref b5), .val (.ref b8), .val (.ref b11), .val (.ref b14), .val (.ref b17), .val (.ref b19), .val (.ref b21), .val (.ref b23), .val (.ref b25), .val (.ref b27), .val (.int fe), .val (.int (2 : Int32)), .val (.ref b21), .val (.int fe), .unset]) rfl k) ?_
    refine Goes.to (T' := TC.setTop (mkF m 297 #[.val (.long q0), .second, .val (.long q1), .second, .val (.long q2), .second, .val (.long q3), .second, .val (.int p4), .val (.int p5), .val (.long c2), .second, .val (.long d2), .second, .val (.int f1), .val (.int t1), .val (.int f2), .val (.int t2), .val (.ref b5), .val (.ref b8), .val (.ref b11), .val (.ref b14), .val (.ref b17), .val (.ref b19), .val (.ref b21), .val (.ref b23), .val (.ref b25), .val (.ref b27), .val (.int fe), .val (.int (2 : Int32)), .val (.ref b21), .val (.int fe), .unset] [(.int (0 : Int32))])) (fun t k => XS.iconst XC.here hx rfl (hb hby at_296) k) ?_
    refine Goes.to (T' := TC.setTop (mkF m 299 #[.val (.long q0), .second, .val (.long q1), .second, .val (.long q2), .second, .val (.long q3), .second, .val (.int p4), .val (.int p5), .val (.long c2), .second, .val (.long d2), .second, .val (.int f1), .val (.int t1), .val (.int f2), .val (.int t2), .val (.ref b5), .val (.ref b8), .val (.ref b11), .val (.ref b14), .val (.ref b17), .val (.ref b19), .val (.ref b21), .val (.ref b23), .val (.ref b25), .val (.ref b27), .val (.int fe), .val (.int (2 : Int32)), .val (.ref b21), .val (.int (0 : Int32)), .unset] [])) (fun t k => XS.istore XC.here hx rfl (hb hby at_297) rfl (l' := #[.val (.long q0), .second, .val (.long q1), .second, .val (.long q2), .second, .val (.long q3), .second, .val (.int p4), .val (.int p5), .val (.long c2), .second, .val (.long d2), .second, .val (.int f1), .val (.int t1), .val (.int f2), .val (.int t2), .val (.ref b5), .val (.ref b8), .val (.ref b11), .val (.ref b14), .val (.ref b17), .val (.ref b19), .val (.ref b21), .val (.ref b23), .val (.ref b25), .val (.ref b27), .val (.int fe), .val (.int (2 : Int32)), .val (.ref b21), .val (.int (0 : Int32)), .unset]) rfl k) ?_
    refine Goes.to (T' := TC.setTop (mkF m 301 #[.val (.long q0), .second, .val (.long q1), .second, .val (.long q2), .second, .val (.long q3), .second, .val (.int p4), .val (.int p5), .val (.long c2), .second, .val (.long d2), .second, .val (.int f1), .val (.int t1), .val (.int f2), .val (.int t2), .val (.ref b5), .val (.ref b8), .val (.ref b11), .val (.ref b14), .val (.ref b17), .val (.ref b19), .val (.ref b21), .val (.ref b23), .val (.ref b25), .val (.ref b27), .val (.int fe), .val (.int (2 : Int32)), .val (.ref b21), .val (.int (0 : Int32)), .unset] [(.ref b25)])) (fun t k => XS.aload XC.here hx rfl (hb hby at_299) rfl rfl k) ?_
    refine Goes.to (T' := TC.setTop (mkF m 303 #[.val (.long q0), .second, .val (.long q1), .second, .val (.long q2), .second, .val (.long q3), .second, .val (.int p4), .val (.int p5), .val (.long c2), .second, .val (.long d2), .second, .val (.int f1), .val (.int t1), .val (.int f2), .val (.int t2), .val (.ref b5), .val (.ref b8), .val (.ref b11), .val (.ref b14), .val (.ref b17), .val (.ref b19), .val (.ref b21), .val (.ref b23), .val (.ref b25), .val (.ref b27), .val (.int fe), .val (.int (2 : Int32)), .val (.ref b21), .val (.int (0 : Int32)), .unset] [(.ref b21), (.ref b25)])) (fun t k => XS.aload XC.here hx rfl (hb hby at_301) rfl rfl k) ?_
    obtain ⟨cq35, kq35, q35a, q35b, q35c⟩ := isOf hZ eC E_b25
    obtain ⟨_, _, ⟨T35, L35, k35, n35⟩, -, X35, ⟨Lc35, hQ35, l35, y35, z35⟩, st35⟩ := XC.virtualBack hx (y := (⟨"com/example/inman/inman/Move", "equals", "(Ljava/lang/Object;)Z"⟩ : MethodName)) (z := (⟨"com/example/inman/inman/Move", "equals", "(Ljava/lang/Object;)Z"⟩ : MethodName)) hown (mvT hZ (hw _ (List.mem_of_getElem? (i := 45) rfl))) (mvT hZ (hw _ (List.mem_of_getElem? (i := 46) rfl))) (notFace_of_selects (args := #[]) (mvT hZ (hw _ (List.mem_of_getElem? (i := 48) rfl)))) (mvT hZ (hw _ (List.mem_of_getElem? (i := 48) rfl))) (mvT hZ (hw _ (List.mem_of_getElem? (i := 47) rfl))) (by decide) (backOf (W := 0) (rmMI0 l Z a0 hw [] b25 b21 z_cs  hC n0 OC NF E_b21) hZ (hw _ (List.mem_of_getElem? (i := 49) rfl)) (hw _ (List.mem_of_getElem? (i := 32) rfl)) (by decide) (by decide)) q35a q35c (g := (mkF m 303 #[.val (.long q0), .second, .val (.long q1), .second, .val (.long q2), .second, .val (.long q3), .second, .val (.int p4), .val (.int p5), .val (.long c2), .second, .val (.long d2), .second, .val (.int f1), .val (.int t1), .val (.int f2), .val (.int t2), .val (.ref b5), .val (.ref b8), .val (.ref b11), .val (.ref b14), .val (.ref b17), .val (.ref b19), .val (.ref b21), .val (.ref b23), .val (.ref b25), .val (.ref b27), .val (.int fe), .val (.int (2 : Int32)), .val (.ref b21), .val (.int (0 : Int32)), .unset] [(.ref b21), (.ref b25)])) rfl (by rw [hml]; rfl) (Steps.refl _) (argsL := [(.ref b21)]) (rest := []) (lenOf pd_73 rfl) rfl (by show 2 * 0 + _ ≤ _; exact Nat.le_of_eq rfl) (hb hby at_303) (fun _ _ => ⟨rfl, eC, (by decide : 14 + 0 ≤ _), (by decide : 32 + 0 ≤ _)⟩)
    dsimp only [Pt.U, Pt.locs, Pt.cells, Pt.slots] at X35 l35 y35 z35 st35 hQ35
    subst l35 y35 z35
    obtain ⟨rfl, Nq35, e35⟩ := hQ35
    have N35 := Fr.app NC Nq35
    refine Goes.thru (T' := T35.setTop (mkF m 306 #[.val (.long q0), .second, .val (.long q1), .second, .val (.long q2), .second, .val (.long q3), .second, .val (.int p4), .val (.int p5), .val (.long c2), .second, .val (.long d2), .second, .val (.int f1), .val (.int t1), .val (.int f2), .val (.int t2), .val (.ref b5), .val (.ref b8), .val (.ref b11), .val (.ref b14), .val (.ref b17), .val (.ref b19), .val (.ref b21), .val (.ref b23), .val (.ref b25), .val (.ref b27), .val (.int fe), .val (.int (2 : Int32)), .val (.ref b21), .val (.int (0 : Int32)), .unset] [(.int (0 : Int32))])) st35 ?_
    refine Goes.to (T' := T35.setTop (mkF m 308 #[.val (.long q0), .second, .val (.long q1), .second, .val (.long q2), .second, .val (.long q3), .second, .val (.int p4), .val (.int p5), .val (.long c2), .second, .val (.long d2), .second, .val (.int f1), .val (.int t1), .val (.int f2), .val (.int t2), .val (.ref b5), .val (.ref b8), .val (.ref b11), .val (.ref b14), .val (.ref b17), .val (.ref b19), .val (.ref b21), .val (.ref b23), .val (.ref b25), .val (.ref b27), .val (.int fe), .val (.int (2 : Int32)), .val (.ref b21), .val (.int (0 : Int32)), .unset] [(.int (0 : Int32)), (.int (0 : Int32))])) (fun t k => XS.iload X35.here hx rfl (hb hby at_306) rfl k) ?_
    refine Goes.to (T' := T35.setTop (mkF m 311 #[.val (.long q0), .second, .val (.long q1), .second, .val (.long q2), .second, .val (.long q3), .second, .val (.int p4), .val (.int p5), .val (.long c2), .second, .val (.long d2), .second, .val (.int f1), .val (.int t1), .val (.int f2), .val (.int t2), .val (.ref b5), .val (.ref b8), .val (.ref b11), .val (.ref b14), .val (.ref b17), .val (.ref b19), .val (.ref b21), .val (.ref b23), .val (.ref b25), .val (.ref b27), .val (.int fe), .val (.int (2 : Int32)), .val (.ref b21), .val (.int (0 : Int32)), .unset] [])) (fun t k => XS.icmpNo X35.here hx rfl (hb hby at_308) rfl (teq (by decide)).2 k) ?_
    refine Goes.to (T' := T35.setTop (mkF m 312 #[.val (.long q0), .second, .val (.long q1), .second, .val (.long q2), .second, .val (.long q3), .second, .val (.int p4), .val (.int p5), .val (.long c2), .second, .val (.long d2), .second, .val (.int f1), .val (.int t1), .val (.int f2), .val (.int t2), .val (.ref b5), .val (.ref b8), .val (.ref b11), .val (.ref b14), .val (.ref b17), .val (.ref b19), .val (.ref b21), .val (.ref b23), .val (.ref b25), .val (.ref b27), .val (.int fe), .val (.int (2 : Int32)), .val (.ref b21), .val (.int (0 : Int32)), .unset] [(.int (1 : Int32))])) (fun t k => XS.iconst X35.here hx rfl (hb hby at_311) k) ?_
    refine Goes.to (T' := T35.setTop (mkF m 316 #[.val (.long q0), .second, .val (.long q1), .second, .val (.long q2), .second, .val (.long q3), .second, .val (.int p4), .val (.int p5), .val (.long c2), .second, .val (.long d2), .second, .val (.int f1), .val (.int t1), .val (.int f2), .val (.int t2), .val (.ref b5), .val (.ref b8), .val (.ref b11), .val (.ref b14), .val (.ref b17), .val (.ref b19), .val (.ref b21), .val (.ref b23), .val (.ref b25), .val (.ref b27), .val (.int fe), .val (.int (2 : Int32)), .val (.ref b21), .val (.int (0 : Int32)), .unset] [(.int (1 : Int32))])) (fun t k => XS.goto X35.here hx rfl (pc0 := 312) (pc' := 316) rfl (hb hby at_312) (by decide) (by decide) k) ?_
    refine Goes.to (T' := T35.setTop (mkF m 318 #[.val (.long q0), .second, .val (.long q1), .second, .val (.long q2), .second, .val (.long q3), .second, .val (.int p4), .val (.int p5), .val (.long c2), .second, .val (.long d2), .second, .val (.int f1), .val (.int t1), .val (.int f2), .val (.int t2), .val (.ref b5), .val (.ref b8), .val (.ref b11), .val (.ref b14), .val (.ref b17), .val (.ref b19), .val (.ref b21), .val (.ref b23), .val (.ref b25), .val (.ref b27), .val (.int fe), .val (.int (2 : Int32)), .val (.ref b21), .val (.int (0 : Int32)), .val (.int (1 : Int32))] [])) (fun t k => XS.istore X35.here hx rfl (hb hby at_316) rfl (l' := #[.val (.long q0), .second, .val (.long q1), .second, .val (.long q2), .second, .val (.long q3), .second, .val (.int p4), .val (.int p5), .val (.long c2), .second, .val (.long d2), .second, .val (.int f1), .val (.int t1), .val (.int f2), .val (.int t2), .val (.ref b5), .val (.ref b8), .val (.ref b11), .val (.ref b14), .val (.ref b17), .val (.ref b19), .val (.ref b21), .val (.ref b23), .val (.ref b25), .val (.ref b27), .val (.int fe), .val (.int (2 : Int32)), .val (.ref b21), .val (.int (0 : Int32)), .val (.int (1 : Int32))]) rfl k) ?_
    refine Goes.to (T' := T35.setTop (mkF m 320 #[.val (.long q0), .second, .val (.long q1), .second, .val (.long q2), .second, .val (.long q3), .second, .val (.int p4), .val (.int p5), .val (.long c2), .second, .val (.long d2), .second, .val (.int f1), .val (.int t1), .val (.int f2), .val (.int t2), .val (.ref b5), .val (.ref b8), .val (.ref b11), .val (.ref b14), .val (.ref b17), .val (.ref b19), .val (.ref b21), .val (.ref b23), .val (.ref b25), .val (.ref b27), .val (.int fe), .val (.int (2 : Int32)), .val (.ref b21), .val (.int (0 : Int32)), .val (.int (1 : Int32))] [(.int (2 : Int32))])) (fun t k => XS.iload X35.here hx rfl (hb hby at_318) rfl k) ?_
    refine Goes.to (T' := T35.setTop (mkF m 323 #[.val (.long q0), .second, .val (.long q1), .second, .val (.long q2), .second, .val (.long q3), .second, .val (.int p4), .val (.int p5), .val (.long c2), .second, .val (.long d2), .second, .val (.int f1), .val (.int t1), .val (.int f2), .val (.int t2), .val (.ref b5), .val (.ref b8), .val (.ref b11), .val (.ref b14), .val (.ref b17), .val (.ref b19), .val (.ref b21), .val (.ref b23), .val (.ref b25), .val (.ref b27), .val (.int fe), .val (.int (2 : Int32)), .val (.ref b21), .val (.int (0 : Int32)), .val (.int (1 : Int32))] [])) (fun t k => XS.ifNo X35.here hx rfl (hb hby at_320) rfl ((if0 _ _).trans (feq (by decide)).1) k) ?_
    refine Goes.to (T' := T35.setTop (mkF m 325 #[.val (.long q0), .second, .val (.long q1), .second, .val (.long q2), .second, .val (.long q3), .second, .val (.int p4), .val (.int p5), .val (.long c2), .second, .val (.long d2), .second, .val (.int f1), .val (.int t1), .val (.int f2), .val (.int t2), .val (.ref b5), .val (.ref b8), .val (.ref b11), .val (.ref b14), .val (.ref b17), .val (.ref b19), .val (.ref b21), .val (.ref b23), .val (.ref b25), .val (.ref b27), .val (.int fe), .val (.int (2 : Int32)), .val (.ref b21), .val (.int (0 : Int32)), .val (.int (1 : Int32))] [(.int (2 : Int32))])) (fun t k => XS.iload X35.here hx rfl (hb hby at_323) rfl k) ?_
    refine Goes.to (T' := T35.setTop (mkF m 326 #[.val (.long q0), .second, .val (.long q1), .second, .val (.long q2), .second, .val (.long q3), .second, .val (.int p4), .val (.int p5), .val (.long c2), .second, .val (.long d2), .second, .val (.int f1), .val (.int t1), .val (.int f2), .val (.int t2), .val (.ref b5), .val (.ref b8), .val (.ref b11), .val (.ref b14), .val (.ref b17), .val (.ref b19), .val (.ref b21), .val (.ref b23), .val (.ref b25), .val (.ref b27), .val (.int fe), .val (.int (2 : Int32)), .val (.ref b21), .val (.int (0 : Int32)), .val (.int (1 : Int32))] [(.int (3 : Int32)), (.int (2 : Int32))])) (fun t k => XS.iconst X35.here hx rfl (hb hby at_325) k) ?_
    refine Goes.to (T' := T35.setTop (mkF m 353 #[.val (.long q0), .second, .val (.long q1), .second, .val (.long q2), .second, .val (.long q3), .second, .val (.int p4), .val (.int p5), .val (.long c2), .second, .val (.long d2), .second, .val (.int f1), .val (.int t1), .val (.int f2), .val (.int t2), .val (.ref b5), .val (.ref b8), .val (.ref b11), .val (.ref b14), .val (.ref b17), .val (.ref b19), .val (.ref b21), .val (.ref b23), .val (.ref b25), .val (.ref b27), .val (.int fe), .val (.int (2 : Int32)), .val (.ref b21), .val (.int (0 : Int32)), .val (.int (1 : Int32))] [])) (fun t k => XS.icmpYes X35.here hx rfl (pc0 := 326) (pc' := 353) rfl (hb hby at_326) rfl (feq (by decide)).2 (by decide) (by decide) k) ?_
    refine Goes.to (T' := T35.setTop (mkF m 355 #[.val (.long q0), .second, .val (.long q1), .second, .val (.long q2), .second, .val (.long q3), .second, .val (.int p4), .val (.int p5), .val (.long c2), .second, .val (.long d2), .second, .val (.int f1), .val (.int t1), .val (.int f2), .val (.int t2), .val (.ref b5), .val (.ref b8), .val (.ref b11), .val (.ref b14), .val (.ref b17), .val (.ref b19), .val (.ref b21), .val (.ref b23), .val (.ref b25), .val (.ref b27), .val (.int fe), .val (.int (2 : Int32)), .val (.ref b21), .val (.int (0 : Int32)), .val (.int (1 : Int32))] [(.int (1 : Int32))])) (fun t k => XS.iload X35.here hx rfl (hb hby at_353) rfl k) ?_
    refine Goes.to (T' := T35.setTop (mkF m 358 #[.val (.long q0), .second, .val (.long q1), .second, .val (.long q2), .second, .val (.long q3), .second, .val (.int p4), .val (.int p5), .val (.long c2), .second, .val (.long d2), .second, .val (.int f1), .val (.int t1), .val (.int f2), .val (.int t2), .val (.ref b5), .val (.ref b8), .val (.ref b11), .val (.ref b14), .val (.ref b17), .val (.ref b19), .val (.ref b21), .val (.ref b23), .val (.ref b25), .val (.ref b27), .val (.int fe), .val (.int (2 : Int32)), .val (.ref b21), .val (.int (0 : Int32)), .val (.int (1 : Int32))] [])) (fun t k => XS.ifNo X35.here hx rfl (hb hby at_355) rfl ((if0 _ _).trans (feq (by decide)).1) k) ?_
    refine Goes.to (T' := T35.setTop (mkF m 360 #[.val (.long q0), .second, .val (.long q1), .second, .val (.long q2), .second, .val (.long q3), .second, .val (.int p4), .val (.int p5), .val (.long c2), .second, .val (.long d2), .second, .val (.int f1), .val (.int t1), .val (.int f2), .val (.int t2), .val (.ref b5), .val (.ref b8), .val (.ref b11), .val (.ref b14), .val (.ref b17), .val (.ref b19), .val (.ref b21), .val (.ref b23), .val (.ref b25), .val (.ref b27), .val (.int fe), .val (.int (2 : Int32)), .val (.ref b21), .val (.int (0 : Int32)), .val (.int (1 : Int32))] [(.ref b25)])) (fun t k => XS.aload X35.here hx rfl (hb hby at_358) rfl rfl k) ?_
    refine Goes.to (T' := T35.setTop (mkF m 362 #[.val (.long q0), .second, .val (.long q1), .second, .val (.long q2), .second, .val (.long q3), .second, .val (.int p4), .val (.int p5), .val (.long c2), .second, .val (.long d2), .second, .val (.int f1), .val (.int t1), .val (.int f2), .val (.int t2), .val (.ref b5), .val (.ref b8), .val (.ref b11), .val (.ref b14), .val (.ref b17), .val (.ref b19), .val (.ref b21), .val (.ref b23), .val (.ref b25), .val (.ref b27), .val (.int fe), .val (.int (2 : Int32)), .val (.ref b21), .val (.int (0 : Int32)), .val (.int (1 : Int32))] [(.ref b25), (.ref b25)])) (fun t k => XS.aload X35.here hx rfl (hb hby at_360) rfl rfl k) ?_
    obtain ⟨cq36, kq36, q36a, q36b, q36c⟩ := isOf hZ e35 E_b25
    obtain ⟨_, _, ⟨T36, L36, k36, n36⟩, -, X36, ⟨Lc36, hQ36, l36, y36, z36⟩, st36⟩ := X35.virtualBack hx (y := (⟨"com/example/inman/inman/Move", "equals", "(Ljava/lang/Object;)Z"⟩ : MethodName)) (z := (⟨"com/example/inman/inman/Move", "equals", "(Ljava/lang/Object;)Z"⟩ : MethodName)) hown (mvT hZ (hw _ (List.mem_of_getElem? (i := 45) rfl))) (mvT hZ (hw _ (List.mem_of_getElem? (i := 46) rfl))) (notFace_of_selects (args := #[]) (mvT hZ (hw _ (List.mem_of_getElem? (i := 48) rfl)))) (mvT hZ (hw _ (List.mem_of_getElem? (i := 48) rfl))) (mvT hZ (hw _ (List.mem_of_getElem? (i := 47) rfl))) (by decide) (backOf (W := 0) (rmMS l Z a0 hw [] b25 z_cs q0 q1 b17 b19 hC n0 OC NF E_b25 F_first_b25 F_last_b25 F_from_b25 F_to_b25 E_b17 E_b19) hZ (hw _ (List.mem_of_getElem? (i := 49) rfl)) (hw _ (List.mem_of_getElem? (i := 32) rfl)) (by decide) (by decide)) q36a q36c (g := (mkF m 362 #[.val (.long q0), .second, .val (.long q1), .second, .val (.long q2), .second, .val (.long q3), .second, .val (.int p4), .val (.int p5), .val (.long c2), .second, .val (.long d2), .second, .val (.int f1), .val (.int t1), .val (.int f2), .val (.int t2), .val (.ref b5), .val (.ref b8), .val (.ref b11), .val (.ref b14), .val (.ref b17), .val (.ref b19), .val (.ref b21), .val (.ref b23), .val (.ref b25), .val (.ref b27), .val (.int fe), .val (.int (2 : Int32)), .val (.ref b21), .val (.int (0 : Int32)), .val (.int (1 : Int32))] [(.ref b25), (.ref b25)])) rfl (by rw [hml]; rfl) (Steps.refl _) (argsL := [(.ref b25)]) (rest := []) (lenOf pd_73 rfl) rfl (by show 2 * 0 + _ ≤ _; exact Nat.le_of_eq rfl) (hb hby at_362) (fun _ _ => ⟨rfl, e35, (by decide : 14 + 0 ≤ _), (by decide : 32 + 0 ≤ _)⟩)
    dsimp only [Pt.U, Pt.locs, Pt.cells, Pt.slots] at X36 l36 y36 z36 st36 hQ36
    subst l36 y36 z36
    obtain ⟨rfl, Nq36, e36⟩ := hQ36
    have N36 := Fr.app N35 Nq36
    refine Goes.thru (T' := T36.setTop (mkF m 365 #[.val (.long q0), .second, .val (.long q1), .second, .val (.long q2), .second, .val (.long q3), .second, .val (.int p4), .val (.int p5), .val (.long c2), .second, .val (.long d2), .second, .val (.int f1), .val (.int t1), .val (.int f2), .val (.int t2), .val (.ref b5), .val (.ref b8), .val (.ref b11), .val (.ref b14), .val (.ref b17), .val (.ref b19), .val (.ref b21), .val (.ref b23), .val (.ref b25), .val (.ref b27), .val (.int fe), .val (.int (2 : Int32)), .val (.ref b21), .val (.int (0 : Int32)), .val (.int (1 : Int32))] [(.int (1 : Int32))])) st36 ?_
    refine Goes.to (T' := T36.setTop (mkF m 368 #[.val (.long q0), .second, .val (.long q1), .second, .val (.long q2), .second, .val (.long q3), .second, .val (.int p4), .val (.int p5), .val (.long c2), .second, .val (.long d2), .second, .val (.int f1), .val (.int t1), .val (.int f2), .val (.int t2), .val (.ref b5), .val (.ref b8), .val (.ref b11), .val (.ref b14), .val (.ref b17), .val (.ref b19), .val (.ref b21), .val (.ref b23), .val (.ref b25), .val (.ref b27), .val (.int fe), .val (.int (2 : Int32)), .val (.ref b21), .val (.int (0 : Int32)), .val (.int (1 : Int32))] [])) (fun t k => XS.ifNo X36.here hx rfl (hb hby at_365) rfl ((if0 _ _).trans (feq (by decide)).1) k) ?_
    refine Goes.to (T' := T36.setTop (mkF m 369 #[.val (.long q0), .second, .val (.long q1), .second, .val (.long q2), .second, .val (.long q3), .second, .val (.int p4), .val (.int p5), .val (.long c2), .second, .val (.long d2), .second, .val (.int f1), .val (.int t1), .val (.int f2), .val (.int t2), .val (.ref b5), .val (.ref b8), .val (.ref b11), .val (.ref b14), .val (.ref b17), .val (.ref b19), .val (.ref b21), .val (.ref b23), .val (.ref b25), .val (.ref b27), .val (.int fe), .val (.int (2 : Int32)), .val (.ref b21), .val (.int (0 : Int32)), .val (.int (1 : Int32))] [(.int (1 : Int32))])) (fun t k => XS.iconst X36.here hx rfl (hb hby at_368) k) ?_
    refine Goes.to (T' := T36.setTop (mkF m 373 #[.val (.long q0), .second, .val (.long q1), .second, .val (.long q2), .second, .val (.long q3), .second, .val (.int p4), .val (.int p5), .val (.long c2), .second, .val (.long d2), .second, .val (.int f1), .val (.int t1), .val (.int f2), .val (.int t2), .val (.ref b5), .val (.ref b8), .val (.ref b11), .val (.ref b14), .val (.ref b17), .val (.ref b19), .val (.ref b21), .val (.ref b23), .val (.ref b25), .val (.ref b27), .val (.int fe), .val (.int (2 : Int32)), .val (.ref b21), .val (.int (0 : Int32)), .val (.int (1 : Int32))] [(.int (1 : Int32))])) (fun t k => XS.goto X36.here hx rfl (pc0 := 369) (pc' := 373) rfl (hb hby at_369) (by decide) (by decide) k) ?_
    obtain ⟨fs, hrL, hrun, hended, hW, hsame⟩ := X36.leave (v := some (.int (1 : Int32))) (fun h => by rw [Bd.returns] at h; cases h)
    subst hQf
    refine ⟨_, _, retN X36 hx (t := .boolean) Bd.returns (by simp) (hb hby at_373) hrL, hrun, hended, _, _, rfl, ?_, ⟨_, rfl⟩, hW, hsame.mono (by decide) (by decide)⟩
    show (fun (v : Option Value) (h : Heap) (L : List Loc) => v = some (.int 1) ∧ Fr n0 L) (some (.int (1 : Int32))) T36.heap _
    rw [e36]
    exact ⟨rfl, N36⟩
  · rw [hv_29]
    refine Goes.to (T' := TC.setTop (mkF m 263 #[.val (.long q0), .second, .val (.long q1), .second, .val (.long q2), .second, .val (.long q3), .second, .val (.int p4), .val (.int p5), .val (.long c2), .second, .val (.long d2), .second, .val (.int f1), .val (.int t1), .val (.int f2), .val (.int t2), .val (.ref b5), .val (.ref b8), .val (.ref b11), .val (.ref b14), .val (.ref b17), .val (.ref b19), .val (.ref b21), .val (.ref b23), .val (.ref b25), .val (.ref b27), .val (.int fe), .val (.int (3 : Int32)), .unset, .unset, .unset] [])) (fun t k => XS.istore XC.here hx rfl (hb hby at_261) rfl (l' := #[.val (.long q0), .second, .val (.long q1), .second, .val (.long q2), .second, .val (.long q3), .second, .val (.int p4), .val (.int p5), .val (.long c2), .second, .val (.long d2), .second, .val (.int f1), .val (.int t1), .val (.int f2), .val (.int t2), .val (.ref b5), .val (.ref b8), .val (.ref b11), .val (.ref b14), .val (.ref b17), .val (.ref b19), .val (.ref b21), .val (.ref b23), .val (.ref b25), .val (.ref b27), .val (.int fe), .val (.int (3 : Int32)), .unset, .unset, .unset]) rfl k) ?_
    refine Goes.to (T' := TC.setTop (mkF m 265 #[.val (.long q0), .second, .val (.long q1), .second, .val (.long q2), .second, .val (.long q3), .second, .val (.int p4), .val (.int p5), .val (.long c2), .second, .val (.long d2), .second, .val (.int f1), .val (.int t1), .val (.int f2), .val (.int t2), .val (.ref b5), .val (.ref b8), .val (.ref b11), .val (.ref b14), .val (.ref b17), .val (.ref b19), .val (.ref b21), .val (.ref b23), .val (.ref b25), .val (.ref b27), .val (.int fe), .val (.int (3 : Int32)), .unset, .unset, .unset] [(.ref b27)])) (fun t k => XS.aload XC.here hx rfl (hb hby at_263) rfl rfl k) ?_
    refine Goes.to (T' := TC.setTop (mkF m 267 #[.val (.long q0), .second, .val (.long q1), .second, .val (.long q2), .second, .val (.long q3), .second, .val (.int p4), .val (.int p5), .val (.long c2), .second, .val (.long d2), .second, .val (.int f1), .val (.int t1), .val (.int f2), .val (.int t2), .val (.ref b5), .val (.ref b8), .val (.ref b11), .val (.ref b14), .val (.ref b17), .val (.ref b19), .val (.ref b21), .val (.ref b23), .val (.ref b25), .val (.ref b27), .val (.int fe), .val (.int (3 : Int32)), .val (.ref b27), .unset, .unset] [])) (fun t k => XS.astore XC.here hx rfl (hb hby at_265) rfl rfl (l' := #[.val (.long q0), .second, .val (.long q1), .second, .val (.long q2), .second, .val (.long q3), .second, .val (.int p4), .val (.int p5), .val (.long c2), .second, .val (.long d2), .second, .val (.int f1), .val (.int t1), .val (.int f2), .val (.int t2), .val (.ref b5), .val (.ref b8), .val (.ref b11), .val (.ref b14), .val (.ref b17), .val (.ref b19), .val (.ref b21), .val (.ref b23), .val (.ref b25), .val (.ref b27), .val (.int fe), .val (.int (3 : Int32)), .val (.ref b27), .unset, .unset]) rfl k) ?_
    refine Goes.to (T' := TC.setTop (mkF m 269 #[.val (.long q0), .second, .val (.long q1), .second, .val (.long q2), .second, .val (.long q3), .second, .val (.int p4), .val (.int p5), .val (.long c2), .second, .val (.long d2), .second, .val (.int f1), .val (.int t1), .val (.int f2), .val (.int t2), .val (.ref b5), .val (.ref b8), .val (.ref b11), .val (.ref b14), .val (.ref b17), .val (.ref b19), .val (.ref b21), .val (.ref b23), .val (.ref b25), .val (.ref b27), .val (.int fe), .val (.int (3 : Int32)), .val (.ref b27), .unset, .unset] [(.int fe)])) (fun t k => XS.iload XC.here hx rfl (hb hby at_267) rfl k) ?_
    refine Goes.to (T' := TC.setTop (mkF m 271 #[.val (.long q0), .second, .val (.long q1), .second, .val (.long q2), .second, .val (.long q3), .second, .val (.int p4), .val (.int p5), .val (.long c2), .second, .val (.long d2), .second, .val (.int f1), .val (.int t1), .val (.int f2), .val (.int t2), .val (.ref b5), .val (.ref b8), .val (.ref b11), .val (.ref b14), .val (.ref b17), .val (.ref b19), .val (.ref b21), .val (.ref b23), .val (.ref b25), .val (.ref b27), .val (.int fe), .val (.int (3 : Int32)), .val (.ref b27), .val (.int fe), .unset] [])) (fun t k => XS.istore XC.here hx rfl (hb hby at_269) rfl (l' := #[.val (.long q0), .second, .val (.long q1), .second, .val (.long q2), .second, .val (.long q3), .second, .val (.int p4), .val (.int p5), .val (.long c2), .second, .val (.long d2), .second, .val (.int f1), .val (.int t1), .val (.int f2), .val (.int t2), .val (.ref b5), .val (.ref b8), .val (.ref b11), .val (.ref b14), .val (.ref b17), .val (.ref b19), .val (.ref b21), .val (.ref b23), .val (.ref b25), .val (.ref b27), .val (.int fe), .val (.int (3 : Int32)), .val (.ref b27), .val (.int fe), .unset]) rfl k) ?_
    refine Goes.to (T' := TC.setTop (mkF m 273 #[.val (.long q0), .second, .val (.long q1), .second, .val (.long q2), .second, .val (.long q3), .second, .val (.int p4), .val (.int p5), .val (.long c2), .second, .val (.long d2), .second, .val (.int f1), .val (.int t1), .val (.int f2), .val (.int t2), .val (.ref b5), .val (.ref b8), .val (.ref b11), .val (.ref b14), .val (.ref b17), .val (.ref b19), .val (.ref b21), .val (.ref b23), .val (.ref b25), .val (.ref b27), .val (.int fe), .val (.int (3 : Int32)), .val (.ref b27), .val (.int fe), .unset] [(.int (3 : Int32))])) (fun t k => XS.iload XC.here hx rfl (hb hby at_271) rfl k) ?_
    refine Goes.to (T' := TC.setTop (mkF m 274 #[.val (.long q0), .second, .val (.long q1), .second, .val (.long q2), .second, .val (.long q3), .second, .val (.int p4), .val (.int p5), .val (.long c2), .second, .val (.long d2), .second, .val (.int f1), .val (.int t1), .val (.int f2), .val (.int t2), .val (.ref b5), .val (.ref b8), .val (.ref b11), .val (.ref b14), .val (.ref b17), .val (.ref b19), .val (.ref b21), .val (.ref b23), .val (.ref b25), .val (.ref b27), .val (.int fe), .val (.int (3 : Int32)), .val (.ref b27), .val (.int fe), .unset] [(.int (1 : Int32)), (.int (3 : Int32))])) (fun t k => XS.iconst XC.here hx rfl (hb hby at_273) k) ?_
    refine Goes.to (T' := TC.setTop (mkF m 286 #[.val (.long q0), .second, .val (.long q1), .second, .val (.long q2), .second, .val (.long q3), .second, .val (.int p4), .val (.int p5), .val (.long c2), .second, .val (.long d2), .second, .val (.int f1), .val (.int t1), .val (.int f2), .val (.int t2), .val (.ref b5), .val (.ref b8), .val (.ref b11), .val (.ref b14), .val (.ref b17), .val (.ref b19), .val (.ref b21), .val (.ref b23), .val (.ref b25), .val (.ref b27), .val (.int fe), .val (.int (3 : Int32)), .val (.ref b27), .val (.int fe), .unset] [])) (fun t k => XS.icmpYes XC.here hx rfl (pc0 := 274) (pc' := 286) rfl (hb hby at_274) rfl (feq (by decide)).2 (by decide) (by decide) k) ?_
    refine Goes.to (T' := TC.setTop (mkF m 288 #[.val (.long q0), .second, .val (.long q1), .second, .val (.long q2), .second, .val (.long q3), .second, .val (.int p4), .val (.int p5), .val (.long c2), .second, .val (.long d2), .second, .val (.int f1), .val (.int t1), .val (.int f2), .val (.int t2), .val (.ref b5), .val (.ref b8), .val (.ref b11), .val (.ref b14), .val (.ref b17), .val (.ref b19), .val (.ref b21), .val (.ref b23), .val (.ref b25), .val (.ref b27), .val (.int fe), .val (.int (3 : Int32)), .val (.ref b27), .val (.int fe), .unset] [(.int (3 : Int32))])) (fun t k => XS.iload XC.here hx rfl (hb hby at_286) rfl k) ?_
    refine Goes.to (T' := TC.setTop (mkF m 289 #[.val (.long q0), .second, .val (.long q1), .second, .val (.long q2), .second, .val (.long q3), .second, .val (.int p4), .val (.int p5), .val (.long c2), .second, .val (.long d2), .second, .val (.int f1), .val (.int t1), .val (.int f2), .val (.int t2), .val (.ref b5), .val (.ref b8), .val (.ref b11), .val (.ref b14), .val (.ref b17), .val (.ref b19), .val (.ref b21), .val (.ref b23), .val (.ref b25), .val (.ref b27), .val (.int fe), .val (.int (3 : Int32)), .val (.ref b27), .val (.int fe), .unset] [(.int (2 : Int32)), (.int (3 : Int32))])) (fun t k => XS.iconst XC.here hx rfl (hb hby at_288) k) ?_
    refine Goes.to (T' := TC.setTop (mkF m 299 #[.val (.long q0), .second, .val (.long q1), .second, .val (.long q2), .second, .val (.long q3), .second, .val (.int p4), .val (.int p5), .val (.long c2), .second, .val (.long d2), .second, .val (.int f1), .val (.int t1), .val (.int f2), .val (.int t2), .val (.ref b5), .val (.ref b8), .val (.ref b11), .val (.ref b14), .val (.ref b17), .val (.ref b19), .val (.ref b21), .val (.ref b23), .val (.ref b25), .val (.ref b27), .val (.int fe), .val (.int (3 : Int32)), .val (.ref b27), .val (.int fe), .unset] [])) (fun t k => XS.icmpYes XC.here hx rfl (pc0 := 289) (pc' := 299) rfl (hb hby at_289) rfl (feq (by decide)).2 (by decide) (by decide) k) ?_
    refine Goes.to (T' := TC.setTop (mkF m 301 #[.val (.long q0), .second, .val (.long q1), .second, .val (.long q2), .second, .val (.long q3), .second, .val (.int p4), .val (.int p5), .val (.long c2), .second, .val (.long d2), .second, .val (.int f1), .val (.int t1), .val (.int f2), .val (.int t2), .val (.ref b5), .val (.ref b8), .val (.ref b11), .val (.ref b14), .val (.ref b17), .val (.ref b19), .val (.ref b21), .val (.ref b23), .val (.ref b25), .val (.ref b27), .val (.int fe), .val (.int (3 : Int32)), .val (.ref b27), .val (.int fe), .unset] [(.ref b25)])) (fun t k => XS.aload XC.here hx rfl (hb hby at_299) rfl rfl k) ?_
    refine Goes.to (T' := TC.setTop (mkF m 303 #[.val (.long q0), .second, .val (.long q1), .second, .val (.long q2), .second, .val (.long q3), .second, .val (.int p4), .val (.int p5), .val (.long c2), .second, .val (.long d2), .second, .val (.int f1), .val (.int t1), .val (.int f2), .val (.int t2), .val (.ref b5), .val (.ref b8), .val (.ref b11), .val (.ref b14), .val (.ref b17), .val (.ref b19), .val (.ref b21), .val (.ref b23), .val (.ref b25), .val (.ref b27), .val (.int fe), .val (.int (3 : Int32)), .val (.ref b27), .val (.int fe), .unset] [(.ref b27), (.ref b25)])) (fun t k => XS.aload XC.here hx rfl (hb hby at_301) rfl rfl k) ?_
    obtain ⟨cq37, kq37, q37a, q37b, q37c⟩ := isOf hZ eC E_b25
    obtain ⟨_, _, ⟨T37, L37, k37, n37⟩, -, X37, ⟨Lc37, hQ37, l37, y37, z37⟩, st37⟩ := XC.virtualBack hx (y := (⟨"com/example/inman/inman/Move", "equals", "(Ljava/lang/Object;)Z"⟩ : MethodName)) (z := (⟨"com/example/inman/inman/Move", "equals", "(Ljava/lang/Object;)Z"⟩ : MethodName)) hown (mvT hZ (hw _ (List.mem_of_getElem? (i := 45) rfl))) (mvT hZ (hw _ (List.mem_of_getElem? (i := 46) rfl))) (notFace_of_selects (args := #[]) (mvT hZ (hw _ (List.mem_of_getElem? (i := 48) rfl)))) (mvT hZ (hw _ (List.mem_of_getElem? (i := 48) rfl))) (mvT hZ (hw _ (List.mem_of_getElem? (i := 47) rfl))) (by decide) (backOf (W := 0) (rmME l Z a0 hw [] b25 b27 z_cs q0 q1 c2 d2 b17 b21 b19 b23 t18 t22 t20 t24 kb18 kb22 kb20 kb24 (f1.toInt8.toInt32) (f2.toInt8.toInt32) (t1.toInt8.toInt32) (t2.toInt8.toInt32) fe hC n0 OC NF E_b27 F_first_b25 F_last_b25 F_from_b25 F_to_b25 F_first_b27 F_last_b27 F_from_b27 F_to_b27 E_b17 F_coder_b17 F_value_b17 E_b21 F_coder_b21 F_value_b21 E_b19 F_coder_b19 F_value_b19 E_b23 F_coder_b23 F_value_b23 V_t18 V_t22 V_t20 V_t24 ne_b17_b21 ne_b19_b23 (own_fe1 hfe (own_b8 h_f1 h_f2) (own_b8 h_t1 h_t2))) hZ (hw _ (List.mem_of_getElem? (i := 49) rfl)) (hw _ (List.mem_of_getElem? (i := 32) rfl)) (by decide) (by decide)) q37a q37c (g := (mkF m 303 #[.val (.long q0), .second, .val (.long q1), .second, .val (.long q2), .second, .val (.long q3), .second, .val (.int p4), .val (.int p5), .val (.long c2), .second, .val (.long d2), .second, .val (.int f1), .val (.int t1), .val (.int f2), .val (.int t2), .val (.ref b5), .val (.ref b8), .val (.ref b11), .val (.ref b14), .val (.ref b17), .val (.ref b19), .val (.ref b21), .val (.ref b23), .val (.ref b25), .val (.ref b27), .val (.int fe), .val (.int (3 : Int32)), .val (.ref b27), .val (.int fe), .unset] [(.ref b27), (.ref b25)])) rfl (by rw [hml]; rfl) (Steps.refl _) (argsL := [(.ref b27)]) (rest := []) (lenOf pd_73 rfl) rfl (by show 2 * 0 + _ ≤ _; exact Nat.le_of_eq rfl) (hb hby at_303) (fun _ _ => ⟨rfl, eC, (by decide : 14 + 0 ≤ _), (by decide : 32 + 0 ≤ _)⟩)
    dsimp only [Pt.U, Pt.locs, Pt.cells, Pt.slots] at X37 l37 y37 z37 st37 hQ37
    subst l37 y37 z37
    obtain ⟨rfl, Nq37, e37⟩ := hQ37
    have N37 := Fr.app NC Nq37
    refine Goes.thru (T' := T37.setTop (mkF m 306 #[.val (.long q0), .second, .val (.long q1), .second, .val (.long q2), .second, .val (.long q3), .second, .val (.int p4), .val (.int p5), .val (.long c2), .second, .val (.long d2), .second, .val (.int f1), .val (.int t1), .val (.int f2), .val (.int t2), .val (.ref b5), .val (.ref b8), .val (.ref b11), .val (.ref b14), .val (.ref b17), .val (.ref b19), .val (.ref b21), .val (.ref b23), .val (.ref b25), .val (.ref b27), .val (.int fe), .val (.int (3 : Int32)), .val (.ref b27), .val (.int fe), .unset] [(.int fe)])) st37 ?_
    refine Goes.to (T' := T37.setTop (mkF m 308 #[.val (.long q0), .second, .val (.long q1), .second, .val (.long q2), .second, .val (.long q3), .second, .val (.int p4), .val (.int p5), .val (.long c2), .second, .val (.long d2), .second, .val (.int f1), .val (.int t1), .val (.int f2), .val (.int t2), .val (.ref b5), .val (.ref b8), .val (.ref b11), .val (.ref b14), .val (.ref b17), .val (.ref b19), .val (.ref b21), .val (.ref b23), .val (.ref b25), .val (.ref b27), .val (.int fe), .val (.int (3 : Int32)), .val (.ref b27), .val (.int fe), .unset] [(.int fe), (.int fe)])) (fun t k => XS.iload X37.here hx rfl (hb hby at_306) rfl k) ?_
    refine Goes.to (T' := T37.setTop (mkF m 311 #[.val (.long q0), .second, .val (.long q1), .second, .val (.long q2), .second, .val (.long q3), .second, .val (.int p4), .val (.int p5), .val (.long c2), .second, .val (.long d2), .second, .val (.int f1), .val (.int t1), .val (.int f2), .val (.int t2), .val (.ref b5), .val (.ref b8), .val (.ref b11), .val (.ref b14), .val (.ref b17), .val (.ref b19), .val (.ref b21), .val (.ref b23), .val (.ref b25), .val (.ref b27), .val (.int fe), .val (.int (3 : Int32)), .val (.ref b27), .val (.int fe), .unset] [])) (fun t k => XS.icmpNo X37.here hx rfl (hb hby at_308) rfl (teq rfl).2 k) ?_
    refine Goes.to (T' := T37.setTop (mkF m 312 #[.val (.long q0), .second, .val (.long q1), .second, .val (.long q2), .second, .val (.long q3), .second, .val (.int p4), .val (.int p5), .val (.long c2), .second, .val (.long d2), .second, .val (.int f1), .val (.int t1), .val (.int f2), .val (.int t2), .val (.ref b5), .val (.ref b8), .val (.ref b11), .val (.ref b14), .val (.ref b17), .val (.ref b19), .val (.ref b21), .val (.ref b23), .val (.ref b25), .val (.ref b27), .val (.int fe), .val (.int (3 : Int32)), .val (.ref b27), .val (.int fe), .unset] [(.int (1 : Int32))])) (fun t k => XS.iconst X37.here hx rfl (hb hby at_311) k) ?_
    refine Goes.to (T' := T37.setTop (mkF m 316 #[.val (.long q0), .second, .val (.long q1), .second, .val (.long q2), .second, .val (.long q3), .second, .val (.int p4), .val (.int p5), .val (.long c2), .second, .val (.long d2), .second, .val (.int f1), .val (.int t1), .val (.int f2), .val (.int t2), .val (.ref b5), .val (.ref b8), .val (.ref b11), .val (.ref b14), .val (.ref b17), .val (.ref b19), .val (.ref b21), .val (.ref b23), .val (.ref b25), .val (.ref b27), .val (.int fe), .val (.int (3 : Int32)), .val (.ref b27), .val (.int fe), .unset] [(.int (1 : Int32))])) (fun t k => XS.goto X37.here hx rfl (pc0 := 312) (pc' := 316) rfl (hb hby at_312) (by decide) (by decide) k) ?_
    refine Goes.to (T' := T37.setTop (mkF m 318 #[.val (.long q0), .second, .val (.long q1), .second, .val (.long q2), .second, .val (.long q3), .second, .val (.int p4), .val (.int p5), .val (.long c2), .second, .val (.long d2), .second, .val (.int f1), .val (.int t1), .val (.int f2), .val (.int t2), .val (.ref b5), .val (.ref b8), .val (.ref b11), .val (.ref b14), .val (.ref b17), .val (.ref b19), .val (.ref b21), .val (.ref b23), .val (.ref b25), .val (.ref b27), .val (.int fe), .val (.int (3 : Int32)), .val (.ref b27), .val (.int fe), .val (.int (1 : Int32))] [])) (fun t k => XS.istore X37.here hx rfl (hb hby at_316) rfl (l' := #[.val (.long q0), .second, .val (.long q1), .second, .val (.long q2), .second, .val (.long q3), .second, .val (.int p4), .val (.int p5), .val (.long c2), .second, .val (.long d2), .second, .val (.int f1), .val (.int t1), .val (.int f2), .val (.int t2), .val (.ref b5), .val (.ref b8), .val (.ref b11), .val (.ref b14), .val (.ref b17), .val (.ref b19), .val (.ref b21), .val (.ref b23), .val (.ref b25), .val (.ref b27), .val (.int fe), .val (.int (3 : Int32)), .val (.ref b27), .val (.int fe), .val (.int (1 : Int32))]) rfl k) ?_
    refine Goes.to (T' := T37.setTop (mkF m 320 #[.val (.long q0), .second, .val (.long q1), .second, .val (.long q2), .second, .val (.long q3), .second, .val (.int p4), .val (.int p5), .val (.long c2), .second, .val (.long d2), .second, .val (.int f1), .val (.int t1), .val (.int f2), .val (.int t2), .val (.ref b5), .val (.ref b8), .val (.ref b11), .val (.ref b14), .val (.ref b17), .val (.ref b19), .val (.ref b21), .val (.ref b23), .val (.ref b25), .val (.ref b27), .val (.int fe), .val (.int (3 : Int32)), .val (.ref b27), .val (.int fe), .val (.int (1 : Int32))] [(.int (3 : Int32))])) (fun t k => XS.iload X37.here hx rfl (hb hby at_318) rfl k) ?_
    refine Goes.to (T' := T37.setTop (mkF m 323 #[.val (.long q0), .second, .val (.long q1), .second, .val (.long q2), .second, .val (.long q3), .second, .val (.int p4), .val (.int p5), .val (.long c2), .second, .val (.long d2), .second, .val (.int f1), .val (.int t1), .val (.int f2), .val (.int t2), .val (.ref b5), .val (.ref b8), .val (.ref b11), .val (.ref b14), .val (.ref b17), .val (.ref b19), .val (.ref b21), .val (.ref b23), .val (.ref b25), .val (.ref b27), .val (.int fe), .val (.int (3 : Int32)), .val (.ref b27), .val (.int fe), .val (.int (1 : Int32))] [])) (fun t k => XS.ifNo X37.here hx rfl (hb hby at_320) rfl ((if0 _ _).trans (feq (by decide)).1) k) ?_
    refine Goes.to (T' := T37.setTop (mkF m 325 #[.val (.long q0), .second, .val (.long q1), .second, .val (.long q2), .second, .val (.long q3), .second, .val (.int p4), .val (.int p5), .val (.long c2), .second, .val (.long d2), .second, .val (.int f1), .val (.int t1), .val (.int f2), .val (.int t2), .val (.ref b5), .val (.ref b8), .val (.ref b11), .val (.ref b14), .val (.ref b17), .val (.ref b19), .val (.ref b21), .val (.ref b23), .val (.ref b25), .val (.ref b27), .val (.int fe), .val (.int (3 : Int32)), .val (.ref b27), .val (.int fe), .val (.int (1 : Int32))] [(.int (3 : Int32))])) (fun t k => XS.iload X37.here hx rfl (hb hby at_323) rfl k) ?_
    refine Goes.to (T' := T37.setTop (mkF m 326 #[.val (.long q0), .second, .val (.long q1), .second, .val (.long q2), .second, .val (.long q3), .second, .val (.int p4), .val (.int p5), .val (.long c2), .second, .val (.long d2), .second, .val (.int f1), .val (.int t1), .val (.int f2), .val (.int t2), .val (.ref b5), .val (.ref b8), .val (.ref b11), .val (.ref b14), .val (.ref b17), .val (.ref b19), .val (.ref b21), .val (.ref b23), .val (.ref b25), .val (.ref b27), .val (.int fe), .val (.int (3 : Int32)), .val (.ref b27), .val (.int fe), .val (.int (1 : Int32))] [(.int (3 : Int32)), (.int (3 : Int32))])) (fun t k => XS.iconst X37.here hx rfl (hb hby at_325) k) ?_
    refine Goes.to (T' := T37.setTop (mkF m 329 #[.val (.long q0), .second, .val (.long q1), .second, .val (.long q2), .second, .val (.long q3), .second, .val (.int p4), .val (.int p5), .val (.long c2), .second, .val (.long d2), .second, .val (.int f1), .val (.int t1), .val (.int f2), .val (.int t2), .val (.ref b5), .val (.ref b8), .val (.ref b11), .val (.ref b14), .val (.ref b17), .val (.ref b19), .val (.ref b21), .val (.ref b23), .val (.ref b25), .val (.ref b27), .val (.int fe), .val (.int (3 : Int32)), .val (.ref b27), .val (.int fe), .val (.int (1 : Int32))] [])) (fun t k => XS.icmpNo X37.here hx rfl (hb hby at_326) rfl (teq (by decide)).2 k) ?_
    refine Goes.to (T' := T37.setTop (mkF m 331 #[.val (.long q0), .second, .val (.long q1), .second, .val (.long q2), .second, .val (.long q3), .second, .val (.int p4), .val (.int p5), .val (.long c2), .second, .val (.long d2), .second, .val (.int f1), .val (.int t1), .val (.int f2), .val (.int t2), .val (.ref b5), .val (.ref b8), .val (.ref b11), .val (.ref b14), .val (.ref b17), .val (.ref b19), .val (.ref b21), .val (.ref b23), .val (.ref b25), .val (.ref b27), .val (.int fe), .val (.int (3 : Int32)), .val (.ref b27), .val (.int fe), .val (.int (1 : Int32))] [(.int (1 : Int32))])) (fun t k => XS.iload X37.here hx rfl (hb hby at_329) rfl k) ?_
    refine Goes.to (T' := T37.setTop (mkF m 334 #[.val (.long q0), .second, .val (.long q1), .second, .val (.long q2), .second, .val (.long q3), .second, .val (.int p4), .val (.int p5), .val (.long c2), .second, .val (.long d2), .second, .val (.int f1), .val (.int t1), .val (.int f2), .val (.int t2), .val (.ref b5), .val (.ref b8), .val (.ref b11), .val (.ref b14), .val (.ref b17), .val (.ref b19), .val (.ref b21), .val (.ref b23), .val (.ref b25), .val (.ref b27), .val (.int fe), .val (.int (3 : Int32)), .val (.ref b27), .val (.int fe), .val (.int (1 : Int32))] [])) (fun t k => XS.ifNo X37.here hx rfl (hb hby at_331) rfl ((if0 _ _).trans (feq (by decide)).1) k) ?_
    refine Goes.to (T' := T37.setTop (mkF m 336 #[.val (.long q0), .second, .val (.long q1), .second, .val (.long q2), .second, .val (.long q3), .second, .val (.int p4), .val (.int p5), .val (.long c2), .second, .val (.long d2), .second, .val (.int f1), .val (.int t1), .val (.int f2), .val (.int t2), .val (.ref b5), .val (.ref b8), .val (.ref b11), .val (.ref b14), .val (.ref b17), .val (.ref b19), .val (.ref b21), .val (.ref b23), .val (.ref b25), .val (.ref b27), .val (.int fe), .val (.int (3 : Int32)), .val (.ref b27), .val (.int fe), .val (.int (1 : Int32))] [(.ref b27)])) (fun t k => XS.aload X37.here hx rfl (hb hby at_334) rfl rfl k) ?_
    refine Goes.to (T' := T37.setTop (mkF m 338 #[.val (.long q0), .second, .val (.long q1), .second, .val (.long q2), .second, .val (.long q3), .second, .val (.int p4), .val (.int p5), .val (.long c2), .second, .val (.long d2), .second, .val (.int f1), .val (.int t1), .val (.int f2), .val (.int t2), .val (.ref b5), .val (.ref b8), .val (.ref b11), .val (.ref b14), .val (.ref b17), .val (.ref b19), .val (.ref b21), .val (.ref b23), .val (.ref b25), .val (.ref b27), .val (.int fe), .val (.int (3 : Int32)), .val (.ref b27), .val (.int fe), .val (.int (1 : Int32))] [(.ref b25), (.ref b27)])) (fun t k => XS.aload X37.here hx rfl (hb hby at_336) rfl rfl k) ?_
    obtain ⟨cq38, kq38, q38a, q38b, q38c⟩ := isOf hZ e37 E_b27
    obtain ⟨_, _, ⟨T38, L38, k38, n38⟩, -, X38, ⟨Lc38, hQ38, l38, y38, z38⟩, st38⟩ := X37.virtualBack hx (y := (⟨"com/example/inman/inman/Move", "equals", "(Ljava/lang/Object;)Z"⟩ : MethodName)) (z := (⟨"com/example/inman/inman/Move", "equals", "(Ljava/lang/Object;)Z"⟩ : MethodName)) hown (mvT hZ (hw _ (List.mem_of_getElem? (i := 45) rfl))) (mvT hZ (hw _ (List.mem_of_getElem? (i := 46) rfl))) (notFace_of_selects (args := #[]) (mvT hZ (hw _ (List.mem_of_getElem? (i := 48) rfl)))) (mvT hZ (hw _ (List.mem_of_getElem? (i := 48) rfl))) (mvT hZ (hw _ (List.mem_of_getElem? (i := 47) rfl))) (by decide) (backOf (W := 0) (rmME l Z a0 hw [] b27 b25 z_cs c2 d2 q0 q1 b21 b17 b23 b19 t22 t18 t24 t20 kb22 kb18 kb24 kb20 (f2.toInt8.toInt32) (f1.toInt8.toInt32) (t2.toInt8.toInt32) (t1.toInt8.toInt32) fe hC n0 OC NF E_b25 F_first_b27 F_last_b27 F_from_b27 F_to_b27 F_first_b25 F_last_b25 F_from_b25 F_to_b25 E_b21 F_coder_b21 F_value_b21 E_b17 F_coder_b17 F_value_b17 E_b23 F_coder_b23 F_value_b23 E_b19 F_coder_b19 F_value_b19 V_t22 V_t18 V_t24 V_t20 ne_b21_b17 ne_b23_b19 (own_fe2 hfe (own_b8 h_f1 h_f2) (own_b8 h_t1 h_t2))) hZ (hw _ (List.mem_of_getElem? (i := 49) rfl)) (hw _ (List.mem_of_getElem? (i := 32) rfl)) (by decide) (by decide)) q38a q38c (g := (mkF m 338 #[.val (.long q0), .second, .val (.long q1), .second, .val (.long q2), .second, .val (.long q3), .second, .val (.int p4), .val (.int p5), .val (.long c2), .second, .val (.long d2), .second, .val (.int f1), .val (.int t1), .val (.int f2), .val (.int t2), .val (.ref b5), .val (.ref b8), .val (.ref b11), .val (.ref b14), .val (.ref b17), .val (.ref b19), .val (.ref b21), .val (.ref b23), .val (.ref b25), .val (.ref b27), .val (.int fe), .val (.int (3 : Int32)), .val (.ref b27), .val (.int fe), .val (.int (1 : Int32))] [(.ref b25), (.ref b27)])) rfl (by rw [hml]; rfl) (Steps.refl _) (argsL := [(.ref b25)]) (rest := []) (lenOf pd_73 rfl) rfl (by show 2 * 0 + _ ≤ _; exact Nat.le_of_eq rfl) (hb hby at_338) (fun _ _ => ⟨rfl, e37, (by decide : 14 + 0 ≤ _), (by decide : 32 + 0 ≤ _)⟩)
    dsimp only [Pt.U, Pt.locs, Pt.cells, Pt.slots] at X38 l38 y38 z38 st38 hQ38
    subst l38 y38 z38
    obtain ⟨rfl, Nq38, e38⟩ := hQ38
    have N38 := Fr.app N37 Nq38
    refine Goes.thru (T' := T38.setTop (mkF m 341 #[.val (.long q0), .second, .val (.long q1), .second, .val (.long q2), .second, .val (.long q3), .second, .val (.int p4), .val (.int p5), .val (.long c2), .second, .val (.long d2), .second, .val (.int f1), .val (.int t1), .val (.int f2), .val (.int t2), .val (.ref b5), .val (.ref b8), .val (.ref b11), .val (.ref b14), .val (.ref b17), .val (.ref b19), .val (.ref b21), .val (.ref b23), .val (.ref b25), .val (.ref b27), .val (.int fe), .val (.int (3 : Int32)), .val (.ref b27), .val (.int fe), .val (.int (1 : Int32))] [(.int fe)])) st38 ?_
    refine Goes.to (T' := T38.setTop (mkF m 343 #[.val (.long q0), .second, .val (.long q1), .second, .val (.long q2), .second, .val (.long q3), .second, .val (.int p4), .val (.int p5), .val (.long c2), .second, .val (.long d2), .second, .val (.int f1), .val (.int t1), .val (.int f2), .val (.int t2), .val (.ref b5), .val (.ref b8), .val (.ref b11), .val (.ref b14), .val (.ref b17), .val (.ref b19), .val (.ref b21), .val (.ref b23), .val (.ref b25), .val (.ref b27), .val (.int fe), .val (.int (3 : Int32)), .val (.ref b27), .val (.int fe), .val (.int (1 : Int32))] [(.int fe), (.int fe)])) (fun t k => XS.iload X38.here hx rfl (hb hby at_341) rfl k) ?_
    refine Goes.to (T' := T38.setTop (mkF m 346 #[.val (.long q0), .second, .val (.long q1), .second, .val (.long q2), .second, .val (.long q3), .second, .val (.int p4), .val (.int p5), .val (.long c2), .second, .val (.long d2), .second, .val (.int f1), .val (.int t1), .val (.int f2), .val (.int t2), .val (.ref b5), .val (.ref b8), .val (.ref b11), .val (.ref b14), .val (.ref b17), .val (.ref b19), .val (.ref b21), .val (.ref b23), .val (.ref b25), .val (.ref b27), .val (.int fe), .val (.int (3 : Int32)), .val (.ref b27), .val (.int fe), .val (.int (1 : Int32))] [])) (fun t k => XS.icmpNo X38.here hx rfl (hb hby at_343) rfl (teq rfl).2 k) ?_
    refine Goes.to (T' := T38.setTop (mkF m 347 #[.val (.long q0), .second, .val (.long q1), .second, .val (.long q2), .second, .val (.long q3), .second, .val (.int p4), .val (.int p5), .val (.long c2), .second, .val (.long d2), .second, .val (.int f1), .val (.int t1), .val (.int f2), .val (.int t2), .val (.ref b5), .val (.ref b8), .val (.ref b11), .val (.ref b14), .val (.ref b17), .val (.ref b19), .val (.ref b21), .val (.ref b23), .val (.ref b25), .val (.ref b27), .val (.int fe), .val (.int (3 : Int32)), .val (.ref b27), .val (.int fe), .val (.int (1 : Int32))] [(.int (1 : Int32))])) (fun t k => XS.iconst X38.here hx rfl (hb hby at_346) k) ?_
    refine Goes.to (T' := T38.setTop (mkF m 351 #[.val (.long q0), .second, .val (.long q1), .second, .val (.long q2), .second, .val (.long q3), .second, .val (.int p4), .val (.int p5), .val (.long c2), .second, .val (.long d2), .second, .val (.int f1), .val (.int t1), .val (.int f2), .val (.int t2), .val (.ref b5), .val (.ref b8), .val (.ref b11), .val (.ref b14), .val (.ref b17), .val (.ref b19), .val (.ref b21), .val (.ref b23), .val (.ref b25), .val (.ref b27), .val (.int fe), .val (.int (3 : Int32)), .val (.ref b27), .val (.int fe), .val (.int (1 : Int32))] [(.int (1 : Int32))])) (fun t k => XS.goto X38.here hx rfl (pc0 := 347) (pc' := 351) rfl (hb hby at_347) (by decide) (by decide) k) ?_
    refine Goes.to (T' := T38.setTop (mkF m 353 #[.val (.long q0), .second, .val (.long q1), .second, .val (.long q2), .second, .val (.long q3), .second, .val (.int p4), .val (.int p5), .val (.long c2), .second, .val (.long d2), .second, .val (.int f1), .val (.int t1), .val (.int f2), .val (.int t2), .val (.ref b5), .val (.ref b8), .val (.ref b11), .val (.ref b14), .val (.ref b17), .val (.ref b19), .val (.ref b21), .val (.ref b23), .val (.ref b25), .val (.ref b27), .val (.int fe), .val (.int (3 : Int32)), .val (.ref b27), .val (.int fe), .val (.int (1 : Int32))] [])) (fun t k => XS.istore X38.here hx rfl (hb hby at_351) rfl (l' := #[.val (.long q0), .second, .val (.long q1), .second, .val (.long q2), .second, .val (.long q3), .second, .val (.int p4), .val (.int p5), .val (.long c2), .second, .val (.long d2), .second, .val (.int f1), .val (.int t1), .val (.int f2), .val (.int t2), .val (.ref b5), .val (.ref b8), .val (.ref b11), .val (.ref b14), .val (.ref b17), .val (.ref b19), .val (.ref b21), .val (.ref b23), .val (.ref b25), .val (.ref b27), .val (.int fe), .val (.int (3 : Int32)), .val (.ref b27), .val (.int fe), .val (.int (1 : Int32))]) rfl k) ?_
    refine Goes.to (T' := T38.setTop (mkF m 355 #[.val (.long q0), .second, .val (.long q1), .second, .val (.long q2), .second, .val (.long q3), .second, .val (.int p4), .val (.int p5), .val (.long c2), .second, .val (.long d2), .second, .val (.int f1), .val (.int t1), .val (.int f2), .val (.int t2), .val (.ref b5), .val (.ref b8), .val (.ref b11), .val (.ref b14), .val (.ref b17), .val (.ref b19), .val (.ref b21), .val (.ref b23), .val (.ref b25), .val (.ref b27), .val (.int fe), .val (.int (3 : Int32)), .val (.ref b27), .val (.int fe), .val (.int (1 : Int32))] [(.int (1 : Int32))])) (fun t k => XS.iload X38.here hx rfl (hb hby at_353) rfl k) ?_
    refine Goes.to (T' := T38.setTop (mkF m 358 #[.val (.long q0), .second, .val (.long q1), .second, .val (.long q2), .second, .val (.long q3), .second, .val (.int p4), .val (.int p5), .val (.long c2), .second, .val (.long d2), .second, .val (.int f1), .val (.int t1), .val (.int f2), .val (.int t2), .val (.ref b5), .val (.ref b8), .val (.ref b11), .val (.ref b14), .val (.ref b17), .val (.ref b19), .val (.ref b21), .val (.ref b23), .val (.ref b25), .val (.ref b27), .val (.int fe), .val (.int (3 : Int32)), .val (.ref b27), .val (.int fe), .val (.int (1 : Int32))] [])) (fun t k => XS.ifNo X38.here hx rfl (hb hby at_355) rfl ((if0 _ _).trans (feq (by decide)).1) k) ?_
    refine Goes.to (T' := T38.setTop (mkF m 360 #[.val (.long q0), .second, .val (.long q1), .second, .val (.long q2), .second, .val (.long q3), .second, .val (.int p4), .val (.int p5), .val (.long c2), .second, .val (.long d2), .second, .val (.int f1), .val (.int t1), .val (.int f2), .val (.int t2), .val (.ref b5), .val (.ref b8), .val (.ref b11), .val (.ref b14), .val (.ref b17), .val (.ref b19), .val (.ref b21), .val (.ref b23), .val (.ref b25), .val (.ref b27), .val (.int fe), .val (.int (3 : Int32)), .val (.ref b27), .val (.int fe), .val (.int (1 : Int32))] [(.ref b25)])) (fun t k => XS.aload X38.here hx rfl (hb hby at_358) rfl rfl k) ?_
    refine Goes.to (T' := T38.setTop (mkF m 362 #[.val (.long q0), .second, .val (.long q1), .second, .val (.long q2), .second, .val (.long q3), .second, .val (.int p4), .val (.int p5), .val (.long c2), .second, .val (.long d2), .second, .val (.int f1), .val (.int t1), .val (.int f2), .val (.int t2), .val (.ref b5), .val (.ref b8), .val (.ref b11), .val (.ref b14), .val (.ref b17), .val (.ref b19), .val (.ref b21), .val (.ref b23), .val (.ref b25), .val (.ref b27), .val (.int fe), .val (.int (3 : Int32)), .val (.ref b27), .val (.int fe), .val (.int (1 : Int32))] [(.ref b25), (.ref b25)])) (fun t k => XS.aload X38.here hx rfl (hb hby at_360) rfl rfl k) ?_
    obtain ⟨cq39, kq39, q39a, q39b, q39c⟩ := isOf hZ e38 E_b25
    obtain ⟨_, _, ⟨T39, L39, k39, n39⟩, -, X39, ⟨Lc39, hQ39, l39, y39, z39⟩, st39⟩ := X38.virtualBack hx (y := (⟨"com/example/inman/inman/Move", "equals", "(Ljava/lang/Object;)Z"⟩ : MethodName)) (z := (⟨"com/example/inman/inman/Move", "equals", "(Ljava/lang/Object;)Z"⟩ : MethodName)) hown (mvT hZ (hw _ (List.mem_of_getElem? (i := 45) rfl))) (mvT hZ (hw _ (List.mem_of_getElem? (i := 46) rfl))) (notFace_of_selects (args := #[]) (mvT hZ (hw _ (List.mem_of_getElem? (i := 48) rfl)))) (mvT hZ (hw _ (List.mem_of_getElem? (i := 48) rfl))) (mvT hZ (hw _ (List.mem_of_getElem? (i := 47) rfl))) (by decide) (backOf (W := 0) (rmMS l Z a0 hw [] b25 z_cs q0 q1 b17 b19 hC n0 OC NF E_b25 F_first_b25 F_last_b25 F_from_b25 F_to_b25 E_b17 E_b19) hZ (hw _ (List.mem_of_getElem? (i := 49) rfl)) (hw _ (List.mem_of_getElem? (i := 32) rfl)) (by decide) (by decide)) q39a q39c (g := (mkF m 362 #[.val (.long q0), .second, .val (.long q1), .second, .val (.long q2), .second, .val (.long q3), .second, .val (.int p4), .val (.int p5), .val (.long c2), .second, .val (.long d2), .second, .val (.int f1), .val (.int t1), .val (.int f2), .val (.int t2), .val (.ref b5), .val (.ref b8), .val (.ref b11), .val (.ref b14), .val (.ref b17), .val (.ref b19), .val (.ref b21), .val (.ref b23), .val (.ref b25), .val (.ref b27), .val (.int fe), .val (.int (3 : Int32)), .val (.ref b27), .val (.int fe), .val (.int (1 : Int32))] [(.ref b25), (.ref b25)])) rfl (by rw [hml]; rfl) (Steps.refl _) (argsL := [(.ref b25)]) (rest := []) (lenOf pd_73 rfl) rfl (by show 2 * 0 + _ ≤ _; exact Nat.le_of_eq rfl) (hb hby at_362) (fun _ _ => ⟨rfl, e38, (by decide : 14 + 0 ≤ _), (by decide : 32 + 0 ≤ _)⟩)
    dsimp only [Pt.U, Pt.locs, Pt.cells, Pt.slots] at X39 l39 y39 z39 st39 hQ39
    subst l39 y39 z39
    obtain ⟨rfl, Nq39, e39⟩ := hQ39
    have N39 := Fr.app N38 Nq39
    refine Goes.thru (T' := T39.setTop (mkF m 365 #[.val (.long q0), .second, .val (.long q1), .second, .val (.long q2), .second, .val (.long q3), .second, .val (.int p4), .val (.int p5), .val (.long c2), .second, .val (.long d2), .second, .val (.int f1), .val (.int t1), .val (.int f2), .val (.int t2), .val (.ref b5), .val (.ref b8), .val (.ref b11), .val (.ref b14), .val (.ref b17), .val (.ref b19), .val (.ref b21), .val (.ref b23), .val (.ref b25), .val (.ref b27), .val (.int fe), .val (.int (3 : Int32)), .val (.ref b27), .val (.int fe), .val (.int (1 : Int32))] [(.int (1 : Int32))])) st39 ?_
    refine Goes.to (T' := T39.setTop (mkF m 368 #[.val (.long q0), .second, .val (.long q1), .second, .val (.long q2), .second, .val (.long q3), .second, .val (.int p4), .val (.int p5), .val (.long c2), .second, .val (.long d2), .second, .val (.int f1), .val (.int t1), .val (.int f2), .val (.int t2), .val (.ref b5), .val (.ref b8), .val (.ref b11), .val (.ref b14), .val (.ref b17), .val (.ref b19), .val (.ref b21), .val (.ref b23), .val (.ref b25), .val (.ref b27), .val (.int fe), .val (.int (3 : Int32)), .val (.ref b27), .val (.int fe), .val (.int (1 : Int32))] [])) (fun t k => XS.ifNo X39.here hx rfl (hb hby at_365) rfl ((if0 _ _).trans (feq (by decide)).1) k) ?_
    refine Goes.to (T' := T39.setTop (mkF m 369 #[.val (.long q0), .second, .val (.long q1), .second, .val (.long q2), .second, .val (.long q3), .second, .val (.int p4), .val (.int p5), .val (.long c2), .second, .val (.long d2), .second, .val (.int f1), .val (.int t1), .val (.int f2), .val (.int t2), .val (.ref b5), .val (.ref b8), .val (.ref b11), .val (.ref b14), .val (.ref b17), .val (.ref b19), .val (.ref b21), .val (.ref b23), .val (.ref b25), .val (.ref b27), .val (.int fe), .val (.int (3 : Int32)), .val (.ref b27), .val (.int fe), .val (.int (1 : Int32))] [(.int (1 : Int32))])) (fun t k => XS.iconst X39.here hx rfl (hb hby at_368) k) ?_
    refine Goes.to (T' := T39.setTop (mkF m 373 #[.val (.long q0), .second, .val (.long q1), .second, .val (.long q2), .second, .val (.long q3), .second, .val (.int p4), .val (.int p5), .val (.long c2), .second, .val (.long d2), .second, .val (.int f1), .val (.int t1), .val (.int f2), .val (.int t2), .val (.ref b5), .val (.ref b8), .val (.ref b11), .val (.ref b14), .val (.ref b17), .val (.ref b19), .val (.ref b21), .val (.ref b23), .val (.ref b25), .val (.ref b27), .val (.int fe), .val (.int (3 : Int32)), .val (.ref b27), .val (.int fe), .val (.int (1 : Int32))] [(.int (1 : Int32))])) (fun t k => XS.goto X39.here hx rfl (pc0 := 369) (pc' := 373) rfl (hb hby at_369) (by decide) (by decide) k) ?_
    obtain ⟨fs, hrL, hrun, hended, hW, hsame⟩ := X39.leave (v := some (.int (1 : Int32))) (fun h => by rw [Bd.returns] at h; cases h)
    subst hQf
    refine ⟨_, _, retN X39 hx (t := .boolean) Bd.returns (by simp) (hb hby at_373) hrL, hrun, hended, _, _, rfl, ?_, ⟨_, rfl⟩, hW, hsame.mono (by decide) (by decide)⟩
    show (fun (v : Option Value) (h : Heap) (L : List Loc) => v = some (.int 1) ∧ Fr n0 L) (some (.int (1 : Int32))) T39.heap _
    rw [e39]
    exact ⟨rfl, N39⟩
set_option maxRecDepth 65536 in
set_option maxHeartbeats 40000000 in
theorem rm0_S (l : Launch) (Z : State) (a0 : Array Value) (hw : ∀ d ∈ tables_1, d.before a0 Z = true) (ws : List Jvm.Cond) (q0 : Int64) (q1 : Int64) (q2 : Int64) (q3 : Int64) (p4 : Int32) (p5 : Int32) (z_cs : Int32) (h0 : Heap) (n0 : Nat) (NF : Nar Z z_cs) (p : Program) (e : Env) (s : State) (m : MethodId) (below : List Frame) (meth : _) (c : _) (s₁ : State) (Bd : BodyLoose p l x (head1 (Jvm.Cond.code x code maxLocals ret :: ws) room_1) code maxLocals ret e s m #[(.long q0), (.long q1), (.long q2), (.long q3), (.int p4), (.int p5)] below meth c s₁) (hml : c.maxLocals = 33) (hZ : Z.Warmed39 s.vm) (Qf : Outcome → State → Prop) (hQf : Qf = (fun (_ : Array Value) (U : State) (o : Outcome) (U' : State) => ∃ v L, o = .returned v ∧ Q_rm0 Z q0 q1 q2 q3 p4 p5 z_cs h0 n0 v U'.heap L ∧ FrameEnd U o U' L room_1.cells room_1.slots) #[] s) (b5 : Addr) (b8 : Addr) (b11 : Addr) (b14 : Addr) (b17 : Addr) (b19 : Addr) (b21 : Addr) (b23 : Addr) (t18 : Addr) (t20 : Addr) (t22 : Addr) (t24 : Addr) (kb18 : ClassId) (kb20 : ClassId) (kb22 : ClassId) (kb24 : ClassId) (c2 : Int64) (d2 : Int64) (f1 : Int32) (t1 : Int32) (f2 : Int32) (t2 : Int32) (h_f1 : ¬ f1 < 0 ∧ ¬ (255 : Int32) < f1) (h_t1 : ¬ t1 < 0 ∧ ¬ (255 : Int32) < t1) (h_f2 : ¬ f2 < 0 ∧ ¬ (255 : Int32) < f2) (h_t2 : ¬ t2 < 0 ∧ ¬ (255 : Int32) < t2) (ne_b17_b21 : b17 ≠ b21) (ne_b21_b17 : b21 ≠ b17) (ne_b19_b23 : b19 ≠ b23) (ne_b23_b19 : b23 ≠ b19) (TC : State) (locsC : List Loc) (hC : Heap) (XC : Stand p l e room_1 s m #[(.long q0), (.long q1), (.long q2), (.long q3), (.int p4), (.int p5)] below meth c TC locsC 12 24) (eC : TC.heap = hC) (OC : Old Z n0 hC) (E_b17 : Exa Z hC b17 "java/lang/String") (F_coder_b17 : Fld Z hC b17 "java/lang/String" "coder" "B" (.int (0 : Int32))) (F_value_b17 : Fld Z hC b17 "java/lang/String" "value" "[B" (.ref t18)) (V_t18 : Arv Z hC t18 kb18 .byte (1 : Int32) [(.int f1.toInt8.toInt32)] (.int (0 : Int32))) (E_b19 : Exa Z hC b19 "java/lang/String") (F_coder_b19 : Fld Z hC b19 "java/lang/String" "coder" "B" (.int (0 : Int32))) (F_value_b19 : Fld Z hC b19 "java/lang/String" "value" "[B" (.ref t20)) (V_t20 : Arv Z hC t20 kb20 .byte (1 : Int32) [(.int t1.toInt8.toInt32)] (.int (0 : Int32))) (E_b21 : Exa Z hC b21 "java/lang/String") (F_coder_b21 : Fld Z hC b21 "java/lang/String" "coder" "B" (.int (0 : Int32))) (F_value_b21 : Fld Z hC b21 "java/lang/String" "value" "[B" (.ref t22)) (V_t22 : Arv Z hC t22 kb22 .byte (1 : Int32) [(.int f2.toInt8.toInt32)] (.int (0 : Int32))) (E_b23 : Exa Z hC b23 "java/lang/String") (F_coder_b23 : Fld Z hC b23 "java/lang/String" "coder" "B" (.int (0 : Int32))) (F_value_b23 : Fld Z hC b23 "java/lang/String" "value" "[B" (.ref t24)) (V_t24 : Arv Z hC t24 kb24 .byte (1 : Int32) [(.int t2.toInt8.toInt32)] (.int (0 : Int32))) (NC : Fr n0 locsC) : Goes p.tables e below Qf (TC.setTop (mkF m 188 #[.val (.long q0), .second, .val (.long q1), .second, .val (.long q2), .second, .val (.long q3), .second, .val (.int p4), .val (.int p5), .val (.long c2), .second, .val (.long d2), .second, .val (.int f1), .val (.int t1), .val (.int f2), .val (.int t2), .val (.ref b5), .val (.ref b8), .val (.ref b11), .val (.ref b14), .val (.ref b17), .val (.ref b19), .val (.ref b21), .val (.ref b23), .unset, .unset, .unset, .unset, .unset, .unset, .unset] [])) := by
  have hx := Bd.exec
  have hby := Bd.bytes
  have hown : s.vm.findClass "com/example/inman/inman/MoveEqualsPinLaw" = some m.cls := findClass_of_methodNamed Bd.named
  have hnm := (name_of_methodNamed Bd.named Bd.method).1
  obtain ⟨S_cs, nz_cs⟩ := id NF
  obtain ⟨T25, h25, X25, e25, E25, A25, D25, -, st25⟩ := newO XC hx hZ hown (hw _ (List.mem_of_getElem? (i := 30) rfl)) (hw _ (List.mem_of_getElem? (i := 31) rfl)) (hw _ (List.mem_of_getElem? (i := 32) rfl)) eC (g := (mkF m 188 #[.val (.long q0), .second, .val (.long q1), .second, .val (.long q2), .second, .val (.long q3), .second, .val (.int p4), .val (.int p5), .val (.long c2), .second, .val (.long d2), .second, .val (.int f1), .val (.int t1), .val (.int f2), .val (.int t2), .val (.ref b5), .val (.ref b8), .val (.ref b11), .val (.ref b14), .val (.ref b17), .val (.ref b19), .val (.ref b21), .val (.ref b23), .unset, .unset, .unset, .unset, .unset, .unset, .unset] [])) rfl (hb hby at_188) (by decide) (by decide)
  obtain ⟨b25, g25⟩ : ∃ z, z = hC.size := ⟨_, rfl⟩
  rw [← g25] at A25 D25 st25
  have g_b25 : n0 ≤ b25 := Nat.le_trans (own_old OC) (Nat.le_of_eq g25.symm)
  have ne_b17_b25 : b17 ≠ b25 := Nat.ne_of_lt (Nat.lt_of_lt_of_le E_b17.lt (Nat.le_of_eq g25.symm))
  have ne_b25_b17 := Ne.symm ne_b17_b25
  have ne_t18_b25 : t18 ≠ b25 := Nat.ne_of_lt (Nat.lt_of_lt_of_le V_t18.lt (Nat.le_of_eq g25.symm))
  have ne_b25_t18 := Ne.symm ne_t18_b25
  have ne_b19_b25 : b19 ≠ b25 := Nat.ne_of_lt (Nat.lt_of_lt_of_le E_b19.lt (Nat.le_of_eq g25.symm))
  have ne_b25_b19 := Ne.symm ne_b19_b25
  have ne_t20_b25 : t20 ≠ b25 := Nat.ne_of_lt (Nat.lt_of_lt_of_le V_t20.lt (Nat.le_of_eq g25.symm))
  have ne_b25_t20 := Ne.symm ne_t20_b25
  have ne_b21_b25 : b21 ≠ b25 := Nat.ne_of_lt (Nat.lt_of_lt_of_le E_b21.lt (Nat.le_of_eq g25.symm))
  have ne_b25_b21 := Ne.symm ne_b21_b25
  have ne_t22_b25 : t22 ≠ b25 := Nat.ne_of_lt (Nat.lt_of_lt_of_le V_t22.lt (Nat.le_of_eq g25.symm))
  have ne_b25_t22 := Ne.symm ne_t22_b25
  have ne_b23_b25 : b23 ≠ b25 := Nat.ne_of_lt (Nat.lt_of_lt_of_le E_b23.lt (Nat.le_of_eq g25.symm))
  have ne_b25_b23 := Ne.symm ne_b23_b25
  have ne_t24_b25 : t24 ≠ b25 := Nat.ne_of_lt (Nat.lt_of_lt_of_le V_t24.lt (Nat.le_of_eq g25.symm))
  have ne_b25_t24 := Ne.symm ne_t24_b25
  have E_b17 := E_b17.ext E25
  have F_coder_b17 := F_coder_b17.ext E25
  have F_value_b17 := F_value_b17.ext E25
  have V_t18 := V_t18.ext E25
  have E_b19 := E_b19.ext E25
  have F_coder_b19 := F_coder_b19.ext E25
  have F_value_b19 := F_value_b19.ext E25
  have V_t20 := V_t20.ext E25
  have E_b21 := E_b21.ext E25
  have F_coder_b21 := F_coder_b21.ext E25
  have F_value_b21 := F_value_b21.ext E25
  have V_t22 := V_t22.ext E25
  have E_b23 := E_b23.ext E25
  have F_coder_b23 := F_coder_b23.ext E25
  have F_value_b23 := F_value_b23.ext E25
  have V_t24 := V_t24.ext E25
  have OC := OC.ext E25
  have E_b25 := A25
  have F_first_b25 : Fld Z h25 b25 "com/example/inman/inman/Move" "first" "J" (.long (0 : Int64)) := D25 (Or.inr (hw _ (List.mem_of_getElem? (i := 38) rfl))) (ty := .long) (by decide)
  have F_last_b25 : Fld Z h25 b25 "com/example/inman/inman/Move" "last" "J" (.long (0 : Int64)) := D25 (Or.inr (hw _ (List.mem_of_getElem? (i := 40) rfl))) (ty := .long) (by decide)
  have F_from_b25 : Fld Z h25 b25 "com/example/inman/inman/Move" "from" "Ljava/lang/String;" .null := D25 (Or.inr (hw _ (List.mem_of_getElem? (i := 42) rfl))) (ty := (.object "java/lang/String")) (by decide)
  have F_to_b25 : Fld Z h25 b25 "com/example/inman/inman/Move" "to" "Ljava/lang/String;" .null := D25 (Or.inr (hw _ (List.mem_of_getElem? (i := 44) rfl))) (ty := (.object "java/lang/String")) (by decide)
  refine Goes.to (T' := T25.setTop (mkF m 191 #[.val (.long q0), .second, .val (.long q1), .second, .val (.long q2), .second, .val (.long q3), .second, .val (.int p4), .val (.int p5), .val (.long c2), .second, .val (.long d2), .second, .val (.int f1), .val (.int t1), .val (.int f2), .val (.int t2), .val (.ref b5), .val (.ref b8), .val (.ref b11), .val (.ref b14), .val (.ref b17), .val (.ref b19), .val (.ref b21), .val (.ref b23), .unset, .unset, .unset, .unset, .unset, .unset, .unset] [(.ref b25)])) st25 ?_
  refine Goes.to (T' := T25.setTop (mkF m 192 #[.val (.long q0), .second, .val (.long q1), .second, .val (.long q2), .second, .val (.long q3), .second, .val (.int p4), .val (.int p5), .val (.long c2), .second, .val (.long d2), .second, .val (.int f1), .val (.int t1), .val (.int f2), .val (.int t2), .val (.ref b5), .val (.ref b8), .val (.ref b11), .val (.ref b14), .val (.ref b17), .val (.ref b19), .val (.ref b21), .val (.ref b23), .unset, .unset, .unset, .unset, .unset, .unset, .unset] [(.ref b25), (.ref b25)])) (fun t k => XS.dup X25.here hx rfl (hb hby at_191) rfl rfl k) ?_
  refine Goes.to (T' := T25.setTop (mkF m 193 #[.val (.long q0), .second, .val (.long q1), .second, .val (.long q2), .second, .val (.long q3), .second, .val (.int p4), .val (.int p5), .val (.long c2), .second, .val (.long d2), .second, .val (.int f1), .val (.int t1), .val (.int f2), .val (.int t2), .val (.ref b5), .val (.ref b8), .val (.ref b11), .val (.ref b14), .val (.ref b17), .val (.ref b19), .val (.ref b21), .val (.ref b23), .unset, .unset, .unset, .unset, .unset, .unset, .unset] [(.long q0), (.ref b25), (.ref b25)])) (fun t k => XS.lloadN X25.here hx rfl (hb hby at_192) rfl k) ?_
  refine Goes.to (T' := T25.setTop (mkF m 194 #[.val (.long q0), .second, .val (.long q1), .second, .val (.long q2), .second, .val (.long q3), .second, .val (.int p4), .val (.int p5), .val (.long c2), .second, .val (.long d2), .second, .val (.int f1), .val (.int t1), .val (.int f2), .val (.int t2), .val (.ref b5), .val (.ref b8), .val (.ref b11), .val (.ref b14), .val (.ref b17), .val (.ref b19), .val (.ref b21), .val (.ref b23), .unset, .unset, .unset, .unset, .unset, .unset, .unset] [(.long q1), (.long q0), (.ref b25), (.ref b25)])) (fun t k => XS.lloadN X25.here hx rfl (hb hby at_193) rfl k) ?_
  refine Goes.to (T' := T25.setTop (mkF m 196 #[.val (.long q0), .second, .val (.long q1), .second, .val (.long q2), .second, .val (.long q3), .second, .val (.int p4), .val (.int p5), .val (.long c2), .second, .val (.long d2), .second, .val (.int f1), .val (.int t1), .val (.int f2), .val (.int t2), .val (.ref b5), .val (.ref b8), .val (.ref b11), .val (.ref b14), .val (.ref b17), .val (.ref b19), .val (.ref b21), .val (.ref b23), .unset, .unset, .unset, .unset, .unset, .unset, .unset] [(.ref b17), (.long q1), (.long q0), (.ref b25), (.ref b25)])) (fun t k => XS.aload X25.here hx rfl (hb hby at_194) rfl rfl k) ?_
  refine Goes.to (T' := T25.setTop (mkF m 198 #[.val (.long q0), .second, .val (.long q1), .second, .val (.long q2), .second, .val (.long q3), .second, .val (.int p4), .val (.int p5), .val (.long c2), .second, .val (.long d2), .second, .val (.int f1), .val (.int t1), .val (.int f2), .val (.int t2), .val (.ref b5), .val (.ref b8), .val (.ref b11), .val (.ref b14), .val (.ref b17), .val (.ref b19), .val (.ref b21), .val (.ref b23), .unset, .unset, .unset, .unset, .unset, .unset, .unset] [(.ref b19), (.ref b17), (.long q1), (.long q0), (.ref b25), (.ref b25)])) (fun t k => XS.aload X25.here hx rfl (hb hby at_196) rfl rfl k) ?_
  obtain ⟨_, _, ⟨T26, L26, k26, n26⟩, -, X26, ⟨Lc26, hQ26, l26, y26, z26⟩, st26⟩ := X25.specialBack hx (y := (⟨"com/example/inman/inman/Move", "<init>", "(JJLjava/lang/String;Ljava/lang/String;)V"⟩ : MethodName)) rfl hown (mvT hZ (hw _ (List.mem_of_getElem? (i := 33) rfl))) (mvT hZ (hw _ (List.mem_of_getElem? (i := 34) rfl))) (mvT hZ (hw _ (List.mem_of_getElem? (i := 35) rfl))) (by decide) (backOf (W := 1) (rmMI l Z a0 hw [] b25 q0 q1 b17 b19 z_cs  h25 n0 OC NF E_b25 F_first_b25 F_last_b25 F_from_b25 F_to_b25 g_b25) hZ (hw _ (List.mem_of_getElem? (i := 35) rfl)) (hw _ (List.mem_of_getElem? (i := 32) rfl)) (by decide) (by decide)) (g := (mkF m 198 #[.val (.long q0), .second, .val (.long q1), .second, .val (.long q2), .second, .val (.long q3), .second, .val (.int p4), .val (.int p5), .val (.long c2), .second, .val (.long d2), .second, .val (.int f1), .val (.int t1), .val (.int f2), .val (.int t2), .val (.ref b5), .val (.ref b8), .val (.ref b11), .val (.ref b14), .val (.ref b17), .val (.ref b19), .val (.ref b21), .val (.ref b23), .unset, .unset, .unset, .unset, .unset, .unset, .unset] [(.ref b19), (.ref b17), (.long q1), (.long q0), (.ref b25), (.ref b25)])) rfl (by rw [hml]; rfl) (Steps.refl _) (a := b25) (argsL := [(.long q0), (.long q1), (.ref b17), (.ref b19)]) (rest := [(.ref b25)]) (lenOf pd_111 rfl) rfl (by show 2 * 0 + _ ≤ _; exact Nat.le_of_eq rfl) (hb hby at_198) (fun _ _ => ⟨rfl, e25, (by decide : 13 + 0 ≤ _), (by decide : 28 + 0 ≤ _)⟩)
  dsimp only [Pt.U, Pt.locs, Pt.cells, Pt.slots] at X26 l26 y26 z26 st26 hQ26
  subst l26 y26 z26
  obtain ⟨rfl, Nq26, K26, Fa26, Fb26, Ff26, Ft26⟩ := hQ26
  have N26 := Fr.app NC Nq26
  have E_b17 := E_b17.keep K26
  have F_coder_b17 := F_coder_b17.keep K26 (ninS (ne_b17_b25) nin0)
  have F_value_b17 := F_value_b17.keep K26 (ninS (ne_b17_b25) nin0)
  have V_t18 := V_t18.keep K26 (ninS (ne_t18_b25) nin0)
  have E_b19 := E_b19.keep K26
  have F_coder_b19 := F_coder_b19.keep K26 (ninS (ne_b19_b25) nin0)
  have F_value_b19 := F_value_b19.keep K26 (ninS (ne_b19_b25) nin0)
  have V_t20 := V_t20.keep K26 (ninS (ne_t20_b25) nin0)
  have E_b21 := E_b21.keep K26
  have F_coder_b21 := F_coder_b21.keep K26 (ninS (ne_b21_b25) nin0)
  have F_value_b21 := F_value_b21.keep K26 (ninS (ne_b21_b25) nin0)
  have V_t22 := V_t22.keep K26 (ninS (ne_t22_b25) nin0)
  have E_b23 := E_b23.keep K26
  have F_coder_b23 := F_coder_b23.keep K26 (ninS (ne_b23_b25) nin0)
  have F_value_b23 := F_value_b23.keep K26 (ninS (ne_b23_b25) nin0)
  have V_t24 := V_t24.keep K26 (ninS (ne_t24_b25) nin0)
  have E_b25 := E_b25.keep K26
  have OC := OC.keep K26 (allS g_b25 all0)
  have F_first_b25 := Fa26
  have F_last_b25 := Fb26
  have F_from_b25 := Ff26
  have F_to_b25 := Ft26
  refine Goes.thru (T' := T26.setTop (mkF m 201 #[.val (.long q0), .second, .val (.long q1), .second, .val (.long q2), .second, .val (.long q3), .second, .val (.int p4), .val (.int p5), .val (.long c2), .second, .val (.long d2), .second, .val (.int f1), .val (.int t1), .val (.int f2), .val (.int t2), .val (.ref b5), .val (.ref b8), .val (.ref b11), .val (.ref b14), .val (.ref b17), .val (.ref b19), .val (.ref b21), .val (.ref b23), .unset, .unset, .unset, .unset, .unset, .unset, .unset] [(.ref b25)])) st26 ?_
  refine Goes.to (T' := T26.setTop (mkF m 203 #[.val (.long q0), .second, .val (.long q1), .second, .val (.long q2), .second, .val (.long q3), .second, .val (.int p4), .val (.int p5), .val (.long c2), .second, .val (.long d2), .second, .val (.int f1), .val (.int t1), .val (.int f2), .val (.int t2), .val (.ref b5), .val (.ref b8), .val (.ref b11), .val (.ref b14), .val (.ref b17), .val (.ref b19), .val (.ref b21), .val (.ref b23), .val (.ref b25), .unset, .unset, .unset, .unset, .unset, .unset] [])) (fun t k => XS.astore X26.here hx rfl (hb hby at_201) rfl rfl (l' := #[.val (.long q0), .second, .val (.long q1), .second, .val (.long q2), .second, .val (.long q3), .second, .val (.int p4), .val (.int p5), .val (.long c2), .second, .val (.long d2), .second, .val (.int f1), .val (.int t1), .val (.int f2), .val (.int t2), .val (.ref b5), .val (.ref b8), .val (.ref b11), .val (.ref b14), .val (.ref b17), .val (.ref b19), .val (.ref b21), .val (.ref b23), .val (.ref b25), .unset, .unset, .unset, .unset, .unset, .unset]) rfl k) ?_
  obtain ⟨T27, h27, X27, e27, E27, A27, D27, -, st27⟩ := newO X26 hx hZ hown (hw _ (List.mem_of_getElem? (i := 30) rfl)) (hw _ (List.mem_of_getElem? (i := 31) rfl)) (hw _ (List.mem_of_getElem? (i := 32) rfl)) rfl (g := (mkF m 203 #[.val (.long q0), .second, .val (.long q1), .second, .val (.long q2), .second, .val (.long q3), .second, .val (.int p4), .val (.int p5), .val (.long c2), .second, .val (.long d2), .second, .val (.int f1), .val (.int t1), .val (.int f2), .val (.int t2), .val (.ref b5), .val (.ref b8), .val (.ref b11), .val (.ref b14), .val (.ref b17), .val (.ref b19), .val (.ref b21), .val (.ref b23), .val (.ref b25), .unset, .unset, .unset, .unset, .unset, .unset] [])) rfl (hb hby at_203) (by decide) (by decide)
  obtain ⟨b27, g27⟩ : ∃ z, z = T26.heap.size := ⟨_, rfl⟩
  rw [← g27] at A27 D27 st27
  have g_b27 : n0 ≤ b27 := Nat.le_trans (own_old OC) (Nat.le_of_eq g27.symm)
  have ne_b17_b27 : b17 ≠ b27 := Nat.ne_of_lt (Nat.lt_of_lt_of_le E_b17.lt (Nat.le_of_eq g27.symm))
  have ne_b27_b17 := Ne.symm ne_b17_b27
  have ne_t18_b27 : t18 ≠ b27 := Nat.ne_of_lt (Nat.lt_of_lt_of_le V_t18.lt (Nat.le_of_eq g27.symm))
  have ne_b27_t18 := Ne.symm ne_t18_b27
  have ne_b19_b27 : b19 ≠ b27 := Nat.ne_of_lt (Nat.lt_of_lt_of_le E_b19.lt (Nat.le_of_eq g27.symm))
  have ne_b27_b19 := Ne.symm ne_b19_b27
  have ne_t20_b27 : t20 ≠ b27 := Nat.ne_of_lt (Nat.lt_of_lt_of_le V_t20.lt (Nat.le_of_eq g27.symm))
  have ne_b27_t20 := Ne.symm ne_t20_b27
  have ne_b21_b27 : b21 ≠ b27 := Nat.ne_of_lt (Nat.lt_of_lt_of_le E_b21.lt (Nat.le_of_eq g27.symm))
  have ne_b27_b21 := Ne.symm ne_b21_b27
  have ne_t22_b27 : t22 ≠ b27 := Nat.ne_of_lt (Nat.lt_of_lt_of_le V_t22.lt (Nat.le_of_eq g27.symm))
  have ne_b27_t22 := Ne.symm ne_t22_b27
  have ne_b23_b27 : b23 ≠ b27 := Nat.ne_of_lt (Nat.lt_of_lt_of_le E_b23.lt (Nat.le_of_eq g27.symm))
  have ne_b27_b23 := Ne.symm ne_b23_b27
  have ne_t24_b27 : t24 ≠ b27 := Nat.ne_of_lt (Nat.lt_of_lt_of_le V_t24.lt (Nat.le_of_eq g27.symm))
  have ne_b27_t24 := Ne.symm ne_t24_b27
  have ne_b25_b27 : b25 ≠ b27 := Nat.ne_of_lt (Nat.lt_of_lt_of_le E_b25.lt (Nat.le_of_eq g27.symm))
  have ne_b27_b25 := Ne.symm ne_b25_b27
  have E_b17 := E_b17.ext E27
  have F_coder_b17 := F_coder_b17.ext E27
  have F_value_b17 := F_value_b17.ext E27
  have V_t18 := V_t18.ext E27
  have E_b19 := E_b19.ext E27
  have F_coder_b19 := F_coder_b19.ext E27
  have F_value_b19 := F_value_b19.ext E27
  have V_t20 := V_t20.ext E27
  have E_b21 := E_b21.ext E27
  have F_coder_b21 := F_coder_b21.ext E27
  have F_value_b21 := F_value_b21.ext E27
  have V_t22 := V_t22.ext E27
  have E_b23 := E_b23.ext E27
  have F_coder_b23 := F_coder_b23.ext E27
  have F_value_b23 := F_value_b23.ext E27
  have V_t24 := V_t24.ext E27
  have E_b25 := E_b25.ext E27
  have F_first_b25 := F_first_b25.ext E27
  have F_last_b25 := F_last_b25.ext E27
  have F_from_b25 := F_from_b25.ext E27
  have F_to_b25 := F_to_b25.ext E27
  have OC := OC.ext E27
  have E_b27 := A27
  have F_first_b27 : Fld Z h27 b27 "com/example/inman/inman/Move" "first" "J" (.long (0 : Int64)) := D27 (Or.inr (hw _ (List.mem_of_getElem? (i := 38) rfl))) (ty := .long) (by decide)
  have F_last_b27 : Fld Z h27 b27 "com/example/inman/inman/Move" "last" "J" (.long (0 : Int64)) := D27 (Or.inr (hw _ (List.mem_of_getElem? (i := 40) rfl))) (ty := .long) (by decide)
  have F_from_b27 : Fld Z h27 b27 "com/example/inman/inman/Move" "from" "Ljava/lang/String;" .null := D27 (Or.inr (hw _ (List.mem_of_getElem? (i := 42) rfl))) (ty := (.object "java/lang/String")) (by decide)
  have F_to_b27 : Fld Z h27 b27 "com/example/inman/inman/Move" "to" "Ljava/lang/String;" .null := D27 (Or.inr (hw _ (List.mem_of_getElem? (i := 44) rfl))) (ty := (.object "java/lang/String")) (by decide)
  refine Goes.to (T' := T27.setTop (mkF m 206 #[.val (.long q0), .second, .val (.long q1), .second, .val (.long q2), .second, .val (.long q3), .second, .val (.int p4), .val (.int p5), .val (.long c2), .second, .val (.long d2), .second, .val (.int f1), .val (.int t1), .val (.int f2), .val (.int t2), .val (.ref b5), .val (.ref b8), .val (.ref b11), .val (.ref b14), .val (.ref b17), .val (.ref b19), .val (.ref b21), .val (.ref b23), .val (.ref b25), .unset, .unset, .unset, .unset, .unset, .unset] [(.ref b27)])) st27 ?_
  refine Goes.to (T' := T27.setTop (mkF m 207 #[.val (.long q0), .second, .val (.long q1), .second, .val (.long q2), .second, .val (.long q3), .second, .val (.int p4), .val (.int p5), .val (.long c2), .second, .val (.long d2), .second, .val (.int f1), .val (.int t1), .val (.int f2), .val (.int t2), .val (.ref b5), .val (.ref b8), .val (.ref b11), .val (.ref b14), .val (.ref b17), .val (.ref b19), .val (.ref b21), .val (.ref b23), .val (.ref b25), .unset, .unset, .unset, .unset, .unset, .unset] [(.ref b27), (.ref b27)])) (fun t k => XS.dup X27.here hx rfl (hb hby at_206) rfl rfl k) ?_
  refine Goes.to (T' := T27.setTop (mkF m 209 #[.val (.long q0), .second, .val (.long q1), .second, .val (.long q2), .second, .val (.long q3), .second, .val (.int p4), .val (.int p5), .val (.long c2), .second, .val (.long d2), .second, .val (.int f1), .val (.int t1), .val (.int f2), .val (.int t2), .val (.ref b5), .val (.ref b8), .val (.ref b11), .val (.ref b14), .val (.ref b17), .val (.ref b19), .val (.ref b21), .val (.ref b23), .val (.ref b25), .unset, .unset, .unset, .unset, .unset, .unset] [(.long c2), (.ref b27), (.ref b27)])) (fun t k => XS.lload X27.here hx rfl (hb hby at_207) rfl k) ?_
  refine Goes.to (T' := T27.setTop (mkF m 211 #[.val (.long q0), .second, .val (.long q1), .second, .val (.long q2), .second, .val (.long q3), .second, .val (.int p4), .val (.int p5), .val (.long c2), .second, .val (.long d2), .second, .val (.int f1), .val (.int t1), .val (.int f2), .val (.int t2), .val (.ref b5), .val (.ref b8), .val (.ref b11), .val (.ref b14), .val (.ref b17), .val (.ref b19), .val (.ref b21), .val (.ref b23), .val (.ref b25), .unset, .unset, .unset, .unset, .unset, .unset] [(.long d2), (.long c2), (.ref b27), (.ref b27)])) (fun t k => XS.lload X27.here hx rfl (hb hby at_209) rfl k) ?_
  refine Goes.to (T' := T27.setTop (mkF m 213 #[.val (.long q0), .second, .val (.long q1), .second, .val (.long q2), .second, .val (.long q3), .second, .val (.int p4), .val (.int p5), .val (.long c2), .second, .val (.long d2), .second, .val (.int f1), .val (.int t1), .val (.int f2), .val (.int t2), .val (.ref b5), .val (.ref b8), .val (.ref b11), .val (.ref b14), .val (.ref b17), .val (.ref b19), .val (.ref b21), .val (.ref b23), .val (.ref b25), .unset, .unset, .unset, .unset, .unset, .unset] [(.ref b21), (.long d2), (.long c2), (.ref b27), (.ref b27)])) (fun t k => XS.aload X27.here hx rfl (hb hby at_211) rfl rfl k) ?_
  refine Goes.to (T' := T27.setTop (mkF m 215 #[.val (.long q0), .second, .val (.long q1), .second, .val (.long q2), .second, .val (.long q3), .second, .val (.int p4), .val (.int p5), .val (.long c2), .second, .val (.long d2), .second, .val (.int f1), .val (.int t1), .val (.int f2), .val (.int t2), .val (.ref b5), .val (.ref b8), .val (.ref b11), .val (.ref b14), .val (.ref b17), .val (.ref b19), .val (.ref b21), .val (.ref b23), .val (.ref b25), .unset, .unset, .unset, .unset, .unset, .unset] [(.ref b23), (.ref b21), (.long d2), (.long c2), (.ref b27), (.ref b27)])) (fun t k => XS.aload X27.here hx rfl (hb hby at_213) rfl rfl k) ?_
  obtain ⟨_, _, ⟨T28, L28, k28, n28⟩, -, X28, ⟨Lc28, hQ28, l28, y28, z28⟩, st28⟩ := X27.specialBack hx (y := (⟨"com/example/inman/inman/Move", "<init>", "(JJLjava/lang/String;Ljava/lang/String;)V"⟩ : MethodName)) rfl hown (mvT hZ (hw _ (List.mem_of_getElem? (i := 33) rfl))) (mvT hZ (hw _ (List.mem_of_getElem? (i := 34) rfl))) (mvT hZ (hw _ (List.mem_of_getElem? (i := 35) rfl))) (by decide) (backOf (W := 1) (rmMI l Z a0 hw [] b27 c2 d2 b21 b23 z_cs  h27 n0 OC NF E_b27 F_first_b27 F_last_b27 F_from_b27 F_to_b27 g_b27) hZ (hw _ (List.mem_of_getElem? (i := 35) rfl)) (hw _ (List.mem_of_getElem? (i := 32) rfl)) (by decide) (by decide)) (g := (mkF m 215 #[.val (.long q0), .second, .val (.long q1), .second, .val (.long q2), .second, .val (.long q3), .second, .val (.int p4), .val (.int p5), .val (.long c2), .second, .val (.long d2), .second, .val (.int f1), .val (.int t1), .val (.int f2), .val (.int t2), .val (.ref b5), .val (.ref b8), .val (.ref b11), .val (.ref b14), .val (.ref b17), .val (.ref b19), .val (.ref b21), .val (.ref b23), .val (.ref b25), .unset, .unset, .unset, .unset, .unset, .unset] [(.ref b23), (.ref b21), (.long d2), (.long c2), (.ref b27), (.ref b27)])) rfl (by rw [hml]; rfl) (Steps.refl _) (a := b27) (argsL := [(.long c2), (.long d2), (.ref b21), (.ref b23)]) (rest := [(.ref b27)]) (lenOf pd_111 rfl) rfl (by show 2 * 0 + _ ≤ _; exact Nat.le_of_eq rfl) (hb hby at_215) (fun _ _ => ⟨rfl, e27, (by decide : 14 + 0 ≤ _), (by decide : 32 + 0 ≤ _)⟩)
  dsimp only [Pt.U, Pt.locs, Pt.cells, Pt.slots] at X28 l28 y28 z28 st28 hQ28
  subst l28 y28 z28
  obtain ⟨rfl, Nq28, K28, Fa28, Fb28, Ff28, Ft28⟩ := hQ28
  have N28 := Fr.app N26 Nq28
  have E_b17 := E_b17.keep K28
  have F_coder_b17 := F_coder_b17.keep K28 (ninS (ne_b17_b27) nin0)
  have F_value_b17 := F_value_b17.keep K28 (ninS (ne_b17_b27) nin0)
  have V_t18 := V_t18.keep K28 (ninS (ne_t18_b27) nin0)
  have E_b19 := E_b19.keep K28
  have F_coder_b19 := F_coder_b19.keep K28 (ninS (ne_b19_b27) nin0)
  have F_value_b19 := F_value_b19.keep K28 (ninS (ne_b19_b27) nin0)
  have V_t20 := V_t20.keep K28 (ninS (ne_t20_b27) nin0)
  have E_b21 := E_b21.keep K28
  have F_coder_b21 := F_coder_b21.keep K28 (ninS (ne_b21_b27) nin0)
  have F_value_b21 := F_value_b21.keep K28 (ninS (ne_b21_b27) nin0)
  have V_t22 := V_t22.keep K28 (ninS (ne_t22_b27) nin0)
  have E_b23 := E_b23.keep K28
  have F_coder_b23 := F_coder_b23.keep K28 (ninS (ne_b23_b27) nin0)
  have F_value_b23 := F_value_b23.keep K28 (ninS (ne_b23_b27) nin0)
  have V_t24 := V_t24.keep K28 (ninS (ne_t24_b27) nin0)
  have E_b25 := E_b25.keep K28
  have F_first_b25 := F_first_b25.keep K28 (ninS (ne_b25_b27) nin0)
  have F_last_b25 := F_last_b25.keep K28 (ninS (ne_b25_b27) nin0)
  have F_from_b25 := F_from_b25.keep K28 (ninS (ne_b25_b27) nin0)
  have F_to_b25 := F_to_b25.keep K28 (ninS (ne_b25_b27) nin0)
  have E_b27 := E_b27.keep K28
  have OC := OC.keep K28 (allS g_b27 all0)
  have F_first_b27 := Fa28
  have F_last_b27 := Fb28
  have F_from_b27 := Ff28
  have F_to_b27 := Ft28
  refine Goes.thru (T' := T28.setTop (mkF m 218 #[.val (.long q0), .second, .val (.long q1), .second, .val (.long q2), .second, .val (.long q3), .second, .val (.int p4), .val (.int p5), .val (.long c2), .second, .val (.long d2), .second, .val (.int f1), .val (.int t1), .val (.int f2), .val (.int t2), .val (.ref b5), .val (.ref b8), .val (.ref b11), .val (.ref b14), .val (.ref b17), .val (.ref b19), .val (.ref b21), .val (.ref b23), .val (.ref b25), .unset, .unset, .unset, .unset, .unset, .unset] [(.ref b27)])) st28 ?_
  refine Goes.to (T' := T28.setTop (mkF m 220 #[.val (.long q0), .second, .val (.long q1), .second, .val (.long q2), .second, .val (.long q3), .second, .val (.int p4), .val (.int p5), .val (.long c2), .second, .val (.long d2), .second, .val (.int f1), .val (.int t1), .val (.int f2), .val (.int t2), .val (.ref b5), .val (.ref b8), .val (.ref b11), .val (.ref b14), .val (.ref b17), .val (.ref b19), .val (.ref b21), .val (.ref b23), .val (.ref b25), .val (.ref b27), .unset, .unset, .unset, .unset, .unset] [])) (fun t k => XS.astore X28.here hx rfl (hb hby at_218) rfl rfl (l' := #[.val (.long q0), .second, .val (.long q1), .second, .val (.long q2), .second, .val (.long q3), .second, .val (.int p4), .val (.int p5), .val (.long c2), .second, .val (.long d2), .second, .val (.int f1), .val (.int t1), .val (.int f2), .val (.int t2), .val (.ref b5), .val (.ref b8), .val (.ref b11), .val (.ref b14), .val (.ref b17), .val (.ref b19), .val (.ref b21), .val (.ref b23), .val (.ref b25), .val (.ref b27), .unset, .unset, .unset, .unset, .unset]) rfl k) ?_
  refine Goes.to (T' := T28.setTop (mkF m 221 #[.val (.long q0), .second, .val (.long q1), .second, .val (.long q2), .second, .val (.long q3), .second, .val (.int p4), .val (.int p5), .val (.long c2), .second, .val (.long d2), .second, .val (.int f1), .val (.int t1), .val (.int f2), .val (.int t2), .val (.ref b5), .val (.ref b8), .val (.ref b11), .val (.ref b14), .val (.ref b17), .val (.ref b19), .val (.ref b21), .val (.ref b23), .val (.ref b25), .val (.ref b27), .unset, .unset, .unset, .unset, .unset] [(.long q0)])) (fun t k => XS.lloadN X28.here hx rfl (hb hby at_220) rfl k) ?_
  refine Goes.to (T' := T28.setTop (mkF m 223 #[.val (.long q0), .second, .val (.long q1), .second, .val (.long q2), .second, .val (.long q3), .second, .val (.int p4), .val (.int p5), .val (.long c2), .second, .val (.long d2), .second, .val (.int f1), .val (.int t1), .val (.int f2), .val (.int t2), .val (.ref b5), .val (.ref b8), .val (.ref b11), .val (.ref b14), .val (.ref b17), .val (.ref b19), .val (.ref b21), .val (.ref b23), .val (.ref b25), .val (.ref b27), .unset, .unset, .unset, .unset, .unset] [(.long c2), (.long q0)])) (fun t k => XS.lload X28.here hx rfl (hb hby at_221) rfl k) ?_
  refine Goes.to (T' := T28.setTop (mkF m 224 #[.val (.long q0), .second, .val (.long q1), .second, .val (.long q2), .second, .val (.long q3), .second, .val (.int p4), .val (.int p5), .val (.long c2), .second, .val (.long d2), .second, .val (.int f1), .val (.int t1), .val (.int f2), .val (.int t2), .val (.ref b5), .val (.ref b8), .val (.ref b11), .val (.ref b14), .val (.ref b17), .val (.ref b19), .val (.ref b21), .val (.ref b23), .val (.ref b25), .val (.ref b27), .unset, .unset, .unset, .unset, .unset] [(.int (lcmpW q0 c2))])) (fun t k => XS.lcmp X28.here hx rfl (hb hby at_223) rfl k) ?_
  rcases Decidable.em (q0 = c2) with hc224_40 | hc224_40
  · skip
    refine Goes.to (T' := T28.setTop (mkF m 227 #[.val (.long q0), .second, .val (.long q1), .second, .val (.long q2), .second, .val (.long q3), .second, .val (.int p4), .val (.int p5), .val (.long c2), .second, .val (.long d2), .second, .val (.int f1), .val (.int t1), .val (.int f2), .val (.int t2), .val (.ref b5), .val (.ref b8), .val (.ref b11), .val (.ref b14), .val (.ref b17), .val (.ref b19), .val (.ref b21), .val (.ref b23), .val (.ref b25), .val (.ref b27), .unset, .unset, .unset, .unset, .unset] [])) (fun t k => XS.ifNo X28.here hx rfl (hb hby at_224) rfl ((if0 _ _).trans (teq ((lw_eq q0 c2).mpr hc224_40)).2) k) ?_
    refine Goes.to (T' := T28.setTop (mkF m 228 #[.val (.long q0), .second, .val (.long q1), .second, .val (.long q2), .second, .val (.long q3), .second, .val (.int p4), .val (.int p5), .val (.long c2), .second, .val (.long d2), .second, .val (.int f1), .val (.int t1), .val (.int f2), .val (.int t2), .val (.ref b5), .val (.ref b8), .val (.ref b11), .val (.ref b14), .val (.ref b17), .val (.ref b19), .val (.ref b21), .val (.ref b23), .val (.ref b25), .val (.ref b27), .unset, .unset, .unset, .unset, .unset] [(.long q1)])) (fun t k => XS.lloadN X28.here hx rfl (hb hby at_227) rfl k) ?_
    refine Goes.to (T' := T28.setTop (mkF m 230 #[.val (.long q0), .second, .val (.long q1), .second, .val (.long q2), .second, .val (.long q3), .second, .val (.int p4), .val (.int p5), .val (.long c2), .second, .val (.long d2), .second, .val (.int f1), .val (.int t1), .val (.int f2), .val (.int t2), .val (.ref b5), .val (.ref b8), .val (.ref b11), .val (.ref b14), .val (.ref b17), .val (.ref b19), .val (.ref b21), .val (.ref b23), .val (.ref b25), .val (.ref b27), .unset, .unset, .unset, .unset, .unset] [(.long d2), (.long q1)])) (fun t k => XS.lload X28.here hx rfl (hb hby at_228) rfl k) ?_
    refine Goes.to (T' := T28.setTop (mkF m 231 #[.val (.long q0), .second, .val (.long q1), .second, .val (.long q2), .second, .val (.long q3), .second, .val (.int p4), .val (.int p5), .val (.long c2), .second, .val (.long d2), .second, .val (.int f1), .val (.int t1), .val (.int f2), .val (.int t2), .val (.ref b5), .val (.ref b8), .val (.ref b11), .val (.ref b14), .val (.ref b17), .val (.ref b19), .val (.ref b21), .val (.ref b23), .val (.ref b25), .val (.ref b27), .unset, .unset, .unset, .unset, .unset] [(.int (lcmpW q1 d2))])) (fun t k => XS.lcmp X28.here hx rfl (hb hby at_230) rfl k) ?_
    rcases Decidable.em (q1 = d2) with hc231_41 | hc231_41
    · skip
      refine Goes.to (T' := T28.setTop (mkF m 234 #[.val (.long q0), .second, .val (.long q1), .second, .val (.long q2), .second, .val (.long q3), .second, .val (.int p4), .val (.int p5), .val (.long c2), .second, .val (.long d2), .second, .val (.int f1), .val (.int t1), .val (.int f2), .val (.int t2), .val (.ref b5), .val (.ref b8), .val (.ref b11), .val (.ref b14), .val (.ref b17), .val (.ref b19), .val (.ref b21), .val (.ref b23), .val (.ref b25), .val (.ref b27), .unset, .unset, .unset, .unset, .unset] [])) (fun t k => XS.ifNo X28.here hx rfl (hb hby at_231) rfl ((if0 _ _).trans (teq ((lw_eq q1 d2).mpr hc231_41)).2) k) ?_
      refine Goes.to (T' := T28.setTop (mkF m 236 #[.val (.long q0), .second, .val (.long q1), .second, .val (.long q2), .second, .val (.long q3), .second, .val (.int p4), .val (.int p5), .val (.long c2), .second, .val (.long d2), .second, .val (.int f1), .val (.int t1), .val (.int f2), .val (.int t2), .val (.ref b5), .val (.ref b8), .val (.ref b11), .val (.ref b14), .val (.ref b17), .val (.ref b19), .val (.ref b21), .val (.ref b23), .val (.ref b25), .val (.ref b27), .unset, .unset, .unset, .unset, .unset] [(.int f1)])) (fun t k => XS.iload X28.here hx rfl (hb hby at_234) rfl k) ?_
      refine Goes.to (T' := T28.setTop (mkF m 238 #[.val (.long q0), .second, .val (.long q1), .second, .val (.long q2), .second, .val (.long q3), .second, .val (.int p4), .val (.int p5), .val (.long c2), .second, .val (.long d2), .second, .val (.int f1), .val (.int t1), .val (.int f2), .val (.int t2), .val (.ref b5), .val (.ref b8), .val (.ref b11), .val (.ref b14), .val (.ref b17), .val (.ref b19), .val (.ref b21), .val (.ref b23), .val (.ref b25), .val (.ref b27), .unset, .unset, .unset, .unset, .unset] [(.int f2), (.int f1)])) (fun t k => XS.iload X28.here hx rfl (hb hby at_236) rfl k) ?_
      rcases Decidable.em (f1 = f2) with hc238_42 | hc238_42
      · skip
        refine Goes.to (T' := T28.setTop (mkF m 241 #[.val (.long q0), .second, .val (.long q1), .second, .val (.long q2), .second, .val (.long q3), .second, .val (.int p4), .val (.int p5), .val (.long c2), .second, .val (.long d2), .second, .val (.int f1), .val (.int t1), .val (.int f2), .val (.int t2), .val (.ref b5), .val (.ref b8), .val (.ref b11), .val (.ref b14), .val (.ref b17), .val (.ref b19), .val (.ref b21), .val (.ref b23), .val (.ref b25), .val (.ref b27), .unset, .unset, .unset, .unset, .unset] [])) (fun t k => XS.icmpNo X28.here hx rfl (hb hby at_238) rfl (teq hc238_42).2 k) ?_
        refine Goes.to (T' := T28.setTop (mkF m 243 #[.val (.long q0), .second, .val (.long q1), .second, .val (.long q2), .second, .val (.long q3), .second, .val (.int p4), .val (.int p5), .val (.long c2), .second, .val (.long d2), .second, .val (.int f1), .val (.int t1), .val (.int f2), .val (.int t2), .val (.ref b5), .val (.ref b8), .val (.ref b11), .val (.ref b14), .val (.ref b17), .val (.ref b19), .val (.ref b21), .val (.ref b23), .val (.ref b25), .val (.ref b27), .unset, .unset, .unset, .unset, .unset] [(.int t1)])) (fun t k => XS.iload X28.here hx rfl (hb hby at_241) rfl k) ?_
        refine Goes.to (T' := T28.setTop (mkF m 245 #[.val (.long q0), .second, .val (.long q1), .second, .val (.long q2), .second, .val (.long q3), .second, .val (.int p4), .val (.int p5), .val (.long c2), .second, .val (.long d2), .second, .val (.int f1), .val (.int t1), .val (.int f2), .val (.int t2), .val (.ref b5), .val (.ref b8), .val (.ref b11), .val (.ref b14), .val (.ref b17), .val (.ref b19), .val (.ref b21), .val (.ref b23), .val (.ref b25), .val (.ref b27), .unset, .unset, .unset, .unset, .unset] [(.int t2), (.int t1)])) (fun t k => XS.iload X28.here hx rfl (hb hby at_243) rfl k) ?_
        rcases Decidable.em (t1 = t2) with hc245_43 | hc245_43
        · skip
          refine Goes.to (T' := T28.setTop (mkF m 248 #[.val (.long q0), .second, .val (.long q1), .second, .val (.long q2), .second, .val (.long q3), .second, .val (.int p4), .val (.int p5), .val (.long c2), .second, .val (.long d2), .second, .val (.int f1), .val (.int t1), .val (.int f2), .val (.int t2), .val (.ref b5), .val (.ref b8), .val (.ref b11), .val (.ref b14), .val (.ref b17), .val (.ref b19), .val (.ref b21), .val (.ref b23), .val (.ref b25), .val (.ref b27), .unset, .unset, .unset, .unset, .unset] [])) (fun t k => XS.icmpNo X28.here hx rfl (hb hby at_245) rfl (teq hc245_43).2 k) ?_
          refine Goes.to (T' := T28.setTop (mkF m 249 #[.val (.long q0), .second, .val (.long q1), .second, .val (.long q2), .second, .val (.long q3), .second, .val (.int p4), .val (.int p5), .val (.long c2), .second, .val (.long d2), .second, .val (.int f1), .val (.int t1), .val (.int f2), .val (.int t2), .val (.ref b5), .val (.ref b8), .val (.ref b11), .val (.ref b14), .val (.ref b17), .val (.ref b19), .val (.ref b21), .val (.ref b23), .val (.ref b25), .val (.ref b27), .unset, .unset, .unset, .unset, .unset] [(.int (1 : Int32))])) (fun t k => XS.iconst X28.here hx rfl (hb hby at_248) k) ?_
          refine Goes.to (T' := T28.setTop (mkF m 253 #[.val (.long q0), .second, .val (.long q1), .second, .val (.long q2), .second, .val (.long q3), .second, .val (.int p4), .val (.int p5), .val (.long c2), .second, .val (.long d2), .second, .val (.int f1), .val (.int t1), .val (.int f2), .val (.int t2), .val (.ref b5), .val (.ref b8), .val (.ref b11), .val (.ref b14), .val (.ref b17), .val (.ref b19), .val (.ref b21), .val (.ref b23), .val (.ref b25), .val (.ref b27), .unset, .unset, .unset, .unset, .unset] [(.int (1 : Int32))])) (fun t k => XS.goto X28.here hx rfl (pc0 := 249) (pc' := 253) rfl (hb hby at_249) (by decide) (by decide) k) ?_
          refine Goes.to (T' := T28.setTop (mkF m 255 #[.val (.long q0), .second, .val (.long q1), .second, .val (.long q2), .second, .val (.long q3), .second, .val (.int p4), .val (.int p5), .val (.long c2), .second, .val (.long d2), .second, .val (.int f1), .val (.int t1), .val (.int f2), .val (.int t2), .val (.ref b5), .val (.ref b8), .val (.ref b11), .val (.ref b14), .val (.ref b17), .val (.ref b19), .val (.ref b21), .val (.ref b23), .val (.ref b25), .val (.ref b27), .val (.int (1 : Int32)), .unset, .unset, .unset, .unset] [])) (fun t k => XS.istore X28.here hx rfl (hb hby at_253) rfl (l' := #[.val (.long q0), .second, .val (.long q1), .second, .val (.long q2), .second, .val (.long q3), .second, .val (.int p4), .val (.int p5), .val (.long c2), .second, .val (.long d2), .second, .val (.int f1), .val (.int t1), .val (.int f2), .val (.int t2), .val (.ref b5), .val (.ref b8), .val (.ref b11), .val (.ref b14), .val (.ref b17), .val (.ref b19), .val (.ref b21), .val (.ref b23), .val (.ref b25), .val (.ref b27), .val (.int (1 : Int32)), .unset, .unset, .unset, .unset]) rfl k) ?_
          exact rm0_J255 l Z a0 hw ws q0 q1 q2 q3 p4 p5 z_cs h0 n0 NF  p e s m below meth c s₁ Bd hml hZ Qf hQf b5 b8 b11 b14 b17 b19 b21 b23 b25 b27 t18 t20 t22 t24 kb18 kb20 kb22 kb24 c2 d2 f1 t1 f2 t2 h_f1 h_t1 h_f2 h_t2 ne_b17_b21 ne_b21_b17 ne_b19_b23 ne_b23_b19 _ _ _ (1 : Int32) X28 rfl OC E_b17 F_coder_b17 F_value_b17 V_t18 E_b19 F_coder_b19 F_value_b19 V_t20 E_b21 F_coder_b21 F_value_b21 V_t22 E_b23 F_coder_b23 F_value_b23 V_t24 E_b25 F_first_b25 F_last_b25 F_from_b25 F_to_b25 E_b27 F_first_b27 F_last_b27 F_from_b27 F_to_b27 N28 (by first | (simp [hc224_40, hc231_41, hc238_42, hc245_43]; done) | ((repeat' split) <;> first | rfl | contradiction | simp_all)) 
        · skip
          refine Goes.to (T' := T28.setTop (mkF m 252 #[.val (.long q0), .second, .val (.long q1), .second, .val (.long q2), .second, .val (.long q3), .second, .val (.int p4), .val (.int p5), .val (.long c2), .second, .val (.long d2), .second, .val (.int f1), .val (.int t1), .val (.int f2), .val (.int t2), .val (.ref b5), .val (.ref b8), .val (.ref b11), .val (.ref b14), .val (.ref b17), .val (.ref b19), .val (.ref b21), .val (.ref b23), .val (.ref b25), .val (.ref b27), .unset, .unset, .unset, .unset, .unset] [])) (fun t k => XS.icmpYes X28.here hx rfl (pc0 := 245) (pc' := 252) rfl (hb hby at_245) rfl (feq hc245_43).2 (by decide) (by decide) k) ?_
          refine Goes.to (T' := T28.setTop (mkF m 253 #[.val (.long q0), .second, .val (.long q1), .second, .val (.long q2), .second, .val (.long q3), .second, .val (.int p4), .val (.int p5), .val (.long c2), .second, .val (.long d2), .second, .val (.int f1), .val (.int t1), .val (.int f2), .val (.int t2), .val (.ref b5), .val (.ref b8), .val (.ref b11), .val (.ref b14), .val (.ref b17), .val (.ref b19), .val (.ref b21), .val (.ref b23), .val (.ref b25), .val (.ref b27), .unset, .unset, .unset, .unset, .unset] [(.int (0 : Int32))])) (fun t k => XS.iconst X28.here hx rfl (hb hby at_252) k) ?_
          refine Goes.to (T' := T28.setTop (mkF m 255 #[.val (.long q0), .second, .val (.long q1), .second, .val (.long q2), .second, .val (.long q3), .second, .val (.int p4), .val (.int p5), .val (.long c2), .second, .val (.long d2), .second, .val (.int f1), .val (.int t1), .val (.int f2), .val (.int t2), .val (.ref b5), .val (.ref b8), .val (.ref b11), .val (.ref b14), .val (.ref b17), .val (.ref b19), .val (.ref b21), .val (.ref b23), .val (.ref b25), .val (.ref b27), .val (.int (0 : Int32)), .unset, .unset, .unset, .unset] [])) (fun t k => XS.istore X28.here hx rfl (hb hby at_253) rfl (l' := #[.val (.long q0), .second, .val (.long q1), .second, .val (.long q2), .second, .val (.long q3), .second, .val (.int p4), .val (.int p5), .val (.long c2), .second, .val (.long d2), .second, .val (.int f1), .val (.int t1), .val (.int f2), .val (.int t2), .val (.ref b5), .val (.ref b8), .val (.ref b11), .val (.ref b14), .val (.ref b17), .val (.ref b19), .val (.ref b21), .val (.ref b23), .val (.ref b25), .val (.ref b27), .val (.int (0 : Int32)), .unset, .unset, .unset, .unset]) rfl k) ?_
          exact rm0_J255 l Z a0 hw ws q0 q1 q2 q3 p4 p5 z_cs h0 n0 NF  p e s m below meth c s₁ Bd hml hZ Qf hQf b5 b8 b11 b14 b17 b19 b21 b23 b25 b27 t18 t20 t22 t24 kb18 kb20 kb22 kb24 c2 d2 f1 t1 f2 t2 h_f1 h_t1 h_f2 h_t2 ne_b17_b21 ne_b21_b17 ne_b19_b23 ne_b23_b19 _ _ _ (0 : Int32) X28 rfl OC E_b17 F_coder_b17 F_value_b17 V_t18 E_b19 F_coder_b19 F_value_b19 V_t20 E_b21 F_coder_b21 F_value_b21 V_t22 E_b23 F_coder_b23 F_value_b23 V_t24 E_b25 F_first_b25 F_last_b25 F_from_b25 F_to_b25 E_b27 F_first_b27 F_last_b27 F_from_b27 F_to_b27 N28 (by first | (simp [hc224_40, hc231_41, hc238_42, hc245_43]; done) | ((repeat' split) <;> first | rfl | contradiction | simp_all)) 
      · skip
        refine Goes.to (T' := T28.setTop (mkF m 252 #[.val (.long q0), .second, .val (.long q1), .second, .val (.long q2), .second, .val (.long q3), .second, .val (.int p4), .val (.int p5), .val (.long c2), .second, .val (.long d2), .second, .val (.int f1), .val (.int t1), .val (.int f2), .val (.int t2), .val (.ref b5), .val (.ref b8), .val (.ref b11), .val (.ref b14), .val (.ref b17), .val (.ref b19), .val (.ref b21), .val (.ref b23), .val (.ref b25), .val (.ref b27), .unset, .unset, .unset, .unset, .unset] [])) (fun t k => XS.icmpYes X28.here hx rfl (pc0 := 238) (pc' := 252) rfl (hb hby at_238) rfl (feq hc238_42).2 (by decide) (by decide) k) ?_
        refine Goes.to (T' := T28.setTop (mkF m 253 #[.val (.long q0), .second, .val (.long q1), .second, .val (.long q2), .second, .val (.long q3), .second, .val (.int p4), .val (.int p5), .val (.long c2), .second, .val (.long d2), .second, .val (.int f1), .val (.int t1), .val (.int f2), .val (.int t2), .val (.ref b5), .val (.ref b8), .val (.ref b11), .val (.ref b14), .val (.ref b17), .val (.ref b19), .val (.ref b21), .val (.ref b23), .val (.ref b25), .val (.ref b27), .unset, .unset, .unset, .unset, .unset] [(.int (0 : Int32))])) (fun t k => XS.iconst X28.here hx rfl (hb hby at_252) k) ?_
        refine Goes.to (T' := T28.setTop (mkF m 255 #[.val (.long q0), .second, .val (.long q1), .second, .val (.long q2), .second, .val (.long q3), .second, .val (.int p4), .val (.int p5), .val (.long c2), .second, .val (.long d2), .second, .val (.int f1), .val (.int t1), .val (.int f2), .val (.int t2), .val (.ref b5), .val (.ref b8), .val (.ref b11), .val (.ref b14), .val (.ref b17), .val (.ref b19), .val (.ref b21), .val (.ref b23), .val (.ref b25), .val (.ref b27), .val (.int (0 : Int32)), .unset, .unset, .unset, .unset] [])) (fun t k => XS.istore X28.here hx rfl (hb hby at_253) rfl (l' := #[.val (.long q0), .second, .val (.long q1), .second, .val (.long q2), .second, .val (.long q3), .second, .val (.int p4), .val (.int p5), .val (.long c2), .second, .val (.long d2), .second, .val (.int f1), .val (.int t1), .val (.int f2), .val (.int t2), .val (.ref b5), .val (.ref b8), .val (.ref b11), .val (.ref b14), .val (.ref b17), .val (.ref b19), .val (.ref b21), .val (.ref b23), .val (.ref b25), .val (.ref b27), .val (.int (0 : Int32)), .unset, .unset, .unset, .unset]) rfl k) ?_
        exact rm0_J255 l Z a0 hw ws q0 q1 q2 q3 p4 p5 z_cs h0 n0 NF  p e s m below meth c s₁ Bd hml hZ Qf hQf b5 b8 b11 b14 b17 b19 b21 b23 b25 b27 t18 t20 t22 t24 kb18 kb20 kb22 kb24 c2 d2 f1 t1 f2 t2 h_f1 h_t1 h_f2 h_t2 ne_b17_b21 ne_b21_b17 ne_b19_b23 ne_b23_b19 _ _ _ (0 : Int32) X28 rfl OC E_b17 F_coder_b17 F_value_b17 V_t18 E_b19 F_coder_b19 F_value_b19 V_t20 E_b21 F_coder_b21 F_value_b21 V_t22 E_b23 F_coder_b23 F_value_b23 V_t24 E_b25 F_first_b25 F_last_b25 F_from_b25 F_to_b25 E_b27 F_first_b27 F_last_b27 F_from_b27 F_to_b27 N28 (by first | (simp [hc224_40, hc231_41, hc238_42]; done) | ((repeat' split) <;> first | rfl | contradiction | simp_all)) 
    · skip
      refine Goes.to (T' := T28.setTop (mkF m 252 #[.val (.long q0), .second, .val (.long q1), .second, .val (.long q2), .second, .val (.long q3), .second, .val (.int p4), .val (.int p5), .val (.long c2), .second, .val (.long d2), .second, .val (.int f1), .val (.int t1), .val (.int f2), .val (.int t2), .val (.ref b5), .val (.ref b8), .val (.ref b11), .val (.ref b14), .val (.ref b17), .val (.ref b19), .val (.ref b21), .val (.ref b23), .val (.ref b25), .val (.ref b27), .unset, .unset, .unset, .unset, .unset] [])) (fun t k => XS.ifYes X28.here hx rfl (pc0 := 231) (pc' := 252) rfl (hb hby at_231) rfl ((if0 _ _).trans (feq (fun q => hc231_41 ((lw_eq q1 d2).mp q))).2) (by decide) (by decide) k) ?_
      refine Goes.to (T' := T28.setTop (mkF m 253 #[.val (.long q0), .second, .val (.long q1), .second, .val (.long q2), .second, .val (.long q3), .second, .val (.int p4), .val (.int p5), .val (.long c2), .second, .val (.long d2), .second, .val (.int f1), .val (.int t1), .val (.int f2), .val (.int t2), .val (.ref b5), .val (.ref b8), .val (.ref b11), .val (.ref b14), .val (.ref b17), .val (.ref b19), .val (.ref b21), .val (.ref b23), .val (.ref b25), .val (.ref b27), .unset, .unset, .unset, .unset, .unset] [(.int (0 : Int32))])) (fun t k => XS.iconst X28.here hx rfl (hb hby at_252) k) ?_
      refine Goes.to (T' := T28.setTop (mkF m 255 #[.val (.long q0), .second, .val (.long q1), .second, .val (.long q2), .second, .val (.long q3), .second, .val (.int p4), .val (.int p5), .val (.long c2), .second, .val (.long d2), .second, .val (.int f1), .val (.int t1), .val (.int f2), .val (.int t2), .val (.ref b5), .val (.ref b8), .val (.ref b11), .val (.ref b14), .val (.ref b17), .val (.ref b19), .val (.ref b21), .val (.ref b23), .val (.ref b25), .val (.ref b27), .val (.int (0 : Int32)), .unset, .unset, .unset, .unset] [])) (fun t k => XS.istore X28.here hx rfl (hb hby at_253) rfl (l' := #[.val (.long q0), .second, .val (.long q1), .second, .val (.long q2), .second, .val (.long q3), .second, .val (.int p4), .val (.int p5), .val (.long c2), .second, .val (.long d2), .second, .val (.int f1), .val (.int t1), .val (.int f2), .val (.int t2), .val (.ref b5), .val (.ref b8), .val (.ref b11), .val (.ref b14), .val (.ref b17), .val (.ref b19), .val (.ref b21), .val (.ref b23), .val (.ref b25), .val (.ref b27), .val (.int (0 : Int32)), .unset, .unset, .unset, .unset]) rfl k) ?_
      exact rm0_J255 l Z a0 hw ws q0 q1 q2 q3 p4 p5 z_cs h0 n0 NF  p e s m below meth c s₁ Bd hml hZ Qf hQf b5 b8 b11 b14 b17 b19 b21 b23 b25 b27 t18 t20 t22 t24 kb18 kb20 kb22 kb24 c2 d2 f1 t1 f2 t2 h_f1 h_t1 h_f2 h_t2 ne_b17_b21 ne_b21_b17 ne_b19_b23 ne_b23_b19 _ _ _ (0 : Int32) X28 rfl OC E_b17 F_coder_b17 F_value_b17 V_t18 E_b19 F_coder_b19 F_value_b19 V_t20 E_b21 F_coder_b21 F_value_b21 V_t22 E_b23 F_coder_b23 F_value_b23 V_t24 E_b25 F_first_b25 F_last_b25 F_from_b25 F_to_b25 E_b27 F_first_b27 F_last_b27 F_from_b27 F_to_b27 N28 (by first | (simp [hc224_40, hc231_41]; done) | ((repeat' split) <;> first | rfl | contradiction | simp_all)) 
  · skip
    refine Goes.to (T' := T28.setTop (mkF m 252 #[.val (.long q0), .second, .val (.long q1), .second, .val (.long q2), .second, .val (.long q3), .second, .val (.int p4), .val (.int p5), .val (.long c2), .second, .val (.long d2), .second, .val (.int f1), .val (.int t1), .val (.int f2), .val (.int t2), .val (.ref b5), .val (.ref b8), .val (.ref b11), .val (.ref b14), .val (.ref b17), .val (.ref b19), .val (.ref b21), .val (.ref b23), .val (.ref b25), .val (.ref b27), .unset, .unset, .unset, .unset, .unset] [])) (fun t k => XS.ifYes X28.here hx rfl (pc0 := 224) (pc' := 252) rfl (hb hby at_224) rfl ((if0 _ _).trans (feq (fun q => hc224_40 ((lw_eq q0 c2).mp q))).2) (by decide) (by decide) k) ?_
    refine Goes.to (T' := T28.setTop (mkF m 253 #[.val (.long q0), .second, .val (.long q1), .second, .val (.long q2), .second, .val (.long q3), .second, .val (.int p4), .val (.int p5), .val (.long c2), .second, .val (.long d2), .second, .val (.int f1), .val (.int t1), .val (.int f2), .val (.int t2), .val (.ref b5), .val (.ref b8), .val (.ref b11), .val (.ref b14), .val (.ref b17), .val (.ref b19), .val (.ref b21), .val (.ref b23), .val (.ref b25), .val (.ref b27), .unset, .unset, .unset, .unset, .unset] [(.int (0 : Int32))])) (fun t k => XS.iconst X28.here hx rfl (hb hby at_252) k) ?_
    refine Goes.to (T' := T28.setTop (mkF m 255 #[.val (.long q0), .second, .val (.long q1), .second, .val (.long q2), .second, .val (.long q3), .second, .val (.int p4), .val (.int p5), .val (.long c2), .second, .val (.long d2), .second, .val (.int f1), .val (.int t1), .val (.int f2), .val (.int t2), .val (.ref b5), .val (.ref b8), .val (.ref b11), .val (.ref b14), .val (.ref b17), .val (.ref b19), .val (.ref b21), .val (.ref b23), .val (.ref b25), .val (.ref b27), .val (.int (0 : Int32)), .unset, .unset, .unset, .unset] [])) (fun t k => XS.istore X28.here hx rfl (hb hby at_253) rfl (l' := #[.val (.long q0), .second, .val (.long q1), .second, .val (.long q2), .second, .val (.long q3), .second, .val (.int p4), .val (.int p5), .val (.long c2), .second, .val (.long d2), .second, .val (.int f1), .val (.int t1), .val (.int f2), .val (.int t2), .val (.ref b5), .val (.ref b8), .val (.ref b11), .val (.ref b14), .val (.ref b17), .val (.ref b19), .val (.ref b21), .val (.ref b23), .val (.ref b25), .val (.ref b27), .val (.int (0 : Int32)), .unset, .unset, .unset, .unset]) rfl k) ?_
    exact rm0_J255 l Z a0 hw ws q0 q1 q2 q3 p4 p5 z_cs h0 n0 NF  p e s m below meth c s₁ Bd hml hZ Qf hQf b5 b8 b11 b14 b17 b19 b21 b23 b25 b27 t18 t20 t22 t24 kb18 kb20 kb22 kb24 c2 d2 f1 t1 f2 t2 h_f1 h_t1 h_f2 h_t2 ne_b17_b21 ne_b21_b17 ne_b19_b23 ne_b23_b19 _ _ _ (0 : Int32) X28 rfl OC E_b17 F_coder_b17 F_value_b17 V_t18 E_b19 F_coder_b19 F_value_b19 V_t20 E_b21 F_coder_b21 F_value_b21 V_t22 E_b23 F_coder_b23 F_value_b23 V_t24 E_b25 F_first_b25 F_last_b25 F_from_b25 F_to_b25 E_b27 F_first_b27 F_last_b27 F_from_b27 F_to_b27 N28 (by first | (simp [hc224_40]; done) | ((repeat' split) <;> first | rfl | contradiction | simp_all)) 
set_option maxRecDepth 65536 in
set_option maxHeartbeats 40000000 in
theorem rm0_A (l : Launch) (Z : State) (a0 : Array Value) (hw : ∀ d ∈ tables_1, d.before a0 Z = true) (ws : List Jvm.Cond) (q0 : Int64) (q1 : Int64) (q2 : Int64) (q3 : Int64) (p4 : Int32) (p5 : Int32) (z_cs : Int32) (h0 : Heap) (n0 : Nat) (NF : Nar Z z_cs) (p : Program) (e : Env) (s : State) (m : MethodId) (below : List Frame) (meth : _) (c : _) (s₁ : State) (Bd : BodyLoose p l x (head1 (Jvm.Cond.code x code maxLocals ret :: ws) room_1) code maxLocals ret e s m #[(.long q0), (.long q1), (.long q2), (.long q3), (.int p4), (.int p5)] below meth c s₁) (hml : c.maxLocals = 33) (hZ : Z.Warmed39 s.vm) (Qf : Outcome → State → Prop) (hQf : Qf = (fun (_ : Array Value) (U : State) (o : Outcome) (U' : State) => ∃ v L, o = .returned v ∧ Q_rm0 Z q0 q1 q2 q3 p4 p5 z_cs h0 n0 v U'.heap L ∧ FrameEnd U o U' L room_1.cells room_1.slots) #[] s) (b5 : Addr) (b8 : Addr) (b11 : Addr) (b14 : Addr) (k5 : ClassId) (k8 : ClassId) (k11 : ClassId) (k14 : ClassId) (c2 : Int64) (d2 : Int64) (f1 : Int32) (t1 : Int32) (f2 : Int32) (t2 : Int32) (h_f1 : ¬ f1 < 0 ∧ ¬ (255 : Int32) < f1) (h_t1 : ¬ t1 < 0 ∧ ¬ (255 : Int32) < t1) (h_f2 : ¬ f2 < 0 ∧ ¬ (255 : Int32) < f2) (h_t2 : ¬ t2 < 0 ∧ ¬ (255 : Int32) < t2) (g_b5 : n0 ≤ b5) (g_b8 : n0 ≤ b8) (g_b11 : n0 ≤ b11) (g_b14 : n0 ≤ b14) (ne_b5_b8 : b5 ≠ b8) (ne_b5_b11 : b5 ≠ b11) (ne_b5_b14 : b5 ≠ b14) (ne_b8_b5 : b8 ≠ b5) (ne_b8_b11 : b8 ≠ b11) (ne_b8_b14 : b8 ≠ b14) (ne_b11_b5 : b11 ≠ b5) (ne_b11_b8 : b11 ≠ b8) (ne_b11_b14 : b11 ≠ b14) (ne_b14_b5 : b14 ≠ b5) (ne_b14_b8 : b14 ≠ b8) (ne_b14_b11 : b14 ≠ b11) (TC : State) (locsC : List Loc) (hC : Heap) (XC : Stand p l e room_1 s m #[(.long q0), (.long q1), (.long q2), (.long q3), (.int p4), (.int p5)] below meth c TC locsC 4 4) (eC : TC.heap = hC) (OC : Old Z n0 hC) (V_b5 : Arv Z hC b5 k5 .char (1 : Int32) [(.int f1)] (.int (0 : Int32))) (V_b8 : Arv Z hC b8 k8 .char (1 : Int32) [(.int t1)] (.int (0 : Int32))) (V_b11 : Arv Z hC b11 k11 .char (1 : Int32) [(.int f2)] (.int (0 : Int32))) (V_b14 : Arv Z hC b14 k14 .char (1 : Int32) [(.int t2)] (.int (0 : Int32))) (NC : Fr n0 locsC) : Goes p.tables e below Qf (TC.setTop (mkF m 144 #[.val (.long q0), .second, .val (.long q1), .second, .val (.long q2), .second, .val (.long q3), .second, .val (.int p4), .val (.int p5), .val (.long c2), .second, .val (.long d2), .second, .val (.int f1), .val (.int t1), .val (.int f2), .val (.int t2), .val (.ref b5), .val (.ref b8), .val (.ref b11), .val (.ref b14), .unset, .unset, .unset, .unset, .unset, .unset, .unset, .unset, .unset, .unset, .unset] [])) := by
  have hx := Bd.exec
  have hby := Bd.bytes
  have hown : s.vm.findClass "com/example/inman/inman/MoveEqualsPinLaw" = some m.cls := findClass_of_methodNamed Bd.named
  have hnm := (name_of_methodNamed Bd.named Bd.method).1
  obtain ⟨S_cs, nz_cs⟩ := id NF
  obtain ⟨T17, h17, X17, e17, E17, A17, D17, -, st17⟩ := newO XC hx hZ hown (hw _ (List.mem_of_getElem? (i := 1) rfl)) (hw _ (List.mem_of_getElem? (i := 2) rfl)) (hw _ (List.mem_of_getElem? (i := 3) rfl)) eC (g := (mkF m 144 #[.val (.long q0), .second, .val (.long q1), .second, .val (.long q2), .second, .val (.long q3), .second, .val (.int p4), .val (.int p5), .val (.long c2), .second, .val (.long d2), .second, .val (.int f1), .val (.int t1), .val (.int f2), .val (.int t2), .val (.ref b5), .val (.ref b8), .val (.ref b11), .val (.ref b14), .unset, .unset, .unset, .unset, .unset, .unset, .unset, .unset, .unset, .unset, .unset] [])) rfl (hb hby at_144) (by decide) (by decide)
  obtain ⟨b17, g17⟩ : ∃ z, z = hC.size := ⟨_, rfl⟩
  rw [← g17] at A17 D17 st17
  have g_b17 : n0 ≤ b17 := Nat.le_trans (own_old OC) (Nat.le_of_eq g17.symm)
  have ne_b5_b17 : b5 ≠ b17 := Nat.ne_of_lt (Nat.lt_of_lt_of_le V_b5.lt (Nat.le_of_eq g17.symm))
  have ne_b17_b5 := Ne.symm ne_b5_b17
  have ne_b8_b17 : b8 ≠ b17 := Nat.ne_of_lt (Nat.lt_of_lt_of_le V_b8.lt (Nat.le_of_eq g17.symm))
  have ne_b17_b8 := Ne.symm ne_b8_b17
  have ne_b11_b17 : b11 ≠ b17 := Nat.ne_of_lt (Nat.lt_of_lt_of_le V_b11.lt (Nat.le_of_eq g17.symm))
  have ne_b17_b11 := Ne.symm ne_b11_b17
  have ne_b14_b17 : b14 ≠ b17 := Nat.ne_of_lt (Nat.lt_of_lt_of_le V_b14.lt (Nat.le_of_eq g17.symm))
  have ne_b17_b14 := Ne.symm ne_b14_b17
  have V_b5 := V_b5.ext E17
  have V_b8 := V_b8.ext E17
  have V_b11 := V_b11.ext E17
  have V_b14 := V_b14.ext E17
  have OC := OC.ext E17
  have E_b17 := A17
  have F_coder_b17 : Fld Z h17 b17 "java/lang/String" "coder" "B" (.int (0 : Int32)) := D17 (Or.inr (hw _ (List.mem_of_getElem? (i := 27) rfl))) (ty := .byte) (by decide)
  have F_value_b17 : Fld Z h17 b17 "java/lang/String" "value" "[B" .null := D17 (Or.inr (hw _ (List.mem_of_getElem? (i := 29) rfl))) (ty := (.array .byte)) (by decide)
  refine Goes.to (T' := T17.setTop (mkF m 147 #[.val (.long q0), .second, .val (.long q1), .second, .val (.long q2), .second, .val (.long q3), .second, .val (.int p4), .val (.int p5), .val (.long c2), .second, .val (.long d2), .second, .val (.int f1), .val (.int t1), .val (.int f2), .val (.int t2), .val (.ref b5), .val (.ref b8), .val (.ref b11), .val (.ref b14), .unset, .unset, .unset, .unset, .unset, .unset, .unset, .unset, .unset, .unset, .unset] [(.ref b17)])) st17 ?_
  refine Goes.to (T' := T17.setTop (mkF m 148 #[.val (.long q0), .second, .val (.long q1), .second, .val (.long q2), .second, .val (.long q3), .second, .val (.int p4), .val (.int p5), .val (.long c2), .second, .val (.long d2), .second, .val (.int f1), .val (.int t1), .val (.int f2), .val (.int t2), .val (.ref b5), .val (.ref b8), .val (.ref b11), .val (.ref b14), .unset, .unset, .unset, .unset, .unset, .unset, .unset, .unset, .unset, .unset, .unset] [(.ref b17), (.ref b17)])) (fun t k => XS.dup X17.here hx rfl (hb hby at_147) rfl rfl k) ?_
  refine Goes.to (T' := T17.setTop (mkF m 150 #[.val (.long q0), .second, .val (.long q1), .second, .val (.long q2), .second, .val (.long q3), .second, .val (.int p4), .val (.int p5), .val (.long c2), .second, .val (.long d2), .second, .val (.int f1), .val (.int t1), .val (.int f2), .val (.int t2), .val (.ref b5), .val (.ref b8), .val (.ref b11), .val (.ref b14), .unset, .unset, .unset, .unset, .unset, .unset, .unset, .unset, .unset, .unset, .unset] [(.ref b5), (.ref b17), (.ref b17)])) (fun t k => XS.aload X17.here hx rfl (hb hby at_148) rfl rfl k) ?_
  have hws : ∀ d ∈ StrChars.Road.words, d.before a0 Z = true := fun d hd => hw d ((by decide +kernel : ∀ d ∈ StrChars.Road.words, d ∈ tables_1) d hd)
  have hlat : ∀ c ∈ [f1], ¬ c < 0 ∧ ¬ (255 : Int32) < c := by
    intro c hc
    simp only [List.mem_cons, List.not_mem_nil, or_false] at hc
    rcases hc with rfl
    · exact h_f1
  obtain ⟨_, _, ⟨T18, L18, k18, n18⟩, -, X18, ⟨Lc18, hQ18, l18, y18, z18⟩, st18⟩ := X17.specialBack hx (y := (⟨"java/lang/String", "<init>", "([C)V"⟩ : MethodName)) rfl hown (mvT hZ (hw _ (List.mem_of_getElem? (i := 4) rfl))) (mvT hZ (hw _ (List.mem_of_getElem? (i := 5) rfl))) (mvT hZ (hw _ (List.mem_of_getElem? (i := 6) rfl))) (by decide) (StrChars.Road.backV (W := 1) hZ hws (kI := 4) (hw _ (List.mem_of_getElem? (i := 2) rfl)) (cs := [f1]) (bs := [f1.toInt8.toInt32]) (n := 1) g_b17 (own_old OC) E_b17 F_value_b17 F_coder_b17 V_b5 (S_cs.ext OC.2) nz_cs rfl rfl (by decide) (by decide) hlat rfl (by decide) (by decide)) (g := (mkF m 150 #[.val (.long q0), .second, .val (.long q1), .second, .val (.long q2), .second, .val (.long q3), .second, .val (.int p4), .val (.int p5), .val (.long c2), .second, .val (.long d2), .second, .val (.int f1), .val (.int t1), .val (.int f2), .val (.int t2), .val (.ref b5), .val (.ref b8), .val (.ref b11), .val (.ref b14), .unset, .unset, .unset, .unset, .unset, .unset, .unset, .unset, .unset, .unset, .unset] [(.ref b5), (.ref b17), (.ref b17)])) rfl (by rw [hml]; rfl) (Steps.refl _) (a := b17) (argsL := [(.ref b5)]) (rest := [(.ref b17)]) (lenOf pd_110 rfl) rfl (by show 2 * 0 + _ ≤ _; exact Nat.le_of_eq rfl) (hb hby at_150) (fun _ _ => ⟨rfl, e17, (by decide : 5 + 1 ≤ _), (by decide : 8 + 1 ≤ _)⟩)
  dsimp only [Pt.U, Pt.locs, Pt.cells, Pt.slots] at X18 l18 y18 z18 st18 hQ18
  subst l18 y18 z18
  obtain ⟨rfl, Nq18, K18, -, Fc18, t18, kb18, gt18, szt18, net18, Fv18, Av18⟩ := hQ18
  have N18 := Fr.app NC Nq18
  have g_t18 : n0 ≤ t18 := gt18
  have ne_b5_t18 : b5 ≠ t18 := Nat.ne_of_lt (Nat.lt_of_lt_of_le V_b5.lt szt18)
  have ne_t18_b5 := Ne.symm ne_b5_t18
  have ne_b8_t18 : b8 ≠ t18 := Nat.ne_of_lt (Nat.lt_of_lt_of_le V_b8.lt szt18)
  have ne_t18_b8 := Ne.symm ne_b8_t18
  have ne_b11_t18 : b11 ≠ t18 := Nat.ne_of_lt (Nat.lt_of_lt_of_le V_b11.lt szt18)
  have ne_t18_b11 := Ne.symm ne_b11_t18
  have ne_b14_t18 : b14 ≠ t18 := Nat.ne_of_lt (Nat.lt_of_lt_of_le V_b14.lt szt18)
  have ne_t18_b14 := Ne.symm ne_b14_t18
  have ne_b17_t18 : b17 ≠ t18 := Nat.ne_of_lt (Nat.lt_of_lt_of_le E_b17.lt szt18)
  have ne_t18_b17 := Ne.symm ne_b17_t18
  have V_b5 := V_b5.keep K18 (ninS (ne_b5_b17) nin0)
  have V_b8 := V_b8.keep K18 (ninS (ne_b8_b17) nin0)
  have V_b11 := V_b11.keep K18 (ninS (ne_b11_b17) nin0)
  have V_b14 := V_b14.keep K18 (ninS (ne_b14_b17) nin0)
  have E_b17 := E_b17.keep K18
  have OC := OC.keep K18 (allS g_b17 all0)
  have F_coder_b17 := Fc18
  have F_value_b17 := Fv18
  have V_t18 : Arv Z T18.heap t18 kb18 .byte (1 : Int32) [(.int f1.toInt8.toInt32)] (.int (0 : Int32)) := Av18
  refine Goes.thru (T' := T18.setTop (mkF m 153 #[.val (.long q0), .second, .val (.long q1), .second, .val (.long q2), .second, .val (.long q3), .second, .val (.int p4), .val (.int p5), .val (.long c2), .second, .val (.long d2), .second, .val (.int f1), .val (.int t1), .val (.int f2), .val (.int t2), .val (.ref b5), .val (.ref b8), .val (.ref b11), .val (.ref b14), .unset, .unset, .unset, .unset, .unset, .unset, .unset, .unset, .unset, .unset, .unset] [(.ref b17)])) st18 ?_
  refine Goes.to (T' := T18.setTop (mkF m 155 #[.val (.long q0), .second, .val (.long q1), .second, .val (.long q2), .second, .val (.long q3), .second, .val (.int p4), .val (.int p5), .val (.long c2), .second, .val (.long d2), .second, .val (.int f1), .val (.int t1), .val (.int f2), .val (.int t2), .val (.ref b5), .val (.ref b8), .val (.ref b11), .val (.ref b14), .val (.ref b17), .unset, .unset, .unset, .unset, .unset, .unset, .unset, .unset, .unset, .unset] [])) (fun t k => XS.astore X18.here hx rfl (hb hby at_153) rfl rfl (l' := #[.val (.long q0), .second, .val (.long q1), .second, .val (.long q2), .second, .val (.long q3), .second, .val (.int p4), .val (.int p5), .val (.long c2), .second, .val (.long d2), .second, .val (.int f1), .val (.int t1), .val (.int f2), .val (.int t2), .val (.ref b5), .val (.ref b8), .val (.ref b11), .val (.ref b14), .val (.ref b17), .unset, .unset, .unset, .unset, .unset, .unset, .unset, .unset, .unset, .unset]) rfl k) ?_
  obtain ⟨T19, h19, X19, e19, E19, A19, D19, -, st19⟩ := newO X18 hx hZ hown (hw _ (List.mem_of_getElem? (i := 1) rfl)) (hw _ (List.mem_of_getElem? (i := 2) rfl)) (hw _ (List.mem_of_getElem? (i := 3) rfl)) rfl (g := (mkF m 155 #[.val (.long q0), .second, .val (.long q1), .second, .val (.long q2), .second, .val (.long q3), .second, .val (.int p4), .val (.int p5), .val (.long c2), .second, .val (.long d2), .second, .val (.int f1), .val (.int t1), .val (.int f2), .val (.int t2), .val (.ref b5), .val (.ref b8), .val (.ref b11), .val (.ref b14), .val (.ref b17), .unset, .unset, .unset, .unset, .unset, .unset, .unset, .unset, .unset, .unset] [])) rfl (hb hby at_155) (by decide) (by decide)
  obtain ⟨b19, g19⟩ : ∃ z, z = T18.heap.size := ⟨_, rfl⟩
  rw [← g19] at A19 D19 st19
  have g_b19 : n0 ≤ b19 := Nat.le_trans (own_old OC) (Nat.le_of_eq g19.symm)
  have ne_b8_b19 : b8 ≠ b19 := Nat.ne_of_lt (Nat.lt_of_lt_of_le V_b8.lt (Nat.le_of_eq g19.symm))
  have ne_b19_b8 := Ne.symm ne_b8_b19
  have ne_b11_b19 : b11 ≠ b19 := Nat.ne_of_lt (Nat.lt_of_lt_of_le V_b11.lt (Nat.le_of_eq g19.symm))
  have ne_b19_b11 := Ne.symm ne_b11_b19
  have ne_b14_b19 : b14 ≠ b19 := Nat.ne_of_lt (Nat.lt_of_lt_of_le V_b14.lt (Nat.le_of_eq g19.symm))
  have ne_b19_b14 := Ne.symm ne_b14_b19
  have ne_b17_b19 : b17 ≠ b19 := Nat.ne_of_lt (Nat.lt_of_lt_of_le E_b17.lt (Nat.le_of_eq g19.symm))
  have ne_b19_b17 := Ne.symm ne_b17_b19
  have ne_t18_b19 : t18 ≠ b19 := Nat.ne_of_lt (Nat.lt_of_lt_of_le V_t18.lt (Nat.le_of_eq g19.symm))
  have ne_b19_t18 := Ne.symm ne_t18_b19
  have V_b8 := V_b8.ext E19
  have V_b11 := V_b11.ext E19
  have V_b14 := V_b14.ext E19
  have E_b17 := E_b17.ext E19
  have F_coder_b17 := F_coder_b17.ext E19
  have F_value_b17 := F_value_b17.ext E19
  have V_t18 := V_t18.ext E19
  have OC := OC.ext E19
  have E_b19 := A19
  have F_coder_b19 : Fld Z h19 b19 "java/lang/String" "coder" "B" (.int (0 : Int32)) := D19 (Or.inr (hw _ (List.mem_of_getElem? (i := 27) rfl))) (ty := .byte) (by decide)
  have F_value_b19 : Fld Z h19 b19 "java/lang/String" "value" "[B" .null := D19 (Or.inr (hw _ (List.mem_of_getElem? (i := 29) rfl))) (ty := (.array .byte)) (by decide)
  refine Goes.to (T' := T19.setTop (mkF m 158 #[.val (.long q0), .second, .val (.long q1), .second, .val (.long q2), .second, .val (.long q3), .second, .val (.int p4), .val (.int p5), .val (.long c2), .second, .val (.long d2), .second, .val (.int f1), .val (.int t1), .val (.int f2), .val (.int t2), .val (.ref b5), .val (.ref b8), .val (.ref b11), .val (.ref b14), .val (.ref b17), .unset, .unset, .unset, .unset, .unset, .unset, .unset, .unset, .unset, .unset] [(.ref b19)])) st19 ?_
  refine Goes.to (T' := T19.setTop (mkF m 159 #[.val (.long q0), .second, .val (.long q1), .second, .val (.long q2), .second, .val (.long q3), .second, .val (.int p4), .val (.int p5), .val (.long c2), .second, .val (.long d2), .second, .val (.int f1), .val (.int t1), .val (.int f2), .val (.int t2), .val (.ref b5), .val (.ref b8), .val (.ref b11), .val (.ref b14), .val (.ref b17), .unset, .unset, .unset, .unset, .unset, .unset, .unset, .unset, .unset, .unset] [(.ref b19), (.ref b19)])) (fun t k => XS.dup X19.here hx rfl (hb hby at_158) rfl rfl k) ?_
  refine Goes.to (T' := T19.setTop (mkF m 161 #[.val (.long q0), .second, .val (.long q1), .second, .val (.long q2), .second, .val (.long q3), .second, .val (.int p4), .val (.int p5), .val (.long c2), .second, .val (.long d2), .second, .val (.int f1), .val (.int t1), .val (.int f2), .val (.int t2), .val (.ref b5), .val (.ref b8), .val (.ref b11), .val (.ref b14), .val (.ref b17), .unset, .unset, .unset, .unset, .unset, .unset, .unset, .unset, .unset, .unset] [(.ref b8), (.ref b19), (.ref b19)])) (fun t k => XS.aload X19.here hx rfl (hb hby at_159) rfl rfl k) ?_
  have hws : ∀ d ∈ StrChars.Road.words, d.before a0 Z = true := fun d hd => hw d ((by decide +kernel : ∀ d ∈ StrChars.Road.words, d ∈ tables_1) d hd)
  have hlat : ∀ c ∈ [t1], ¬ c < 0 ∧ ¬ (255 : Int32) < c := by
    intro c hc
    simp only [List.mem_cons, List.not_mem_nil, or_false] at hc
    rcases hc with rfl
    · exact h_t1
  obtain ⟨_, _, ⟨T20, L20, k20, n20⟩, -, X20, ⟨Lc20, hQ20, l20, y20, z20⟩, st20⟩ := X19.specialBack hx (y := (⟨"java/lang/String", "<init>", "([C)V"⟩ : MethodName)) rfl hown (mvT hZ (hw _ (List.mem_of_getElem? (i := 4) rfl))) (mvT hZ (hw _ (List.mem_of_getElem? (i := 5) rfl))) (mvT hZ (hw _ (List.mem_of_getElem? (i := 6) rfl))) (by decide) (StrChars.Road.backV (W := 1) hZ hws (kI := 4) (hw _ (List.mem_of_getElem? (i := 2) rfl)) (cs := [t1]) (bs := [t1.toInt8.toInt32]) (n := 1) g_b19 (own_old OC) E_b19 F_value_b19 F_coder_b19 V_b8 (S_cs.ext OC.2) nz_cs rfl rfl (by decide) (by decide) hlat rfl (by decide) (by decide)) (g := (mkF m 161 #[.val (.long q0), .second, .val (.long q1), .second, .val (.long q2), .second, .val (.long q3), .second, .val (.int p4), .val (.int p5), .val (.long c2), .second, .val (.long d2), .second, .val (.int f1), .val (.int t1), .val (.int f2), .val (.int t2), .val (.ref b5), .val (.ref b8), .val (.ref b11), .val (.ref b14), .val (.ref b17), .unset, .unset, .unset, .unset, .unset, .unset, .unset, .unset, .unset, .unset] [(.ref b8), (.ref b19), (.ref b19)])) rfl (by rw [hml]; rfl) (Steps.refl _) (a := b19) (argsL := [(.ref b8)]) (rest := [(.ref b19)]) (lenOf pd_110 rfl) rfl (by show 2 * 0 + _ ≤ _; exact Nat.le_of_eq rfl) (hb hby at_161) (fun _ _ => ⟨rfl, e19, (by decide : 7 + 1 ≤ _), (by decide : 13 + 1 ≤ _)⟩)
  dsimp only [Pt.U, Pt.locs, Pt.cells, Pt.slots] at X20 l20 y20 z20 st20 hQ20
  subst l20 y20 z20
  obtain ⟨rfl, Nq20, K20, -, Fc20, t20, kb20, gt20, szt20, net20, Fv20, Av20⟩ := hQ20
  have N20 := Fr.app N18 Nq20
  have g_t20 : n0 ≤ t20 := gt20
  have ne_b8_t20 : b8 ≠ t20 := Nat.ne_of_lt (Nat.lt_of_lt_of_le V_b8.lt szt20)
  have ne_t20_b8 := Ne.symm ne_b8_t20
  have ne_b11_t20 : b11 ≠ t20 := Nat.ne_of_lt (Nat.lt_of_lt_of_le V_b11.lt szt20)
  have ne_t20_b11 := Ne.symm ne_b11_t20
  have ne_b14_t20 : b14 ≠ t20 := Nat.ne_of_lt (Nat.lt_of_lt_of_le V_b14.lt szt20)
  have ne_t20_b14 := Ne.symm ne_b14_t20
  have ne_b17_t20 : b17 ≠ t20 := Nat.ne_of_lt (Nat.lt_of_lt_of_le E_b17.lt szt20)
  have ne_t20_b17 := Ne.symm ne_b17_t20
  have ne_t18_t20 : t18 ≠ t20 := Nat.ne_of_lt (Nat.lt_of_lt_of_le V_t18.lt szt20)
  have ne_t20_t18 := Ne.symm ne_t18_t20
  have ne_b19_t20 : b19 ≠ t20 := Nat.ne_of_lt (Nat.lt_of_lt_of_le E_b19.lt szt20)
  have ne_t20_b19 := Ne.symm ne_b19_t20
  have V_b8 := V_b8.keep K20 (ninS (ne_b8_b19) nin0)
  have V_b11 := V_b11.keep K20 (ninS (ne_b11_b19) nin0)
  have V_b14 := V_b14.keep K20 (ninS (ne_b14_b19) nin0)
  have E_b17 := E_b17.keep K20
  have F_coder_b17 := F_coder_b17.keep K20 (ninS (ne_b17_b19) nin0)
  have F_value_b17 := F_value_b17.keep K20 (ninS (ne_b17_b19) nin0)
  have V_t18 := V_t18.keep K20 (ninS (ne_t18_b19) nin0)
  have E_b19 := E_b19.keep K20
  have OC := OC.keep K20 (allS g_b19 all0)
  have F_coder_b19 := Fc20
  have F_value_b19 := Fv20
  have V_t20 : Arv Z T20.heap t20 kb20 .byte (1 : Int32) [(.int t1.toInt8.toInt32)] (.int (0 : Int32)) := Av20
  refine Goes.thru (T' := T20.setTop (mkF m 164 #[.val (.long q0), .second, .val (.long q1), .second, .val (.long q2), .second, .val (.long q3), .second, .val (.int p4), .val (.int p5), .val (.long c2), .second, .val (.long d2), .second, .val (.int f1), .val (.int t1), .val (.int f2), .val (.int t2), .val (.ref b5), .val (.ref b8), .val (.ref b11), .val (.ref b14), .val (.ref b17), .unset, .unset, .unset, .unset, .unset, .unset, .unset, .unset, .unset, .unset] [(.ref b19)])) st20 ?_
  refine Goes.to (T' := T20.setTop (mkF m 166 #[.val (.long q0), .second, .val (.long q1), .second, .val (.long q2), .second, .val (.long q3), .second, .val (.int p4), .val (.int p5), .val (.long c2), .second, .val (.long d2), .second, .val (.int f1), .val (.int t1), .val (.int f2), .val (.int t2), .val (.ref b5), .val (.ref b8), .val (.ref b11), .val (.ref b14), .val (.ref b17), .val (.ref b19), .unset, .unset, .unset, .unset, .unset, .unset, .unset, .unset, .unset] [])) (fun t k => XS.astore X20.here hx rfl (hb hby at_164) rfl rfl (l' := #[.val (.long q0), .second, .val (.long q1), .second, .val (.long q2), .second, .val (.long q3), .second, .val (.int p4), .val (.int p5), .val (.long c2), .second, .val (.long d2), .second, .val (.int f1), .val (.int t1), .val (.int f2), .val (.int t2), .val (.ref b5), .val (.ref b8), .val (.ref b11), .val (.ref b14), .val (.ref b17), .val (.ref b19), .unset, .unset, .unset, .unset, .unset, .unset, .unset, .unset, .unset]) rfl k) ?_
  obtain ⟨T21, h21, X21, e21, E21, A21, D21, -, st21⟩ := newO X20 hx hZ hown (hw _ (List.mem_of_getElem? (i := 1) rfl)) (hw _ (List.mem_of_getElem? (i := 2) rfl)) (hw _ (List.mem_of_getElem? (i := 3) rfl)) rfl (g := (mkF m 166 #[.val (.long q0), .second, .val (.long q1), .second, .val (.long q2), .second, .val (.long q3), .second, .val (.int p4), .val (.int p5), .val (.long c2), .second, .val (.long d2), .second, .val (.int f1), .val (.int t1), .val (.int f2), .val (.int t2), .val (.ref b5), .val (.ref b8), .val (.ref b11), .val (.ref b14), .val (.ref b17), .val (.ref b19), .unset, .unset, .unset, .unset, .unset, .unset, .unset, .unset, .unset] [])) rfl (hb hby at_166) (by decide) (by decide)
  obtain ⟨b21, g21⟩ : ∃ z, z = T20.heap.size := ⟨_, rfl⟩
  rw [← g21] at A21 D21 st21
  have g_b21 : n0 ≤ b21 := Nat.le_trans (own_old OC) (Nat.le_of_eq g21.symm)
  have ne_b11_b21 : b11 ≠ b21 := Nat.ne_of_lt (Nat.lt_of_lt_of_le V_b11.lt (Nat.le_of_eq g21.symm))
  have ne_b21_b11 := Ne.symm ne_b11_b21
  have ne_b14_b21 : b14 ≠ b21 := Nat.ne_of_lt (Nat.lt_of_lt_of_le V_b14.lt (Nat.le_of_eq g21.symm))
  have ne_b21_b14 := Ne.symm ne_b14_b21
  have ne_b17_b21 : b17 ≠ b21 := Nat.ne_of_lt (Nat.lt_of_lt_of_le E_b17.lt (Nat.le_of_eq g21.symm))
  have ne_b21_b17 := Ne.symm ne_b17_b21
  have ne_t18_b21 : t18 ≠ b21 := Nat.ne_of_lt (Nat.lt_of_lt_of_le V_t18.lt (Nat.le_of_eq g21.symm))
  have ne_b21_t18 := Ne.symm ne_t18_b21
  have ne_b19_b21 : b19 ≠ b21 := Nat.ne_of_lt (Nat.lt_of_lt_of_le E_b19.lt (Nat.le_of_eq g21.symm))
  have ne_b21_b19 := Ne.symm ne_b19_b21
  have ne_t20_b21 : t20 ≠ b21 := Nat.ne_of_lt (Nat.lt_of_lt_of_le V_t20.lt (Nat.le_of_eq g21.symm))
  have ne_b21_t20 := Ne.symm ne_t20_b21
  have V_b11 := V_b11.ext E21
  have V_b14 := V_b14.ext E21
  have E_b17 := E_b17.ext E21
  have F_coder_b17 := F_coder_b17.ext E21
  have F_value_b17 := F_value_b17.ext E21
  have V_t18 := V_t18.ext E21
  have E_b19 := E_b19.ext E21
  have F_coder_b19 := F_coder_b19.ext E21
  have F_value_b19 := F_value_b19.ext E21
  have V_t20 := V_t20.ext E21
  have OC := OC.ext E21
  have E_b21 := A21
  have F_coder_b21 : Fld Z h21 b21 "java/lang/String" "coder" "B" (.int (0 : Int32)) := D21 (Or.inr (hw _ (List.mem_of_getElem? (i := 27) rfl))) (ty := .byte) (by decide)
  have F_value_b21 : Fld Z h21 b21 "java/lang/String" "value" "[B" .null := D21 (Or.inr (hw _ (List.mem_of_getElem? (i := 29) rfl))) (ty := (.array .byte)) (by decide)
  refine Goes.to (T' := T21.setTop (mkF m 169 #[.val (.long q0), .second, .val (.long q1), .second, .val (.long q2), .second, .val (.long q3), .second, .val (.int p4), .val (.int p5), .val (.long c2), .second, .val (.long d2), .second, .val (.int f1), .val (.int t1), .val (.int f2), .val (.int t2), .val (.ref b5), .val (.ref b8), .val (.ref b11), .val (.ref b14), .val (.ref b17), .val (.ref b19), .unset, .unset, .unset, .unset, .unset, .unset, .unset, .unset, .unset] [(.ref b21)])) st21 ?_
  refine Goes.to (T' := T21.setTop (mkF m 170 #[.val (.long q0), .second, .val (.long q1), .second, .val (.long q2), .second, .val (.long q3), .second, .val (.int p4), .val (.int p5), .val (.long c2), .second, .val (.long d2), .second, .val (.int f1), .val (.int t1), .val (.int f2), .val (.int t2), .val (.ref b5), .val (.ref b8), .val (.ref b11), .val (.ref b14), .val (.ref b17), .val (.ref b19), .unset, .unset, .unset, .unset, .unset, .unset, .unset, .unset, .unset] [(.ref b21), (.ref b21)])) (fun t k => XS.dup X21.here hx rfl (hb hby at_169) rfl rfl k) ?_
  refine Goes.to (T' := T21.setTop (mkF m 172 #[.val (.long q0), .second, .val (.long q1), .second, .val (.long q2), .second, .val (.long q3), .second, .val (.int p4), .val (.int p5), .val (.long c2), .second, .val (.long d2), .second, .val (.int f1), .val (.int t1), .val (.int f2), .val (.int t2), .val (.ref b5), .val (.ref b8), .val (.ref b11), .val (.ref b14), .val (.ref b17), .val (.ref b19), .unset, .unset, .unset, .unset, .unset, .unset, .unset, .unset, .unset] [(.ref b11), (.ref b21), (.ref b21)])) (fun t k => XS.aload X21.here hx rfl (hb hby at_170) rfl rfl k) ?_
  have hws : ∀ d ∈ StrChars.Road.words, d.before a0 Z = true := fun d hd => hw d ((by decide +kernel : ∀ d ∈ StrChars.Road.words, d ∈ tables_1) d hd)
  have hlat : ∀ c ∈ [f2], ¬ c < 0 ∧ ¬ (255 : Int32) < c := by
    intro c hc
    simp only [List.mem_cons, List.not_mem_nil, or_false] at hc
    rcases hc with rfl
    · exact h_f2
  obtain ⟨_, _, ⟨T22, L22, k22, n22⟩, -, X22, ⟨Lc22, hQ22, l22, y22, z22⟩, st22⟩ := X21.specialBack hx (y := (⟨"java/lang/String", "<init>", "([C)V"⟩ : MethodName)) rfl hown (mvT hZ (hw _ (List.mem_of_getElem? (i := 4) rfl))) (mvT hZ (hw _ (List.mem_of_getElem? (i := 5) rfl))) (mvT hZ (hw _ (List.mem_of_getElem? (i := 6) rfl))) (by decide) (StrChars.Road.backV (W := 1) hZ hws (kI := 4) (hw _ (List.mem_of_getElem? (i := 2) rfl)) (cs := [f2]) (bs := [f2.toInt8.toInt32]) (n := 1) g_b21 (own_old OC) E_b21 F_value_b21 F_coder_b21 V_b11 (S_cs.ext OC.2) nz_cs rfl rfl (by decide) (by decide) hlat rfl (by decide) (by decide)) (g := (mkF m 172 #[.val (.long q0), .second, .val (.long q1), .second, .val (.long q2), .second, .val (.long q3), .second, .val (.int p4), .val (.int p5), .val (.long c2), .second, .val (.long d2), .second, .val (.int f1), .val (.int t1), .val (.int f2), .val (.int t2), .val (.ref b5), .val (.ref b8), .val (.ref b11), .val (.ref b14), .val (.ref b17), .val (.ref b19), .unset, .unset, .unset, .unset, .unset, .unset, .unset, .unset, .unset] [(.ref b11), (.ref b21), (.ref b21)])) rfl (by rw [hml]; rfl) (Steps.refl _) (a := b21) (argsL := [(.ref b11)]) (rest := [(.ref b21)]) (lenOf pd_110 rfl) rfl (by show 2 * 0 + _ ≤ _; exact Nat.le_of_eq rfl) (hb hby at_172) (fun _ _ => ⟨rfl, e21, (by decide : 9 + 1 ≤ _), (by decide : 18 + 1 ≤ _)⟩)
  dsimp only [Pt.U, Pt.locs, Pt.cells, Pt.slots] at X22 l22 y22 z22 st22 hQ22
  subst l22 y22 z22
  obtain ⟨rfl, Nq22, K22, -, Fc22, t22, kb22, gt22, szt22, net22, Fv22, Av22⟩ := hQ22
  have N22 := Fr.app N20 Nq22
  have g_t22 : n0 ≤ t22 := gt22
  have ne_b11_t22 : b11 ≠ t22 := Nat.ne_of_lt (Nat.lt_of_lt_of_le V_b11.lt szt22)
  have ne_t22_b11 := Ne.symm ne_b11_t22
  have ne_b14_t22 : b14 ≠ t22 := Nat.ne_of_lt (Nat.lt_of_lt_of_le V_b14.lt szt22)
  have ne_t22_b14 := Ne.symm ne_b14_t22
  have ne_b17_t22 : b17 ≠ t22 := Nat.ne_of_lt (Nat.lt_of_lt_of_le E_b17.lt szt22)
  have ne_t22_b17 := Ne.symm ne_b17_t22
  have ne_t18_t22 : t18 ≠ t22 := Nat.ne_of_lt (Nat.lt_of_lt_of_le V_t18.lt szt22)
  have ne_t22_t18 := Ne.symm ne_t18_t22
  have ne_b19_t22 : b19 ≠ t22 := Nat.ne_of_lt (Nat.lt_of_lt_of_le E_b19.lt szt22)
  have ne_t22_b19 := Ne.symm ne_b19_t22
  have ne_t20_t22 : t20 ≠ t22 := Nat.ne_of_lt (Nat.lt_of_lt_of_le V_t20.lt szt22)
  have ne_t22_t20 := Ne.symm ne_t20_t22
  have ne_b21_t22 : b21 ≠ t22 := Nat.ne_of_lt (Nat.lt_of_lt_of_le E_b21.lt szt22)
  have ne_t22_b21 := Ne.symm ne_b21_t22
  have V_b11 := V_b11.keep K22 (ninS (ne_b11_b21) nin0)
  have V_b14 := V_b14.keep K22 (ninS (ne_b14_b21) nin0)
  have E_b17 := E_b17.keep K22
  have F_coder_b17 := F_coder_b17.keep K22 (ninS (ne_b17_b21) nin0)
  have F_value_b17 := F_value_b17.keep K22 (ninS (ne_b17_b21) nin0)
  have V_t18 := V_t18.keep K22 (ninS (ne_t18_b21) nin0)
  have E_b19 := E_b19.keep K22
  have F_coder_b19 := F_coder_b19.keep K22 (ninS (ne_b19_b21) nin0)
  have F_value_b19 := F_value_b19.keep K22 (ninS (ne_b19_b21) nin0)
  have V_t20 := V_t20.keep K22 (ninS (ne_t20_b21) nin0)
  have E_b21 := E_b21.keep K22
  have OC := OC.keep K22 (allS g_b21 all0)
  have F_coder_b21 := Fc22
  have F_value_b21 := Fv22
  have V_t22 : Arv Z T22.heap t22 kb22 .byte (1 : Int32) [(.int f2.toInt8.toInt32)] (.int (0 : Int32)) := Av22
  refine Goes.thru (T' := T22.setTop (mkF m 175 #[.val (.long q0), .second, .val (.long q1), .second, .val (.long q2), .second, .val (.long q3), .second, .val (.int p4), .val (.int p5), .val (.long c2), .second, .val (.long d2), .second, .val (.int f1), .val (.int t1), .val (.int f2), .val (.int t2), .val (.ref b5), .val (.ref b8), .val (.ref b11), .val (.ref b14), .val (.ref b17), .val (.ref b19), .unset, .unset, .unset, .unset, .unset, .unset, .unset, .unset, .unset] [(.ref b21)])) st22 ?_
  refine Goes.to (T' := T22.setTop (mkF m 177 #[.val (.long q0), .second, .val (.long q1), .second, .val (.long q2), .second, .val (.long q3), .second, .val (.int p4), .val (.int p5), .val (.long c2), .second, .val (.long d2), .second, .val (.int f1), .val (.int t1), .val (.int f2), .val (.int t2), .val (.ref b5), .val (.ref b8), .val (.ref b11), .val (.ref b14), .val (.ref b17), .val (.ref b19), .val (.ref b21), .unset, .unset, .unset, .unset, .unset, .unset, .unset, .unset] [])) (fun t k => XS.astore X22.here hx rfl (hb hby at_175) rfl rfl (l' := #[.val (.long q0), .second, .val (.long q1), .second, .val (.long q2), .second, .val (.long q3), .second, .val (.int p4), .val (.int p5), .val (.long c2), .second, .val (.long d2), .second, .val (.int f1), .val (.int t1), .val (.int f2), .val (.int t2), .val (.ref b5), .val (.ref b8), .val (.ref b11), .val (.ref b14), .val (.ref b17), .val (.ref b19), .val (.ref b21), .unset, .unset, .unset, .unset, .unset, .unset, .unset, .unset]) rfl k) ?_
  obtain ⟨T23, h23, X23, e23, E23, A23, D23, -, st23⟩ := newO X22 hx hZ hown (hw _ (List.mem_of_getElem? (i := 1) rfl)) (hw _ (List.mem_of_getElem? (i := 2) rfl)) (hw _ (List.mem_of_getElem? (i := 3) rfl)) rfl (g := (mkF m 177 #[.val (.long q0), .second, .val (.long q1), .second, .val (.long q2), .second, .val (.long q3), .second, .val (.int p4), .val (.int p5), .val (.long c2), .second, .val (.long d2), .second, .val (.int f1), .val (.int t1), .val (.int f2), .val (.int t2), .val (.ref b5), .val (.ref b8), .val (.ref b11), .val (.ref b14), .val (.ref b17), .val (.ref b19), .val (.ref b21), .unset, .unset, .unset, .unset, .unset, .unset, .unset, .unset] [])) rfl (hb hby at_177) (by decide) (by decide)
  obtain ⟨b23, g23⟩ : ∃ z, z = T22.heap.size := ⟨_, rfl⟩
  rw [← g23] at A23 D23 st23
  have g_b23 : n0 ≤ b23 := Nat.le_trans (own_old OC) (Nat.le_of_eq g23.symm)
  have ne_b14_b23 : b14 ≠ b23 := Nat.ne_of_lt (Nat.lt_of_lt_of_le V_b14.lt (Nat.le_of_eq g23.symm))
  have ne_b23_b14 := Ne.symm ne_b14_b23
  have ne_b17_b23 : b17 ≠ b23 := Nat.ne_of_lt (Nat.lt_of_lt_of_le E_b17.lt (Nat.le_of_eq g23.symm))
  have ne_b23_b17 := Ne.symm ne_b17_b23
  have ne_t18_b23 : t18 ≠ b23 := Nat.ne_of_lt (Nat.lt_of_lt_of_le V_t18.lt (Nat.le_of_eq g23.symm))
  have ne_b23_t18 := Ne.symm ne_t18_b23
  have ne_b19_b23 : b19 ≠ b23 := Nat.ne_of_lt (Nat.lt_of_lt_of_le E_b19.lt (Nat.le_of_eq g23.symm))
  have ne_b23_b19 := Ne.symm ne_b19_b23
  have ne_t20_b23 : t20 ≠ b23 := Nat.ne_of_lt (Nat.lt_of_lt_of_le V_t20.lt (Nat.le_of_eq g23.symm))
  have ne_b23_t20 := Ne.symm ne_t20_b23
  have ne_b21_b23 : b21 ≠ b23 := Nat.ne_of_lt (Nat.lt_of_lt_of_le E_b21.lt (Nat.le_of_eq g23.symm))
  have ne_b23_b21 := Ne.symm ne_b21_b23
  have ne_t22_b23 : t22 ≠ b23 := Nat.ne_of_lt (Nat.lt_of_lt_of_le V_t22.lt (Nat.le_of_eq g23.symm))
  have ne_b23_t22 := Ne.symm ne_t22_b23
  have V_b14 := V_b14.ext E23
  have E_b17 := E_b17.ext E23
  have F_coder_b17 := F_coder_b17.ext E23
  have F_value_b17 := F_value_b17.ext E23
  have V_t18 := V_t18.ext E23
  have E_b19 := E_b19.ext E23
  have F_coder_b19 := F_coder_b19.ext E23
  have F_value_b19 := F_value_b19.ext E23
  have V_t20 := V_t20.ext E23
  have E_b21 := E_b21.ext E23
  have F_coder_b21 := F_coder_b21.ext E23
  have F_value_b21 := F_value_b21.ext E23
  have V_t22 := V_t22.ext E23
  have OC := OC.ext E23
  have E_b23 := A23
  have F_coder_b23 : Fld Z h23 b23 "java/lang/String" "coder" "B" (.int (0 : Int32)) := D23 (Or.inr (hw _ (List.mem_of_getElem? (i := 27) rfl))) (ty := .byte) (by decide)
  have F_value_b23 : Fld Z h23 b23 "java/lang/String" "value" "[B" .null := D23 (Or.inr (hw _ (List.mem_of_getElem? (i := 29) rfl))) (ty := (.array .byte)) (by decide)
  refine Goes.to (T' := T23.setTop (mkF m 180 #[.val (.long q0), .second, .val (.long q1), .second, .val (.long q2), .second, .val (.long q3), .second, .val (.int p4), .val (.int p5), .val (.long c2), .second, .val (.long d2), .second, .val (.int f1), .val (.int t1), .val (.int f2), .val (.int t2), .val (.ref b5), .val (.ref b8), .val (.ref b11), .val (.ref b14), .val (.ref b17), .val (.ref b19), .val (.ref b21), .unset, .unset, .unset, .unset, .unset, .unset, .unset, .unset] [(.ref b23)])) st23 ?_
  refine Goes.to (T' := T23.setTop (mkF m 181 #[.val (.long q0), .second, .val (.long q1), .second, .val (.long q2), .second, .val (.long q3), .second, .val (.int p4), .val (.int p5), .val (.long c2), .second, .val (.long d2), .second, .val (.int f1), .val (.int t1), .val (.int f2), .val (.int t2), .val (.ref b5), .val (.ref b8), .val (.ref b11), .val (.ref b14), .val (.ref b17), .val (.ref b19), .val (.ref b21), .unset, .unset, .unset, .unset, .unset, .unset, .unset, .unset] [(.ref b23), (.ref b23)])) (fun t k => XS.dup X23.here hx rfl (hb hby at_180) rfl rfl k) ?_
  refine Goes.to (T' := T23.setTop (mkF m 183 #[.val (.long q0), .second, .val (.long q1), .second, .val (.long q2), .second, .val (.long q3), .second, .val (.int p4), .val (.int p5), .val (.long c2), .second, .val (.long d2), .second, .val (.int f1), .val (.int t1), .val (.int f2), .val (.int t2), .val (.ref b5), .val (.ref b8), .val (.ref b11), .val (.ref b14), .val (.ref b17), .val (.ref b19), .val (.ref b21), .unset, .unset, .unset, .unset, .unset, .unset, .unset, .unset] [(.ref b14), (.ref b23), (.ref b23)])) (fun t k => XS.aload X23.here hx rfl (hb hby at_181) rfl rfl k) ?_
  have hws : ∀ d ∈ StrChars.Road.words, d.before a0 Z = true := fun d hd => hw d ((by decide +kernel : ∀ d ∈ StrChars.Road.words, d ∈ tables_1) d hd)
  have hlat : ∀ c ∈ [t2], ¬ c < 0 ∧ ¬ (255 : Int32) < c := by
    intro c hc
    simp only [List.mem_cons, List.not_mem_nil, or_false] at hc
    rcases hc with rfl
    · exact h_t2
  obtain ⟨_, _, ⟨T24, L24, k24, n24⟩, -, X24, ⟨Lc24, hQ24, l24, y24, z24⟩, st24⟩ := X23.specialBack hx (y := (⟨"java/lang/String", "<init>", "([C)V"⟩ : MethodName)) rfl hown (mvT hZ (hw _ (List.mem_of_getElem? (i := 4) rfl))) (mvT hZ (hw _ (List.mem_of_getElem? (i := 5) rfl))) (mvT hZ (hw _ (List.mem_of_getElem? (i := 6) rfl))) (by decide) (StrChars.Road.backV (W := 1) hZ hws (kI := 4) (hw _ (List.mem_of_getElem? (i := 2) rfl)) (cs := [t2]) (bs := [t2.toInt8.toInt32]) (n := 1) g_b23 (own_old OC) E_b23 F_value_b23 F_coder_b23 V_b14 (S_cs.ext OC.2) nz_cs rfl rfl (by decide) (by decide) hlat rfl (by decide) (by decide)) (g := (mkF m 183 #[.val (.long q0), .second, .val (.long q1), .second, .val (.long q2), .second, .val (.long q3), .second, .val (.int p4), .val (.int p5), .val (.long c2), .second, .val (.long d2), .second, .val (.int f1), .val (.int t1), .val (.int f2), .val (.int t2), .val (.ref b5), .val (.ref b8), .val (.ref b11), .val (.ref b14), .val (.ref b17), .val (.ref b19), .val (.ref b21), .unset, .unset, .unset, .unset, .unset, .unset, .unset, .unset] [(.ref b14), (.ref b23), (.ref b23)])) rfl (by rw [hml]; rfl) (Steps.refl _) (a := b23) (argsL := [(.ref b14)]) (rest := [(.ref b23)]) (lenOf pd_110 rfl) rfl (by show 2 * 0 + _ ≤ _; exact Nat.le_of_eq rfl) (hb hby at_183) (fun _ _ => ⟨rfl, e23, (by decide : 11 + 1 ≤ _), (by decide : 23 + 1 ≤ _)⟩)
  dsimp only [Pt.U, Pt.locs, Pt.cells, Pt.slots] at X24 l24 y24 z24 st24 hQ24
  subst l24 y24 z24
  obtain ⟨rfl, Nq24, K24, -, Fc24, t24, kb24, gt24, szt24, net24, Fv24, Av24⟩ := hQ24
  have N24 := Fr.app N22 Nq24
  have g_t24 : n0 ≤ t24 := gt24
  have ne_b14_t24 : b14 ≠ t24 := Nat.ne_of_lt (Nat.lt_of_lt_of_le V_b14.lt szt24)
  have ne_t24_b14 := Ne.symm ne_b14_t24
  have ne_b17_t24 : b17 ≠ t24 := Nat.ne_of_lt (Nat.lt_of_lt_of_le E_b17.lt szt24)
  have ne_t24_b17 := Ne.symm ne_b17_t24
  have ne_t18_t24 : t18 ≠ t24 := Nat.ne_of_lt (Nat.lt_of_lt_of_le V_t18.lt szt24)
  have ne_t24_t18 := Ne.symm ne_t18_t24
  have ne_b19_t24 : b19 ≠ t24 := Nat.ne_of_lt (Nat.lt_of_lt_of_le E_b19.lt szt24)
  have ne_t24_b19 := Ne.symm ne_b19_t24
  have ne_t20_t24 : t20 ≠ t24 := Nat.ne_of_lt (Nat.lt_of_lt_of_le V_t20.lt szt24)
  have ne_t24_t20 := Ne.symm ne_t20_t24
  have ne_b21_t24 : b21 ≠ t24 := Nat.ne_of_lt (Nat.lt_of_lt_of_le E_b21.lt szt24)
  have ne_t24_b21 := Ne.symm ne_b21_t24
  have ne_t22_t24 : t22 ≠ t24 := Nat.ne_of_lt (Nat.lt_of_lt_of_le V_t22.lt szt24)
  have ne_t24_t22 := Ne.symm ne_t22_t24
  have ne_b23_t24 : b23 ≠ t24 := Nat.ne_of_lt (Nat.lt_of_lt_of_le E_b23.lt szt24)
  have ne_t24_b23 := Ne.symm ne_b23_t24
  have V_b14 := V_b14.keep K24 (ninS (ne_b14_b23) nin0)
  have E_b17 := E_b17.keep K24
  have F_coder_b17 := F_coder_b17.keep K24 (ninS (ne_b17_b23) nin0)
  have F_value_b17 := F_value_b17.keep K24 (ninS (ne_b17_b23) nin0)
  have V_t18 := V_t18.keep K24 (ninS (ne_t18_b23) nin0)
  have E_b19 := E_b19.keep K24
  have F_coder_b19 := F_coder_b19.keep K24 (ninS (ne_b19_b23) nin0)
  have F_value_b19 := F_value_b19.keep K24 (ninS (ne_b19_b23) nin0)
  have V_t20 := V_t20.keep K24 (ninS (ne_t20_b23) nin0)
  have E_b21 := E_b21.keep K24
  have F_coder_b21 := F_coder_b21.keep K24 (ninS (ne_b21_b23) nin0)
  have F_value_b21 := F_value_b21.keep K24 (ninS (ne_b21_b23) nin0)
  have V_t22 := V_t22.keep K24 (ninS (ne_t22_b23) nin0)
  have E_b23 := E_b23.keep K24
  have OC := OC.keep K24 (allS g_b23 all0)
  have F_coder_b23 := Fc24
  have F_value_b23 := Fv24
  have V_t24 : Arv Z T24.heap t24 kb24 .byte (1 : Int32) [(.int t2.toInt8.toInt32)] (.int (0 : Int32)) := Av24
  refine Goes.thru (T' := T24.setTop (mkF m 186 #[.val (.long q0), .second, .val (.long q1), .second, .val (.long q2), .second, .val (.long q3), .second, .val (.int p4), .val (.int p5), .val (.long c2), .second, .val (.long d2), .second, .val (.int f1), .val (.int t1), .val (.int f2), .val (.int t2), .val (.ref b5), .val (.ref b8), .val (.ref b11), .val (.ref b14), .val (.ref b17), .val (.ref b19), .val (.ref b21), .unset, .unset, .unset, .unset, .unset, .unset, .unset, .unset] [(.ref b23)])) st24 ?_
  refine Goes.to (T' := T24.setTop (mkF m 188 #[.val (.long q0), .second, .val (.long q1), .second, .val (.long q2), .second, .val (.long q3), .second, .val (.int p4), .val (.int p5), .val (.long c2), .second, .val (.long d2), .second, .val (.int f1), .val (.int t1), .val (.int f2), .val (.int t2), .val (.ref b5), .val (.ref b8), .val (.ref b11), .val (.ref b14), .val (.ref b17), .val (.ref b19), .val (.ref b21), .val (.ref b23), .unset, .unset, .unset, .unset, .unset, .unset, .unset] [])) (fun t k => XS.astore X24.here hx rfl (hb hby at_186) rfl rfl (l' := #[.val (.long q0), .second, .val (.long q1), .second, .val (.long q2), .second, .val (.long q3), .second, .val (.int p4), .val (.int p5), .val (.long c2), .second, .val (.long d2), .second, .val (.int f1), .val (.int t1), .val (.int f2), .val (.int t2), .val (.ref b5), .val (.ref b8), .val (.ref b11), .val (.ref b14), .val (.ref b17), .val (.ref b19), .val (.ref b21), .val (.ref b23), .unset, .unset, .unset, .unset, .unset, .unset, .unset]) rfl k) ?_
  exact rm0_S l Z a0 hw ws q0 q1 q2 q3 p4 p5 z_cs h0 n0 NF  p e s m below meth c s₁ Bd hml hZ Qf hQf b5 b8 b11 b14 b17 b19 b21 b23 t18 t20 t22 t24 kb18 kb20 kb22 kb24 c2 d2 f1 t1 f2 t2 h_f1 h_t1 h_f2 h_t2 ne_b17_b21 ne_b21_b17 ne_b19_b23 ne_b23_b19 _ _ _  X24 rfl OC E_b17 F_coder_b17 F_value_b17 V_t18 E_b19 F_coder_b19 F_value_b19 V_t20 E_b21 F_coder_b21 F_value_b21 V_t22 E_b23 F_coder_b23 F_value_b23 V_t24 N24  
theorem pn_0 : plainName "com/example/inman/inman/MoveEqualsPinLaw" = true := by first | (simp [plainName, overriddenIn]; done) | decide +kernel
theorem ef_rm0 (m : MethodId) (x0 : Int64) (x1 : Int64) (x2 : Int64) (x3 : Int64) (x4 : Int32) (x5 : Int32) : entryFrame m #[(.long x0), (.long x1), (.long x2), (.long x3), (.int x4), (.int x5)] maxLocals = mkF m 0 #[.val (.long x0), .second, .val (.long x1), .second, .val (.long x2), .second, .val (.long x3), .second, .val (.int x4), .val (.int x5), .unset, .unset, .unset, .unset, .unset, .unset, .unset, .unset, .unset, .unset, .unset, .unset, .unset, .unset, .unset, .unset, .unset, .unset, .unset, .unset, .unset, .unset, .unset] [] := by first | (simp [entryFrame, mkF, argsToLocals, Value.category, maxLocals]; done) | rfl
set_option maxRecDepth 65536 in
set_option maxHeartbeats 40000000 in
theorem rm0 (l : Launch) (Z : State) (a0 : Array Value) (hw : ∀ d ∈ tables_1, d.before a0 Z = true) (ws : List Jvm.Cond) (q0 : Int64) (q1 : Int64) (q2 : Int64) (q3 : Int64) (p4 : Int32) (p5 : Int32) (z_cs : Int32) (h0 : Heap) (n0 : Nat) (O0 : Old Z n0 h0) (NF : Nar Z z_cs) :
    MetFree l x (head1 (Jvm.Cond.code x code maxLocals ret :: ws) room_1) (fun a U => a = #[(.long q0), (.long q1), (.long q2), (.long q3), (.int p4), (.int p5)] ∧ Z.Warmed39 U.vm ∧ U.heap = h0) (fun _ _ _ _ _ => True) (fun _ U o U' => ∃ v L, o = .returned v ∧ Q_rm0 Z q0 q1 q2 q3 p4 p5 z_cs h0 n0 v U'.heap L ∧ FrameEnd U o U' L room_1.cells room_1.slots) := by
  refine MetFree.of_bodySF (plainFor_of_name pn_0) hisR ?_
  intro p e s m args below meth c s₁ Bd hml0 hP hK
  obtain ⟨rfl, hZ, hh⟩ := hP
  have hx := Bd.exec
  have hby := Bd.bytes
  have hml : c.maxLocals = 33 := hml0
  have hown : s.vm.findClass "com/example/inman/inman/MoveEqualsPinLaw" = some m.cls := findClass_of_methodNamed Bd.named
  have hnm := (name_of_methodNamed Bd.named Bd.method).1
  have X0 : Stand p l e room_1 s m #[(.long q0), (.long q1), (.long q2), (.long q3), (.int p4), (.int p5)] below meth c s₁ [] 0 0 := Stand.of_body Bd
  have e0 : s₁.heap = h0 := by rw [← hh, Bd.state]; rfl
  have N0 := Fr.nil n0
  suffices G : ∀ (Qf : Outcome → State → Prop), Qf = (fun (_ : Array Value) (U : State) (o : Outcome) (U' : State) => ∃ v L, o = .returned v ∧ Q_rm0 Z q0 q1 q2 q3 p4 p5 z_cs h0 n0 v U'.heap L ∧ FrameEnd U o U' L room_1.cells room_1.slots) #[] s → Goes p.tables e below Qf (s₁.setTop (mkF m 0 #[.val (.long q0), .second, .val (.long q1), .second, .val (.long q2), .second, .val (.long q3), .second, .val (.int p4), .val (.int p5), .unset, .unset, .unset, .unset, .unset, .unset, .unset, .unset, .unset, .unset, .unset, .unset, .unset, .unset, .unset, .unset, .unset, .unset, .unset, .unset, .unset, .unset, .unset] [])) by
    obtain ⟨s₂, o, g1, g2, g3, g4⟩ := G _ rfl
    exact ⟨s₂, o, castTop (ef_rm0 m _ _ _ _ _ _) g1, g2, g3, g4⟩
  intro Qf hQf
  obtain ⟨S_cs, nz_cs⟩ := id NF
  have J15 : ∀ (TJ1 : State) (locsJ1 : List Loc) (c2 : Int64) (XJ1 : Stand p l e room_1 s m #[(.long q0), (.long q1), (.long q2), (.long q3), (.int p4), (.int p5)] below meth c TJ1 locsJ1 0 0) (eJ1 : TJ1.heap = h0) (NJ1 : Fr n0 locsJ1), Goes p.tables e below Qf (TJ1.setTop (mkF m 15 #[.val (.long q0), .second, .val (.long q1), .second, .val (.long q2), .second, .val (.long q3), .second, .val (.int p4), .val (.int p5), .val (.long c2), .second, .unset, .unset, .unset, .unset, .unset, .unset, .unset, .unset, .unset, .unset, .unset, .unset, .unset, .unset, .unset, .unset, .unset, .unset, .unset, .unset, .unset] [])) := by
    intro TJ1 locsJ1 c2 XJ1 eJ1 NJ1 
    have J30 : ∀ (TJ2 : State) (locsJ2 : List Loc) (d2 : Int64) (XJ2 : Stand p l e room_1 s m #[(.long q0), (.long q1), (.long q2), (.long q3), (.int p4), (.int p5)] below meth c TJ2 locsJ2 0 0) (eJ2 : TJ2.heap = h0) (NJ2 : Fr n0 locsJ2), Goes p.tables e below Qf (TJ2.setTop (mkF m 30 #[.val (.long q0), .second, .val (.long q1), .second, .val (.long q2), .second, .val (.long q3), .second, .val (.int p4), .val (.int p5), .val (.long c2), .second, .val (.long d2), .second, .unset, .unset, .unset, .unset, .unset, .unset, .unset, .unset, .unset, .unset, .unset, .unset, .unset, .unset, .unset, .unset, .unset, .unset, .unset] [])) := by
      intro TJ2 locsJ2 d2 XJ2 eJ2 NJ2 
      refine Goes.to (T' := TJ2.setTop (mkF m 32 #[.val (.long q0), .second, .val (.long q1), .second, .val (.long q2), .second, .val (.long q3), .second, .val (.int p4), .val (.int p5), .val (.long c2), .second, .val (.long d2), .second, .unset, .unset, .unset, .unset, .unset, .unset, .unset, .unset, .unset, .unset, .unset, .unset, .unset, .unset, .unset, .unset, .unset, .unset, .unset] [(.int p4)])) (fun t k => XS.iload XJ2.here hx rfl (hb hby at_30) rfl k) ?_
      refine Goes.to (T' := TJ2.setTop (mkF m 35 #[.val (.long q0), .second, .val (.long q1), .second, .val (.long q2), .second, .val (.long q3), .second, .val (.int p4), .val (.int p5), .val (.long c2), .second, .val (.long d2), .second, .unset, .unset, .unset, .unset, .unset, .unset, .unset, .unset, .unset, .unset, .unset, .unset, .unset, .unset, .unset, .unset, .unset, .unset, .unset] [(.int (255 : Int32)), (.int p4)])) (fun t k => XS.sipush XJ2.here hx rfl (hb hby at_32) k) ?_
      refine Goes.to (T' := TJ2.setTop (mkF m 36 #[.val (.long q0), .second, .val (.long q1), .second, .val (.long q2), .second, .val (.long q3), .second, .val (.int p4), .val (.int p5), .val (.long c2), .second, .val (.long d2), .second, .unset, .unset, .unset, .unset, .unset, .unset, .unset, .unset, .unset, .unset, .unset, .unset, .unset, .unset, .unset, .unset, .unset, .unset, .unset] [(.int (p4 &&& (255 : Int32)))])) (fun t k => XS.iand XJ2.here hx rfl (hb hby at_35) rfl k) ?_
      refine Goes.to (T' := TJ2.setTop (mkF m 37 #[.val (.long q0), .second, .val (.long q1), .second, .val (.long q2), .second, .val (.long q3), .second, .val (.int p4), .val (.int p5), .val (.long c2), .second, .val (.long d2), .second, .unset, .unset, .unset, .unset, .unset, .unset, .unset, .unset, .unset, .unset, .unset, .unset, .unset, .unset, .unset, .unset, .unset, .unset, .unset] [(.int ((p4 &&& (255 : Int32)).toUInt32.toUInt16.toUInt32.toInt32))])) (fun t k => XS.i2c XJ2.here hx rfl (hb hby at_36) rfl k) ?_
      obtain ⟨f1, hf1⟩ : ∃ z : Int32, z = ((p4 &&& (255 : Int32)).toUInt32.toUInt16.toUInt32.toInt32) := ⟨_, rfl⟩
      rw [← hf1]
      have h_f1 : ¬ f1 < 0 ∧ ¬ (255 : Int32) < f1 := hf1 ▸ own_i2c _
      refine Goes.to (T' := TJ2.setTop (mkF m 39 #[.val (.long q0), .second, .val (.long q1), .second, .val (.long q2), .second, .val (.long q3), .second, .val (.int p4), .val (.int p5), .val (.long c2), .second, .val (.long d2), .second, .val (.int f1), .unset, .unset, .unset, .unset, .unset, .unset, .unset, .unset, .unset, .unset, .unset, .unset, .unset, .unset, .unset, .unset, .unset, .unset] [])) (fun t k => XS.istore XJ2.here hx rfl (hb hby at_37) rfl (l' := #[.val (.long q0), .second, .val (.long q1), .second, .val (.long q2), .second, .val (.long q3), .second, .val (.int p4), .val (.int p5), .val (.long c2), .second, .val (.long d2), .second, .val (.int f1), .unset, .unset, .unset, .unset, .unset, .unset, .unset, .unset, .unset, .unset, .unset, .unset, .unset, .unset, .unset, .unset, .unset, .unset]) rfl k) ?_
      refine Goes.to (T' := TJ2.setTop (mkF m 41 #[.val (.long q0), .second, .val (.long q1), .second, .val (.long q2), .second, .val (.long q3), .second, .val (.int p4), .val (.int p5), .val (.long c2), .second, .val (.long d2), .second, .val (.int f1), .unset, .unset, .unset, .unset, .unset, .unset, .unset, .unset, .unset, .unset, .unset, .unset, .unset, .unset, .unset, .unset, .unset, .unset] [(.int p4)])) (fun t k => XS.iload XJ2.here hx rfl (hb hby at_39) rfl k) ?_
      refine Goes.to (T' := TJ2.setTop (mkF m 43 #[.val (.long q0), .second, .val (.long q1), .second, .val (.long q2), .second, .val (.long q3), .second, .val (.int p4), .val (.int p5), .val (.long c2), .second, .val (.long d2), .second, .val (.int f1), .unset, .unset, .unset, .unset, .unset, .unset, .unset, .unset, .unset, .unset, .unset, .unset, .unset, .unset, .unset, .unset, .unset, .unset] [(.int (8 : Int32)), (.int p4)])) (fun t k => XS.bipush XJ2.here hx rfl (hb hby at_41) k) ?_
      refine Goes.to (T' := TJ2.setTop (mkF m 44 #[.val (.long q0), .second, .val (.long q1), .second, .val (.long q2), .second, .val (.long q3), .second, .val (.int p4), .val (.int p5), .val (.long c2), .second, .val (.long d2), .second, .val (.int f1), .unset, .unset, .unset, .unset, .unset, .unset, .unset, .unset, .unset, .unset, .unset, .unset, .unset, .unset, .unset, .unset, .unset, .unset] [(.int ((p4.toUInt32 >>> ((8 : Int32) &&& 31).toUInt32).toInt32))])) (fun t k => XS.iushr XJ2.here hx rfl (hb hby at_43) rfl k) ?_
      refine Goes.to (T' := TJ2.setTop (mkF m 47 #[.val (.long q0), .second, .val (.long q1), .second, .val (.long q2), .second, .val (.long q3), .second, .val (.int p4), .val (.int p5), .val (.long c2), .second, .val (.long d2), .second, .val (.int f1), .unset, .unset, .unset, .unset, .unset, .unset, .unset, .unset, .unset, .unset, .unset, .unset, .unset, .unset, .unset, .unset, .unset, .unset] [(.int (255 : Int32)), (.int ((p4.toUInt32 >>> ((8 : Int32) &&& 31).toUInt32).toInt32))])) (fun t k => XS.sipush XJ2.here hx rfl (hb hby at_44) k) ?_
      refine Goes.to (T' := TJ2.setTop (mkF m 48 #[.val (.long q0), .second, .val (.long q1), .second, .val (.long q2), .second, .val (.long q3), .second, .val (.int p4), .val (.int p5), .val (.long c2), .second, .val (.long d2), .second, .val (.int f1), .unset, .unset, .unset, .unset, .unset, .unset, .unset, .unset, .unset, .unset, .unset, .unset, .unset, .unset, .unset, .unset, .unset, .unset] [(.int (((p4.toUInt32 >>> ((8 : Int32) &&& 31).toUInt32).toInt32) &&& (255 : Int32)))])) (fun t k => XS.iand XJ2.here hx rfl (hb hby at_47) rfl k) ?_
      refine Goes.to (T' := TJ2.setTop (mkF m 49 #[.val (.long q0), .second, .val (.long q1), .second, .val (.long q2), .second, .val (.long q3), .second, .val (.int p4), .val (.int p5), .val (.long c2), .second, .val (.long d2), .second, .val (.int f1), .unset, .unset, .unset, .unset, .unset, .unset, .unset, .unset, .unset, .unset, .unset, .unset, .unset, .unset, .unset, .unset, .unset, .unset] [(.int ((((p4.toUInt32 >>> ((8 : Int32) &&& 31).toUInt32).toInt32) &&& (255 : Int32)).toUInt32.toUInt16.toUInt32.toInt32))])) (fun t k => XS.i2c XJ2.here hx rfl (hb hby at_48) rfl k) ?_
      obtain ⟨t1, ht1⟩ : ∃ z : Int32, z = ((((p4.toUInt32 >>> ((8 : Int32) &&& 31).toUInt32).toInt32) &&& (255 : Int32)).toUInt32.toUInt16.toUInt32.toInt32) := ⟨_, rfl⟩
      rw [← ht1]
      have h_t1 : ¬ t1 < 0 ∧ ¬ (255 : Int32) < t1 := ht1 ▸ own_i2c _
      refine Goes.to (T' := TJ2.setTop (mkF m 51 #[.val (.long q0), .second, .val (.long q1), .second, .val (.long q2), .second, .val (.long q3), .second, .val (.int p4), .val (.int p5), .val (.long c2), .second, .val (.long d2), .second, .val (.int f1), .val (.int t1), .unset, .unset, .unset, .unset, .unset, .unset, .unset, .unset, .unset, .unset, .unset, .unset, .unset, .unset, .unset, .unset, .unset] [])) (fun t k => XS.istore XJ2.here hx rfl (hb hby at_49) rfl (l' := #[.val (.long q0), .second, .val (.long q1), .second, .val (.long q2), .second, .val (.long q3), .second, .val (.int p4), .val (.int p5), .val (.long c2), .second, .val (.long d2), .second, .val (.int f1), .val (.int t1), .unset, .unset, .unset, .unset, .unset, .unset, .unset, .unset, .unset, .unset, .unset, .unset, .unset, .unset, .unset, .unset, .unset]) rfl k) ?_
      have J75 : ∀ (TJ3 : State) (locsJ3 : List Loc) (f2 : Int32) (XJ3 : Stand p l e room_1 s m #[(.long q0), (.long q1), (.long q2), (.long q3), (.int p4), (.int p5)] below meth c TJ3 locsJ3 0 0) (eJ3 : TJ3.heap = h0) (NJ3 : Fr n0 locsJ3) (h_f2 : ¬ f2 < 0 ∧ ¬ (255 : Int32) < f2), Goes p.tables e below Qf (TJ3.setTop (mkF m 75 #[.val (.long q0), .second, .val (.long q1), .second, .val (.long q2), .second, .val (.long q3), .second, .val (.int p4), .val (.int p5), .val (.long c2), .second, .val (.long d2), .second, .val (.int f1), .val (.int t1), .val (.int f2), .unset, .unset, .unset, .unset, .unset, .unset, .unset, .unset, .unset, .unset, .unset, .unset, .unset, .unset, .unset, .unset] [])) := by
        intro TJ3 locsJ3 f2 XJ3 eJ3 NJ3 h_f2
        have J100 : ∀ (TJ4 : State) (locsJ4 : List Loc) (t2 : Int32) (XJ4 : Stand p l e room_1 s m #[(.long q0), (.long q1), (.long q2), (.long q3), (.int p4), (.int p5)] below meth c TJ4 locsJ4 0 0) (eJ4 : TJ4.heap = h0) (NJ4 : Fr n0 locsJ4) (h_t2 : ¬ t2 < 0 ∧ ¬ (255 : Int32) < t2), Goes p.tables e below Qf (TJ4.setTop (mkF m 100 #[.val (.long q0), .second, .val (.long q1), .second, .val (.long q2), .second, .val (.long q3), .second, .val (.int p4), .val (.int p5), .val (.long c2), .second, .val (.long d2), .second, .val (.int f1), .val (.int t1), .val (.int f2), .val (.int t2), .unset, .unset, .unset, .unset, .unset, .unset, .unset, .unset, .unset, .unset, .unset, .unset, .unset, .unset, .unset] [])) := by
          intro TJ4 locsJ4 t2 XJ4 eJ4 NJ4 h_t2
          refine Goes.to (T' := TJ4.setTop (mkF m 101 #[.val (.long q0), .second, .val (.long q1), .second, .val (.long q2), .second, .val (.long q3), .second, .val (.int p4), .val (.int p5), .val (.long c2), .second, .val (.long d2), .second, .val (.int f1), .val (.int t1), .val (.int f2), .val (.int t2), .unset, .unset, .unset, .unset, .unset, .unset, .unset, .unset, .unset, .unset, .unset, .unset, .unset, .unset, .unset] [(.int (1 : Int32))])) (fun t k => XS.iconst XJ4.here hx rfl (hb hby at_100) k) ?_
          obtain ⟨T5, h5, k5, X5, e5, E5, A5, st5⟩ := newP XJ4 hx hZ (hw _ (List.mem_of_getElem? (i := 0) rfl)) eJ4 (g := (mkF m 101 #[.val (.long q0), .second, .val (.long q1), .second, .val (.long q2), .second, .val (.long q3), .second, .val (.int p4), .val (.int p5), .val (.long c2), .second, .val (.long d2), .second, .val (.int f1), .val (.int t1), .val (.int f2), .val (.int t2), .unset, .unset, .unset, .unset, .unset, .unset, .unset, .unset, .unset, .unset, .unset, .unset, .unset, .unset, .unset] [(.int (1 : Int32))])) rfl (hb hby at_101) rfl (by decide) (cap := 1) (by decide) (by decide) (by decide) (by decide)
          obtain ⟨b5, g5⟩ : ∃ z, z = h0.size := ⟨_, rfl⟩
          rw [← g5] at A5 st5
          have g_b5 : n0 ≤ b5 := Nat.le_trans (own_old O0) (Nat.le_of_eq g5.symm)
          have O0 := O0.ext E5
          have V_b5 : Arv Z h5 b5 k5 .char (1 : Int32) [(.int (0 : Int32))] (.int (0 : Int32)) := (Arv.new A5 (by decide)).pad (pad_rep [] (.int (0 : Int32)) 1)
          refine Goes.to (T' := T5.setTop (mkF m 103 #[.val (.long q0), .second, .val (.long q1), .second, .val (.long q2), .second, .val (.long q3), .second, .val (.int p4), .val (.int p5), .val (.long c2), .second, .val (.long d2), .second, .val (.int f1), .val (.int t1), .val (.int f2), .val (.int t2), .unset, .unset, .unset, .unset, .unset, .unset, .unset, .unset, .unset, .unset, .unset, .unset, .unset, .unset, .unset] [(.ref b5)])) st5 ?_
          refine Goes.to (T' := T5.setTop (mkF m 105 #[.val (.long q0), .second, .val (.long q1), .second, .val (.long q2), .second, .val (.long q3), .second, .val (.int p4), .val (.int p5), .val (.long c2), .second, .val (.long d2), .second, .val (.int f1), .val (.int t1), .val (.int f2), .val (.int t2), .val (.ref b5), .unset, .unset, .unset, .unset, .unset, .unset, .unset, .unset, .unset, .unset, .unset, .unset, .unset, .unset] [])) (fun t k => XS.astore X5.here hx rfl (hb hby at_103) rfl rfl (l' := #[.val (.long q0), .second, .val (.long q1), .second, .val (.long q2), .second, .val (.long q3), .second, .val (.int p4), .val (.int p5), .val (.long c2), .second, .val (.long d2), .second, .val (.int f1), .val (.int t1), .val (.int f2), .val (.int t2), .val (.ref b5), .unset, .unset, .unset, .unset, .unset, .unset, .unset, .unset, .unset, .unset, .unset, .unset, .unset, .unset]) rfl k) ?_
          refine Goes.to (T' := T5.setTop (mkF m 107 #[.val (.long q0), .second, .val (.long q1), .second, .val (.long q2), .second, .val (.long q3), .second, .val (.int p4), .val (.int p5), .val (.long c2), .second, .val (.long d2), .second, .val (.int f1), .val (.int t1), .val (.int f2), .val (.int t2), .val (.ref b5), .unset, .unset, .unset, .unset, .unset, .unset, .unset, .unset, .unset, .unset, .unset, .unset, .unset, .unset] [(.ref b5)])) (fun t k => XS.aload X5.here hx rfl (hb hby at_105) rfl rfl k) ?_
          refine Goes.to (T' := T5.setTop (mkF m 108 #[.val (.long q0), .second, .val (.long q1), .second, .val (.long q2), .second, .val (.long q3), .second, .val (.int p4), .val (.int p5), .val (.long c2), .second, .val (.long d2), .second, .val (.int f1), .val (.int t1), .val (.int f2), .val (.int t2), .val (.ref b5), .unset, .unset, .unset, .unset, .unset, .unset, .unset, .unset, .unset, .unset, .unset, .unset, .unset, .unset] [(.int (0 : Int32)), (.ref b5)])) (fun t k => XS.iconst X5.here hx rfl (hb hby at_107) k) ?_
          refine Goes.to (T' := T5.setTop (mkF m 110 #[.val (.long q0), .second, .val (.long q1), .second, .val (.long q2), .second, .val (.long q3), .second, .val (.int p4), .val (.int p5), .val (.long c2), .second, .val (.long d2), .second, .val (.int f1), .val (.int t1), .val (.int f2), .val (.int t2), .val (.ref b5), .unset, .unset, .unset, .unset, .unset, .unset, .unset, .unset, .unset, .unset, .unset, .unset, .unset, .unset] [(.int f1), (.int (0 : Int32)), (.ref b5)])) (fun t k => XS.iload X5.here hx rfl (hb hby at_108) rfl k) ?_
          obtain ⟨cl6, Ar6, q6, S6, Ng6, H6, G6⟩ := V_b5
          have hin6 : ¬ ((0 : Int32) < 0 ∨ cl6.slots.size ≤ ((0 : Int32)).toNatClampNeg) := inb_of S6 ⟨by decide, by decide⟩
          obtain ⟨T7, h7, X7, e7, W7, st7⟩ := stC X5 hx hZ e5 Ar6 (j := (0 : Int32)) hin6 (g := (mkF m 110 #[.val (.long q0), .second, .val (.long q1), .second, .val (.long q2), .second, .val (.long q3), .second, .val (.int p4), .val (.int p5), .val (.long c2), .second, .val (.long d2), .second, .val (.int f1), .val (.int t1), .val (.int f2), .val (.int t2), .val (.ref b5), .unset, .unset, .unset, .unset, .unset, .unset, .unset, .unset, .unset, .unset, .unset, .unset, .unset, .unset] [(.int f1), (.int (0 : Int32)), (.ref b5)])) rfl rfl (hb hby at_110)
          have V_b5 : Arv Z h7 b5 k5 .char (1 : Int32) [(.int (nar .char f1))] (.int (0 : Int32)) := Arv.set Ar6 q6 S6 Ng6 H6 G6 (fits_nar_char _) W7 0 rfl (Nat.le_of_ble_eq_true rfl)
          have O0 := O0.wr W7 g_b5
          have N7 := Fr.snoc X7 NJ4 g_b5
          refine Goes.to (T' := T7.setTop (mkF m 111 #[.val (.long q0), .second, .val (.long q1), .second, .val (.long q2), .second, .val (.long q3), .second, .val (.int p4), .val (.int p5), .val (.long c2), .second, .val (.long d2), .second, .val (.int f1), .val (.int t1), .val (.int f2), .val (.int t2), .val (.ref b5), .unset, .unset, .unset, .unset, .unset, .unset, .unset, .unset, .unset, .unset, .unset, .unset, .unset, .unset] [])) st7 ?_
          rw [own_narc h_f1] at V_b5
          refine Goes.to (T' := T7.setTop (mkF m 112 #[.val (.long q0), .second, .val (.long q1), .second, .val (.long q2), .second, .val (.long q3), .second, .val (.int p4), .val (.int p5), .val (.long c2), .second, .val (.long d2), .second, .val (.int f1), .val (.int t1), .val (.int f2), .val (.int t2), .val (.ref b5), .unset, .unset, .unset, .unset, .unset, .unset, .unset, .unset, .unset, .unset, .unset, .unset, .unset, .unset] [(.int (1 : Int32))])) (fun t k => XS.iconst X7.here hx rfl (hb hby at_111) k) ?_
          obtain ⟨T8, h8, k8, X8, e8, E8, A8, st8⟩ := newP X7 hx hZ (hw _ (List.mem_of_getElem? (i := 0) rfl)) e7 (g := (mkF m 112 #[.val (.long q0), .second, .val (.long q1), .second, .val (.long q2), .second, .val (.long q3), .second, .val (.int p4), .val (.int p5), .val (.long c2), .second, .val (.long d2), .second, .val (.int f1), .val (.int t1), .val (.int f2), .val (.int t2), .val (.ref b5), .unset, .unset, .unset, .unset, .unset, .unset, .unset, .unset, .unset, .unset, .unset, .unset, .unset, .unset] [(.int (1 : Int32))])) rfl (hb hby at_112) rfl (by decide) (cap := 1) (by decide) (by decide) (by decide) (by decide)
          obtain ⟨b8, g8⟩ : ∃ z, z = h7.size := ⟨_, rfl⟩
          rw [← g8] at A8 st8
          have g_b8 : n0 ≤ b8 := Nat.le_trans (own_old O0) (Nat.le_of_eq g8.symm)
          have ne_b5_b8 : b5 ≠ b8 := Nat.ne_of_lt (Nat.lt_of_lt_of_le V_b5.lt (Nat.le_of_eq g8.symm))
          have ne_b8_b5 := Ne.symm ne_b5_b8
          have V_b5 := V_b5.ext E8
          have O0 := O0.ext E8
          have V_b8 : Arv Z h8 b8 k8 .char (1 : Int32) [(.int (0 : Int32))] (.int (0 : Int32)) := (Arv.new A8 (by decide)).pad (pad_rep [] (.int (0 : Int32)) 1)
          refine Goes.to (T' := T8.setTop (mkF m 114 #[.val (.long q0), .second, .val (.long q1), .second, .val (.long q2), .second, .val (.long q3), .second, .val (.int p4), .val (.int p5), .val (.long c2), .second, .val (.long d2), .second, .val (.int f1), .val (.int t1), .val (.int f2), .val (.int t2), .val (.ref b5), .unset, .unset, .unset, .unset, .unset, .unset, .unset, .unset, .unset, .unset, .unset, .unset, .unset, .unset] [(.ref b8)])) st8 ?_
          refine Goes.to (T' := T8.setTop (mkF m 116 #[.val (.long q0), .second, .val (.long q1), .second, .val (.long q2), .second, .val (.long q3), .second, .val (.int p4), .val (.int p5), .val (.long c2), .second, .val (.long d2), .second, .val (.int f1), .val (.int t1), .val (.int f2), .val (.int t2), .val (.ref b5), .val (.ref b8), .unset, .unset, .unset, .unset, .unset, .unset, .unset, .unset, .unset, .unset, .unset, .unset, .unset] [])) (fun t k => XS.astore X8.here hx rfl (hb hby at_114) rfl rfl (l' := #[.val (.long q0), .second, .val (.long q1), .second, .val (.long q2), .second, .val (.long q3), .second, .val (.int p4), .val (.int p5), .val (.long c2), .second, .val (.long d2), .second, .val (.int f1), .val (.int t1), .val (.int f2), .val (.int t2), .val (.ref b5), .val (.ref b8), .unset, .unset, .unset, .unset, .unset, .unset, .unset, .unset, .unset, .unset, .unset, .unset, .unset]) rfl k) ?_
          refine Goes.to (T' := T8.setTop (mkF m 118 #[.val (.long q0), .second, .val (.long q1), .second, .val (.long q2), .second, .val (.long q3), .second, .val (.int p4), .val (.int p5), .val (.long c2), .second, .val (.long d2), .second, .val (.int f1), .val (.int t1), .val (.int f2), .val (.int t2), .val (.ref b5), .val (.ref b8), .unset, .unset, .unset, .unset, .unset, .unset, .unset, .unset, .unset, .unset, .unset, .unset, .unset] [(.ref b8)])) (fun t k => XS.aload X8.here hx rfl (hb hby at_116) rfl rfl k) ?_
          refine Goes.to (T' := T8.setTop (mkF m 119 #[.val (.long q0), .second, .val (.long q1), .second, .val (.long q2), .second, .val (.long q3), .second, .val (.int p4), .val (.int p5), .val (.long c2), .second, .val (.long d2), .second, .val (.int f1), .val (.int t1), .val (.int f2), .val (.int t2), .val (.ref b5), .val (.ref b8), .unset, .unset, .unset, .unset, .unset, .unset, .unset, .unset, .unset, .unset, .unset, .unset, .unset] [(.int (0 : Int32)), (.ref b8)])) (fun t k => XS.iconst X8.here hx rfl (hb hby at_118) k) ?_
          refine Goes.to (T' := T8.setTop (mkF m 121 #[.val (.long q0), .second, .val (.long q1), .second, .val (.long q2), .second, .val (.long q3), .second, .val (.int p4), .val (.int p5), .val (.long c2), .second, .val (.long d2), .second, .val (.int f1), .val (.int t1), .val (.int f2), .val (.int t2), .val (.ref b5), .val (.ref b8), .unset, .unset, .unset, .unset, .unset, .unset, .unset, .unset, .unset, .unset, .unset, .unset, .unset] [(.int t1), (.int (0 : Int32)), (.ref b8)])) (fun t k => XS.iload X8.here hx rfl (hb hby at_119) rfl k) ?_
          obtain ⟨cl9, Ar9, q9, S9, Ng9, H9, G9⟩ := V_b8
          have hin9 : ¬ ((0 : Int32) < 0 ∨ cl9.slots.size ≤ ((0 : Int32)).toNatClampNeg) := inb_of S9 ⟨by decide, by decide⟩
          obtain ⟨T10, h10, X10, e10, W10, st10⟩ := stC X8 hx hZ e8 Ar9 (j := (0 : Int32)) hin9 (g := (mkF m 121 #[.val (.long q0), .second, .val (.long q1), .second, .val (.long q2), .second, .val (.long q3), .second, .val (.int p4), .val (.int p5), .val (.long c2), .second, .val (.long d2), .second, .val (.int f1), .val (.int t1), .val (.int f2), .val (.int t2), .val (.ref b5), .val (.ref b8), .unset, .unset, .unset, .unset, .unset, .unset, .unset, .unset, .unset, .unset, .unset, .unset, .unset] [(.int t1), (.int (0 : Int32)), (.ref b8)])) rfl rfl (hb hby at_121)
          have V_b8 : Arv Z h10 b8 k8 .char (1 : Int32) [(.int (nar .char t1))] (.int (0 : Int32)) := Arv.set Ar9 q9 S9 Ng9 H9 G9 (fits_nar_char _) W10 0 rfl (Nat.le_of_ble_eq_true rfl)
          have V_b5 := V_b5.other W10 (ne_b5_b8)
          have O0 := O0.wr W10 g_b8
          have N10 := Fr.snoc X10 N7 g_b8
          refine Goes.to (T' := T10.setTop (mkF m 122 #[.val (.long q0), .second, .val (.long q1), .second, .val (.long q2), .second, .val (.long q3), .second, .val (.int p4), .val (.int p5), .val (.long c2), .second, .val (.long d2), .second, .val (.int f1), .val (.int t1), .val (.int f2), .val (.int t2), .val (.ref b5), .val (.ref b8), .unset, .unset, .unset, .unset, .unset, .unset, .unset, .unset, .unset, .unset, .unset, .unset, .unset] [])) st10 ?_
          rw [own_narc h_t1] at V_b8
          refine Goes.to (T' := T10.setTop (mkF m 123 #[.val (.long q0), .second, .val (.long q1), .second, .val (.long q2), .second, .val (.long q3), .second, .val (.int p4), .val (.int p5), .val (.long c2), .second, .val (.long d2), .second, .val (.int f1), .val (.int t1), .val (.int f2), .val (.int t2), .val (.ref b5), .val (.ref b8), .unset, .unset, .unset, .unset, .unset, .unset, .unset, .unset, .unset, .unset, .unset, .unset, .unset] [(.int (1 : Int32))])) (fun t k => XS.iconst X10.here hx rfl (hb hby at_122) k) ?_
          obtain ⟨T11, h11, k11, X11, e11, E11, A11, st11⟩ := newP X10 hx hZ (hw _ (List.mem_of_getElem? (i := 0) rfl)) e10 (g := (mkF m 123 #[.val (.long q0), .second, .val (.long q1), .second, .val (.long q2), .second, .val (.long q3), .second, .val (.int p4), .val (.int p5), .val (.long c2), .second, .val (.long d2), .second, .val (.int f1), .val (.int t1), .val (.int f2), .val (.int t2), .val (.ref b5), .val (.ref b8), .unset, .unset, .unset, .unset, .unset, .unset, .unset, .unset, .unset, .unset, .unset, .unset, .unset] [(.int (1 : Int32))])) rfl (hb hby at_123) rfl (by decide) (cap := 1) (by decide) (by decide) (by decide) (by decide)
          obtain ⟨b11, g11⟩ : ∃ z, z = h10.size := ⟨_, rfl⟩
          rw [← g11] at A11 st11
          have g_b11 : n0 ≤ b11 := Nat.le_trans (own_old O0) (Nat.le_of_eq g11.symm)
          have ne_b5_b11 : b5 ≠ b11 := Nat.ne_of_lt (Nat.lt_of_lt_of_le V_b5.lt (Nat.le_of_eq g11.symm))
          have ne_b11_b5 := Ne.symm ne_b5_b11
          have ne_b8_b11 : b8 ≠ b11 := Nat.ne_of_lt (Nat.lt_of_lt_of_le V_b8.lt (Nat.le_of_eq g11.symm))
          have ne_b11_b8 := Ne.symm ne_b8_b11
          have V_b5 := V_b5.ext E11
          have V_b8 := V_b8.ext E11
          have O0 := O0.ext E11
          have V_b11 : Arv Z h11 b11 k11 .char (1 : Int32) [(.int (0 : Int32))] (.int (0 : Int32)) := (Arv.new A11 (by decide)).pad (pad_rep [] (.int (0 : Int32)) 1)
          refine Goes.to (T' := T11.setTop (mkF m 125 #[.val (.long q0), .second, .val (.long q1), .second, .val (.long q2), .second, .val (.long q3), .second, .val (.int p4), .val (.int p5), .val (.long c2), .second, .val (.long d2), .second, .val (.int f1), .val (.int t1), .val (.int f2), .val (.int t2), .val (.ref b5), .val (.ref b8), .unset, .unset, .unset, .unset, .unset, .unset, .unset, .unset, .unset, .unset, .unset, .unset, .unset] [(.ref b11)])) st11 ?_
          refine Goes.to (T' := T11.setTop (mkF m 127 #[.val (.long q0), .second, .val (.long q1), .second, .val (.long q2), .second, .val (.long q3), .second, .val (.int p4), .val (.int p5), .val (.long c2), .second, .val (.long d2), .second, .val (.int f1), .val (.int t1), .val (.int f2), .val (.int t2), .val (.ref b5), .val (.ref b8), .val (.ref b11), .unset, .unset, .unset, .unset, .unset, .unset, .unset, .unset, .unset, .unset, .unset, .unset] [])) (fun t k => XS.astore X11.here hx rfl (hb hby at_125) rfl rfl (l' := #[.val (.long q0), .second, .val (.long q1), .second, .val (.long q2), .second, .val (.long q3), .second, .val (.int p4), .val (.int p5), .val (.long c2), .second, .val (.long d2), .second, .val (.int f1), .val (.int t1), .val (.int f2), .val (.int t2), .val (.ref b5), .val (.ref b8), .val (.ref b11), .unset, .unset, .unset, .unset, .unset, .unset, .unset, .unset, .unset, .unset, .unset, .unset]) rfl k) ?_
          refine Goes.to (T' := T11.setTop (mkF m 129 #[.val (.long q0), .second, .val (.long q1), .second, .val (.long q2), .second, .val (.long q3), .second, .val (.int p4), .val (.int p5), .val (.long c2), .second, .val (.long d2), .second, .val (.int f1), .val (.int t1), .val (.int f2), .val (.int t2), .val (.ref b5), .val (.ref b8), .val (.ref b11), .unset, .unset, .unset, .unset, .unset, .unset, .unset, .unset, .unset, .unset, .unset, .unset] [(.ref b11)])) (fun t k => XS.aload X11.here hx rfl (hb hby at_127) rfl rfl k) ?_
          refine Goes.to (T' := T11.setTop (mkF m 130 #[.val (.long q0), .second, .val (.long q1), .second, .val (.long q2), .second, .val (.long q3), .second, .val (.int p4), .val (.int p5), .val (.long c2), .second, .val (.long d2), .second, .val (.int f1), .val (.int t1), .val (.int f2), .val (.int t2), .val (.ref b5), .val (.ref b8), .val (.ref b11), .unset, .unset, .unset, .unset, .unset, .unset, .unset, .unset, .unset, .unset, .unset, .unset] [(.int (0 : Int32)), (.ref b11)])) (fun t k => XS.iconst X11.here hx rfl (hb hby at_129) k) ?_
          refine Goes.to (T' := T11.setTop (mkF m 132 #[.val (.long q0), .second, .val (.long q1), .second, .val (.long q2), .second, .val (.long q3), .second, .val (.int p4), .val (.int p5), .val (.long c2), .second, .val (.long d2), .second, .val (.int f1), .val (.int t1), .val (.int f2), .val (.int t2), .val (.ref b5), .val (.ref b8), .val (.ref b11), .unset, .unset, .unset, .unset, .unset, .unset, .unset, .unset, .unset, .unset, .unset, .unset] [(.int f2), (.int (0 : Int32)), (.ref b11)])) (fun t k => XS.iload X11.here hx rfl (hb hby at_130) rfl k) ?_
          obtain ⟨cl12, Ar12, q12, S12, Ng12, H12, G12⟩ := V_b11
          have hin12 : ¬ ((0 : Int32) < 0 ∨ cl12.slots.size ≤ ((0 : Int32)).toNatClampNeg) := inb_of S12 ⟨by decide, by decide⟩
          obtain ⟨T13, h13, X13, e13, W13, st13⟩ := stC X11 hx hZ e11 Ar12 (j := (0 : Int32)) hin12 (g := (mkF m 132 #[.val (.long q0), .second, .val (.long q1), .second, .val (.long q2), .second, .val (.long q3), .second, .val (.int p4), .val (.int p5), .val (.long c2), .second, .val (.long d2), .second, .val (.int f1), .val (.int t1), .val (.int f2), .val (.int t2), .val (.ref b5), .val (.ref b8), .val (.ref b11), .unset, .unset, .unset, .unset, .unset, .unset, .unset, .unset, .unset, .unset, .unset, .unset] [(.int f2), (.int (0 : Int32)), (.ref b11)])) rfl rfl (hb hby at_132)
          have V_b11 : Arv Z h13 b11 k11 .char (1 : Int32) [(.int (nar .char f2))] (.int (0 : Int32)) := Arv.set Ar12 q12 S12 Ng12 H12 G12 (fits_nar_char _) W13 0 rfl (Nat.le_of_ble_eq_true rfl)
          have V_b5 := V_b5.other W13 (ne_b5_b11)
          have V_b8 := V_b8.other W13 (ne_b8_b11)
          have O0 := O0.wr W13 g_b11
          have N13 := Fr.snoc X13 N10 g_b11
          refine Goes.to (T' := T13.setTop (mkF m 133 #[.val (.long q0), .second, .val (.long q1), .second, .val (.long q2), .second, .val (.long q3), .second, .val (.int p4), .val (.int p5), .val (.long c2), .second, .val (.long d2), .second, .val (.int f1), .val (.int t1), .val (.int f2), .val (.int t2), .val (.ref b5), .val (.ref b8), .val (.ref b11), .unset, .unset, .unset, .unset, .unset, .unset, .unset, .unset, .unset, .unset, .unset, .unset] [])) st13 ?_
          rw [own_narc h_f2] at V_b11
          refine Goes.to (T' := T13.setTop (mkF m 134 #[.val (.long q0), .second, .val (.long q1), .second, .val (.long q2), .second, .val (.long q3), .second, .val (.int p4), .val (.int p5), .val (.long c2), .second, .val (.long d2), .second, .val (.int f1), .val (.int t1), .val (.int f2), .val (.int t2), .val (.ref b5), .val (.ref b8), .val (.ref b11), .unset, .unset, .unset, .unset, .unset, .unset, .unset, .unset, .unset, .unset, .unset, .unset] [(.int (1 : Int32))])) (fun t k => XS.iconst X13.here hx rfl (hb hby at_133) k) ?_
          obtain ⟨T14, h14, k14, X14, e14, E14, A14, st14⟩ := newP X13 hx hZ (hw _ (List.mem_of_getElem? (i := 0) rfl)) e13 (g := (mkF m 134 #[.val (.long q0), .second, .val (.long q1), .second, .val (.long q2), .second, .val (.long q3), .second, .val (.int p4), .val (.int p5), .val (.long c2), .second, .val (.long d2), .second, .val (.int f1), .val (.int t1), .val (.int f2), .val (.int t2), .val (.ref b5), .val (.ref b8), .val (.ref b11), .unset, .unset, .unset, .unset, .unset, .unset, .unset, .unset, .unset, .unset, .unset, .unset] [(.int (1 : Int32))])) rfl (hb hby at_134) rfl (by decide) (cap := 1) (by decide) (by decide) (by decide) (by decide)
          obtain ⟨b14, g14⟩ : ∃ z, z = h13.size := ⟨_, rfl⟩
          rw [← g14] at A14 st14
          have g_b14 : n0 ≤ b14 := Nat.le_trans (own_old O0) (Nat.le_of_eq g14.symm)
          have ne_b5_b14 : b5 ≠ b14 := Nat.ne_of_lt (Nat.lt_of_lt_of_le V_b5.lt (Nat.le_of_eq g14.symm))
          have ne_b14_b5 := Ne.symm ne_b5_b14
          have ne_b8_b14 : b8 ≠ b14 := Nat.ne_of_lt (Nat.lt_of_lt_of_le V_b8.lt (Nat.le_of_eq g14.symm))
          have ne_b14_b8 := Ne.symm ne_b8_b14
          have ne_b11_b14 : b11 ≠ b14 := Nat.ne_of_lt (Nat.lt_of_lt_of_le V_b11.lt (Nat.le_of_eq g14.symm))
          have ne_b14_b11 := Ne.symm ne_b11_b14
          have V_b5 := V_b5.ext E14
          have V_b8 := V_b8.ext E14
          have V_b11 := V_b11.ext E14
          have O0 := O0.ext E14
          have V_b14 : Arv Z h14 b14 k14 .char (1 : Int32) [(.int (0 : Int32))] (.int (0 : Int32)) := (Arv.new A14 (by decide)).pad (pad_rep [] (.int (0 : Int32)) 1)
          refine Goes.to (T' := T14.setTop (mkF m 136 #[.val (.long q0), .second, .val (.long q1), .second, .val (.long q2), .second, .val (.long q3), .second, .val (.int p4), .val (.int p5), .val (.long c2), .second, .val (.long d2), .second, .val (.int f1), .val (.int t1), .val (.int f2), .val (.int t2), .val (.ref b5), .val (.ref b8), .val (.ref b11), .unset, .unset, .unset, .unset, .unset, .unset, .unset, .unset, .unset, .unset, .unset, .unset] [(.ref b14)])) st14 ?_
          refine Goes.to (T' := T14.setTop (mkF m 138 #[.val (.long q0), .second, .val (.long q1), .second, .val (.long q2), .second, .val (.long q3), .second, .val (.int p4), .val (.int p5), .val (.long c2), .second, .val (.long d2), .second, .val (.int f1), .val (.int t1), .val (.int f2), .val (.int t2), .val (.ref b5), .val (.ref b8), .val (.ref b11), .val (.ref b14), .unset, .unset, .unset, .unset, .unset, .unset, .unset, .unset, .unset, .unset, .unset] [])) (fun t k => XS.astore X14.here hx rfl (hb hby at_136) rfl rfl (l' := #[.val (.long q0), .second, .val (.long q1), .second, .val (.long q2), .second, .val (.long q3), .second, .val (.int p4), .val (.int p5), .val (.long c2), .second, .val (.long d2), .second, .val (.int f1), .val (.int t1), .val (.int f2), .val (.int t2), .val (.ref b5), .val (.ref b8), .val (.ref b11), .val (.ref b14), .unset, .unset, .unset, .unset, .unset, .unset, .unset, .unset, .unset, .unset, .unset]) rfl k) ?_
          refine Goes.to (T' := T14.setTop (mkF m 140 #[.val (.long q0), .second, .val (.long q1), .second, .val (.long q2), .second, .val (.long q3), .second, .val (.int p4), .val (.int p5), .val (.long c2), .second, .val (.long d2), .second, .val (.int f1), .val (.int t1), .val (.int f2), .val (.int t2), .val (.ref b5), .val (.ref b8), .val (.ref b11), .val (.ref b14), .unset, .unset, .unset, .unset, .unset, .unset, .unset, .unset, .unset, .unset, .unset] [(.ref b14)])) (fun t k => XS.aload X14.here hx rfl (hb hby at_138) rfl rfl k) ?_
          refine Goes.to (T' := T14.setTop (mkF m 141 #[.val (.long q0), .second, .val (.long q1), .second, .val (.long q2), .second, .val (.long q3), .second, .val (.int p4), .val (.int p5), .val (.long c2), .second, .val (.long d2), .second, .val (.int f1), .val (.int t1), .val (.int f2), .val (.int t2), .val (.ref b5), .val (.ref b8), .val (.ref b11), .val (.ref b14), .unset, .unset, .unset, .unset, .unset, .unset, .unset, .unset, .unset, .unset, .unset] [(.int (0 : Int32)), (.ref b14)])) (fun t k => XS.iconst X14.here hx rfl (hb hby at_140) k) ?_
          refine Goes.to (T' := T14.setTop (mkF m 143 #[.val (.long q0), .second, .val (.long q1), .second, .val (.long q2), .second, .val (.long q3), .second, .val (.int p4), .val (.int p5), .val (.long c2), .second, .val (.long d2), .second, .val (.int f1), .val (.int t1), .val (.int f2), .val (.int t2), .val (.ref b5), .val (.ref b8), .val (.ref b11), .val (.ref b14), .unset, .unset, .unset, .unset, .unset, .unset, .unset, .unset, .unset, .unset, .unset] [(.int t2), (.int (0 : Int32)), (.ref b14)])) (fun t k => XS.iload X14.here hx rfl (hb hby at_141) rfl k) ?_
          obtain ⟨cl15, Ar15, q15, S15, Ng15, H15, G15⟩ := V_b14
          have hin15 : ¬ ((0 : Int32) < 0 ∨ cl15.slots.size ≤ ((0 : Int32)).toNatClampNeg) := inb_of S15 ⟨by decide, by decide⟩
          obtain ⟨T16, h16, X16, e16, W16, st16⟩ := stC X14 hx hZ e14 Ar15 (j := (0 : Int32)) hin15 (g := (mkF m 143 #[.val (.long q0), .second, .val (.long q1), .second, .val (.long q2), .second, .val (.long q3), .second, .val (.int p4), .val (.int p5), .val (.long c2), .second, .val (.long d2), .second, .val (.int f1), .val (.int t1), .val (.int f2), .val (.int t2), .val (.ref b5), .val (.ref b8), .val (.ref b11), .val (.ref b14), .unset, .unset, .unset, .unset, .unset, .unset, .unset, .unset, .unset, .unset, .unset] [(.int t2), (.int (0 : Int32)), (.ref b14)])) rfl rfl (hb hby at_143)
          have V_b14 : Arv Z h16 b14 k14 .char (1 : Int32) [(.int (nar .char t2))] (.int (0 : Int32)) := Arv.set Ar15 q15 S15 Ng15 H15 G15 (fits_nar_char _) W16 0 rfl (Nat.le_of_ble_eq_true rfl)
          have V_b5 := V_b5.other W16 (ne_b5_b14)
          have V_b8 := V_b8.other W16 (ne_b8_b14)
          have V_b11 := V_b11.other W16 (ne_b11_b14)
          have O0 := O0.wr W16 g_b14
          have N16 := Fr.snoc X16 N13 g_b14
          refine Goes.to (T' := T16.setTop (mkF m 144 #[.val (.long q0), .second, .val (.long q1), .second, .val (.long q2), .second, .val (.long q3), .second, .val (.int p4), .val (.int p5), .val (.long c2), .second, .val (.long d2), .second, .val (.int f1), .val (.int t1), .val (.int f2), .val (.int t2), .val (.ref b5), .val (.ref b8), .val (.ref b11), .val (.ref b14), .unset, .unset, .unset, .unset, .unset, .unset, .unset, .unset, .unset, .unset, .unset] [])) st16 ?_
          rw [own_narc h_t2] at V_b14
          exact rm0_A l Z a0 hw ws q0 q1 q2 q3 p4 p5 z_cs h0 n0 NF  p e s m below meth c s₁ Bd hml hZ Qf hQf b5 b8 b11 b14 k5 k8 k11 k14 c2 d2 f1 t1 f2 t2 h_f1 h_t1 h_f2 h_t2 g_b5 g_b8 g_b11 g_b14 ne_b5_b8 ne_b5_b11 ne_b5_b14 ne_b8_b5 ne_b8_b11 ne_b8_b14 ne_b11_b5 ne_b11_b8 ne_b11_b14 ne_b14_b5 ne_b14_b8 ne_b14_b11 _ _ _  X16 e16 O0 V_b5 V_b8 V_b11 V_b14 N16  
        refine Goes.to (T' := TJ3.setTop (mkF m 77 #[.val (.long q0), .second, .val (.long q1), .second, .val (.long q2), .second, .val (.long q3), .second, .val (.int p4), .val (.int p5), .val (.long c2), .second, .val (.long d2), .second, .val (.int f1), .val (.int t1), .val (.int f2), .unset, .unset, .unset, .unset, .unset, .unset, .unset, .unset, .unset, .unset, .unset, .unset, .unset, .unset, .unset, .unset] [(.int p5)])) (fun t k => XS.iload XJ3.here hx rfl (hb hby at_75) rfl k) ?_
        refine Goes.to (T' := TJ3.setTop (mkF m 79 #[.val (.long q0), .second, .val (.long q1), .second, .val (.long q2), .second, .val (.long q3), .second, .val (.int p4), .val (.int p5), .val (.long c2), .second, .val (.long d2), .second, .val (.int f1), .val (.int t1), .val (.int f2), .unset, .unset, .unset, .unset, .unset, .unset, .unset, .unset, .unset, .unset, .unset, .unset, .unset, .unset, .unset, .unset] [(.int (8 : Int32)), (.int p5)])) (fun t k => XS.bipush XJ3.here hx rfl (hb hby at_77) k) ?_
        refine Goes.to (T' := TJ3.setTop (mkF m 80 #[.val (.long q0), .second, .val (.long q1), .second, .val (.long q2), .second, .val (.long q3), .second, .val (.int p4), .val (.int p5), .val (.long c2), .second, .val (.long d2), .second, .val (.int f1), .val (.int t1), .val (.int f2), .unset, .unset, .unset, .unset, .unset, .unset, .unset, .unset, .unset, .unset, .unset, .unset, .unset, .unset, .unset, .unset] [(.int (p5 &&& (8 : Int32)))])) (fun t k => XS.iand XJ3.here hx rfl (hb hby at_79) rfl k) ?_
        rcases Decidable.em ((p5 &&& (8 : Int32)) = (0 : Int32)) with hc80_44 | hc80_44
        · skip
          refine Goes.to (T' := TJ3.setTop (mkF m 88 #[.val (.long q0), .second, .val (.long q1), .second, .val (.long q2), .second, .val (.long q3), .second, .val (.int p4), .val (.int p5), .val (.long c2), .second, .val (.long d2), .second, .val (.int f1), .val (.int t1), .val (.int f2), .unset, .unset, .unset, .unset, .unset, .unset, .unset, .unset, .unset, .unset, .unset, .unset, .unset, .unset, .unset, .unset] [])) (fun t k => XS.ifYes XJ3.here hx rfl (pc0 := 80) (pc' := 88) rfl (hb hby at_80) rfl ((if0 _ _).trans (teq hc80_44).1) (by decide) (by decide) k) ?_
          refine Goes.to (T' := TJ3.setTop (mkF m 90 #[.val (.long q0), .second, .val (.long q1), .second, .val (.long q2), .second, .val (.long q3), .second, .val (.int p4), .val (.int p5), .val (.long c2), .second, .val (.long d2), .second, .val (.int f1), .val (.int t1), .val (.int f2), .unset, .unset, .unset, .unset, .unset, .unset, .unset, .unset, .unset, .unset, .unset, .unset, .unset, .unset, .unset, .unset] [(.int p4)])) (fun t k => XS.iload XJ3.here hx rfl (hb hby at_88) rfl k) ?_
          refine Goes.to (T' := TJ3.setTop (mkF m 92 #[.val (.long q0), .second, .val (.long q1), .second, .val (.long q2), .second, .val (.long q3), .second, .val (.int p4), .val (.int p5), .val (.long c2), .second, .val (.long d2), .second, .val (.int f1), .val (.int t1), .val (.int f2), .unset, .unset, .unset, .unset, .unset, .unset, .unset, .unset, .unset, .unset, .unset, .unset, .unset, .unset, .unset, .unset] [(.int (24 : Int32)), (.int p4)])) (fun t k => XS.bipush XJ3.here hx rfl (hb hby at_90) k) ?_
          refine Goes.to (T' := TJ3.setTop (mkF m 93 #[.val (.long q0), .second, .val (.long q1), .second, .val (.long q2), .second, .val (.long q3), .second, .val (.int p4), .val (.int p5), .val (.long c2), .second, .val (.long d2), .second, .val (.int f1), .val (.int t1), .val (.int f2), .unset, .unset, .unset, .unset, .unset, .unset, .unset, .unset, .unset, .unset, .unset, .unset, .unset, .unset, .unset, .unset] [(.int ((p4.toUInt32 >>> ((24 : Int32) &&& 31).toUInt32).toInt32))])) (fun t k => XS.iushr XJ3.here hx rfl (hb hby at_92) rfl k) ?_
          refine Goes.to (T' := TJ3.setTop (mkF m 96 #[.val (.long q0), .second, .val (.long q1), .second, .val (.long q2), .second, .val (.long q3), .second, .val (.int p4), .val (.int p5), .val (.long c2), .second, .val (.long d2), .second, .val (.int f1), .val (.int t1), .val (.int f2), .unset, .unset, .unset, .unset, .unset, .unset, .unset, .unset, .unset, .unset, .unset, .unset, .unset, .unset, .unset, .unset] [(.int (255 : Int32)), (.int ((p4.toUInt32 >>> ((24 : Int32) &&& 31).toUInt32).toInt32))])) (fun t k => XS.sipush XJ3.here hx rfl (hb hby at_93) k) ?_
          refine Goes.to (T' := TJ3.setTop (mkF m 97 #[.val (.long q0), .second, .val (.long q1), .second, .val (.long q2), .second, .val (.long q3), .second, .val (.int p4), .val (.int p5), .val (.long c2), .second, .val (.long d2), .second, .val (.int f1), .val (.int t1), .val (.int f2), .unset, .unset, .unset, .unset, .unset, .unset, .unset, .unset, .unset, .unset, .unset, .unset, .unset, .unset, .unset, .unset] [(.int (((p4.toUInt32 >>> ((24 : Int32) &&& 31).toUInt32).toInt32) &&& (255 : Int32)))])) (fun t k => XS.iand XJ3.here hx rfl (hb hby at_96) rfl k) ?_
          refine Goes.to (T' := TJ3.setTop (mkF m 98 #[.val (.long q0), .second, .val (.long q1), .second, .val (.long q2), .second, .val (.long q3), .second, .val (.int p4), .val (.int p5), .val (.long c2), .second, .val (.long d2), .second, .val (.int f1), .val (.int t1), .val (.int f2), .unset, .unset, .unset, .unset, .unset, .unset, .unset, .unset, .unset, .unset, .unset, .unset, .unset, .unset, .unset, .unset] [(.int ((((p4.toUInt32 >>> ((24 : Int32) &&& 31).toUInt32).toInt32) &&& (255 : Int32)).toUInt32.toUInt16.toUInt32.toInt32))])) (fun t k => XS.i2c XJ3.here hx rfl (hb hby at_97) rfl k) ?_
          refine Goes.to (T' := TJ3.setTop (mkF m 100 #[.val (.long q0), .second, .val (.long q1), .second, .val (.long q2), .second, .val (.long q3), .second, .val (.int p4), .val (.int p5), .val (.long c2), .second, .val (.long d2), .second, .val (.int f1), .val (.int t1), .val (.int f2), .val (.int ((((p4.toUInt32 >>> ((24 : Int32) &&& 31).toUInt32).toInt32) &&& (255 : Int32)).toUInt32.toUInt16.toUInt32.toInt32)), .unset, .unset, .unset, .unset, .unset, .unset, .unset, .unset, .unset, .unset, .unset, .unset, .unset, .unset, .unset] [])) (fun t k => XS.istore XJ3.here hx rfl (hb hby at_98) rfl (l' := #[.val (.long q0), .second, .val (.long q1), .second, .val (.long q2), .second, .val (.long q3), .second, .val (.int p4), .val (.int p5), .val (.long c2), .second, .val (.long d2), .second, .val (.int f1), .val (.int t1), .val (.int f2), .val (.int ((((p4.toUInt32 >>> ((24 : Int32) &&& 31).toUInt32).toInt32) &&& (255 : Int32)).toUInt32.toUInt16.toUInt32.toInt32)), .unset, .unset, .unset, .unset, .unset, .unset, .unset, .unset, .unset, .unset, .unset, .unset, .unset, .unset, .unset]) rfl k) ?_
          exact J100 _ _ ((((p4.toUInt32 >>> ((24 : Int32) &&& 31).toUInt32).toInt32) &&& (255 : Int32)).toUInt32.toUInt16.toUInt32.toInt32) XJ3 eJ3 NJ3 (own_i2c _)
        · skip
          refine Goes.to (T' := TJ3.setTop (mkF m 83 #[.val (.long q0), .second, .val (.long q1), .second, .val (.long q2), .second, .val (.long q3), .second, .val (.int p4), .val (.int p5), .val (.long c2), .second, .val (.long d2), .second, .val (.int f1), .val (.int t1), .val (.int f2), .unset, .unset, .unset, .unset, .unset, .unset, .unset, .unset, .unset, .unset, .unset, .unset, .unset, .unset, .unset, .unset] [])) (fun t k => XS.ifNo XJ3.here hx rfl (hb hby at_80) rfl ((if0 _ _).trans (feq hc80_44).1) k) ?_
          refine Goes.to (T' := TJ3.setTop (mkF m 85 #[.val (.long q0), .second, .val (.long q1), .second, .val (.long q2), .second, .val (.long q3), .second, .val (.int p4), .val (.int p5), .val (.long c2), .second, .val (.long d2), .second, .val (.int f1), .val (.int t1), .val (.int f2), .unset, .unset, .unset, .unset, .unset, .unset, .unset, .unset, .unset, .unset, .unset, .unset, .unset, .unset, .unset, .unset] [(.int t1)])) (fun t k => XS.iload XJ3.here hx rfl (hb hby at_83) rfl k) ?_
          refine Goes.to (T' := TJ3.setTop (mkF m 98 #[.val (.long q0), .second, .val (.long q1), .second, .val (.long q2), .second, .val (.long q3), .second, .val (.int p4), .val (.int p5), .val (.long c2), .second, .val (.long d2), .second, .val (.int f1), .val (.int t1), .val (.int f2), .unset, .unset, .unset, .unset, .unset, .unset, .unset, .unset, .unset, .unset, .unset, .unset, .unset, .unset, .unset, .unset] [(.int t1)])) (fun t k => XS.goto XJ3.here hx rfl (pc0 := 85) (pc' := 98) rfl (hb hby at_85) (by decide) (by decide) k) ?_
          refine Goes.to (T' := TJ3.setTop (mkF m 100 #[.val (.long q0), .second, .val (.long q1), .second, .val (.long q2), .second, .val (.long q3), .second, .val (.int p4), .val (.int p5), .val (.long c2), .second, .val (.long d2), .second, .val (.int f1), .val (.int t1), .val (.int f2), .val (.int t1), .unset, .unset, .unset, .unset, .unset, .unset, .unset, .unset, .unset, .unset, .unset, .unset, .unset, .unset, .unset] [])) (fun t k => XS.istore XJ3.here hx rfl (hb hby at_98) rfl (l' := #[.val (.long q0), .second, .val (.long q1), .second, .val (.long q2), .second, .val (.long q3), .second, .val (.int p4), .val (.int p5), .val (.long c2), .second, .val (.long d2), .second, .val (.int f1), .val (.int t1), .val (.int f2), .val (.int t1), .unset, .unset, .unset, .unset, .unset, .unset, .unset, .unset, .unset, .unset, .unset, .unset, .unset, .unset, .unset]) rfl k) ?_
          exact J100 _ _ t1 XJ3 eJ3 NJ3 h_t1
      refine Goes.to (T' := TJ2.setTop (mkF m 53 #[.val (.long q0), .second, .val (.long q1), .second, .val (.long q2), .second, .val (.long q3), .second, .val (.int p4), .val (.int p5), .val (.long c2), .second, .val (.long d2), .second, .val (.int f1), .val (.int t1), .unset, .unset, .unset, .unset, .unset, .unset, .unset, .unset, .unset, .unset, .unset, .unset, .unset, .unset, .unset, .unset, .unset] [(.int p5)])) (fun t k => XS.iload XJ2.here hx rfl (hb hby at_51) rfl k) ?_
      refine Goes.to (T' := TJ2.setTop (mkF m 54 #[.val (.long q0), .second, .val (.long q1), .second, .val (.long q2), .second, .val (.long q3), .second, .val (.int p4), .val (.int p5), .val (.long c2), .second, .val (.long d2), .second, .val (.int f1), .val (.int t1), .unset, .unset, .unset, .unset, .unset, .unset, .unset, .unset, .unset, .unset, .unset, .unset, .unset, .unset, .unset, .unset, .unset] [(.int (4 : Int32)), (.int p5)])) (fun t k => XS.iconst XJ2.here hx rfl (hb hby at_53) k) ?_
      refine Goes.to (T' := TJ2.setTop (mkF m 55 #[.val (.long q0), .second, .val (.long q1), .second, .val (.long q2), .second, .val (.long q3), .second, .val (.int p4), .val (.int p5), .val (.long c2), .second, .val (.long d2), .second, .val (.int f1), .val (.int t1), .unset, .unset, .unset, .unset, .unset, .unset, .unset, .unset, .unset, .unset, .unset, .unset, .unset, .unset, .unset, .unset, .unset] [(.int (p5 &&& (4 : Int32)))])) (fun t k => XS.iand XJ2.here hx rfl (hb hby at_54) rfl k) ?_
      rcases Decidable.em ((p5 &&& (4 : Int32)) = (0 : Int32)) with hc55_45 | hc55_45
      · skip
        refine Goes.to (T' := TJ2.setTop (mkF m 63 #[.val (.long q0), .second, .val (.long q1), .second, .val (.long q2), .second, .val (.long q3), .second, .val (.int p4), .val (.int p5), .val (.long c2), .second, .val (.long d2), .second, .val (.int f1), .val (.int t1), .unset, .unset, .unset, .unset, .unset, .unset, .unset, .unset, .unset, .unset, .unset, .unset, .unset, .unset, .unset, .unset, .unset] [])) (fun t k => XS.ifYes XJ2.here hx rfl (pc0 := 55) (pc' := 63) rfl (hb hby at_55) rfl ((if0 _ _).trans (teq hc55_45).1) (by decide) (by decide) k) ?_
        refine Goes.to (T' := TJ2.setTop (mkF m 65 #[.val (.long q0), .second, .val (.long q1), .second, .val (.long q2), .second, .val (.long q3), .second, .val (.int p4), .val (.int p5), .val (.long c2), .second, .val (.long d2), .second, .val (.int f1), .val (.int t1), .unset, .unset, .unset, .unset, .unset, .unset, .unset, .unset, .unset, .unset, .unset, .unset, .unset, .unset, .unset, .unset, .unset] [(.int p4)])) (fun t k => XS.iload XJ2.here hx rfl (hb hby at_63) rfl k) ?_
        refine Goes.to (T' := TJ2.setTop (mkF m 67 #[.val (.long q0), .second, .val (.long q1), .second, .val (.long q2), .second, .val (.long q3), .second, .val (.int p4), .val (.int p5), .val (.long c2), .second, .val (.long d2), .second, .val (.int f1), .val (.int t1), .unset, .unset, .unset, .unset, .unset, .unset, .unset, .unset, .unset, .unset, .unset, .unset, .unset, .unset, .unset, .unset, .unset] [(.int (16 : Int32)), (.int p4)])) (fun t k => XS.bipush XJ2.here hx rfl (hb hby at_65) k) ?_
        refine Goes.to (T' := TJ2.setTop (mkF m 68 #[.val (.long q0), .second, .val (.long q1), .second, .val (.long q2), .second, .val (.long q3), .second, .val (.int p4), .val (.int p5), .val (.long c2), .second, .val (.long d2), .second, .val (.int f1), .val (.int t1), .unset, .unset, .unset, .unset, .unset, .unset, .unset, .unset, .unset, .unset, .unset, .unset, .unset, .unset, .unset, .unset, .unset] [(.int ((p4.toUInt32 >>> ((16 : Int32) &&& 31).toUInt32).toInt32))])) (fun t k => XS.iushr XJ2.here hx rfl (hb hby at_67) rfl k) ?_
        refine Goes.to (T' := TJ2.setTop (mkF m 71 #[.val (.long q0), .second, .val (.long q1), .second, .val (.long q2), .second, .val (.long q3), .second, .val (.int p4), .val (.int p5), .val (.long c2), .second, .val (.long d2), .second, .val (.int f1), .val (.int t1), .unset, .unset, .unset, .unset, .unset, .unset, .unset, .unset, .unset, .unset, .unset, .unset, .unset, .unset, .unset, .unset, .unset] [(.int (255 : Int32)), (.int ((p4.toUInt32 >>> ((16 : Int32) &&& 31).toUInt32).toInt32))])) (fun t k => XS.sipush XJ2.here hx rfl (hb hby at_68) k) ?_
        refine Goes.to (T' := TJ2.setTop (mkF m 72 #[.val (.long q0), .second, .val (.long q1), .second, .val (.long q2), .second, .val (.long q3), .second, .val (.int p4), .val (.int p5), .val (.long c2), .second, .val (.long d2), .second, .val (.int f1), .val (.int t1), .unset, .unset, .unset, .unset, .unset, .unset, .unset, .unset, .unset, .unset, .unset, .unset, .unset, .unset, .unset, .unset, .unset] [(.int (((p4.toUInt32 >>> ((16 : Int32) &&& 31).toUInt32).toInt32) &&& (255 : Int32)))])) (fun t k => XS.iand XJ2.here hx rfl (hb hby at_71) rfl k) ?_
        refine Goes.to (T' := TJ2.setTop (mkF m 73 #[.val (.long q0), .second, .val (.long q1), .second, .val (.long q2), .second, .val (.long q3), .second, .val (.int p4), .val (.int p5), .val (.long c2), .second, .val (.long d2), .second, .val (.int f1), .val (.int t1), .unset, .unset, .unset, .unset, .unset, .unset, .unset, .unset, .unset, .unset, .unset, .unset, .unset, .unset, .unset, .unset, .unset] [(.int ((((p4.toUInt32 >>> ((16 : Int32) &&& 31).toUInt32).toInt32) &&& (255 : Int32)).toUInt32.toUInt16.toUInt32.toInt32))])) (fun t k => XS.i2c XJ2.here hx rfl (hb hby at_72) rfl k) ?_
        refine Goes.to (T' := TJ2.setTop (mkF m 75 #[.val (.long q0), .second, .val (.long q1), .second, .val (.long q2), .second, .val (.long q3), .second, .val (.int p4), .val (.int p5), .val (.long c2), .second, .val (.long d2), .second, .val (.int f1), .val (.int t1), .val (.int ((((p4.toUInt32 >>> ((16 : Int32) &&& 31).toUInt32).toInt32) &&& (255 : Int32)).toUInt32.toUInt16.toUInt32.toInt32)), .unset, .unset, .unset, .unset, .unset, .unset, .unset, .unset, .unset, .unset, .unset, .unset, .unset, .unset, .unset, .unset] [])) (fun t k => XS.istore XJ2.here hx rfl (hb hby at_73) rfl (l' := #[.val (.long q0), .second, .val (.long q1), .second, .val (.long q2), .second, .val (.long q3), .second, .val (.int p4), .val (.int p5), .val (.long c2), .second, .val (.long d2), .second, .val (.int f1), .val (.int t1), .val (.int ((((p4.toUInt32 >>> ((16 : Int32) &&& 31).toUInt32).toInt32) &&& (255 : Int32)).toUInt32.toUInt16.toUInt32.toInt32)), .unset, .unset, .unset, .unset, .unset, .unset, .unset, .unset, .unset, .unset, .unset, .unset, .unset, .unset, .unset, .unset]) rfl k) ?_
        exact J75 _ _ ((((p4.toUInt32 >>> ((16 : Int32) &&& 31).toUInt32).toInt32) &&& (255 : Int32)).toUInt32.toUInt16.toUInt32.toInt32) XJ2 eJ2 NJ2 (own_i2c _)
      · skip
        refine Goes.to (T' := TJ2.setTop (mkF m 58 #[.val (.long q0), .second, .val (.long q1), .second, .val (.long q2), .second, .val (.long q3), .second, .val (.int p4), .val (.int p5), .val (.long c2), .second, .val (.long d2), .second, .val (.int f1), .val (.int t1), .unset, .unset, .unset, .unset, .unset, .unset, .unset, .unset, .unset, .unset, .unset, .unset, .unset, .unset, .unset, .unset, .unset] [])) (fun t k => XS.ifNo XJ2.here hx rfl (hb hby at_55) rfl ((if0 _ _).trans (feq hc55_45).1) k) ?_
        refine Goes.to (T' := TJ2.setTop (mkF m 60 #[.val (.long q0), .second, .val (.long q1), .second, .val (.long q2), .second, .val (.long q3), .second, .val (.int p4), .val (.int p5), .val (.long c2), .second, .val (.long d2), .second, .val (.int f1), .val (.int t1), .unset, .unset, .unset, .unset, .unset, .unset, .unset, .unset, .unset, .unset, .unset, .unset, .unset, .unset, .unset, .unset, .unset] [(.int f1)])) (fun t k => XS.iload XJ2.here hx rfl (hb hby at_58) rfl k) ?_
        refine Goes.to (T' := TJ2.setTop (mkF m 73 #[.val (.long q0), .second, .val (.long q1), .second, .val (.long q2), .second, .val (.long q3), .second, .val (.int p4), .val (.int p5), .val (.long c2), .second, .val (.long d2), .second, .val (.int f1), .val (.int t1), .unset, .unset, .unset, .unset, .unset, .unset, .unset, .unset, .unset, .unset, .unset, .unset, .unset, .unset, .unset, .unset, .unset] [(.int f1)])) (fun t k => XS.goto XJ2.here hx rfl (pc0 := 60) (pc' := 73) rfl (hb hby at_60) (by decide) (by decide) k) ?_
        refine Goes.to (T' := TJ2.setTop (mkF m 75 #[.val (.long q0), .second, .val (.long q1), .second, .val (.long q2), .second, .val (.long q3), .second, .val (.int p4), .val (.int p5), .val (.long c2), .second, .val (.long d2), .second, .val (.int f1), .val (.int t1), .val (.int f1), .unset, .unset, .unset, .unset, .unset, .unset, .unset, .unset, .unset, .unset, .unset, .unset, .unset, .unset, .unset, .unset] [])) (fun t k => XS.istore XJ2.here hx rfl (hb hby at_73) rfl (l' := #[.val (.long q0), .second, .val (.long q1), .second, .val (.long q2), .second, .val (.long q3), .second, .val (.int p4), .val (.int p5), .val (.long c2), .second, .val (.long d2), .second, .val (.int f1), .val (.int t1), .val (.int f1), .unset, .unset, .unset, .unset, .unset, .unset, .unset, .unset, .unset, .unset, .unset, .unset, .unset, .unset, .unset, .unset]) rfl k) ?_
        exact J75 _ _ f1 XJ2 eJ2 NJ2 h_f1
    refine Goes.to (T' := TJ1.setTop (mkF m 17 #[.val (.long q0), .second, .val (.long q1), .second, .val (.long q2), .second, .val (.long q3), .second, .val (.int p4), .val (.int p5), .val (.long c2), .second, .unset, .unset, .unset, .unset, .unset, .unset, .unset, .unset, .unset, .unset, .unset, .unset, .unset, .unset, .unset, .unset, .unset, .unset, .unset, .unset, .unset] [(.int p5)])) (fun t k => XS.iload XJ1.here hx rfl (hb hby at_15) rfl k) ?_
    refine Goes.to (T' := TJ1.setTop (mkF m 18 #[.val (.long q0), .second, .val (.long q1), .second, .val (.long q2), .second, .val (.long q3), .second, .val (.int p4), .val (.int p5), .val (.long c2), .second, .unset, .unset, .unset, .unset, .unset, .unset, .unset, .unset, .unset, .unset, .unset, .unset, .unset, .unset, .unset, .unset, .unset, .unset, .unset, .unset, .unset] [(.int (2 : Int32)), (.int p5)])) (fun t k => XS.iconst XJ1.here hx rfl (hb hby at_17) k) ?_
    refine Goes.to (T' := TJ1.setTop (mkF m 19 #[.val (.long q0), .second, .val (.long q1), .second, .val (.long q2), .second, .val (.long q3), .second, .val (.int p4), .val (.int p5), .val (.long c2), .second, .unset, .unset, .unset, .unset, .unset, .unset, .unset, .unset, .unset, .unset, .unset, .unset, .unset, .unset, .unset, .unset, .unset, .unset, .unset, .unset, .unset] [(.int (p5 &&& (2 : Int32)))])) (fun t k => XS.iand XJ1.here hx rfl (hb hby at_18) rfl k) ?_
    rcases Decidable.em ((p5 &&& (2 : Int32)) = (0 : Int32)) with hc19_46 | hc19_46
    · skip
      refine Goes.to (T' := TJ1.setTop (mkF m 26 #[.val (.long q0), .second, .val (.long q1), .second, .val (.long q2), .second, .val (.long q3), .second, .val (.int p4), .val (.int p5), .val (.long c2), .second, .unset, .unset, .unset, .unset, .unset, .unset, .unset, .unset, .unset, .unset, .unset, .unset, .unset, .unset, .unset, .unset, .unset, .unset, .unset, .unset, .unset] [])) (fun t k => XS.ifYes XJ1.here hx rfl (pc0 := 19) (pc' := 26) rfl (hb hby at_19) rfl ((if0 _ _).trans (teq hc19_46).1) (by decide) (by decide) k) ?_
      refine Goes.to (T' := TJ1.setTop (mkF m 28 #[.val (.long q0), .second, .val (.long q1), .second, .val (.long q2), .second, .val (.long q3), .second, .val (.int p4), .val (.int p5), .val (.long c2), .second, .unset, .unset, .unset, .unset, .unset, .unset, .unset, .unset, .unset, .unset, .unset, .unset, .unset, .unset, .unset, .unset, .unset, .unset, .unset, .unset, .unset] [(.long q3)])) (fun t k => XS.lload XJ1.here hx rfl (hb hby at_26) rfl k) ?_
      refine Goes.to (T' := TJ1.setTop (mkF m 30 #[.val (.long q0), .second, .val (.long q1), .second, .val (.long q2), .second, .val (.long q3), .second, .val (.int p4), .val (.int p5), .val (.long c2), .second, .val (.long q3), .second, .unset, .unset, .unset, .unset, .unset, .unset, .unset, .unset, .unset, .unset, .unset, .unset, .unset, .unset, .unset, .unset, .unset, .unset, .unset] [])) (fun t k => XS.lstore XJ1.here hx rfl (hb hby at_28) rfl (l' := #[.val (.long q0), .second, .val (.long q1), .second, .val (.long q2), .second, .val (.long q3), .second, .val (.int p4), .val (.int p5), .val (.long c2), .second, .val (.long q3), .second, .unset, .unset, .unset, .unset, .unset, .unset, .unset, .unset, .unset, .unset, .unset, .unset, .unset, .unset, .unset, .unset, .unset, .unset, .unset]) rfl k) ?_
      exact J30 _ _ q3 XJ1 eJ1 NJ1 
    · skip
      refine Goes.to (T' := TJ1.setTop (mkF m 22 #[.val (.long q0), .second, .val (.long q1), .second, .val (.long q2), .second, .val (.long q3), .second, .val (.int p4), .val (.int p5), .val (.long c2), .second, .unset, .unset, .unset, .unset, .unset, .unset, .unset, .unset, .unset, .unset, .unset, .unset, .unset, .unset, .unset, .unset, .unset, .unset, .unset, .unset, .unset] [])) (fun t k => XS.ifNo XJ1.here hx rfl (hb hby at_19) rfl ((if0 _ _).trans (feq hc19_46).1) k) ?_
      refine Goes.to (T' := TJ1.setTop (mkF m 23 #[.val (.long q0), .second, .val (.long q1), .second, .val (.long q2), .second, .val (.long q3), .second, .val (.int p4), .val (.int p5), .val (.long c2), .second, .unset, .unset, .unset, .unset, .unset, .unset, .unset, .unset, .unset, .unset, .unset, .unset, .unset, .unset, .unset, .unset, .unset, .unset, .unset, .unset, .unset] [(.long q1)])) (fun t k => XS.lloadN XJ1.here hx rfl (hb hby at_22) rfl k) ?_
      refine Goes.to (T' := TJ1.setTop (mkF m 28 #[.val (.long q0), .second, .val (.long q1), .second, .val (.long q2), .second, .val (.long q3), .second, .val (.int p4), .val (.int p5), .val (.long c2), .second, .unset, .unset, .unset, .unset, .unset, .unset, .unset, .unset, .unset, .unset, .unset, .unset, .unset, .unset, .unset, .unset, .unset, .unset, .unset, .unset, .unset] [(.long q1)])) (fun t k => XS.goto XJ1.here hx rfl (pc0 := 23) (pc' := 28) rfl (hb hby at_23) (by decide) (by decide) k) ?_
      refine Goes.to (T' := TJ1.setTop (mkF m 30 #[.val (.long q0), .second, .val (.long q1), .second, .val (.long q2), .second, .val (.long q3), .second, .val (.int p4), .val (.int p5), .val (.long c2), .second, .val (.long q1), .second, .unset, .unset, .unset, .unset, .unset, .unset, .unset, .unset, .unset, .unset, .unset, .unset, .unset, .unset, .unset, .unset, .unset, .unset, .unset] [])) (fun t k => XS.lstore XJ1.here hx rfl (hb hby at_28) rfl (l' := #[.val (.long q0), .second, .val (.long q1), .second, .val (.long q2), .second, .val (.long q3), .second, .val (.int p4), .val (.int p5), .val (.long c2), .second, .val (.long q1), .second, .unset, .unset, .unset, .unset, .unset, .unset, .unset, .unset, .unset, .unset, .unset, .unset, .unset, .unset, .unset, .unset, .unset, .unset, .unset]) rfl k) ?_
      exact J30 _ _ q1 XJ1 eJ1 NJ1 
  refine Goes.to (T' := s₁.setTop (mkF m 2 #[.val (.long q0), .second, .val (.long q1), .second, .val (.long q2), .second, .val (.long q3), .second, .val (.int p4), .val (.int p5), .unset, .unset, .unset, .unset, .unset, .unset, .unset, .unset, .unset, .unset, .unset, .unset, .unset, .unset, .unset, .unset, .unset, .unset, .unset, .unset, .unset, .unset, .unset] [(.int p5)])) (fun t k => XS.iload X0.here hx rfl (hb hby at_0) rfl k) ?_
  refine Goes.to (T' := s₁.setTop (mkF m 3 #[.val (.long q0), .second, .val (.long q1), .second, .val (.long q2), .second, .val (.long q3), .second, .val (.int p4), .val (.int p5), .unset, .unset, .unset, .unset, .unset, .unset, .unset, .unset, .unset, .unset, .unset, .unset, .unset, .unset, .unset, .unset, .unset, .unset, .unset, .unset, .unset, .unset, .unset] [(.int (1 : Int32)), (.int p5)])) (fun t k => XS.iconst X0.here hx rfl (hb hby at_2) k) ?_
  refine Goes.to (T' := s₁.setTop (mkF m 4 #[.val (.long q0), .second, .val (.long q1), .second, .val (.long q2), .second, .val (.long q3), .second, .val (.int p4), .val (.int p5), .unset, .unset, .unset, .unset, .unset, .unset, .unset, .unset, .unset, .unset, .unset, .unset, .unset, .unset, .unset, .unset, .unset, .unset, .unset, .unset, .unset, .unset, .unset] [(.int (p5 &&& (1 : Int32)))])) (fun t k => XS.iand X0.here hx rfl (hb hby at_3) rfl k) ?_
  rcases Decidable.em ((p5 &&& (1 : Int32)) = (0 : Int32)) with hc4_47 | hc4_47
  · skip
    refine Goes.to (T' := s₁.setTop (mkF m 11 #[.val (.long q0), .second, .val (.long q1), .second, .val (.long q2), .second, .val (.long q3), .second, .val (.int p4), .val (.int p5), .unset, .unset, .unset, .unset, .unset, .unset, .unset, .unset, .unset, .unset, .unset, .unset, .unset, .unset, .unset, .unset, .unset, .unset, .unset, .unset, .unset, .unset, .unset] [])) (fun t k => XS.ifYes X0.here hx rfl (pc0 := 4) (pc' := 11) rfl (hb hby at_4) rfl ((if0 _ _).trans (teq hc4_47).1) (by decide) (by decide) k) ?_
    refine Goes.to (T' := s₁.setTop (mkF m 13 #[.val (.long q0), .second, .val (.long q1), .second, .val (.long q2), .second, .val (.long q3), .second, .val (.int p4), .val (.int p5), .unset, .unset, .unset, .unset, .unset, .unset, .unset, .unset, .unset, .unset, .unset, .unset, .unset, .unset, .unset, .unset, .unset, .unset, .unset, .unset, .unset, .unset, .unset] [(.long q2)])) (fun t k => XS.lload X0.here hx rfl (hb hby at_11) rfl k) ?_
    refine Goes.to (T' := s₁.setTop (mkF m 15 #[.val (.long q0), .second, .val (.long q1), .second, .val (.long q2), .second, .val (.long q3), .second, .val (.int p4), .val (.int p5), .val (.long q2), .second, .unset, .unset, .unset, .unset, .unset, .unset, .unset, .unset, .unset, .unset, .unset, .unset, .unset, .unset, .unset, .unset, .unset, .unset, .unset, .unset, .unset] [])) (fun t k => XS.lstore X0.here hx rfl (hb hby at_13) rfl (l' := #[.val (.long q0), .second, .val (.long q1), .second, .val (.long q2), .second, .val (.long q3), .second, .val (.int p4), .val (.int p5), .val (.long q2), .second, .unset, .unset, .unset, .unset, .unset, .unset, .unset, .unset, .unset, .unset, .unset, .unset, .unset, .unset, .unset, .unset, .unset, .unset, .unset, .unset, .unset]) rfl k) ?_
    exact J15 _ _ q2 X0 e0 N0 
  · skip
    refine Goes.to (T' := s₁.setTop (mkF m 7 #[.val (.long q0), .second, .val (.long q1), .second, .val (.long q2), .second, .val (.long q3), .second, .val (.int p4), .val (.int p5), .unset, .unset, .unset, .unset, .unset, .unset, .unset, .unset, .unset, .unset, .unset, .unset, .unset, .unset, .unset, .unset, .unset, .unset, .unset, .unset, .unset, .unset, .unset] [])) (fun t k => XS.ifNo X0.here hx rfl (hb hby at_4) rfl ((if0 _ _).trans (feq hc4_47).1) k) ?_
    refine Goes.to (T' := s₁.setTop (mkF m 8 #[.val (.long q0), .second, .val (.long q1), .second, .val (.long q2), .second, .val (.long q3), .second, .val (.int p4), .val (.int p5), .unset, .unset, .unset, .unset, .unset, .unset, .unset, .unset, .unset, .unset, .unset, .unset, .unset, .unset, .unset, .unset, .unset, .unset, .unset, .unset, .unset, .unset, .unset] [(.long q0)])) (fun t k => XS.lloadN X0.here hx rfl (hb hby at_7) rfl k) ?_
    refine Goes.to (T' := s₁.setTop (mkF m 13 #[.val (.long q0), .second, .val (.long q1), .second, .val (.long q2), .second, .val (.long q3), .second, .val (.int p4), .val (.int p5), .unset, .unset, .unset, .unset, .unset, .unset, .unset, .unset, .unset, .unset, .unset, .unset, .unset, .unset, .unset, .unset, .unset, .unset, .unset, .unset, .unset, .unset, .unset] [(.long q0)])) (fun t k => XS.goto X0.here hx rfl (pc0 := 8) (pc' := 13) rfl (hb hby at_8) (by decide) (by decide) k) ?_
    refine Goes.to (T' := s₁.setTop (mkF m 15 #[.val (.long q0), .second, .val (.long q1), .second, .val (.long q2), .second, .val (.long q3), .second, .val (.int p4), .val (.int p5), .val (.long q0), .second, .unset, .unset, .unset, .unset, .unset, .unset, .unset, .unset, .unset, .unset, .unset, .unset, .unset, .unset, .unset, .unset, .unset, .unset, .unset, .unset, .unset] [])) (fun t k => XS.lstore X0.here hx rfl (hb hby at_13) rfl (l' := #[.val (.long q0), .second, .val (.long q1), .second, .val (.long q2), .second, .val (.long q3), .second, .val (.int p4), .val (.int p5), .val (.long q0), .second, .unset, .unset, .unset, .unset, .unset, .unset, .unset, .unset, .unset, .unset, .unset, .unset, .unset, .unset, .unset, .unset, .unset, .unset, .unset, .unset, .unset]) rfl k) ?_
    exact J15 _ _ q0 X0 e0 N0 
set_option maxRecDepth 65536 in
set_option maxHeartbeats 40000000 in
theorem comes_1 {Post : Tables → Env → Array Value → State → Outcome → State → Prop} (hpost : ∀ tb e args s v u, (limb_1_1.after args s (.returned v) u = true ∧ limb_1_2.after args s (.returned v) u = true ∧ True) → FrameEnd s (.returned v) u (Jvm.fieldLocs frame_1_writes args s ++ Jvm.arrayLocs frame_1_arrays args s ++ Jvm.staticLocs frame_1_statics s) 40 128 → Post tb e args s (.returned v) u) :
    ArmFor flags0 classFile x code maxLocals ret World_1 tables_1 room_1 Calls_1 rest_1 Pre_1 Post := by
  intro l hfl _ _ p e ha hc hk s m args below hf hA hF happ hP
  obtain ⟨hcalls, hrest, hpre⟩ := hP
  obtain ⟨-, -, -, hnamed, -, -, -, hat⟩ := (Spec.applies_iff hf).mp happ
  obtain ⟨hg, hn⟩ := and_e (Cond.before_iff.mp (show (Jvm.Cond.and given_1 narrow_1).before args s = true from hpre))
  obtain ⟨gc, gr0⟩ := and_e hg
  obtain ⟨w0, w1, w2, w3, w4, w5, rfl⟩ : ∃ w0 w1 w2 w3 w4 w5 : Value, args = #[w0, w1, w2, w3, w4, w5] := by
    have hs : args.size = 6 := by simpa [Cond.value, given_1] using gc
    obtain ⟨L⟩ := args
    match L, hs with
    | [w0, w1, w2, w3, w4, w5], _ => exact ⟨w0, w1, w2, w3, w4, w5, rfl⟩
  have hw := fun d (hd : d ∈ tables_1) => atoms_spec (ws := Jvm.Cond.code x code maxLocals ret :: tables_1) hat d (List.mem_cons_of_mem _ hd)
  have hfit : Fit s := fun {y c} hc i hi => by
    obtain ⟨ha, rfl⟩ := Array.getElem?_eq_some_iff.mp hc
    have q := List.all_eq_true.mp ((Array.all_eq_true_iff_forall_mem.mp hF) _ (Array.getElem_mem ha)) i (List.mem_range.mpr hi)
    simpa [Array.getElem?_eq_getElem hi] using q
  obtain ⟨gv0, gr1⟩ := and_e gr0
  obtain ⟨i0, ei0⟩ := isL_v gv0
  obtain rfl : w0 = (.long i0) := Option.some.inj ei0
  obtain ⟨gv1, gr2⟩ := and_e gr1
  obtain ⟨i1, ei1⟩ := isL_v gv1
  obtain rfl : w1 = (.long i1) := Option.some.inj ei1
  obtain ⟨gv2, gr3⟩ := and_e gr2
  obtain ⟨i2, ei2⟩ := isL_v gv2
  obtain rfl : w2 = (.long i2) := Option.some.inj ei2
  obtain ⟨gv3, gr4⟩ := and_e gr3
  obtain ⟨i3, ei3⟩ := isL_v gv3
  obtain rfl : w3 = (.long i3) := Option.some.inj ei3
  obtain ⟨gv4, gr5⟩ := and_e gr4
  obtain ⟨i4, ei4⟩ := is_v gv4
  obtain rfl : w4 = (.int i4) := Option.some.inj ei4
  obtain ⟨i5, ei5⟩ := is_v gr5
  obtain rfl : w5 = (.int i5) := Option.some.inj ei5
  have hsets := (atoms_of jdkStatics_1 (show (jdkStatics_1.foldr Cond.and restOwn_1).before _ s = true from by rw [← rest_1_c_eq]; exact hrest)).1
  obtain ⟨z_cs, ev_cs⟩ := is_v (Cond.before_iff.mp (hsets _ (List.mem_of_getElem? (i := 1) rfl)))
  have S_cs : Sta s s.heap "java/lang/String" "COMPACT_STRINGS" "Z" (.int z_cs) := Sta.start ev_cs (Or.inl (hsets _ (List.mem_of_getElem? (i := 0) rfl)))
  have nz_cs : ¬ z_cs = 0 := own_nz ev_cs (Cond.before_iff.mp (hsets _ (List.mem_of_getElem? (i := 2) rfl)))
  obtain ⟨n, o, h1, h2, h3, _, L, rfl, ⟨rfl, N⟩, hq⟩ := rm0 l s _ hw tables_1 i0 i1 i2 i3 i4 i5 z_cs s.heap s.heap.size (Old.start s) ⟨S_cs, nz_cs⟩ p e ha hc hk s m _ below hf ((Spec.applies_iff_loose hf).mp happ).1 ⟨rfl, State.Warmed39.refl s, rfl⟩ trivial
  refine ⟨n, _, h1, h2, h3, hpost _ _ _ _ _ _ ⟨Cond.after_iff.mpr rfl, Cond.after_iff.mpr (eq_i res_at (Term.int_eval (1)) rfl), trivial⟩ ⟨hq.1, hq.2.1, (hq.2.2.sift fun y hy => Or.inr (N y hy)).mono (by decide) (by decide)⟩⟩
theorem main_1_1 : Claimed_1_1 := comes_1 fun _ _ _ _ _ _ h hF => ⟨h.1, hF⟩
theorem main_1_2 : Claimed_1_2 := comes_1 fun _ _ _ _ _ _ h hF => ⟨h.2.1, hF⟩
end Jvm.Pilot.@@N@@
namespace Jvm.Pilot.@@N@@
open Jvm Jvm.ClassFile Sem Op Lib Jvm.Free Jvm.Stand Jvm.Pilot.@@N@@.Jvm.D
/-! MADE BY PROGRAM (witnessworld.py) out of the Statement's table words and the real class files: 20 classes; the members and pool entries that the words name. The judged class is class 1, her method 1. -/
namespace start1
open Jvm.ClassFile
def u (s : String) : CpInfo := .utf8 (stringToUtf16 s)
/-- a pool by its gaps: so many unusable entries, then the entry; so many at the end -/
def gap : Nat → List CpInfo → List CpInfo
  | 0, r => r
  | n + 1, r => .unusable :: gap n r
def poolList (es : List (Nat × CpInfo)) (last : Nat) : List CpInfo := es.foldr (fun e r => gap e.1 (e.2 :: r)) (gap last [])
def pool (es : List (Nat × CpInfo)) (last : Nat) : Array CpInfo := ⟨poolList es last⟩
def fileOf (pool : Array CpInfo) (this : Nat) (attrs : Array Attribute := #[]) (ms : Array MethodInfo := #[]) (fl : Nat := 33) (sup : Nat := 0) (ifs : Array Nat := #[]) (fds : Array FieldInfo := #[]) : ClassFile where
  minorVersion := 0
  majorVersion := 65
  constantPool := pool
  accessFlags := fl
  thisClass := this
  superClass := sup
  interfaces := ifs
  fields := fds
  methods := ms
  attributes := attrs
def plain (name : String) (sup : Option ClassId) : Class where
  name := name
  kind := .ordinary
  loader := none
  accessFlags := 33
  super := sup
  interfaces := #[]
  cf := none
  fields := #[]
  methods := #[]
  instanceTypes := #[]
  staticTypes := #[]
  resolved := #[]
  callSites := []
  init := .initialized
  statics := none
  mirror := none

def pool0 : Array CpInfo := pool [(5, u "<init>"), (0, u "()V"), (1, .class_ 10), (1, u "java/lang/Object")] 113

def k0c0 : Code := { maxStack := 0, maxLocals := 1, code := object_method_1_code, exceptionTable := #[], attributes := #[] }
def k0m0 : Method := { name := "<init>", desc := "()V", sig := { parameters := [], returnType := none }, accessFlags := 1, code := some k0c0 }
/-- java/lang/Object -/
def k0 : Class := { plain "java/lang/Object" none with
  accessFlags := 33
  interfaces := #[]
  cf := some (fileOf pool0 8 #[] #[{ accessFlags := 1, nameIndex := 5, descriptorIndex := 6, attributes := #[] }] 33 0 #[] #[])
  fields := #[]
  methods := #[k0m0]
  instanceTypes := #[]
  staticTypes := #[]
  resolved := Array.replicate 124 none
  statics := none }

def pool1 : Array CpInfo := pool [(2, .class_ 4), (1, u "java/lang/Object"), (0, u "<init>"), (0, u "()V"), (0, .class_ 8), (0, u "java/lang/String"), (0, .methodref 7 10), (0, .nameAndType 5 11), (0, u "([C)V"), (0, .class_ 13), (0, u "com/example/inman/inman/Move"), (0, .methodref 12 15), (0, .nameAndType 5 16), (0, u "(JJLjava/lang/String;Ljava/lang/String;)V"), (0, .methodref 12 18), (0, .nameAndType 19 20), (0, u "equals"), (0, u "(Ljava/lang/Object;)Z"), (0, .class_ 22), (0, u "com/example/inman/inman/MoveEqualsPinLaw"), (2, u "law"), (0, u "(JJJJII)Z")] 5

def k1m0 : Method := { name := "<init>", desc := "()V", sig := { parameters := [], returnType := none }, accessFlags := 1, code := none }
def k1c1 : Code := { maxStack := 8, maxLocals := 33, code := code, exceptionTable := #[], attributes := #[] }
def k1m1 : Method := { name := "law", desc := "(JJJJII)Z", sig := { parameters := [.long, .long, .long, .long, .int, .int], returnType := some .boolean }, accessFlags := 9, code := some k1c1 }
/-- com/example/inman/inman/MoveEqualsPinLaw -/
def k1 : Class := { plain "com/example/inman/inman/MoveEqualsPinLaw" (some 0) with
  accessFlags := 49
  interfaces := #[]
  cf := some (fileOf pool1 21 #[] #[{ accessFlags := 1, nameIndex := 5, descriptorIndex := 6, attributes := #[] }, { accessFlags := 9, nameIndex := 25, descriptorIndex := 26, attributes := #[] }] 49 2 #[] #[])
  fields := #[]
  methods := #[k1m0, k1m1]
  instanceTypes := #[]
  staticTypes := #[]
  resolved := Array.replicate 32 none
  statics := none }

def pool2 : Array CpInfo := pool [(1, .class_ 2), (0, u "java/io/Serializable"), (0, .class_ 4), (0, u "java/lang/Object")] 2

/-- java/io/Serializable -/
def k2 : Class := { plain "java/io/Serializable" (some 0) with
  accessFlags := 1537
  interfaces := #[]
  cf := some (fileOf pool2 1 #[] #[] 1537 3 #[] #[])
  fields := #[]
  methods := #[]
  instanceTypes := #[]
  staticTypes := #[]
  resolved := Array.replicate 7 none
  statics := none }

def pool3 : Array CpInfo := pool [(1, .class_ 2), (0, u "java/lang/Comparable"), (0, .class_ 4), (0, u "java/lang/Object")] 7

/-- java/lang/Comparable -/
def k3 : Class := { plain "java/lang/Comparable" (some 0) with
  accessFlags := 1537
  interfaces := #[]
  cf := some (fileOf pool3 1 #[] #[] 1537 3 #[] #[])
  fields := #[]
  methods := #[]
  instanceTypes := #[]
  staticTypes := #[]
  resolved := Array.replicate 12 none
  statics := none }

def pool4 : Array CpInfo := pool [(2, .class_ 4), (1, u "java/lang/CharSequence"), (42, .class_ 48), (0, u "java/lang/CharSequence$1CodePointIterator"), (10, .class_ 60), (0, u "java/lang/CharSequence$1CharIterator"), (5, .class_ 67), (0, u "java/lang/Object")] 63

/-- java/lang/CharSequence -/
def k4 : Class := { plain "java/lang/CharSequence" (some 0) with
  accessFlags := 1537
  interfaces := #[]
  cf := some (fileOf pool4 2 #[.nestMembers #[47, 59]] #[] 1537 66 #[] #[])
  fields := #[]
  methods := #[]
  instanceTypes := #[]
  staticTypes := #[]
  resolved := Array.replicate 131 none
  statics := none }

def pool5 : Array CpInfo := pool [(1, .class_ 2), (0, u "java/lang/constant/Constable"), (0, .class_ 4), (0, u "java/lang/Object")] 6

/-- java/lang/constant/Constable -/
def k5 : Class := { plain "java/lang/constant/Constable" (some 0) with
  accessFlags := 1537
  interfaces := #[]
  cf := some (fileOf pool5 1 #[] #[] 1537 3 #[] #[])
  fields := #[]
  methods := #[]
  instanceTypes := #[]
  staticTypes := #[]
  resolved := Array.replicate 11 none
  statics := none }

def pool6 : Array CpInfo := pool [(1, .class_ 2), (0, u "java/lang/constant/ConstantDesc"), (0, .class_ 4), (0, u "java/lang/Object")] 32

/-- java/lang/constant/ConstantDesc -/
def k6 : Class := { plain "java/lang/constant/ConstantDesc" (some 0) with
  accessFlags := 1537
  interfaces := #[]
  cf := some (fileOf pool6 1 #[] #[] 1537 3 #[] #[])
  fields := #[]
  methods := #[]
  instanceTypes := #[]
  staticTypes := #[]
  resolved := Array.replicate 37 none
  statics := none }

def pool7 : Array CpInfo := pool [(1, .methodref 2 3), (0, .class_ 4), (0, .nameAndType 5 6), (0, u "java/lang/Object"), (0, u "<init>"), (0, u "()V"), (2, .fieldref 10 11), (0, .class_ 12), (0, .nameAndType 13 14), (0, u "java/lang/String"), (0, u "value"), (0, u "[B"), (0, .fieldref 10 16), (0, .nameAndType 17 18), (0, u "coder"), (0, u "B"), (2, u "hash"), (0, u "I"), (2, u "hashIsZero"), (0, u "Z"), (0, .methodref 10 28), (0, .nameAndType 5 29), (0, u "([CIILjava/lang/Void;)V"), (8, .fieldref 10 39), (0, .nameAndType 40 26), (0, u "COMPACT_STRINGS"), (1, .class_ 44), (1, u "java/lang/StringUTF16"), (0, u "compress"), (1, .methodref 42 48), (0, .nameAndType 49 50), (0, u "coderFromArrayLen"), (0, u "([BI)B"), (56, .class_ 109), (1, u "java/lang/StringLatin1"), (67, .methodref 42 178), (0, .nameAndType 45 179), (0, u "([CII)[B"), (361, .methodref 107 542), (0, .nameAndType 543 544), (0, u "equals"), (0, u "([B[B)Z"), (28, u "(Ljava/lang/Object;)Z"), (1, .class_ 576), (0, u "java/lang/CharSequence"), (22, u "CASE_INSENSITIVE_ORDER"), (0, u "Ljava/util/Comparator;"), (409, u "([C)V"), (90, u "serialPersistentFields"), (0, u "[Ljava/io/ObjectStreamField;"), (0, .class_ 1104), (0, u "java/lang/String$CaseInsensitiveComparator"), (1, .class_ 1107), (0, u "java/io/Serializable"), (0, .class_ 1109), (0, u "java/lang/Comparable"), (0, .class_ 1111), (0, u "java/lang/constant/Constable"), (0, .class_ 1113), (0, u "java/lang/constant/ConstantDesc"), (2, u "serialVersionUID"), (0, u "J"), (3, u "REPL"), (0, u "C"), (2, u "LATIN1"), (1, u "UTF16")] 323

def k7m0 : Method := { name := "<init>", desc := "()V", sig := { parameters := [], returnType := none }, accessFlags := 1, code := none }
def k7c1 : Code := { maxStack := 5, maxLocals := 2, code := jdk_42_method_3_code, exceptionTable := #[], attributes := #[] }
def k7m1 : Method := { name := "<init>", desc := "([C)V", sig := { parameters := [(.array .char)], returnType := none }, accessFlags := 1, code := some k7c1 }
def k7c2 : Code := { maxStack := 2, maxLocals := 3, code := jdk_42_method_66_code, exceptionTable := #[], attributes := #[] }
def k7m2 : Method := { name := "equals", desc := "(Ljava/lang/Object;)Z", sig := { parameters := [(.object "java/lang/Object")], returnType := some .boolean }, accessFlags := 1, code := some k7c2 }
def k7c3 : Code := { maxStack := 4, maxLocals := 6, code := jdk_42_method_149_code, exceptionTable := #[], attributes := #[] }
def k7m3 : Method := { name := "<init>", desc := "([CIILjava/lang/Void;)V", sig := { parameters := [(.array .char), .int, .int, (.object "java/lang/Void")], returnType := none }, accessFlags := 2, code := some k7c3 }
/-- java/lang/String -/
def k7 : Class := { plain "java/lang/String" (some 0) with
  accessFlags := 49
  interfaces := #[2, 3, 4, 5, 6]
  cf := some (fileOf pool7 10 #[.nestMembers #[1103]] #[{ accessFlags := 1, nameIndex := 5, descriptorIndex := 6, attributes := #[] }, { accessFlags := 1, nameIndex := 5, descriptorIndex := 1010, attributes := #[] }, { accessFlags := 1, nameIndex := 543, descriptorIndex := 573, attributes := #[] }, { accessFlags := 2, nameIndex := 5, descriptorIndex := 29, attributes := #[] }] 49 2 #[1106, 1108, 575, 1110, 1112] #[{ accessFlags := 18, nameIndex := 13, descriptorIndex := 14, attributes := #[] }, { accessFlags := 18, nameIndex := 17, descriptorIndex := 18, attributes := #[] }, { accessFlags := 2, nameIndex := 21, descriptorIndex := 22, attributes := #[] }, { accessFlags := 2, nameIndex := 25, descriptorIndex := 26, attributes := #[] }, { accessFlags := 26, nameIndex := 1116, descriptorIndex := 1117, attributes := #[] }, { accessFlags := 24, nameIndex := 40, descriptorIndex := 26, attributes := #[] }, { accessFlags := 26, nameIndex := 1101, descriptorIndex := 1102, attributes := #[] }, { accessFlags := 26, nameIndex := 1121, descriptorIndex := 1122, attributes := #[] }, { accessFlags := 25, nameIndex := 599, descriptorIndex := 600, attributes := #[] }, { accessFlags := 24, nameIndex := 1125, descriptorIndex := 18, attributes := #[] }, { accessFlags := 24, nameIndex := 1127, descriptorIndex := 18, attributes := #[] }])
  fields := #[{ name := "value", type := (.array .byte), accessFlags := 18, slot := 0, constantValue := 0 }, { name := "coder", type := .byte, accessFlags := 18, slot := 1, constantValue := 0 }, { name := "hash", type := .int, accessFlags := 2, slot := 2, constantValue := 0 }, { name := "hashIsZero", type := .boolean, accessFlags := 2, slot := 3, constantValue := 0 }, { name := "serialVersionUID", type := .long, accessFlags := 26, slot := 0, constantValue := 0 }, { name := "COMPACT_STRINGS", type := .boolean, accessFlags := 24, slot := 1, constantValue := 0 }, { name := "serialPersistentFields", type := (.array (.object "java/io/ObjectStreamField")), accessFlags := 26, slot := 2, constantValue := 0 }, { name := "REPL", type := .char, accessFlags := 26, slot := 3, constantValue := 0 }, { name := "CASE_INSENSITIVE_ORDER", type := (.object "java/util/Comparator"), accessFlags := 25, slot := 4, constantValue := 0 }, { name := "LATIN1", type := .byte, accessFlags := 24, slot := 5, constantValue := 0 }, { name := "UTF16", type := .byte, accessFlags := 24, slot := 6, constantValue := 0 }]
  methods := #[k7m0, k7m1, k7m2, k7m3]
  instanceTypes := #[(.array .byte), .byte, .int, .boolean]
  staticTypes := #[.long, .boolean, (.array (.object "java/io/ObjectStreamField")), .char, (.object "java/util/Comparator"), .byte, .byte]
  resolved := Array.replicate 1451 none
  statics := some 0 }

def pool8 : Array CpInfo := pool [(6, .class_ 8), (1, u "java/lang/Object"), (0, u "<init>"), (0, u "()V"), (1, .class_ 14), (1, u "java/lang/StringUTF16"), (31, u "$assertionsDisabled"), (0, u "Z"), (13, u "HI_BYTE_SHIFT"), (0, u "I"), (2, u "LO_BYTE_SHIFT"), (49, .methodref 12 116), (0, .nameAndType 117 118), (0, u "compress"), (0, u "([CI[BII)I"), (3, u "([CII)[B"), (138, u "coderFromArrayLen"), (0, u "([BI)B"), (106, .class_ 371), (1, u "java/lang/StringUTF16$LinesSpliterator"), (58, u "MAX_LENGTH"), (196, .class_ 628), (0, u "java/lang/StringUTF16$CodePointsSpliterator"), (0, .class_ 630), (0, u "java/lang/StringUTF16$CharsSpliterator")] 4

def k8m0 : Method := { name := "<init>", desc := "()V", sig := { parameters := [], returnType := none }, accessFlags := 0, code := none }
def k8c1 : Code := { maxStack := 2, maxLocals := 2, code := jdk_52_method_15_code, exceptionTable := #[], attributes := #[] }
def k8m1 : Method := { name := "coderFromArrayLen", desc := "([BI)B", sig := { parameters := [(.array .byte), .int], returnType := some .byte }, accessFlags := 8, code := some k8c1 }
def k8c2 : Code := { maxStack := 5, maxLocals := 6, code := jdk_52_method_16_code, exceptionTable := #[], attributes := #[] }
def k8m2 : Method := { name := "compress", desc := "([CII)[B", sig := { parameters := [(.array .char), .int, .int], returnType := some (.array .byte) }, accessFlags := 9, code := some k8c2 }
def k8c3 : Code := { maxStack := 3, maxLocals := 7, code := jdk_52_method_21_code, exceptionTable := #[], attributes := #[] }
def k8m3 : Method := { name := "compress", desc := "([CI[BII)I", sig := { parameters := [(.array .char), .int, (.array .byte), .int, .int], returnType := some .int }, accessFlags := 9, code := some k8c3 }
/-- java/lang/StringUTF16 -/
def k8 : Class := { plain "java/lang/StringUTF16" (some 0) with
  accessFlags := 48
  interfaces := #[]
  cf := some (fileOf pool8 12 #[.nestMembers #[627, 629, 369]] #[{ accessFlags := 0, nameIndex := 9, descriptorIndex := 10, attributes := #[] }, { accessFlags := 8, nameIndex := 261, descriptorIndex := 262, attributes := #[] }, { accessFlags := 9, nameIndex := 117, descriptorIndex := 122, attributes := #[] }, { accessFlags := 9, nameIndex := 117, descriptorIndex := 118, attributes := #[] }] 48 6 #[] #[{ accessFlags := 26, nameIndex := 61, descriptorIndex := 62, attributes := #[] }, { accessFlags := 26, nameIndex := 65, descriptorIndex := 62, attributes := #[] }, { accessFlags := 24, nameIndex := 430, descriptorIndex := 62, attributes := #[] }, { accessFlags := 4120, nameIndex := 46, descriptorIndex := 47, attributes := #[] }])
  fields := #[{ name := "HI_BYTE_SHIFT", type := .int, accessFlags := 26, slot := 0, constantValue := 0 }, { name := "LO_BYTE_SHIFT", type := .int, accessFlags := 26, slot := 1, constantValue := 0 }, { name := "MAX_LENGTH", type := .int, accessFlags := 24, slot := 2, constantValue := 0 }, { name := "$assertionsDisabled", type := .boolean, accessFlags := 4120, slot := 3, constantValue := 0 }]
  methods := #[k8m0, k8m1, k8m2, k8m3]
  instanceTypes := #[]
  staticTypes := #[.int, .int, .int, .boolean]
  resolved := Array.replicate 635 none
  statics := none }

def pool9 : Array CpInfo := pool [(1, .methodref 2 3), (0, .class_ 4), (0, .nameAndType 5 6), (0, u "java/lang/Object"), (0, u "<init>"), (0, u "()V"), (0, .fieldref 8 9), (0, .class_ 10), (0, .nameAndType 11 12), (0, u "com/example/inman/inman/Move"), (0, u "first"), (0, u "J"), (0, .fieldref 8 14), (0, .nameAndType 15 12), (0, u "last"), (0, .fieldref 8 17), (0, .nameAndType 18 19), (0, u "from"), (0, u "Ljava/lang/String;"), (0, .fieldref 8 21), (0, .nameAndType 22 19), (0, u "to"), (0, .methodref 24 25), (0, .class_ 26), (0, .nameAndType 27 28), (0, u "java/lang/String"), (0, u "equals"), (0, u "(Ljava/lang/Object;)Z"), (20, u "(JJLjava/lang/String;Ljava/lang/String;)V")] 25

def k9c0 : Code := { maxStack := 3, maxLocals := 7, code := prog_5_method_1_code, exceptionTable := #[], attributes := #[] }
def k9m0 : Method := { name := "<init>", desc := "(JJLjava/lang/String;Ljava/lang/String;)V", sig := { parameters := [.long, .long, (.object "java/lang/String"), (.object "java/lang/String")], returnType := none }, accessFlags := 0, code := some k9c0 }
def k9c1 : Code := { maxStack := 4, maxLocals := 3, code := prog_5_method_6_code, exceptionTable := #[], attributes := #[] }
def k9m1 : Method := { name := "equals", desc := "(Ljava/lang/Object;)Z", sig := { parameters := [(.object "java/lang/Object")], returnType := some .boolean }, accessFlags := 1, code := some k9c1 }
/-- com/example/inman/inman/Move -/
def k9 : Class := { plain "com/example/inman/inman/Move" (some 0) with
  accessFlags := 49
  interfaces := #[]
  cf := some (fileOf pool9 8 #[] #[{ accessFlags := 0, nameIndex := 5, descriptorIndex := 49, attributes := #[] }, { accessFlags := 1, nameIndex := 27, descriptorIndex := 28, attributes := #[] }] 49 2 #[] #[{ accessFlags := 18, nameIndex := 11, descriptorIndex := 12, attributes := #[] }, { accessFlags := 18, nameIndex := 15, descriptorIndex := 12, attributes := #[] }, { accessFlags := 18, nameIndex := 18, descriptorIndex := 19, attributes := #[] }, { accessFlags := 18, nameIndex := 22, descriptorIndex := 19, attributes := #[] }])
  fields := #[{ name := "first", type := .long, accessFlags := 18, slot := 0, constantValue := 0 }, { name := "last", type := .long, accessFlags := 18, slot := 1, constantValue := 0 }, { name := "from", type := (.object "java/lang/String"), accessFlags := 18, slot := 2, constantValue := 0 }, { name := "to", type := (.object "java/lang/String"), accessFlags := 18, slot := 3, constantValue := 0 }]
  methods := #[k9m0, k9m1]
  instanceTypes := #[.long, .long, (.object "java/lang/String"), (.object "java/lang/String")]
  staticTypes := #[]
  resolved := Array.replicate 75 none
  statics := none }

def pool10 : Array CpInfo := pool [(4, .class_ 6), (1, u "java/lang/Object"), (0, u "<init>"), (0, u "()V"), (5, .class_ 16), (1, u "java/lang/StringLatin1"), (104, u "$assertionsDisabled"), (0, u "Z"), (98, .class_ 223), (1, u "java/lang/StringLatin1$LinesSpliterator"), (57, u "equals"), (0, u "([B[B)Z"), (107, .class_ 391), (0, u "java/lang/StringLatin1$CharsSpliterator")] 3

def k10m0 : Method := { name := "<init>", desc := "()V", sig := { parameters := [], returnType := none }, accessFlags := 0, code := none }
def k10c1 : Code := { maxStack := 3, maxLocals := 3, code := jdk_43_method_13_code, exceptionTable := #[], attributes := #[] }
def k10m1 : Method := { name := "equals", desc := "([B[B)Z", sig := { parameters := [(.array .byte), (.array .byte)], returnType := some .boolean }, accessFlags := 9, code := some k10c1 }
/-- java/lang/StringLatin1 -/
def k10 : Class := { plain "java/lang/StringLatin1" (some 0) with
  accessFlags := 48
  interfaces := #[]
  cf := some (fileOf pool10 14 #[.nestMembers #[390, 221]] #[{ accessFlags := 0, nameIndex := 7, descriptorIndex := 8, attributes := #[] }, { accessFlags := 9, nameIndex := 281, descriptorIndex := 282, attributes := #[] }] 48 4 #[] #[{ accessFlags := 4120, nameIndex := 121, descriptorIndex := 122, attributes := #[] }])
  fields := #[{ name := "$assertionsDisabled", type := .boolean, accessFlags := 4120, slot := 0, constantValue := 0 }]
  methods := #[k10m0, k10m1]
  instanceTypes := #[]
  staticTypes := #[.boolean]
  resolved := Array.replicate 395 none
  statics := none }

def pool11 : Array CpInfo := pool [(2, .class_ 4), (1, u "java/lang/Object"), (0, u "<init>"), (0, u "()V"), (17, .class_ 26), (1, u "jdk/internal/util/Preconditions"), (28, .class_ 56), (0, u "jdk/internal/util/Preconditions$4"), (57, .class_ 115), (0, u "jdk/internal/util/Preconditions$1"), (7, u "SIOOBE_FORMATTER"), (0, u "Ljava/util/function/BiFunction;"), (0, .class_ 126), (0, u "jdk/internal/util/Preconditions$2"), (3, u "AIOOBE_FORMATTER"), (0, .class_ 132), (0, u "jdk/internal/util/Preconditions$3"), (3, u "IOOBE_FORMATTER")] 57

def k11m0 : Method := { name := "<init>", desc := "()V", sig := { parameters := [], returnType := none }, accessFlags := 1, code := none }
/-- jdk/internal/util/Preconditions -/
def k11 : Class := { plain "jdk/internal/util/Preconditions" (some 0) with
  accessFlags := 33
  interfaces := #[]
  cf := some (fileOf pool11 24 #[.nestMembers #[55, 131, 125, 114]] #[{ accessFlags := 1, nameIndex := 5, descriptorIndex := 6, attributes := #[] }] 33 2 #[] #[{ accessFlags := 25, nameIndex := 123, descriptorIndex := 124, attributes := #[] }, { accessFlags := 25, nameIndex := 130, descriptorIndex := 124, attributes := #[] }, { accessFlags := 25, nameIndex := 136, descriptorIndex := 124, attributes := #[] }])
  fields := #[{ name := "SIOOBE_FORMATTER", type := (.object "java/util/function/BiFunction"), accessFlags := 25, slot := 0, constantValue := 0 }, { name := "AIOOBE_FORMATTER", type := (.object "java/util/function/BiFunction"), accessFlags := 25, slot := 1, constantValue := 0 }, { name := "IOOBE_FORMATTER", type := (.object "java/util/function/BiFunction"), accessFlags := 25, slot := 2, constantValue := 0 }]
  methods := #[k11m0]
  instanceTypes := #[]
  staticTypes := #[(.object "java/util/function/BiFunction"), (.object "java/util/function/BiFunction"), (.object "java/util/function/BiFunction")]
  resolved := Array.replicate 194 none
  statics := some 1 }

def pool12 : Array CpInfo := pool [(9, u "<init>"), (6, .class_ 18), (1, u "java/lang/Object"), (0, u "()V"), (1, .class_ 23), (1, u "jdk/internal/util/ArraysSupport"), (0, u "LOG2_ARRAY_LONG_INDEX_SCALE"), (0, u "I"), (2, u "U"), (0, u "Ljdk/internal/misc/Unsafe;"), (8, u "BIG_ENDIAN"), (0, u "Z"), (8, u "LOG2_BYTE_BIT_SIZE"), (4, u "LOG2_ARRAY_INT_INDEX_SCALE"), (54, u "JLA"), (0, u "Ljdk/internal/access/JavaLangAccess;"), (11, u "LOG2_ARRAY_BOOLEAN_INDEX_SCALE"), (9, u "LOG2_ARRAY_BYTE_INDEX_SCALE"), (5, u "LOG2_ARRAY_CHAR_INDEX_SCALE"), (5, u "LOG2_ARRAY_SHORT_INDEX_SCALE"), (18, u "LOG2_ARRAY_FLOAT_INDEX_SCALE"), (24, u "LOG2_ARRAY_DOUBLE_INDEX_SCALE"), (89, u "T_BOOLEAN"), (2, u "T_CHAR"), (1, u "T_FLOAT"), (1, u "T_DOUBLE"), (1, u "T_BYTE"), (1, u "T_SHORT"), (1, u "T_INT"), (1, u "T_LONG"), (1, u "SOFT_MAX_ARRAY_LENGTH")] 83

def k12m0 : Method := { name := "<init>", desc := "()V", sig := { parameters := [], returnType := none }, accessFlags := 2, code := none }
/-- jdk/internal/util/ArraysSupport -/
def k12 : Class := { plain "jdk/internal/util/ArraysSupport" (some 0) with
  accessFlags := 33
  interfaces := #[]
  cf := some (fileOf pool12 21 #[] #[{ accessFlags := 2, nameIndex := 9, descriptorIndex := 19, attributes := #[] }] 33 16 #[] #[{ accessFlags := 24, nameIndex := 28, descriptorIndex := 29, attributes := #[] }, { accessFlags := 26, nameIndex := 38, descriptorIndex := 39, attributes := #[] }, { accessFlags := 25, nameIndex := 121, descriptorIndex := 25, attributes := #[] }, { accessFlags := 25, nameIndex := 131, descriptorIndex := 25, attributes := #[] }, { accessFlags := 25, nameIndex := 137, descriptorIndex := 25, attributes := #[] }, { accessFlags := 25, nameIndex := 143, descriptorIndex := 25, attributes := #[] }, { accessFlags := 25, nameIndex := 53, descriptorIndex := 25, attributes := #[] }, { accessFlags := 25, nameIndex := 24, descriptorIndex := 25, attributes := #[] }, { accessFlags := 25, nameIndex := 162, descriptorIndex := 25, attributes := #[] }, { accessFlags := 25, nameIndex := 187, descriptorIndex := 25, attributes := #[] }, { accessFlags := 26, nameIndex := 48, descriptorIndex := 25, attributes := #[] }, { accessFlags := 25, nameIndex := 277, descriptorIndex := 25, attributes := #[] }, { accessFlags := 25, nameIndex := 280, descriptorIndex := 25, attributes := #[] }, { accessFlags := 25, nameIndex := 282, descriptorIndex := 25, attributes := #[] }, { accessFlags := 25, nameIndex := 284, descriptorIndex := 25, attributes := #[] }, { accessFlags := 25, nameIndex := 286, descriptorIndex := 25, attributes := #[] }, { accessFlags := 25, nameIndex := 288, descriptorIndex := 25, attributes := #[] }, { accessFlags := 25, nameIndex := 290, descriptorIndex := 25, attributes := #[] }, { accessFlags := 25, nameIndex := 292, descriptorIndex := 25, attributes := #[] }, { accessFlags := 26, nameIndex := 108, descriptorIndex := 109, attributes := #[] }, { accessFlags := 25, nameIndex := 294, descriptorIndex := 25, attributes := #[] }])
  fields := #[{ name := "U", type := (.object "jdk/internal/misc/Unsafe"), accessFlags := 24, slot := 0, constantValue := 0 }, { name := "BIG_ENDIAN", type := .boolean, accessFlags := 26, slot := 1, constantValue := 0 }, { name := "LOG2_ARRAY_BOOLEAN_INDEX_SCALE", type := .int, accessFlags := 25, slot := 2, constantValue := 0 }, { name := "LOG2_ARRAY_BYTE_INDEX_SCALE", type := .int, accessFlags := 25, slot := 3, constantValue := 0 }, { name := "LOG2_ARRAY_CHAR_INDEX_SCALE", type := .int, accessFlags := 25, slot := 4, constantValue := 0 }, { name := "LOG2_ARRAY_SHORT_INDEX_SCALE", type := .int, accessFlags := 25, slot := 5, constantValue := 0 }, { name := "LOG2_ARRAY_INT_INDEX_SCALE", type := .int, accessFlags := 25, slot := 6, constantValue := 0 }, { name := "LOG2_ARRAY_LONG_INDEX_SCALE", type := .int, accessFlags := 25, slot := 7, constantValue := 0 }, { name := "LOG2_ARRAY_FLOAT_INDEX_SCALE", type := .int, accessFlags := 25, slot := 8, constantValue := 0 }, { name := "LOG2_ARRAY_DOUBLE_INDEX_SCALE", type := .int, accessFlags := 25, slot := 9, constantValue := 0 }, { name := "LOG2_BYTE_BIT_SIZE", type := .int, accessFlags := 26, slot := 10, constantValue := 0 }, { name := "T_BOOLEAN", type := .int, accessFlags := 25, slot := 11, constantValue := 0 }, { name := "T_CHAR", type := .int, accessFlags := 25, slot := 12, constantValue := 0 }, { name := "T_FLOAT", type := .int, accessFlags := 25, slot := 13, constantValue := 0 }, { name := "T_DOUBLE", type := .int, accessFlags := 25, slot := 14, constantValue := 0 }, { name := "T_BYTE", type := .int, accessFlags := 25, slot := 15, constantValue := 0 }, { name := "T_SHORT", type := .int, accessFlags := 25, slot := 16, constantValue := 0 }, { name := "T_INT", type := .int, accessFlags := 25, slot := 17, constantValue := 0 }, { name := "T_LONG", type := .int, accessFlags := 25, slot := 18, constantValue := 0 }, { name := "JLA", type := (.object "jdk/internal/access/JavaLangAccess"), accessFlags := 26, slot := 19, constantValue := 0 }, { name := "SOFT_MAX_ARRAY_LENGTH", type := .int, accessFlags := 25, slot := 20, constantValue := 0 }]
  methods := #[k12m0]
  instanceTypes := #[]
  staticTypes := #[(.object "jdk/internal/misc/Unsafe"), .boolean, .int, .int, .int, .int, .int, .int, .int, .int, .int, .int, .int, .int, .int, .int, .int, .int, .int, (.object "jdk/internal/access/JavaLangAccess"), .int]
  resolved := Array.replicate 378 none
  statics := none }

def pool13 : Array CpInfo := pool [(1, u "java/lang/Cloneable"), (0, .class_ 1), (0, u "java/lang/Object"), (0, .class_ 3)] 3

/-- java/lang/Cloneable -/
def k13 : Class := { plain "java/lang/Cloneable" (some 0) with
  accessFlags := 1537
  interfaces := #[]
  cf := some (fileOf pool13 2 #[] #[] 1537 4 #[] #[])
  fields := #[]
  methods := #[]
  instanceTypes := #[]
  staticTypes := #[]
  resolved := Array.replicate 8 none
  statics := none }

/-- the primitive byte -/
def k14 : Class := { plain "byte" none with kind := .primitive 'B', accessFlags := 0x411 }
/-- [B -/
def k15 : Class := { plain "[B" (some 0) with kind := .array 14 .byte, interfaces := #[13, 2], accessFlags := 1041 }

/-- the primitive char -/
def k16 : Class := { plain "char" none with kind := .primitive 'C', accessFlags := 0x411 }
/-- [C -/
def k17 : Class := { plain "[C" (some 0) with kind := .array 16 .char, interfaces := #[13, 2], accessFlags := 1041 }

/-- the primitive int -/
def k18 : Class := { plain "int" none with kind := .primitive 'I', accessFlags := 0x411 }
/-- [I -/
def k19 : Class := { plain "[I" (some 0) with kind := .array 18 .int, interfaces := #[13, 2], accessFlags := 1041 }

def heap : Heap := #[{ cls := 7, slots := #[.long 0, .int 1, .null, .int 0, .null, .int 0, .int 0], vm := .statics 7 },
  { cls := 11, slots := #[.null, .null, .null], vm := .statics 11 }]
def classes : Array Class := #[k0, k1, k2, k3, k4, k5, k6, k7, k8, k9, k10, k11, k12, k13, k14, k15, k16, k17, k18, k19]
def interned : List (Array UInt16 × Addr) := []
def slotsUsed : Nat := 10
def theMethod : MethodId := ⟨1, 1⟩
def args0 : Array Value := #[.long 5, .long 6, .long 7, .long 8, .int 9, .int 10]
def aboutOver (below : List Frame) : State where
  vm := { classes := classes, interned := interned.toArray }
  heap := heap
  slotsUsed := slotsUsed
  threads := #[{ frames := .invoking theMethod args0 :: below }]
def below0 : List Frame := [.native { method := ⟨0, 0⟩, args := #[] }]
def about1 : State := aboutOver below0
def p0 : Program := .bare "" "" ""
def e0 : Env := launch0.env 0 0 0
theorem w_frames : about1.frames = Frame.invoking theMethod args0 :: below0 := rfl
set_option maxRecDepth 65536 in
theorem w_args : argsFit about1.vm theMethod args0 = true := by decide +kernel
set_option maxRecDepth 65536 in
theorem w_heap : heapFits about1 = true := by decide +kernel
set_option maxRecDepth 65536 in
theorem w_runnable : about1.curStatus? = some .runnable := by decide +kernel
set_option maxRecDepth 65536 in
theorem w_alone : about1.alone = true := by decide +kernel
set_option maxRecDepth 65536 in
theorem w_named : about1.methodNamed? x = some theMethod := by decide +kernel
set_option maxRecDepth 65536 in
theorem w_hears : about1.hears theMethod below0 = true := by decide +kernel
set_option maxRecDepth 65536 in
theorem w_ripe : about1.ripe theMethod args0 below0 = true := by decide +kernel
theorem w_running : about1.status = .running := rfl
set_option maxRecDepth 65536 in
theorem w_room : about1.hasRoom e0.platform room_1 = true :=
  launch0.hasRoom_least _ room_1 (by decide +kernel) (by decide +kernel) (by decide +kernel) (by decide +kernel) (by decide +kernel) (by decide +kernel)
theorem allAtoms_all (ts : List Jvm.Cond) (a : Array Jvm.Value) (st : Jvm.State) : (allAtoms ts).before a st = ts.all (fun c => c.before a st) := by
  induction ts with
  | nil => rfl
  | cons c t ih =>
    show (Jvm.Cond.and c (allAtoms t)).before a st = _
    rw [Jvm.Cond.before_and, ih, List.all_cons]
def words1 : List Jvm.Cond := Jvm.Cond.code x code maxLocals ret :: tables_1
/-- a 'code' word, met by the world's own term for the bytes: nothing is compared byte by byte -/
theorem code_word {y : MethodName} {bytes : ByteArray} {mx : Nat} {rt : Option FieldType} {a : Array Value} {s : State} {m : MethodId} {meth : Method} {c : Code} (h1 : s.methodNamed? y = some m) (h2 : s.vm.method? m = some meth) (h3 : meth.code = some c) (h4 : c.code = bytes)
    (h5 : (c.maxLocals == mx && c.exceptionTable.isEmpty && decide (c.maxStack ≤ mostOperands) && decide (meth.sig.returnType = rt) && !meth.locks && decide (parseMethodDescriptor y.desc = some meth.sig)) = true) : (Jvm.Cond.code y bytes mx rt).before a s = true := by
  simp only [Bool.and_eq_true, beq_iff_eq, Bool.not_eq_true', decide_eq_true_eq] at h5
  obtain ⟨⟨⟨⟨⟨g1, g2⟩, g3⟩, g4⟩, g5⟩, g6⟩ := h5
  simp [Cond.before, Cond.holds, Cond.value, h1, h2, h3, h4, g1, g2, g3, g4, g5, g6]
def isCode : Jvm.Cond → Bool
  | .code _ _ _ _ => true
  | _ => false
theorem all_split {L : List Jvm.Cond} {P : Jvm.Cond → Bool} (h1 : L.all (fun c => isCode c || P c) = true) (h2 : ∀ c ∈ L.filter isCode, P c = true) : L.all P = true := by
  refine List.all_eq_true.mpr fun c hc => ?_
  have h := List.all_eq_true.mp h1 c hc
  rcases Bool.eq_false_or_eq_true (isCode c) with hi | hi
  · exact h2 c (List.mem_filter.mpr ⟨hc, hi⟩)
  · simpa [hi] using h
set_option maxRecDepth 65536 in
theorem w_c0 : (Jvm.Cond.code x code maxLocals ret).before args0 about1 = true := code_word (m := ⟨1, 1⟩) (meth := k1m1) (c := k1c1) (by decide +kernel) rfl rfl rfl (by decide +kernel)
set_option maxRecDepth 65536 in
theorem w_c1 : (Jvm.Cond.code ({ cls := "java/lang/String", name := "<init>", desc := "([C)V" } : Jvm.MethodName) jdk_42_method_3_code (2 : Nat) (Option.none : Option Jvm.ClassFile.FieldType)).before args0 about1 = true := code_word (m := ⟨7, 1⟩) (meth := k7m1) (c := k7c1) (by decide +kernel) rfl rfl rfl (by decide +kernel)
set_option maxRecDepth 65536 in
theorem w_c2 : (Jvm.Cond.code ({ cls := "java/lang/String", name := "<init>", desc := "([CIILjava/lang/Void;)V" } : Jvm.MethodName) jdk_42_method_149_code (6 : Nat) (Option.none : Option Jvm.ClassFile.FieldType)).before args0 about1 = true := code_word (m := ⟨7, 3⟩) (meth := k7m3) (c := k7c3) (by decide +kernel) rfl rfl rfl (by decide +kernel)
set_option maxRecDepth 65536 in
theorem w_c3 : (Jvm.Cond.code ({ cls := "java/lang/Object", name := "<init>", desc := "()V" } : Jvm.MethodName) object_method_1_code (1 : Nat) (Option.none : Option Jvm.ClassFile.FieldType)).before args0 about1 = true := code_word (m := ⟨0, 0⟩) (meth := k0m0) (c := k0c0) (by decide +kernel) rfl rfl rfl (by decide +kernel)
set_option maxRecDepth 65536 in
theorem w_c4 : (Jvm.Cond.code ({ cls := "java/lang/StringUTF16", name := "compress", desc := "([CII)[B" } : Jvm.MethodName) jdk_52_method_16_code (6 : Nat) (Option.some (Jvm.ClassFile.FieldType.array Jvm.ClassFile.FieldType.byte))).before args0 about1 = true := code_word (m := ⟨8, 2⟩) (meth := k8m2) (c := k8c2) (by decide +kernel) rfl rfl rfl (by decide +kernel)
set_option maxRecDepth 65536 in
theorem w_c5 : (Jvm.Cond.code ({ cls := "java/lang/StringUTF16", name := "compress", desc := "([CI[BII)I" } : Jvm.MethodName) jdk_52_method_21_code (7 : Nat) (Option.some Jvm.ClassFile.FieldType.int)).before args0 about1 = true := code_word (m := ⟨8, 3⟩) (meth := k8m3) (c := k8c3) (by decide +kernel) rfl rfl rfl (by decide +kernel)
set_option maxRecDepth 65536 in
theorem w_c6 : (Jvm.Cond.code ({ cls := "java/lang/StringUTF16", name := "coderFromArrayLen", desc := "([BI)B" } : Jvm.MethodName) jdk_52_method_15_code (2 : Nat) (Option.some Jvm.ClassFile.FieldType.byte)).before args0 about1 = true := code_word (m := ⟨8, 1⟩) (meth := k8m1) (c := k8c1) (by decide +kernel) rfl rfl rfl (by decide +kernel)
set_option maxRecDepth 65536 in
theorem w_c7 : (Jvm.Cond.code ({ cls := "com/example/inman/inman/Move", name := "<init>", desc := "(JJLjava/lang/String;Ljava/lang/String;)V" } : Jvm.MethodName) prog_5_method_1_code (7 : Nat) (Option.none : Option Jvm.ClassFile.FieldType)).before args0 about1 = true := code_word (m := ⟨9, 0⟩) (meth := k9m0) (c := k9c0) (by decide +kernel) rfl rfl rfl (by decide +kernel)
set_option maxRecDepth 65536 in
theorem w_c8 : (Jvm.Cond.code ({ cls := "com/example/inman/inman/Move", name := "equals", desc := "(Ljava/lang/Object;)Z" } : Jvm.MethodName) prog_5_method_6_code (3 : Nat) (Option.some Jvm.ClassFile.FieldType.boolean)).before args0 about1 = true := code_word (m := ⟨9, 1⟩) (meth := k9m1) (c := k9c1) (by decide +kernel) rfl rfl rfl (by decide +kernel)
set_option maxRecDepth 65536 in
theorem w_c9 : (Jvm.Cond.code ({ cls := "java/lang/String", name := "equals", desc := "(Ljava/lang/Object;)Z" } : Jvm.MethodName) jdk_42_method_66_code (3 : Nat) (Option.some Jvm.ClassFile.FieldType.boolean)).before args0 about1 = true := code_word (m := ⟨7, 2⟩) (meth := k7m2) (c := k7c2) (by decide +kernel) rfl rfl rfl (by decide +kernel)
set_option maxRecDepth 65536 in
theorem w_c10 : (Jvm.Cond.code ({ cls := "java/lang/StringLatin1", name := "equals", desc := "([B[B)Z" } : Jvm.MethodName) jdk_43_method_13_code (3 : Nat) (Option.some Jvm.ClassFile.FieldType.boolean)).before args0 about1 = true := code_word (m := ⟨10, 1⟩) (meth := k10m1) (c := k10c1) (by decide +kernel) rfl rfl rfl (by decide +kernel)
def codes1 : List Jvm.Cond := [Jvm.Cond.code x code maxLocals ret, Jvm.Cond.code ({ cls := "java/lang/String", name := "<init>", desc := "([C)V" } : Jvm.MethodName) jdk_42_method_3_code (2 : Nat) (Option.none : Option Jvm.ClassFile.FieldType), Jvm.Cond.code ({ cls := "java/lang/String", name := "<init>", desc := "([CIILjava/lang/Void;)V" } : Jvm.MethodName) jdk_42_method_149_code (6 : Nat) (Option.none : Option Jvm.ClassFile.FieldType), Jvm.Cond.code ({ cls := "java/lang/Object", name := "<init>", desc := "()V" } : Jvm.MethodName) object_method_1_code (1 : Nat) (Option.none : Option Jvm.ClassFile.FieldType), Jvm.Cond.code ({ cls := "java/lang/StringUTF16", name := "compress", desc := "([CII)[B" } : Jvm.MethodName) jdk_52_method_16_code (6 : Nat) (Option.some (Jvm.ClassFile.FieldType.array Jvm.ClassFile.FieldType.byte)), Jvm.Cond.code ({ cls := "java/lang/StringUTF16", name := "compress", desc := "([CI[BII)I" } : Jvm.MethodName) jdk_52_method_21_code (7 : Nat) (Option.some Jvm.ClassFile.FieldType.int), Jvm.Cond.code ({ cls := "java/lang/StringUTF16", name := "coderFromArrayLen", desc := "([BI)B" } : Jvm.MethodName) jdk_52_method_15_code (2 : Nat) (Option.some Jvm.ClassFile.FieldType.byte), Jvm.Cond.code ({ cls := "com/example/inman/inman/Move", name := "<init>", desc := "(JJLjava/lang/String;Ljava/lang/String;)V" } : Jvm.MethodName) prog_5_method_1_code (7 : Nat) (Option.none : Option Jvm.ClassFile.FieldType), Jvm.Cond.code ({ cls := "com/example/inman/inman/Move", name := "equals", desc := "(Ljava/lang/Object;)Z" } : Jvm.MethodName) prog_5_method_6_code (3 : Nat) (Option.some Jvm.ClassFile.FieldType.boolean), Jvm.Cond.code ({ cls := "java/lang/String", name := "equals", desc := "(Ljava/lang/Object;)Z" } : Jvm.MethodName) jdk_42_method_66_code (3 : Nat) (Option.some Jvm.ClassFile.FieldType.boolean), Jvm.Cond.code ({ cls := "java/lang/StringLatin1", name := "equals", desc := "([B[B)Z" } : Jvm.MethodName) jdk_43_method_13_code (3 : Nat) (Option.some Jvm.ClassFile.FieldType.boolean)]
set_option maxRecDepth 65536 in
theorem codes_eq : words1.filter isCode = codes1 := rfl
theorem w_codes : ∀ c ∈ words1.filter isCode, c.before args0 about1 = true := by
  rw [codes_eq]
  intro c hc
  simp only [codes1, List.mem_cons, List.not_mem_nil, or_false] at hc
  rcases hc with rfl | rfl | rfl | rfl | rfl | rfl | rfl | rfl | rfl | rfl | rfl
  · exact w_c0
  · exact w_c1
  · exact w_c2
  · exact w_c3
  · exact w_c4
  · exact w_c5
  · exact w_c6
  · exact w_c7
  · exact w_c8
  · exact w_c9
  · exact w_c10
set_option maxRecDepth 65536 in
theorem w_t1 : (words1.take 24).all (fun c => isCode c || c.before args0 about1) = true := by decide +kernel
set_option maxRecDepth 65536 in
theorem w_t2 : ((words1.drop 24).take 24).all (fun c => isCode c || c.before args0 about1) = true := by decide +kernel
set_option maxRecDepth 65536 in
theorem w_t3 : ((words1.drop 24).drop 24).all (fun c => isCode c || c.before args0 about1) = true := by decide +kernel
theorem w_tables : (allAtoms (Jvm.Cond.code x code maxLocals ret :: tables_1)).before args0 about1 = true := by
  rw [allAtoms_all]
  show words1.all (fun c => c.before args0 about1) = true
  refine all_split ?_ w_codes
  rw [← List.take_append_drop 24 words1, List.all_append, w_t1, ← List.take_append_drop 24 (words1.drop 24), List.all_append, w_t2, w_t3]
  rfl
set_option maxRecDepth 65536 in
theorem w_rest : rest_1_c.before args0 about1 = true := by decide +kernel
set_option maxRecDepth 65536 in
theorem w_case : (Jvm.Cond.and given_1 narrow_1).before args0 about1 = true := by decide +kernel
theorem w_applies : (headSpec (Jvm.Cond.code x code maxLocals ret :: tables_1) room_1).applies x e0.platform about1 = true :=
  (Spec.applies_iff w_frames).mpr ⟨w_running, w_runnable, w_alone, w_named, w_hears, w_ripe, w_room, w_tables⟩
theorem atStart : AtStart classFile x code maxLocals ret World_1 tables_1 room_1 Calls_1 rest_1 Pre_1 launch0 p0 e0 about1 theMethod args0 below0 :=
  ⟨lists_1, trivial, launch0.admits_env _ _ _, launch0.least_env, fairChoices_fair.cas, fairChoices_fair.clock, w_frames, w_args, w_heap, w_applies, trivial, w_rest, w_case⟩
end start1
theorem witness_1 : WitnessClaimed_1 := ⟨start1.p0, start1.e0, start1.about1, start1.theMethod, start1.args0, start1.below0, start1.atStart⟩
end Jvm.Pilot.@@N@@
