import JvmDerived
import JvmDerived.Pilot.@@N@@Statement
import JvmDerived.Pilot.@@N@@Code
set_option linter.unusedVariables false
set_option linter.unusedSimpArgs false
/- laws to paste: Road.backV (cut by pick.py; bodies as the Statement names them) -/
namespace Jvm.Pilot.@@N@@
namespace StrChars
open Jvm Sem ClassFile Op Lib Jvm.Stand Jvm.Free.XT Jvm.Free.ALB Jvm.Free.JM Jvm.Free
open Jvm.Lib.Cold (StaticIs)
/-- a char array whose places are chars -/
def Ch (a : Addr) (A : Cell) (U : State) : Prop := Arr .char a A U ∧ Typed .char A
theorem Ch.mv {a : Addr} {A : Cell} {U U' : State} (h : Ch a A U) (hal : U.vm.Alike U'.vm) (hh : U'.heap = U.heap) : Ch a A U' := ⟨h.1.mv hal hh, h.2⟩
theorem Ch.keep {a : Addr} {A : Cell} {U U' : State} (h : Ch a A U) (hal : U.vm.Alike U'.vm) (hk : U'.heap[a]? = some A) : Ch a A U' := ⟨h.1.keep hal hk, h.2⟩
/-- what place i of a char[]'s cell holds -/
def cv (A : Cell) (i : Nat) : Int32 := match A.slots[i]? with | some (.int x) => x | _ => 0
theorem Ch.get {a : Addr} {A : Cell} {U : State} (h : Ch a A U) {i : Nat} (hi : i < A.slots.size) : A.slots[i]? = some (.int (cv A i)) := by
  have e := Array.getElem?_eq_getElem hi
  have f := h.2 i _ e
  unfold cv; rw [e]
  generalize A.slots[i] = v at f
  cases v <;> simp [fits] at f ⊢
/-- the byte that i2b leaves of a char -/
def lo8 (x : Int32) : Int32 := x.toInt8.toInt32
theorem fits_lo8 (y : Int32) : fits .byte (.int (lo8 y)) = true := by
  have h1 := y.toInt8.le_toInt
  have h2 := y.toInt8.toInt_lt
  simp only [lo8, fits, Bool.and_eq_true, decide_eq_true_eq, Int32.le_iff_toInt_le, Int8.toInt_toInt32, show (-128 : Int32).toInt = -128 from by decide, show (127 : Int32).toInt = 127 from by decide]
  omega
/-- A' is A but that each place j of lo .. hi - 1 holds f j -/
def Laid (A A' : Cell) (lo hi : Nat) (f : Nat → Value) : Prop := A'.cls = A.cls ∧ A'.vm = A.vm ∧ A'.slots.size = A.slots.size ∧ ∀ i, A'.slots[i]? = if lo ≤ i ∧ i < hi then some (f i) else A.slots[i]?
theorem Laid.zero (A : Cell) (lo : Nat) (f : Nat → Value) : Laid A A lo (lo + 0) f := ⟨rfl, rfl, rfl, fun i => by rw [if_neg (by omega)]⟩
theorem Laid.step {A Ak : Cell} {lo k : Nat} {f : Nat → Value} {v : Value} (h : Laid A Ak lo k f) (hlo : lo ≤ k) (hk : k < Ak.slots.size) (hv : v = f k) : Laid A (Ak.setSlot k v) lo (k + 1) f := by
  refine ⟨h.1, h.2.1, by simpa [Cell.setSlot] using h.2.2.1, fun i => ?_⟩
  by_cases e : k = i
  · subst e; rw [Cell.slots_setSlot_self v hk, if_pos (by omega), hv]
  · rw [Cell.slots_setSlot_ne v e, h.2.2.2 i]
    by_cases q : lo ≤ i ∧ i < k
    · rw [if_pos q, if_pos (by omega)]
    · rw [if_neg q, if_neg (by omega)]
def U16 : String := "java/lang/StringUTF16"
namespace Cmp5
def yN : MethodName := ⟨"java/lang/StringUTF16", "compress", "([CI[BII)I"⟩
abbrev yB : ByteArray := jdk_52_method_21_code
theorem d0 : decode yB 0 = .ok (.iconst 0, 1) := by decide +kernel
theorem d1 : decode yB 1 = .ok (.istore 5, 2) := by decide +kernel
theorem d3 : decode yB 3 = .ok (.iload 5, 2) := by decide +kernel
theorem d5 : decode yB 5 = .ok (.iload 4, 2) := by decide +kernel
theorem d7 : decode yB 7 = .ok (.if_icmp (.ge) 37, 3) := by decide +kernel
theorem d10 : decode yB 10 = .ok (.aload_n 0, 1) := by decide +kernel
theorem d11 : decode yB 11 = .ok (.iload_n 1, 1) := by decide +kernel
theorem d12 : decode yB 12 = .ok (.caload, 1) := by decide +kernel
theorem d13 : decode yB 13 = .ok (.istore 6, 2) := by decide +kernel
theorem d15 : decode yB 15 = .ok (.iload 6, 2) := by decide +kernel
theorem d17 : decode yB 17 = .ok (.sipush 255, 3) := by decide +kernel
theorem d20 : decode yB 20 = .ok (.if_icmp (.le) 6, 3) := by decide +kernel
theorem d26 : decode yB 26 = .ok (.aload_n 2, 1) := by decide +kernel
theorem d27 : decode yB 27 = .ok (.iload_n 3, 1) := by decide +kernel
theorem d28 : decode yB 28 = .ok (.iload 6, 2) := by decide +kernel
theorem d30 : decode yB 30 = .ok (.i2b, 1) := by decide +kernel
theorem d31 : decode yB 31 = .ok (.bastore, 1) := by decide +kernel
theorem d32 : decode yB 32 = .ok (.iinc 1 1, 3) := by decide +kernel
theorem d35 : decode yB 35 = .ok (.iinc 3 1, 3) := by decide +kernel
theorem d38 : decode yB 38 = .ok (.iinc 5 1, 3) := by decide +kernel
theorem d41 : decode yB 41 = .ok (.goto (-38), 3) := by decide +kernel
theorem d44 : decode yB 44 = .ok (.iload 4, 2) := by decide +kernel
theorem d46 : decode yB 46 = .ok (.ireturn, 1) := by decide +kernel
def site : List Cond := []
def tab : Cond := tabOf yN yB 7 (some .int) site
def P (b : Addr) (A : Cell) (d : Addr) (B : Cell) (o q len : Nat) (args : Array Value) (s : State) : Prop := args = #[.ref b, .int (Int32.ofNat o), .ref d, .int (Int32.ofNat q), .int (Int32.ofNat len)] ∧ Ch b A s ∧ Arr .byte d B s ∧ b ≠ d ∧ o + len ≤ A.slots.size ∧ q + len ≤ B.slots.size ∧ ∀ i, i < len → ¬ 255 < cv A (o + i)
def E (b : Addr) (A : Cell) (d : Addr) (B : Cell) (o q len : Nat) (r : Option Value) (s u : State) : Prop := r = some (.int (Int32.ofNat len)) ∧ ∃ B', Put d B' s u ∧ Laid B B' q (q + len) (fun j => Value.int (lo8 (cv A (o + (j - q)))))
/-- no char of the range above 255: len; the places written hold each char's low byte -/
theorem law (l : Launch) (b : Addr) (A : Cell) (d : Addr) (B : Cell) (o q len : Nat) : Law l yN 5 5 0 0 yB 7 (some .int) site (P b A d B o q len) (E b A d B o q len) (copyLocs d q len) 0 0 := by
  refine Law.of_walk (plainFor_of_name (by decide +kernel)) (by decide +kernel) (by decide +kernel) (by decide) (fun _ _ h => by rw [h.1]; rfl) (fun _ U U' hal hh h => ⟨h.1, h.2.1.mv hal hh, h.2.2.1.mv hal hh, h.2.2.2⟩) (fun r U U' V V' h1 hal h2 h => ⟨h.1, h.2.elim fun B' q => ⟨B', q.1.mv h1 h2, q.2⟩⟩) ?_
  intro p e s m args below meth c s₁ X0 hexec hbytes hml hret hlk hnm hown hh0 W hP
  obtain ⟨rfl, hA, hB, hne, l1, l2, hp⟩ := hP
  have c1 : Steps p.tables e below (s₁.setTop (entryFrame m #[.ref b, .int (Int32.ofNat o), .ref d, .int (Int32.ofNat q), .int (Int32.ofNat len)] 7)) (s₁.setTop (mkF m 0 #[.val (.ref b), .val (.int (Int32.ofNat o)), .val (.ref d), .val (.int (Int32.ofNat q)), .val (.int (Int32.ofNat len)), .unset, .unset] [])) := entry rfl
  have hA0 := hA.1.mv X0.warmed.alike hh0
  have hB0 := hB.mv X0.warmed.alike hh0
  have a31 := hA.1.2.2.2
  have c2 : Steps p.tables e below (s₁.setTop (entryFrame m #[.ref b, .int (Int32.ofNat o), .ref d, .int (Int32.ofNat q), .int (Int32.ofNat len)] 7)) (s₁.setTop (mkF m 3 #[.val (.ref b), .val (.int (Int32.ofNat o)), .val (.ref d), .val (.int (Int32.ofNat q)), .val (.int (Int32.ofNat len)), .val (.int 0), .unset] [])) := c1.trans (by
    refine iconstV X0.here hexec rfl 0 (hb hbytes d0) (by decide) ?_
    refine XS.istore X0.here hexec rfl (hb hbytes d1) rfl rfl ?_
    exact Steps.refl _)
  have loop : ∀ (r i : Nat), i + r = len → ∀ (z : Slot), (z = .unset ∨ ∃ w, z = .val w ∧ w.category = 1) → ∀ (Tl : State) (Bk : Cell), Stand p l e { frames := 0, locals := 0, cells := 0, slots := 0 } s m #[.ref b, .int (Int32.ofNat o), .ref d, .int (Int32.ofNat q), .int (Int32.ofNat len)] below meth c Tl ([] ++ copyLocs d q i) 0 0 → Put d Bk s₁ Tl → Laid B Bk q (q + i) (fun j => Value.int (lo8 (cv A (o + (j - q))))) →
      Steps p.tables e below (s₁.setTop (entryFrame m #[.ref b, .int (Int32.ofNat o), .ref d, .int (Int32.ofNat q), .int (Int32.ofNat len)] 7)) (Tl.setTop (mkF m 3 #[.val (.ref b), .val (.int (Int32.ofNat (o + i))), .val (.ref d), .val (.int (Int32.ofNat (q + i))), .val (.int (Int32.ofNat len)), .val (.int (Int32.ofNat i)), z] [])) → ∃ (T' : State) (B' : Cell) (z' : Slot), Stand p l e { frames := 0, locals := 0, cells := 0, slots := 0 } s m #[.ref b, .int (Int32.ofNat o), .ref d, .int (Int32.ofNat q), .int (Int32.ofNat len)] below meth c T' ([] ++ copyLocs d q len) 0 0 ∧ Put d B' s₁ T' ∧ Laid B B' q (q + len) (fun j => Value.int (lo8 (cv A (o + (j - q))))) ∧
      Steps p.tables e below (s₁.setTop (entryFrame m #[.ref b, .int (Int32.ofNat o), .ref d, .int (Int32.ofNat q), .int (Int32.ofNat len)] 7)) (T'.setTop (mkF m 3 #[.val (.ref b), .val (.int (Int32.ofNat (o + len))), .val (.ref d), .val (.int (Int32.ofNat (q + len))), .val (.int (Int32.ofNat len)), .val (.int (Int32.ofNat len)), z'] [])) := by
    intro r
    induction r with
    | zero =>
      intro i hi z hz Tl Bk Xl pl fl cl
      have hil : i = len := by omega
      rw [hil] at Xl fl cl
      exact ⟨Tl, Bk, z, Xl, pl, fl, cl⟩
    | succ r ih =>
      intro i hi z hz Tl Bk Xl pl fl cl
      have all := X0.warmed.alike.symm.trans Xl.warmed.alike
      have hAl := hA0.keep all (pl.other hne hA0.1)
      have hBk := hB0.like all pl.1 fl.1 fl.2.1 fl.2.2.1
      have hlt : q + i < Bk.slots.size := by rw [fl.2.2.1]; omega
      have c3 : Steps p.tables e below (s₁.setTop (entryFrame m #[.ref b, .int (Int32.ofNat o), .ref d, .int (Int32.ofNat q), .int (Int32.ofNat len)] 7)) (Tl.setTop (mkF m 12 #[.val (.ref b), .val (.int (Int32.ofNat (o + i))), .val (.ref d), .val (.int (Int32.ofNat (q + i))), .val (.int (Int32.ofNat len)), .val (.int (Int32.ofNat i)), z] [.int (Int32.ofNat (o + i)), .ref b])) := cl.trans (by
        refine XS.iload Xl.here hexec rfl (hb hbytes d3) rfl ?_
        refine XS.iload Xl.here hexec rfl (hb hbytes d5) rfl ?_
        refine XS.icmpNo Xl.here hexec rfl (hb hbytes d7) rfl (ii_ge_f (lt32 (by omega) (by omega))) ?_
        refine XS.aloadN Xl.here hexec rfl (hb hbytes d10) rfl rfl ?_
        refine XS.iloadN Xl.here hexec rfl (hb hbytes d11) rfl ?_
        exact Steps.refl _)
      have c4 : Steps p.tables e below (s₁.setTop (entryFrame m #[.ref b, .int (Int32.ofNat o), .ref d, .int (Int32.ofNat q), .int (Int32.ofNat len)] 7)) (Tl.setTop (mkF m 13 #[.val (.ref b), .val (.int (Int32.ofNat (o + i))), .val (.ref d), .val (.int (Int32.ofNat (q + i))), .val (.int (Int32.ofNat len)), .val (.int (Int32.ofNat i)), z] [.int (cv A (o + i))])) := c3.trans (by
        refine Xl.aget hexec hAl rfl (hA.get (i := o + i) (by omega)) rfl rfl (hb hbytes d12) ?_
        exact Steps.refl _)
      have c5 : Steps p.tables e below (s₁.setTop (entryFrame m #[.ref b, .int (Int32.ofNat o), .ref d, .int (Int32.ofNat q), .int (Int32.ofNat len)] 7)) (Tl.setTop (mkF m 15 #[.val (.ref b), .val (.int (Int32.ofNat (o + i))), .val (.ref d), .val (.int (Int32.ofNat (q + i))), .val (.int (Int32.ofNat len)), .val (.int (Int32.ofNat i)), .val (.int (cv A (o + i)))] [])) := c4.trans (by
        refine XS.istoreS Xl.here hexec rfl (hb hbytes d13) rfl rfl hz ?_
        exact Steps.refl _)
      have c6 : Steps p.tables e below (s₁.setTop (entryFrame m #[.ref b, .int (Int32.ofNat o), .ref d, .int (Int32.ofNat q), .int (Int32.ofNat len)] 7)) (Tl.setTop (mkF m 31 #[.val (.ref b), .val (.int (Int32.ofNat (o + i))), .val (.ref d), .val (.int (Int32.ofNat (q + i))), .val (.int (Int32.ofNat len)), .val (.int (Int32.ofNat i)), .val (.int (cv A (o + i)))] [.int (lo8 (cv A (o + i))), .int (Int32.ofNat (q + i)), .ref d])) := c5.trans (by
        refine XS.iload Xl.here hexec rfl (hb hbytes d15) rfl ?_
        refine sipushV Xl.here hexec rfl 255 (hb hbytes d17) (by decide) ?_
        refine XS.icmpYes Xl.here hexec rfl (pc0 := 20) rfl (hb hbytes d20) rfl (ii_le_t (hp i (by omega))) (by decide) rfl ?_
        refine XS.aloadN Xl.here hexec rfl (hb hbytes d26) rfl rfl ?_
        refine XS.iloadN Xl.here hexec rfl (hb hbytes d27) rfl ?_
        refine XS.iload Xl.here hexec rfl (hb hbytes d28) rfl ?_
        refine i2b Xl.here hexec rfl (hb hbytes d30) rfl ?_
        exact Steps.refl _)
      obtain ⟨T7, X7, p7, st7⟩ := Xl.aput hexec hBk rfl hlt rfl (fits_lo8 (cv A (o + i))) (g := (mkF m 31 #[.val (.ref b), .val (.int (Int32.ofNat (o + i))), .val (.ref d), .val (.int (Int32.ofNat (q + i))), .val (.int (Int32.ofNat len)), .val (.int (Int32.ofNat i)), .val (.int (cv A (o + i)))] [.int (lo8 (cv A (o + i))), .int (Int32.ofNat (q + i)), .ref d])) rfl (rest := []) rfl (hb hbytes d31)
      have c8 : Steps p.tables e below (s₁.setTop (entryFrame m #[.ref b, .int (Int32.ofNat o), .ref d, .int (Int32.ofNat q), .int (Int32.ofNat len)] 7)) (T7.setTop (mkF m 32 #[.val (.ref b), .val (.int (Int32.ofNat (o + i))), .val (.ref d), .val (.int (Int32.ofNat (q + i))), .val (.int (Int32.ofNat len)), .val (.int (Int32.ofNat i)), .val (.int (cv A (o + i)))] [])) := c6.trans (st7 _ (Steps.refl _))
      have c9 : Steps p.tables e below (s₁.setTop (entryFrame m #[.ref b, .int (Int32.ofNat o), .ref d, .int (Int32.ofNat q), .int (Int32.ofNat len)] 7)) (T7.setTop (mkF m 3 #[.val (.ref b), .val (.int (Int32.ofNat (o + i) + 1)), .val (.ref d), .val (.int (Int32.ofNat (q + i) + 1)), .val (.int (Int32.ofNat len)), .val (.int (Int32.ofNat i + 1)), .val (.int (cv A (o + i)))] [])) := c8.trans (by
        refine iincV X7.here hexec rfl 1 (hb hbytes d32) (by decide) rfl rfl ?_
        refine iincV X7.here hexec rfl 1 (hb hbytes d35) (by decide) rfl rfl ?_
        refine iincV X7.here hexec rfl 1 (hb hbytes d38) (by decide) rfl rfl ?_
        refine XS.goto X7.here hexec rfl (pc0 := 41) rfl (hb hbytes d41) (by decide) rfl ?_
        exact Steps.refl _)
      have c10 : Steps p.tables e below (s₁.setTop (entryFrame m #[.ref b, .int (Int32.ofNat o), .ref d, .int (Int32.ofNat q), .int (Int32.ofNat len)] 7)) (T7.setTop (mkF m 3 #[.val (.ref b), .val (.int (Int32.ofNat (o + (i + 1)))), .val (.ref d), .val (.int (Int32.ofNat (q + (i + 1)))), .val (.int (Int32.ofNat len)), .val (.int (Int32.ofNat (i + 1))), .val (.int (cv A (o + i)))] [])) := by
        have := c9
        rw [succ32, succ32, succ32] at this
        exact this
      exact ih (i + 1) (by omega) _ (Or.inr ⟨_, rfl, rfl⟩) T7 _ (by rw [copyLocs_step, ← List.append_assoc]; exact X7) (pl.trans p7) (fl.step (by omega) hlt (by simp)) c10
  obtain ⟨T9, B9, z9, X9, p9, f9, g9⟩ := loop len 0 (by omega) .unset (Or.inl rfl) s₁ B (by simpa [copyLocs] using X0) ⟨hB0.1, fun _ _ => rfl, rfl⟩ (Laid.zero _ _ _) c2
  have c11 : Steps p.tables e below (s₁.setTop (entryFrame m #[.ref b, .int (Int32.ofNat o), .ref d, .int (Int32.ofNat q), .int (Int32.ofNat len)] 7)) (T9.setTop (mkF m 46 #[.val (.ref b), .val (.int (Int32.ofNat (o + len))), .val (.ref d), .val (.int (Int32.ofNat (q + len))), .val (.int (Int32.ofNat len)), .val (.int (Int32.ofNat len)), z9] [.int (Int32.ofNat len)])) := g9.trans (by
    refine XS.iload X9.here hexec rfl (hb hbytes d3) rfl ?_
    refine XS.iload X9.here hexec rfl (hb hbytes d5) rfl ?_
    refine XS.icmpYes X9.here hexec rfl (pc0 := 7) rfl (hb hbytes d7) rfl (ii_ge_t (nlt32 (by omega) (Nat.le_refl _))) (by decide) rfl ?_
    refine XS.iload X9.here hexec rfl (hb hbytes d44) rfl ?_
    exact Steps.refl _)
  exact ⟨T9, some (.int (Int32.ofNat len)), _, _, _, X9, by simp, rfl, rfl, (fun h => by cases h), ⟨rfl, B9, p9.from hh0, f9⟩, fun fs hl => c11.trans (X9.ireturnOut hexec hret rfl (Or.inl rfl) (hb hbytes d46) hl)⟩
end Cmp5
namespace Cmp3
def yN : MethodName := ⟨"java/lang/StringUTF16", "compress", "([CII)[B"⟩
abbrev yB : ByteArray := jdk_52_method_16_code
theorem d0 : decode yB 0 = .ok (.iload_n 2, 1) := by decide +kernel
theorem d1 : decode yB 1 = .ok (.newarray .byte, 2) := by decide +kernel
theorem d3 : decode yB 3 = .ok (.astore_n 3, 1) := by decide +kernel
theorem d4 : decode yB 4 = .ok (.aload_n 0, 1) := by decide +kernel
theorem d5 : decode yB 5 = .ok (.iload_n 1, 1) := by decide +kernel
theorem d6 : decode yB 6 = .ok (.aload_n 3, 1) := by decide +kernel
theorem d7 : decode yB 7 = .ok (.iconst 0, 1) := by decide +kernel
theorem d8 : decode yB 8 = .ok (.iload_n 2, 1) := by decide +kernel
theorem d9 : decode yB 9 = .ok (.invokestatic 115, 3) := by decide +kernel
theorem d12 : decode yB 12 = .ok (.istore 4, 2) := by decide +kernel
theorem d14 : decode yB 14 = .ok (.iload 4, 2) := by decide +kernel
theorem d16 : decode yB 16 = .ok (.iload_n 2, 1) := by decide +kernel
theorem d17 : decode yB 17 = .ok (.if_icmp (.eq) 40, 3) := by decide +kernel
theorem d57 : decode yB 57 = .ok (.aload_n 3, 1) := by decide +kernel
theorem d58 : decode yB 58 = .ok (.areturn, 1) := by decide +kernel
def site : List Cond := [.arrayClass .byte, Cmp5.tab] ++ staticW U16 115 Cmp5.yN
def tab : Cond := tabOf yN yB 6 (some (.array .byte)) site
def P (b : Addr) (A : Cell) (o len : Nat) (args : Array Value) (s : State) : Prop := args = #[.ref b, .int (Int32.ofNat o), .int (Int32.ofNat len)] ∧ Ch b A s ∧ o + len ≤ A.slots.size ∧ len ≤ 536870912 ∧ ∀ i, i < len → ¬ 255 < cv A (o + i)
def E (b : Addr) (A : Cell) (o len : Nat) (r : Option Value) (s u : State) : Prop := NewArr .byte "[B" len (fun j => .int (lo8 (cv A (o + j)))) r s u ∧ u.heap.size = s.heap.size + 1
/-- no char of the range above 255: a new byte[] of their low bytes -/
theorem law (l : Launch) (b : Addr) (A : Cell) (o len : Nat) : Law l yN 3 3 1 18 yB 6 (some (.array .byte)) site (P b A o len) (E b A o len) [] 1 len := by
  refine Law.of_walk (plainFor_of_name (by decide +kernel)) (by decide +kernel) (by decide +kernel) (by decide) (fun _ _ h => by rw [h.1]; rfl) (fun _ U U' hal hh h => ⟨h.1, h.2.1.mv hal hh, h.2.2⟩) (fun r U U' V V' h1 hal h2 h => ⟨NewArr.mv r U U' V V' h1 hal h2 h.1, by rw [h1, h2]; exact h.2⟩) ?_
  intro p e s m args below meth c s₁ X0 hexec hbytes hml hret hlk hnm hown hh0 W hP
  obtain ⟨rfl, hA, l1, l2, hp⟩ := hP
  have a31 := hA.1.2.2.2
  have c1 : Steps p.tables e below (s₁.setTop (entryFrame m #[.ref b, .int (Int32.ofNat o), .int (Int32.ofNat len)] 6)) (s₁.setTop (mkF m 0 #[.val (.ref b), .val (.int (Int32.ofNat o)), .val (.int (Int32.ofNat len)), .unset, .unset, .unset] [])) := entry rfl
  have c2 : Steps p.tables e below (s₁.setTop (entryFrame m #[.ref b, .int (Int32.ofNat o), .int (Int32.ofNat len)] 6)) (s₁.setTop (mkF m 1 #[.val (.ref b), .val (.int (Int32.ofNat o)), .val (.int (Int32.ofNat len)), .unset, .unset, .unset] [.int (Int32.ofNat len)])) := c1.trans (by
    refine XS.iloadN X0.here hexec rfl (hb hbytes d0) rfl ?_
    exact Steps.refl _)
  obtain ⟨T3, B3, X3, ba3, bs3, bv3, bh3, bf3, st3⟩ := X0.anew hexec (atype := .byte) (wk W (.arrayClass .byte)) rfl (by show len * 1 ≤ _; omega) (by omega) (g := (mkF m 1 #[.val (.ref b), .val (.int (Int32.ofNat o)), .val (.int (Int32.ofNat len)), .unset, .unset, .unset] [.int (Int32.ofNat len)])) rfl (hb hbytes d1) (rest := []) rfl (Nat.le_refl _) (by show 0 + len ≤ len; omega)
  rw [hh0] at ba3 st3
  have kp3 : XT.Kept s T3 := (XT.Kept.of_eq hh0).push bh3
  have hA3 := hA.keep X3.warmed.alike (kp3 _ _ hA.1.1)
  have hne : b ≠ s.heap.size := hA.1.ne
  have c4 : Steps p.tables e below (s₁.setTop (entryFrame m #[.ref b, .int (Int32.ofNat o), .int (Int32.ofNat len)] 6)) (T3.setTop (mkF m 3 #[.val (.ref b), .val (.int (Int32.ofNat o)), .val (.int (Int32.ofNat len)), .unset, .unset, .unset] [.ref s.heap.size])) := c2.trans (st3 _ (Steps.refl _))
  have c5 : Steps p.tables e below (s₁.setTop (entryFrame m #[.ref b, .int (Int32.ofNat o), .int (Int32.ofNat len)] 6)) (T3.setTop (mkF m 9 #[.val (.ref b), .val (.int (Int32.ofNat o)), .val (.int (Int32.ofNat len)), .val (.ref s.heap.size), .unset, .unset] [.int (Int32.ofNat len), .int 0, .ref s.heap.size, .int (Int32.ofNat o), .ref b])) := c4.trans (by
    refine XS.astoreN X3.here hexec rfl (hb hbytes d3) rfl rfl rfl ?_
    refine XS.aloadN X3.here hexec rfl (hb hbytes d4) rfl rfl ?_
    refine XS.iloadN X3.here hexec rfl (hb hbytes d5) rfl ?_
    refine XS.aloadN X3.here hexec rfl (hb hbytes d6) rfl rfl ?_
    refine iconstV X3.here hexec rfl 0 (hb hbytes d7) (by decide) ?_
    refine XS.iloadN X3.here hexec rfl (hb hbytes d8) rfl ?_
    exact Steps.refl _)
  obtain ⟨v6, T6, X6, E6, g6⟩ := X3.callS hexec (Cmp5.law l b A s.heap.size B3 o 0 len) hown (wks W (staticW U16 115 Cmp5.yN)) (wk W Cmp5.tab) (W := 0) (Nat.le_of_ble_eq_true rfl) (Nat.le_of_ble_eq_true rfl) (Nat.le_refl _) (by show 0 + len + 0 ≤ len; omega) (g := (mkF m 9 #[.val (.ref b), .val (.int (Int32.ofNat o)), .val (.int (Int32.ofNat len)), .val (.ref s.heap.size), .unset, .unset] [.int (Int32.ofNat len), .int (Int32.ofNat 0), .ref s.heap.size, .int (Int32.ofNat o), .ref b])) rfl (by rw [hml]; rfl) c5 (argsL := [.ref b, .int (Int32.ofNat o), .ref s.heap.size, .int (Int32.ofNat 0), .int (Int32.ofNat len)]) (rest := []) rfl rfl (by show 2 * 0 + 0 ≤ _; decide) (hb hbytes d9) (⟨rfl, hA3, ba3, hne, l1, by rw [bs3]; simp, hp⟩)
  obtain ⟨rfl, B6, p6, f6⟩ := E6
  have c7 : Steps p.tables e below (s₁.setTop (entryFrame m #[.ref b, .int (Int32.ofNat o), .int (Int32.ofNat len)] 6)) (T6.setTop (mkF m 12 #[.val (.ref b), .val (.int (Int32.ofNat o)), .val (.int (Int32.ofNat len)), .val (.ref s.heap.size), .unset, .unset] [.int (Int32.ofNat len)])) := g6
  have c8 : Steps p.tables e below (s₁.setTop (entryFrame m #[.ref b, .int (Int32.ofNat o), .int (Int32.ofNat len)] 6)) (T6.setTop (mkF m 58 #[.val (.ref b), .val (.int (Int32.ofNat o)), .val (.int (Int32.ofNat len)), .val (.ref s.heap.size), .val (.int (Int32.ofNat len)), .unset] [.ref s.heap.size])) := c7.trans (by
    refine XS.istore X6.here hexec rfl (hb hbytes d12) rfl rfl ?_
    refine XS.iload X6.here hexec rfl (hb hbytes d14) rfl ?_
    refine XS.iloadN X6.here hexec rfl (hb hbytes d16) rfl ?_
    refine XS.icmpYes X6.here hexec rfl (pc0 := 17) rfl (hb hbytes d17) rfl (ii_eq_t rfl) (by decide) rfl ?_
    refine XS.aloadN X6.here hexec rfl (hb hbytes d57) rfl rfl ?_
    exact Steps.refl _)
  have X8 := X6.wide (L' := []) (cells' := 1) (slots' := len) (fun x hx hlt => by
    simp only [List.nil_append, copyLocs, List.mem_map, List.mem_range] at hx
    obtain ⟨i, -, rfl⟩ := hx
    exact absurd hlt (Nat.lt_irrefl _)) (Nat.le_refl _) (by omega)
  exact ⟨T6, some (.ref s.heap.size), _, _, _, X8, rfl, rfl, rfl, (fun h => by cases h), ⟨⟨rfl, B6, ba3.like (X3.warmed.alike.symm.trans X6.warmed.alike) p6.1 f6.1 f6.2.1 f6.2.2.1, f6.2.1.trans bv3, by rw [X6.warmed.alike.findClass, f6.1]; exact bf3, by rw [f6.2.2.1, bs3]; simp, fun j hj => by rw [f6.2.2.2 j, if_pos (by omega)]; rfl, kp3.put p6 (Nat.le_refl _)⟩, by rw [p6.2.2, bh3, hh0]; simp⟩, fun fs hl => c8.trans (X8.areturnOut hexec rfl hret rfl (hb hbytes d58) hl)⟩
end Cmp3
namespace CodL
def yN : MethodName := ⟨"java/lang/StringUTF16", "coderFromArrayLen", "([BI)B"⟩
abbrev yB : ByteArray := jdk_52_method_15_code
theorem d0 : decode yB 0 = .ok (.iload_n 1, 1) := by decide +kernel
theorem d1 : decode yB 1 = .ok (.aload_n 0, 1) := by decide +kernel
theorem d2 : decode yB 2 = .ok (.arraylength, 1) := by decide +kernel
theorem d3 : decode yB 3 = .ok (.isub, 1) := by decide +kernel
theorem d4 : decode yB 4 = .ok (.bipush 31, 2) := by decide +kernel
theorem d6 : decode yB 6 = .ok (.iushr, 1) := by decide +kernel
theorem d7 : decode yB 7 = .ok (.i2b, 1) := by decide +kernel
theorem d8 : decode yB 8 = .ok (.ireturn, 1) := by decide +kernel
def site : List Cond := []
def tab : Cond := tabOf yN yB 2 (some .byte) site
def P (d : Addr) (B : Cell) (args : Array Value) (s : State) : Prop := args = #[.ref d, .int (Int32.ofNat B.slots.size)] ∧ Arr .byte d B s
def E (r : Option Value) (s u : State) : Prop := XT.PureE (some (.int 0)) r s u
/-- an array as long as the number of chars: LATIN1 -/
theorem law (l : Launch) (d : Addr) (B : Cell) : Law l yN 2 2 0 0 yB 2 (some .byte) site (P d B) E [] 0 0 := by
  refine Law.of_walk (plainFor_of_name (by decide +kernel)) (by decide +kernel) (by decide +kernel) (by decide) (fun _ _ h => by rw [h.1]; rfl) (fun _ U U' hal hh h => ⟨h.1, h.2.mv hal hh⟩) (fun r U U' V V' h1 hal h2 h => XT.PureE.mv r U U' V V' h1 hal h2 h) ?_
  intro p e s m args below meth c s₁ X0 hexec hbytes hml hret hlk hnm hown hh0 W hP
  obtain ⟨rfl, hB⟩ := hP
  have hB0 := hB.mv X0.warmed.alike hh0
  have c1 : Steps p.tables e below (s₁.setTop (entryFrame m #[.ref d, .int (Int32.ofNat B.slots.size)] 2)) (s₁.setTop (mkF m 0 #[.val (.ref d), .val (.int (Int32.ofNat B.slots.size))] [])) := entry rfl
  have c2 : Steps p.tables e below (s₁.setTop (entryFrame m #[.ref d, .int (Int32.ofNat B.slots.size)] 2)) (s₁.setTop (mkF m 2 #[.val (.ref d), .val (.int (Int32.ofNat B.slots.size))] [.ref d, .int (Int32.ofNat B.slots.size)])) := c1.trans (by
    refine XS.iloadN X0.here hexec rfl (hb hbytes d0) rfl ?_
    refine XS.aloadN X0.here hexec rfl (hb hbytes d1) rfl rfl ?_
    exact Steps.refl _)
  have c3 : Steps p.tables e below (s₁.setTop (entryFrame m #[.ref d, .int (Int32.ofNat B.slots.size)] 2)) (s₁.setTop (mkF m 8 #[.val (.ref d), .val (.int (Int32.ofNat B.slots.size))] [.int (lo8 (ushr (Int32.ofNat B.slots.size - Int32.ofNat B.slots.size) 31))])) := c2.trans (by
    refine X0.alen hexec hB0 rfl rfl (hb hbytes d2) ?_
    refine XS.isub X0.here hexec rfl (hb hbytes d3) rfl ?_
    refine bipushV X0.here hexec rfl 31 (hb hbytes d4) (by decide) ?_
    refine iushr X0.here hexec rfl (hb hbytes d6) rfl ?_
    refine i2b X0.here hexec rfl (hb hbytes d7) rfl ?_
    exact Steps.refl _)
  have e0 : lo8 (ushr (Int32.ofNat B.slots.size - Int32.ofNat B.slots.size) 31) = 0 := by rw [Int32.sub_self]; decide
  rw [e0] at c3
  exact ⟨s₁, some (.int 0), _, _, _, X0, rfl, rfl, rfl, (fun h => by cases h), ⟨rfl, hh0⟩, fun fs hl => c3.trans (X0.ireturnOut hexec hret rfl (Or.inr (Or.inr (Or.inl rfl))) (hb hbytes d8) hl)⟩
end CodL
/-- the String at a is Latin-1 over a new byte[] (the heap's one new cell): the low bytes of the len chars of A from o on; every cell but a is kept -/
def Got (a : Addr) (D : Cell) (fV fC : Field) (A : Cell) (o len : Nat) (r : Option Value) (s u : State) : Prop := r = none ∧ ∃ D' V : Cell, Blank "java/lang/String" a D' u ∧ Same D D' [fV.slot, fC.slot] ∧ D'.slots[fV.slot]? = some (.ref s.heap.size) ∧ D'.slots[fC.slot]? = some (.int 0) ∧ Arr .byte s.heap.size V u ∧ V.vm = .none ∧ u.vm.findClass "[B" = some V.cls ∧ V.slots.size = len ∧ (∀ j, j < len → V.slots[j]? = some (.int (lo8 (cv A (o + j))))) ∧ (∀ (y : Addr) (c : Cell), y ≠ a → s.heap[y]? = some c → u.heap[y]? = some c) ∧ u.heap.size = s.heap.size + 1
theorem Got.mv {a : Addr} {D A : Cell} {fV fC : Field} {o len : Nat} : ∀ r (U U' V V' : State), U'.heap = U.heap → V.vm.Alike V'.vm → V'.heap = V.heap → Got a D fV fC A o len r U V → Got a D fV fC A o len r U' V' :=
  fun r U U' V V' h1 hal h2 ⟨e0, D', X, a1, a2, a3, a4, a5, a6, a7, a8, a9, a10, a11⟩ => ⟨e0, D', X, a1.mv hal h2, a2, by rw [h1]; exact a3, a4, by rw [h1]; exact a5.mv hal h2, a6, by rw [hal.findClass]; exact a7, a8, a9, by rw [h1, h2]; exact a10, by rw [h1, h2]; exact a11⟩
namespace New4
def yN : MethodName := ⟨"java/lang/String", "<init>", "([CIILjava/lang/Void;)V"⟩
abbrev yB : ByteArray := jdk_42_method_149_code
theorem d0 : decode yB 0 = .ok (.aload_n 0, 1) := by decide +kernel
theorem d1 : decode yB 1 = .ok (.invokespecial 1, 3) := by decide +kernel
theorem d4 : decode yB 4 = .ok (.iload_n 3, 1) := by decide +kernel
theorem d5 : decode yB 5 = .ok (.ifCond (.ne) 22, 3) := by decide +kernel
theorem d27 : decode yB 27 = .ok (.getstatic 38, 3) := by decide +kernel
theorem d30 : decode yB 30 = .ok (.ifCond (.eq) 28, 3) := by decide +kernel
theorem d33 : decode yB 33 = .ok (.aload_n 1, 1) := by decide +kernel
theorem d34 : decode yB 34 = .ok (.iload_n 2, 1) := by decide +kernel
theorem d35 : decode yB 35 = .ok (.iload_n 3, 1) := by decide +kernel
theorem d36 : decode yB 36 = .ok (.invokestatic 177, 3) := by decide +kernel
theorem d39 : decode yB 39 = .ok (.astore 5, 2) := by decide +kernel
theorem d41 : decode yB 41 = .ok (.aload_n 0, 1) := by decide +kernel
theorem d42 : decode yB 42 = .ok (.aload 5, 2) := by decide +kernel
theorem d44 : decode yB 44 = .ok (.iload_n 3, 1) := by decide +kernel
theorem d45 : decode yB 45 = .ok (.invokestatic 47, 3) := by decide +kernel
theorem d48 : decode yB 48 = .ok (.putfield 15, 3) := by decide +kernel
theorem d51 : decode yB 51 = .ok (.aload_n 0, 1) := by decide +kernel
theorem d52 : decode yB 52 = .ok (.aload 5, 2) := by decide +kernel
theorem d54 : decode yB 54 = .ok (.putfield 9, 3) := by decide +kernel
theorem d57 : decode yB 57 = .ok (.return_, 1) := by decide +kernel
def site : List Cond := [.fieldLink "java/lang/String" 38 "java/lang/String" "COMPACT_STRINGS" "Z", Cmp3.tab, CodL.tab, .laysFinal "java/lang/String" "java/lang/String" "value" "[B", .fieldLink "java/lang/String" 9 "java/lang/String" "value" "[B", .laysFinal "java/lang/String" "java/lang/String" "coder" "B", .fieldLink "java/lang/String" 15 "java/lang/String" "coder" "B"] ++ objW "java/lang/String" 1 ++ staticW "java/lang/String" 177 Cmp3.yN ++ staticW "java/lang/String" 47 CodL.yN
def tab : Cond := tabOf yN yB 6 none site
def P (a : Addr) (D : Cell) (fV fC : Field) (b : Addr) (A : Cell) (z : Int32) (o len : Nat) (args : Array Value) (s : State) : Prop := args = #[.ref a, .ref b, .int (Int32.ofNat o), .int (Int32.ofNat len), .null] ∧ Blank "java/lang/String" a D s ∧ Found "java/lang/String" "value" "[B" fV s ∧ Found "java/lang/String" "coder" "B" fC s ∧ Ch b A s ∧ StaticIs s "java/lang/String" "COMPACT_STRINGS" "Z" (.int z) ∧ ¬ z = 0 ∧ 0 < len ∧ o + len ≤ A.slots.size ∧ len ≤ 536870912 ∧ ∀ i, i < len → ¬ 255 < cv A (o + i)
def E (a : Addr) (D : Cell) (fV fC : Field) (A : Cell) (o len : Nat) (r : Option Value) (s u : State) : Prop := Got a D fV fC A o len r s u
/-- len > 0, no char of the range above 255: a Latin-1 String of their low bytes -/
theorem law (l : Launch) (a : Addr) (D : Cell) (fV fC : Field) (b : Addr) (A : Cell) (z : Int32) (o len : Nat) : Law l yN 5 4 2 35 yB 6 none site (P a D fV fC b A z o len) (E a D fV fC A o len) [⟨a, fC.slot⟩, ⟨a, fV.slot⟩] 1 len := by
  refine Law.of_walk (plainFor_of_name (by decide +kernel)) (by decide +kernel) (by decide +kernel) (by decide) (fun _ _ h => by rw [h.1]; rfl) (fun _ U U' hal hh h => ⟨h.1, h.2.1.mv hal hh, h.2.2.1.al hal, h.2.2.2.1.al hal, h.2.2.2.2.1.mv hal hh, h.2.2.2.2.2.1.there hal hh, h.2.2.2.2.2.2⟩) (fun r U U' V V' h1 hal h2 h => Got.mv r U U' V V' h1 hal h2 h) ?_
  intro p e s m args below meth c s₁ X0 hexec hbytes hml hret hlk hnm hown hh0 W hP
  obtain ⟨rfl, hB, f1, f2, hA, s1, hz, l0, l1, l2, hp⟩ := hP
  have a31 := hA.1.2.2.2
  have c1 : Steps p.tables e below (s₁.setTop (entryFrame m #[.ref a, .ref b, .int (Int32.ofNat o), .int (Int32.ofNat len), .null] 6)) (s₁.setTop (mkF m 0 #[.val (.ref a), .val (.ref b), .val (.int (Int32.ofNat o)), .val (.int (Int32.ofNat len)), .val .null, .unset] [])) := entry rfl
  have c2 : Steps p.tables e below (s₁.setTop (entryFrame m #[.ref a, .ref b, .int (Int32.ofNat o), .int (Int32.ofNat len), .null] 6)) (s₁.setTop (mkF m 1 #[.val (.ref a), .val (.ref b), .val (.int (Int32.ofNat o)), .val (.int (Int32.ofNat len)), .val .null, .unset] [.ref a])) := c1.trans (by
    refine XS.aloadN X0.here hexec rfl (hb hbytes d0) rfl rfl ?_
    exact Steps.refl _)
  obtain ⟨T3, X3, q3, st3⟩ := X0.oinit hexec hown (wks W (objW "java/lang/String" 1)) (g := (mkF m 1 #[.val (.ref a), .val (.ref b), .val (.int (Int32.ofNat o)), .val (.int (Int32.ofNat len)), .val .null, .unset] [.ref a])) rfl (by rw [hml]; rfl) (rest := []) rfl (hb hbytes d1) (W := 0) (by show 2 * 0 + 0 ≤ _; decide) (Nat.le_of_ble_eq_true rfl) (Nat.le_of_ble_eq_true rfl)
  have hh3 := q3.trans hh0
  have c4 : Steps p.tables e below (s₁.setTop (entryFrame m #[.ref a, .ref b, .int (Int32.ofNat o), .int (Int32.ofNat len), .null] 6)) (T3.setTop (mkF m 27 #[.val (.ref a), .val (.ref b), .val (.int (Int32.ofNat o)), .val (.int (Int32.ofNat len)), .val .null, .unset] [])) := (c2.trans (st3 _ (Steps.refl _))).trans (by
    refine XS.iloadN X3.here hexec rfl (hb hbytes d4) rfl ?_
    refine XS.ifYes X3.here hexec rfl (pc0 := 5) rfl (hb hbytes d5) rfl (i0_ne_t (nz32 (by omega) l0)) (by decide) rfl ?_
    exact Steps.refl _)
  obtain ⟨T5, X5, q5, st5⟩ := X3.sget hexec hown (wk W (.fieldLink "java/lang/String" 38 "java/lang/String" "COMPACT_STRINGS" "Z")) s1 (fun _ _ h => by rw [hh3]; exact h) (g := (mkF m 27 #[.val (.ref a), .val (.ref b), .val (.int (Int32.ofNat o)), .val (.int (Int32.ofNat len)), .val .null, .unset] [])) rfl (hb hbytes d27)
  have hh5 := q5.trans hh3
  have c6 : Steps p.tables e below (s₁.setTop (entryFrame m #[.ref a, .ref b, .int (Int32.ofNat o), .int (Int32.ofNat len), .null] 6)) (T5.setTop (mkF m 30 #[.val (.ref a), .val (.ref b), .val (.int (Int32.ofNat o)), .val (.int (Int32.ofNat len)), .val .null, .unset] [.int z])) := c4.trans (st5 _ (Steps.refl _))
  have c7 : Steps p.tables e below (s₁.setTop (entryFrame m #[.ref a, .ref b, .int (Int32.ofNat o), .int (Int32.ofNat len), .null] 6)) (T5.setTop (mkF m 36 #[.val (.ref a), .val (.ref b), .val (.int (Int32.ofNat o)), .val (.int (Int32.ofNat len)), .val .null, .unset] [.int (Int32.ofNat len), .int (Int32.ofNat o), .ref b])) := c6.trans (by
    refine XS.ifNo X5.here hexec rfl (hb hbytes d30) rfl (i0_eq_f hz) ?_
    refine XS.aloadN X5.here hexec rfl (hb hbytes d33) rfl rfl ?_
    refine XS.iloadN X5.here hexec rfl (hb hbytes d34) rfl ?_
    refine XS.iloadN X5.here hexec rfl (hb hbytes d35) rfl ?_
    exact Steps.refl _)
  obtain ⟨v8, T8, X8, E8, g8⟩ := X5.callS hexec (Cmp3.law l b A o len) hown (wks W (staticW "java/lang/String" 177 Cmp3.yN)) (wk W Cmp3.tab) (W := 0) (Nat.le_of_ble_eq_true rfl) (Nat.le_of_ble_eq_true rfl) (Nat.le_refl _) (by show 0 + len ≤ len; omega) (g := (mkF m 36 #[.val (.ref a), .val (.ref b), .val (.int (Int32.ofNat o)), .val (.int (Int32.ofNat len)), .val .null, .unset] [.int (Int32.ofNat len), .int (Int32.ofNat o), .ref b])) rfl (by rw [hml]; rfl) c7 (argsL := [.ref b, .int (Int32.ofNat o), .int (Int32.ofNat len)]) (rest := []) rfl rfl (by show 2 * 0 + 0 ≤ _; decide) (hb hbytes d36) (⟨rfl, hA.mv X5.warmed.alike hh5, l1, l2, hp⟩)
  obtain ⟨e8, z8⟩ := E8
  obtain ⟨rfl, N, n1, n2, n3, n4, n5, n6⟩ := NewArr.mv _ T5 s _ _ hh5.symm (Vm.Alike.refl _) rfl e8
  rw [hh5] at z8
  have hB1 := hB.keep X8.warmed.alike (n6 _ _ hB.1)
  have hne : s.heap.size ≠ a := (Nat.ne_of_lt (Array.getElem?_eq_some_iff.mp hB.1).1).symm
  have c9 : Steps p.tables e below (s₁.setTop (entryFrame m #[.ref a, .ref b, .int (Int32.ofNat o), .int (Int32.ofNat len), .null] 6)) (T8.setTop (mkF m 39 #[.val (.ref a), .val (.ref b), .val (.int (Int32.ofNat o)), .val (.int (Int32.ofNat len)), .val .null, .unset] [.ref s.heap.size])) := g8
  have c10 : Steps p.tables e below (s₁.setTop (entryFrame m #[.ref a, .ref b, .int (Int32.ofNat o), .int (Int32.ofNat len), .null] 6)) (T8.setTop (mkF m 45 #[.val (.ref a), .val (.ref b), .val (.int (Int32.ofNat o)), .val (.int (Int32.ofNat len)), .val .null, .val (.ref s.heap.size)] [.int (Int32.ofNat N.slots.size), .ref s.heap.size, .ref a])) := by
    have hc : Steps p.tables e below (s₁.setTop (entryFrame m #[.ref a, .ref b, .int (Int32.ofNat o), .int (Int32.ofNat len), .null] 6)) (T8.setTop (mkF m 45 #[.val (.ref a), .val (.ref b), .val (.int (Int32.ofNat o)), .val (.int (Int32.ofNat len)), .val .null, .val (.ref s.heap.size)] [.int (Int32.ofNat len), .ref s.heap.size, .ref a])) := c9.trans (by
      refine XS.astore X8.here hexec rfl (hb hbytes d39) rfl rfl rfl ?_
      refine XS.aloadN X8.here hexec rfl (hb hbytes d41) rfl rfl ?_
      refine XS.aload X8.here hexec rfl (hb hbytes d42) rfl rfl ?_
      refine XS.iloadN X8.here hexec rfl (hb hbytes d44) rfl ?_
      exact Steps.refl _)
    rw [n4]; exact hc
  obtain ⟨v11, T11, X11, E11, g11⟩ := X8.callS hexec (CodL.law l s.heap.size N) hown (wks W (staticW "java/lang/String" 47 CodL.yN)) (wk W CodL.tab) (W := 1) (Nat.le_of_ble_eq_true rfl) (Nat.le_of_ble_eq_true rfl) (Nat.le_refl _) (by show 0 + len + 0 ≤ len; omega) (g := (mkF m 45 #[.val (.ref a), .val (.ref b), .val (.int (Int32.ofNat o)), .val (.int (Int32.ofNat len)), .val .null, .val (.ref s.heap.size)] [.int (Int32.ofNat N.slots.size), .ref s.heap.size, .ref a])) rfl (by rw [hml]; rfl) c10 (argsL := [.ref s.heap.size, .int (Int32.ofNat N.slots.size)]) (rest := [.ref a]) rfl rfl (by show 2 * 0 + (1 + 0) ≤ _; decide) (hb hbytes d45) (⟨rfl, n1⟩)
  obtain ⟨rfl, q11⟩ := E11
  have hB11 := hB1.mv (X8.warmed.alike.symm.trans X11.warmed.alike) q11
  have c12 : Steps p.tables e below (s₁.setTop (entryFrame m #[.ref a, .ref b, .int (Int32.ofNat o), .int (Int32.ofNat len), .null] 6)) (T11.setTop (mkF m 48 #[.val (.ref a), .val (.ref b), .val (.int (Int32.ofNat o)), .val (.int (Int32.ofNat len)), .val .null, .val (.ref s.heap.size)] [.int 0, .ref a])) := g11
  obtain ⟨T13, X13, p13, bl13, sl13, st13⟩ := X11.finit hexec hown (wk W (.fieldLink "java/lang/String" 15 "java/lang/String" "coder" "B")) (Or.inr ⟨_, (wk W (.laysFinal "java/lang/String" "java/lang/String" "coder" "B"))⟩) (Or.inl ⟨rfl, hnm⟩) f2 (Or.inl rfl) hB11 (t := .byte) (by decide +kernel) rfl (g := (mkF m 48 #[.val (.ref a), .val (.ref b), .val (.int (Int32.ofNat o)), .val (.int (Int32.ofNat len)), .val .null, .val (.ref s.heap.size)] [.int 0, .ref a])) rfl (rest := []) rfl (hb hbytes d48)
  have c14 : Steps p.tables e below (s₁.setTop (entryFrame m #[.ref a, .ref b, .int (Int32.ofNat o), .int (Int32.ofNat len), .null] 6)) (T13.setTop (mkF m 54 #[.val (.ref a), .val (.ref b), .val (.int (Int32.ofNat o)), .val (.int (Int32.ofNat len)), .val .null, .val (.ref s.heap.size)] [.ref s.heap.size, .ref a])) := (c12.trans (st13 _ (Steps.refl _))).trans (by
    refine XS.aloadN X13.here hexec rfl (hb hbytes d51) rfl rfl ?_
    refine XS.aload X13.here hexec rfl (hb hbytes d52) rfl rfl ?_
    exact Steps.refl _)
  obtain ⟨T15, X15, p15, bl15, sl15, st15⟩ := X13.finit hexec hown (wk W (.fieldLink "java/lang/String" 9 "java/lang/String" "value" "[B")) (Or.inr ⟨_, (wk W (.laysFinal "java/lang/String" "java/lang/String" "value" "[B"))⟩) (Or.inl ⟨rfl, hnm⟩) f1 (Or.inl rfl) bl13 (t := (.array .byte)) (by decide +kernel) rfl (g := (mkF m 54 #[.val (.ref a), .val (.ref b), .val (.int (Int32.ofNat o)), .val (.int (Int32.ofNat len)), .val .null, .val (.ref s.heap.size)] [.ref s.heap.size, .ref a])) rfl (rest := []) rfl (hb hbytes d54)
  have c16 : Steps p.tables e below (s₁.setTop (entryFrame m #[.ref a, .ref b, .int (Int32.ofNat o), .int (Int32.ofNat len), .null] 6)) (T15.setTop (mkF m 57 #[.val (.ref a), .val (.ref b), .val (.int (Int32.ofNat o)), .val (.int (Int32.ofNat len)), .val .null, .val (.ref s.heap.size)] [])) := c14.trans (st15 _ (Steps.refl _))
  have ap := apart (Or.inr ⟨_, (wk W (.laysFinal "java/lang/String" "java/lang/String" "value" "[B"))⟩) (Or.inr ⟨_, (wk W (.laysFinal "java/lang/String" "java/lang/String" "coder" "B"))⟩) f1 f2 (t₁ := .array .byte) (t₂ := .byte) (by decide +kernel) (by decide +kernel) (by decide)
  have al := X8.warmed.alike.symm.trans X15.warmed.alike
  have n7 : T11.heap[s.heap.size]? = some N := by rw [q11]; exact n1.1
  exact ⟨T15, none, _, _, _, X15, by simp, rfl, by omega, (fun _ => rfl), ⟨rfl, _, N, bl15, ((Same.refl D _).set _ (by simp)).set _ (by simp), sl15, (Cell.slots_setSlot_ne _ ap).trans sl13, n1.keep al (p15.other hne (p13.other hne n7)), n2, by rw [al.findClass]; exact n3, n4, n5, fun y c h1 h2 => p15.other h1 (p13.other h1 (by rw [q11]; exact n6 y c h2)), by rw [p15.2.2, p13.2.2, q11]; exact z8⟩, fun fs hl => c16.trans (X15.returnOut hexec hret (hb hbytes d57) hl)⟩
end New4
namespace New1
def yN : MethodName := ⟨"java/lang/String", "<init>", "([C)V"⟩
abbrev yB : ByteArray := jdk_42_method_3_code
theorem d0 : decode yB 0 = .ok (.aload_n 0, 1) := by decide +kernel
theorem d1 : decode yB 1 = .ok (.aload_n 1, 1) := by decide +kernel
theorem d2 : decode yB 2 = .ok (.iconst 0, 1) := by decide +kernel
theorem d3 : decode yB 3 = .ok (.aload_n 1, 1) := by decide +kernel
theorem d4 : decode yB 4 = .ok (.arraylength, 1) := by decide +kernel
theorem d5 : decode yB 5 = .ok (.aconst_null, 1) := by decide +kernel
theorem d6 : decode yB 6 = .ok (.invokespecial 27, 3) := by decide +kernel
theorem d9 : decode yB 9 = .ok (.return_, 1) := by decide +kernel
def site : List Cond := [New4.tab] ++ initW "java/lang/String" 27 New4.yN
def tab : Cond := tabOf yN yB 2 none site
def P (a : Addr) (D : Cell) (fV fC : Field) (b : Addr) (A : Cell) (z : Int32) (args : Array Value) (s : State) : Prop := args = #[.ref a, .ref b] ∧ Blank "java/lang/String" a D s ∧ Found "java/lang/String" "value" "[B" fV s ∧ Found "java/lang/String" "coder" "B" fC s ∧ Ch b A s ∧ StaticIs s "java/lang/String" "COMPACT_STRINGS" "Z" (.int z) ∧ ¬ z = 0 ∧ 0 < A.slots.size ∧ A.slots.size ≤ 536870912 ∧ ∀ i, i < A.slots.size → ¬ 255 < cv A i
def E (a : Addr) (D : Cell) (fV fC : Field) (A : Cell) (r : Option Value) (s u : State) : Prop := Got a D fV fC A 0 A.slots.size r s u
/-- new String(chars), not empty, no char above 255: a Latin-1 String of their low bytes -/
theorem law (l : Launch) (a : Addr) (D : Cell) (fV fC : Field) (b : Addr) (A : Cell) (z : Int32) : Law l yN 2 1 3 52 yB 2 none site (P a D fV fC b A z) (E a D fV fC A) [⟨a, fC.slot⟩, ⟨a, fV.slot⟩] 1 A.slots.size := by
  refine Law.of_walk (plainFor_of_name (by decide +kernel)) (by decide +kernel) (by decide +kernel) (by decide) (fun _ _ h => by rw [h.1]; rfl) (fun _ U U' hal hh h => ⟨h.1, h.2.1.mv hal hh, h.2.2.1.al hal, h.2.2.2.1.al hal, h.2.2.2.2.1.mv hal hh, h.2.2.2.2.2.1.there hal hh, h.2.2.2.2.2.2⟩) (fun r U U' V V' h1 hal h2 h => Got.mv r U U' V V' h1 hal h2 h) ?_
  intro p e s m args below meth c s₁ X0 hexec hbytes hml hret hlk hnm hown hh0 W hP
  obtain ⟨rfl, hB, f1, f2, hA, s1, hz, l0, l2, hp⟩ := hP
  have c1 : Steps p.tables e below (s₁.setTop (entryFrame m #[.ref a, .ref b] 2)) (s₁.setTop (mkF m 0 #[.val (.ref a), .val (.ref b)] [])) := entry rfl
  have c2 : Steps p.tables e below (s₁.setTop (entryFrame m #[.ref a, .ref b] 2)) (s₁.setTop (mkF m 6 #[.val (.ref a), .val (.ref b)] [.null, .int (Int32.ofNat A.slots.size), .int 0, .ref b, .ref a])) := c1.trans (by
    refine XS.aloadN X0.here hexec rfl (hb hbytes d0) rfl rfl ?_
    refine XS.aloadN X0.here hexec rfl (hb hbytes d1) rfl rfl ?_
    refine iconstV X0.here hexec rfl 0 (hb hbytes d2) (by decide) ?_
    refine XS.aloadN X0.here hexec rfl (hb hbytes d3) rfl rfl ?_
    refine X0.alen hexec (hA.1.mv X0.warmed.alike hh0) rfl rfl (hb hbytes d4) ?_
    refine XS.aconstNull X0.here hexec rfl (hb hbytes d5) ?_
    exact Steps.refl _)
  obtain ⟨v3, T3, X3, E3, g3⟩ := X0.callN hexec (New4.law l a D fV fC b A z 0 A.slots.size) rfl hown (wks W (initW "java/lang/String" 27 New4.yN)) (W New4.tab (by simp only [site, List.mem_cons, List.mem_append, true_or, or_true])) (W := 0) (Nat.le_of_ble_eq_true rfl) (Nat.le_of_ble_eq_true rfl) (Nat.le_refl _) (by show 0 + A.slots.size ≤ A.slots.size; omega) (g := (mkF m 6 #[.val (.ref a), .val (.ref b)] [.null, .int (Int32.ofNat A.slots.size), .int (Int32.ofNat 0), .ref b, .ref a])) rfl (by rw [hml]; rfl) c2 (argsL := [.ref b, .int (Int32.ofNat 0), .int (Int32.ofNat A.slots.size), .null]) (rest := []) rfl rfl (by show 2 * 0 + 0 ≤ _; decide) (hb hbytes d6) (⟨rfl, hB.mv X0.warmed.alike hh0, f1.al X0.warmed.alike, f2.al X0.warmed.alike, hA.mv X0.warmed.alike hh0, s1.there X0.warmed.alike hh0, hz, l0, by omega, l2, fun i hi => by rw [Nat.zero_add]; exact hp i hi⟩)
  have e0 := Got.mv _ s₁ s _ _ hh0.symm (Vm.Alike.refl _) rfl E3
  obtain rfl := e0.1
  have c4 : Steps p.tables e below (s₁.setTop (entryFrame m #[.ref a, .ref b] 2)) (T3.setTop (mkF m 9 #[.val (.ref a), .val (.ref b)] [])) := g3
  exact ⟨T3, none, _, _, _, X3, by simp, rfl, by omega, (fun _ => rfl), e0, fun fs hl => c4.trans (X3.returnOut hexec hret (hb hbytes d9) hl)⟩
theorem pays {l : Launch} {R : Room} {p : Program} {e : Env} {below : List Frame} {s : State} {sargs : Array Value} {len W : Nat} (a : Addr) (D : Cell) (fV fC : Field) (b : Addr) (A : Cell) (z : Int32) (htab : tab.before sargs s = true) (hfr : 4 ≤ R.frames) (hlo : W + 65 ≤ R.locals) :
    Back l R p e below s sargs yN len W (fun A₁ a₁ => A₁.cells + 1 ≤ R.cells ∧ A₁.slots + A.slots.size ≤ R.slots ∧ P a D fV fC b A z a₁ A₁.U) (fun A₁ _ v₁ B₁ => E a D fV fC A v₁ A₁.U B₁.U ∧ B₁.locs = A₁.locs ++ [⟨a, fC.slot⟩, ⟨a, fV.slot⟩] ∧ B₁.cells = A₁.cells + 1 ∧ B₁.slots = A₁.slots + A.slots.size) :=
  (law l a D fV fC b A z).pays htab hfr (by omega)
end New1
end StrChars
namespace StrChars.Road
open Jvm Sem ClassFile Op Lib Jvm.Stand Jvm.Free Jvm.Free.XT
open Jvm.Lib.Cold (StaticIs)
abbrev ST : String := "java/lang/String"
/-- every table word that New1's law asks, flat -/
abbrev words : List Jvm.Cond := [.code New1.yN New1.yB 2 none, .initialized ST, .methodLink ST 27 New4.yN, .instanceMethod New4.yN,
  .code New4.yN New4.yB 6 none, .fieldLink ST 38 ST "COMPACT_STRINGS" "Z", .laysFinal ST ST "value" "[B", .fieldLink ST 9 ST "value" "[B", .laysFinal ST ST "coder" "B", .fieldLink ST 15 ST "coder" "B",
  .methodLink ST 1 Lib.objectInit, .instanceMethod Lib.objectInit, .code Lib.objectInit ⟨#[0xb1]⟩ 1 none, .methodLink ST 177 Cmp3.yN, .static Cmp3.yN, .methodLink ST 47 CodL.yN, .static CodL.yN,
  .code Cmp3.yN Cmp3.yB 6 (some (.array .byte)), .initialized U16, .arrayClass .byte, .methodLink U16 115 Cmp5.yN, .static Cmp5.yN, .code Cmp5.yN Cmp5.yB 7 (some .int), .code CodL.yN CodL.yB 2 (some .byte)]
theorem tab_of {a : Array Value} {s : State} (h : ∀ w ∈ words, w.before a s = true) : New1.tab.before a s = true := by
  have h5 : Cmp5.tab.before a s = true := unparts (wk h (.code Cmp5.yN Cmp5.yB 7 (some .int))) (wks h (.initialized Cmp5.yN.cls :: Cmp5.site))
  have hc : CodL.tab.before a s = true := unparts (wk h (.code CodL.yN CodL.yB 2 (some .byte))) (wks h (.initialized CodL.yN.cls :: CodL.site))
  have q5 : ∀ w ∈ Cmp5.tab :: words, w.before a s = true := fun w hw => (List.mem_cons.mp hw).elim (fun e => e ▸ h5) (h w)
  have h3 : Cmp3.tab.before a s = true := unparts (wk q5 (.code Cmp3.yN Cmp3.yB 6 (some (.array .byte)))) (wks q5 (.initialized Cmp3.yN.cls :: Cmp3.site))
  have q3 : ∀ w ∈ Cmp3.tab :: CodL.tab :: words, w.before a s = true := fun w hw => (List.mem_cons.mp hw).elim (fun e => e ▸ h3) fun hw => (List.mem_cons.mp hw).elim (fun e => e ▸ hc) (h w)
  have h4 : New4.tab.before a s = true := unparts (wk q3 (.code New4.yN New4.yB 6 none)) (wks q3 (.initialized New4.yN.cls :: New4.site))
  have q4 : ∀ w ∈ New4.tab :: words, w.before a s = true := fun w hw => (List.mem_cons.mp hw).elim (fun e => e ▸ h4) (h w)
  exact unparts (wk q4 (.code New1.yN New1.yB 2 none)) (wks q4 (.initialized New1.yN.cls :: New1.site))
/-- the words ride from the start Z to the walk's own state -/
theorem moved {Z s : State} {a0 args : Array Value} (hZ : Z.Warmed39 s.vm) (hw : ∀ d ∈ words, d.before a0 Z = true) : ∀ d ∈ words, d.before args s = true := fun d hd => by
  have q := hw d hd
  have t : ∀ d ∈ words, d = .arrayClass .byte ∨ (d.onTables && d.keepsFace) = true := by decide +kernel
  rcases t d hd with rfl | t
  · exact RoadKit.mvA hZ q
  · exact RoadKit.mv hZ q t
/-- WHAT COMES BACK, over the tables of the start Z: h the heap at the call, h' behind it -/
def Q (Z : State) (x : Addr) (A : Cell) (h : Heap) (v : Option Value) (h' : Heap) (L : List Loc) : Prop := v = none ∧ (∀ y ∈ L, y.base = x) ∧ RoadKit.Keep h h' [x] ∧ h'.size = h.size + 1 ∧ RoadKit.Exa Z h' x ST ∧ RoadKit.Fld Z h' x ST "value" "[B" (.ref h.size) ∧ RoadKit.Fld Z h' x ST "coder" "B" (.int 0) ∧
  (∃ V : Cell, RoadKit.Arr Z h' h.size V .byte ∧ V.vm = .none ∧ Z.vm.findClass "[B" = some V.cls ∧ V.slots.size = A.slots.size ∧ ∀ j, j < A.slots.size → V.slots[j]? = some (.int (lo8 (cv A j)))) ∧
  ∀ (O n d : String) (w : Value), RoadKit.Fld Z h x O n d w → RoadKit.slotOf Z O n d ≠ RoadKit.slotOf Z ST "value" "[B" → RoadKit.slotOf Z O n d ≠ RoadKit.slotOf Z ST "coder" "B" → RoadKit.Fld Z h' x O n d w
/-- **new String(chars) AT A CALL, IN THE ROAD'S FORM**: for specialBack behind newO: x the fresh String, b the char[] with the cell A -/
theorem back {p : Program} {l : Launch} {e : Env} {R : Room} {s : State} {args : Array Value} {below : List Frame} {len W : Nat} {Z : State} {a0 : Array Value} {h : Heap} (hZ : Z.Warmed39 s.vm) (hw : ∀ d ∈ words, d.before a0 Z = true) {kI : Nat} (wi : (Jvm.Cond.instantiable ST kI).before a0 Z = true)
    {x b : Addr} {A : Cell} {z : Int32} {v0 c0 : Value} (E : RoadKit.Exa Z h x ST) (V : RoadKit.Fld Z h x ST "value" "[B" v0) (C : RoadKit.Fld Z h x ST "coder" "B" c0) (K : RoadKit.Arr Z h b A .char) (hty : Typed .char A) (S : RoadKit.Sta Z h ST "COMPACT_STRINGS" "Z" (.int z)) (hz : ¬ z = 0)
    (l0 : 0 < A.slots.size) (l2 : A.slots.size ≤ 536870912) (hp : ∀ i, i < A.slots.size → ¬ 255 < cv A i) (hfr : 4 ≤ R.frames) (hlo : W + 65 ≤ R.locals) :
    Back l R p e below s args New1.yN len W (fun P a => a = #[.ref x, .ref b] ∧ P.U.heap = h ∧ P.cells + 1 ≤ R.cells ∧ P.slots + A.slots.size ≤ R.slots)
      (fun P _ v B => ∃ L, Q Z x A h v B.U.heap L ∧ B.locs = P.locs ++ L ∧ B.cells = P.cells + 1 ∧ B.slots = P.slots + A.slots.size) := by
  intro m meth c P g ig mk a X hg hsize hdg hW hn hp'
  obtain ⟨rfl, rfl, r1, r2⟩ := hp'
  have al : Z.vm.Alike P.U.vm := hZ.alike.trans X.warmed.alike
  obtain ⟨D, cfV, kV, iV, fV, hD, gV, stV, knV, obV, asV, slV⟩ := id V
  obtain ⟨D', cfC, kC, iC, fC, hD', gC, stC, -, -, asC, slC⟩ := id C
  cases hD.symm.trans hD'
  obtain ⟨D2, kD, e1, e2, e3, e4, e5⟩ := id E
  cases hD.symm.trans e1
  obtain ⟨c2, k2, i1, i2, i3, -⟩ := Cond.instantiable_spec wi
  cases e2.symm.trans i1
  cases e3.symm.trans i2
  obtain ⟨kU, u1, u2⟩ := al.2.2 _ _ e3
  have hB : Blank ST x D P.U := ⟨hD, ⟨knV, fun q hq => by rw [hq] at obV; cases obV⟩, by rw [al.findClass]; exact e2, kU, u1, by rw [u2]; exact i3, by rw [u2]; exact e5 i3⟩
  have F1 : Found ST "value" "[B" fV P.U := ⟨SBG.found_only al ⟨cfV, kV, iV, gV⟩, stV⟩
  have F2 : Found ST "coder" "B" fC P.U := ⟨SBG.found_only al ⟨cfC, kC, iC, gC⟩, stC⟩
  have hA : Ch b A P.U := ⟨⟨K.1, State.isArrayOf_alike al K.2.1, K.2.2, by omega⟩, hty⟩
  have hS : StaticIs P.U ST "COMPACT_STRINGS" "Z" (.int z) := by
    obtain ⟨cfS, iS, kS, fS, st, cS, t1, t2, t3, t4, t5, t6, t7⟩ := S
    exact StaticIs.there (s := { Z with heap := P.U.heap }) ⟨cfS, iS, kS, fS, st, cS, t1, t2, t3, t4, t5, (fun q => by rw [q] at t6; cases t6), t7⟩ al rfl
  obtain ⟨v, B, X', ⟨⟨hv, E', V', q1, q2, q3, q4, q5, q6, q7, q8, q9, q10, q11⟩, hl, hc, hs⟩, st⟩ := New1.pays x D fV fC b A z (tab_of (moved hZ hw)) hfr hlo m meth c P g ig mk _ X hg hsize hdg hW hn ⟨r1, r2, rfl, hB, F1, F2, hA, hS, hz, l0, l2, hp⟩
  have al' : Z.vm.Alike B.U.vm := hZ.alike.trans X'.warmed.alike
  have hsz : E'.slots.size = D.slots.size := by
    obtain ⟨-, -, -, kB, w1, w2, w3⟩ := q1
    obtain ⟨kB', y1, y2⟩ := al'.2.2 _ _ e3
    rw [q2.2.1] at w1
    cases w1.symm.trans y1
    rw [w3, e5 i3, y2]
  refine ⟨v, B, X', ⟨_, ⟨hv, ?_, ⟨by omega, fun y cy hy hn' => q10 y cy (by simpa using hn') hy, fun y cy hy => ?_⟩, q11, ⟨E', _, q1.1, by rw [q2.2.1]; exact e2, by rw [q2.2.1]; exact e3, by rw [q2.1]; exact obV, fun _ => by rw [hsz]; exact e5 i3⟩,
    ⟨E', cfV, kV, iV, fV, q1.1, gV, stV, by rw [q2.1]; exact knV, by rw [q2.1]; exact obV, by rw [q2.2.1]; exact asV, q3⟩, ⟨E', cfC, kC, iC, fC, q1.1, gC, stC, by rw [q2.1]; exact knV, by rw [q2.1]; exact obV, by rw [q2.2.1]; exact asC, q4⟩,
    ⟨V', ⟨q5.1, State.isArrayOf_alike al'.symm q5.2.1, q5.2.2.1⟩, q6, by rw [← al'.findClass]; exact q7, q8, fun j hj => by have := q9 j hj; rwa [Nat.zero_add] at this⟩, fun O n d w F n1 n2 => ?_⟩, hl, hc, hs⟩, st⟩
  · intro y hy
    simp only [List.mem_cons, List.not_mem_nil, or_false] at hy
    rcases hy with rfl | rfl <;> rfl
  · by_cases q : y = x
    · subst q
      cases hD.symm.trans hy
      exact ⟨E', q1.1, q2.2.1, q2.1, hsz⟩
    · exact ⟨cy, q10 y cy q hy, rfl, rfl, rfl⟩
  · obtain ⟨D3, cf, k, i, f, g1, g2, g3, g4, g5, g6, g7⟩ := F
    cases hD.symm.trans g1
    simp only [RoadKit.slotOf, g2, gV, gC, Option.map_some, Option.getD_some] at n1 n2
    exact ⟨E', cf, k, i, f, q1.1, g2, g3, by rw [q2.1]; exact g4, by rw [q2.1]; exact g5, by rw [q2.2.1]; exact g6, by rw [q2.2.2 f.slot (by simp [n1, n2])]; exact g7⟩
end StrChars.Road
namespace StrChars.Road
open Jvm Sem ClassFile Op Lib Jvm.Stand Jvm.Free Jvm.Free.XT
/-- WHAT COMES BACK, the byte[] as a list of values -/
def QA (Z : State) (x : Addr) (zn : Int32) (cs : List Int32) (h : Heap) (v : Option Value) (h' : Heap) (L : List Loc) : Prop := v = none ∧ (∀ y ∈ L, y.base = x) ∧ RoadKit.Keep h h' [x] ∧ h'.size = h.size + 1 ∧ RoadKit.Exa Z h' x ST ∧ RoadKit.Fld Z h' x ST "value" "[B" (.ref h.size) ∧ RoadKit.Fld Z h' x ST "coder" "B" (.int 0) ∧
  (∃ kb, Z.vm.findClass "[B" = some kb ∧ RoadKit.Arv Z h' h.size kb .byte zn (cs.map fun c => .int (lo8 c)) (.int 0)) ∧
  ∀ (O n d : String) (w : Value), RoadKit.Fld Z h x O n d w → RoadKit.slotOf Z O n d ≠ RoadKit.slotOf Z ST "value" "[B" → RoadKit.slotOf Z O n d ≠ RoadKit.slotOf Z ST "coder" "B" → RoadKit.Fld Z h' x O n d w
/-- **new String(chars) AT A CALL, THE ARRAYS AS LISTS**: the char[] at b holds cs, not empty, no char above 255 -/
theorem backArv {p : Program} {l : Launch} {e : Env} {R : Room} {s : State} {args : Array Value} {below : List Frame} {len W : Nat} {Z : State} {a0 : Array Value} {h : Heap} (hZ : Z.Warmed39 s.vm) (hw : ∀ d ∈ words, d.before a0 Z = true) {kI : Nat} (wi : (Jvm.Cond.instantiable ST kI).before a0 Z = true)
    {x b : Addr} {k : ClassId} {zn z : Int32} {cs : List Int32} {dv v0 c0 : Value} (E : RoadKit.Exa Z h x ST) (V : RoadKit.Fld Z h x ST "value" "[B" v0) (C : RoadKit.Fld Z h x ST "coder" "B" c0) (K : RoadKit.Arv Z h b k .char zn (cs.map Value.int) dv) (S : RoadKit.Sta Z h ST "COMPACT_STRINGS" "Z" (.int z)) (hz : ¬ z = 0)
    (hlen : zn.toNatClampNeg = cs.length) (h0 : 0 < cs.length) (hbig : cs.length ≤ 536870912) (hall : ∀ c ∈ cs, ¬ 255 < c) (hfr : 4 ≤ R.frames) (hlo : W + 65 ≤ R.locals) :
    Back l R p e below s args New1.yN len W (fun P a => a = #[.ref x, .ref b] ∧ P.U.heap = h ∧ P.cells + 1 ≤ R.cells ∧ P.slots + cs.length ≤ R.slots)
      (fun P _ v B => ∃ L, QA Z x zn cs h v B.U.heap L ∧ B.locs = P.locs ++ L ∧ B.cells = P.cells + 1 ∧ B.slots = P.slots + cs.length) := by
  obtain ⟨A, K1, K2, K3, K4, K5, K6⟩ := K
  have e : A.slots.size = cs.length := K3.trans hlen
  have hat : ∀ (i : Nat) (hi : i < cs.length), A.slots[i]? = some (.int cs[i]) := fun i hi => by rw [K5 i (by omega)]; simp [List.getD_eq_getElem?_getD, hi]
  have hcv : ∀ (i : Nat) (hi : i < cs.length), cv A i = cs[i] := fun i hi => by unfold cv; rw [hat i hi]
  have hty : Typed .char A := fun i v hv => by
    have hi : i < A.slots.size := (Array.getElem?_eq_some_iff.mp hv).1
    have q := K5 i hi
    rw [hv] at q
    rw [Option.some.inj q]
    exact K6 i hi
  refine Back.mono (back hZ hw wi E V C K1 hty S hz (by omega) (by omega) (fun i hi => by rw [hcv i (by omega)]; exact hall _ (List.getElem_mem _)) hfr hlo) (fun P a hp => ⟨hp.1, hp.2.1, hp.2.2.1, by rw [e]; exact hp.2.2.2⟩) (fun P a v B hp hq => ?_)
  obtain ⟨L, ⟨q1, q2, q3, q4, q5, q6, q7, ⟨V', v1, v2, v3, v4, v5⟩, q9⟩, hl, hc, hs⟩ := hq
  refine ⟨L, ⟨q1, q2, q3, q4, q5, q6, q7, ⟨V'.cls, v3, V', v1, rfl, by rw [v4, e, hlen], K4, fun i hi => ?_, fun i hi => ?_⟩, q9⟩, hl, hc, by rw [hs, e]⟩
  · have hi' : i < cs.length := by omega
    rw [v5 i (by omega), hcv i hi']; simp [List.getD_eq_getElem?_getD, hi']
  · have hi' : i < cs.length := by omega
    simp only [List.getD_eq_getElem?_getD, List.getElem?_map, List.getElem?_eq_getElem hi', Option.map_some, Option.getD_some]
    exact fits_lo8 _
end StrChars.Road
namespace StrChars.Road
open Jvm Sem ClassFile Op Lib Jvm.Stand Jvm.Free Jvm.Free.XT
/-- WHAT COMES BACK, in the writer's own shape -/
def QV (Z : State) (x : Addr) (N : Int32) (bs : List Int32) (h : Heap) (n0 : Nat) (v : Option Value) (h' : Heap) (L : List Loc) : Prop := v = none ∧ RoadKit.Fr n0 L ∧ RoadKit.Keep h h' [x] ∧ RoadKit.Exa Z h' x ST ∧ RoadKit.Fld Z h' x ST "coder" "B" (.int 0) ∧
  ∃ (t : Addr) (kb : ClassId), n0 ≤ t ∧ h.size ≤ t ∧ ¬ t = x ∧ RoadKit.Fld Z h' x ST "value" "[B" (.ref t) ∧ RoadKit.Arv Z h' t kb .byte N (bs.map Value.int) (.int 0)
/-- **new String(chars) AT A CALL, FOR THE WRITER**: a char[] of n known ints, each 0 to 255 -/
theorem backV {p : Program} {l : Launch} {e : Env} {R : Room} {s : State} {args : Array Value} {below : List Frame} {len W : Nat} {Z : State} {a0 : Array Value} {h : Heap} (hZ : Z.Warmed39 s.vm) (hw : ∀ d ∈ words, d.before a0 Z = true) {kI : Nat} (wi : (Jvm.Cond.instantiable ST kI).before a0 Z = true)
    {x b : Addr} {kC : ClassId} {cs bs : List Int32} {d v0 c0 : Value} {z N : Int32} {n n0 : Nat} (hx0 : n0 ≤ x) (hh0 : n0 ≤ h.size) (E : RoadKit.Exa Z h x ST) (V : RoadKit.Fld Z h x ST "value" "[B" v0) (C : RoadKit.Fld Z h x ST "coder" "B" c0) (K : RoadKit.Arv Z h b kC .char N (cs.map Value.int) d) (S : RoadKit.Sta Z h ST "COMPACT_STRINGS" "Z" (.int z)) (hz : ¬ z = 0)
    (hn : cs.length = n) (hN : N = Int32.ofNat n) (l0 : 0 < n) (l2 : n ≤ 4000) (hp : ∀ c ∈ cs, ¬ c < 0 ∧ ¬ (255 : Int32) < c) (hb : bs = cs.map (fun c => c.toInt8.toInt32)) (hfr : 4 ≤ R.frames) (hlo : W + 65 ≤ R.locals) :
    Back l R p e below s args (⟨"java/lang/String", "<init>", "([C)V"⟩ : MethodName) len W (fun P a => a = #[.ref x, .ref b] ∧ P.U.heap = h ∧ P.cells + 1 ≤ R.cells ∧ P.slots + n ≤ R.slots)
      (fun P _ v B => ∃ L, QV Z x N bs h n0 v B.U.heap L ∧ B.locs = P.locs ++ L ∧ B.cells = P.cells + 1 ∧ B.slots = P.slots + n) := by
  subst hn hN hb
  refine Back.mono (backArv hZ hw wi E V C K S hz (n32 (by omega)) l0 (by omega) (fun c hc => (hp c hc).2) hfr hlo) (fun P a hp => hp) (fun P a v B hp hq => ?_)
  obtain ⟨L, ⟨q1, q2, q3, q4, q5, q6, q7, ⟨kb, v1, v2⟩, q9⟩, hl, hc, hs⟩ := hq
  exact ⟨L, ⟨q1, fun y hy => by rw [q2 y hy]; exact hx0, q3, q5, q7, h.size, kb, hh0, Nat.le_refl _, Nat.ne_of_gt E.lt, q6, by rw [List.map_map]; exact v2⟩, hl, hc, hs⟩
end StrChars.Road
end Jvm.Pilot.@@N@@
namespace Jvm.Pilot.@@N@@
open Jvm Jvm.ClassFile Sem Op Lib Jvm.Free Jvm.Stand Jvm.LawKit Jvm.RoadKit Bundle Jvm.Pilot.@@N@@.Jvm.D
/-- from T the run goes on to an end of which Qf says what it is -/
def Goes (tb : Tables) (e : Env) (below : List Frame) (Qf : Outcome → State → Prop) (T : State) : Prop := ∃ s₂ o, Steps tb e below T s₂ ∧ s₂.status = .running ∧ Ended s₂ below o ∧ Qf o s₂
theorem Goes.to {tb : Tables} {e : Env} {below : List Frame} {Qf : Outcome → State → Prop} {T T' : State} (k : ∀ t, Steps tb e below T' t → Steps tb e below T t) (h : Goes tb e below Qf T') : Goes tb e below Qf T := by
  obtain ⟨s, o, h1, h2⟩ := h; exact ⟨s, o, k s h1, h2⟩
theorem Goes.thru {tb : Tables} {e : Env} {below : List Frame} {Qf : Outcome → State → Prop} {T T' : State} (k : Steps tb e below T T') (h : Goes tb e below Qf T') : Goes tb e below Qf T := by
  obtain ⟨s, o, h1, h2⟩ := h; exact ⟨s, o, k.trans h1, h2⟩
theorem own_old {Z : State} {n0 : Nat} {h : Heap} (O : Old Z n0 h) : n0 ≤ h.size := O.1 ▸ O.2.1
theorem own_ext_keep {h h' : Heap} (K : Keep h h' []) : Ext h h' := ⟨K.1, fun a c q => K.2.1 a c q nin0⟩
theorem own_nsroot {Z : State} {a0 : Array Value} {O K : String} {n : Nat} (w : (Jvm.Cond.noSuperclass O).before a0 Z = true) (wk : (Jvm.Cond.instantiable K n).before a0 Z = true) (hn : O ≠ K) : NS Z O K := by
  obtain ⟨c, k, h1, h2, h3, -, -⟩ := Cond.noSuperclass_spec w
  obtain ⟨t, k2, g1, -⟩ := Cond.instantiable_spec wk
  have ne := ids_ne h1 g1 hn
  refine ⟨c, t, h1, g1, fun fuel => ?_⟩
  cases fuel with
  | zero => rfl
  | succ f => simp [Vm.isSubclassAux, ne, h2, h3]
theorem own_nsno {Z : State} {a0 : Array Value} {C S K : String} {n : Nat} (w : (Jvm.Cond.superclass C S).before a0 Z = true) (wk : (Jvm.Cond.instantiable K n).before a0 Z = true) (ns : NS Z C K) (hn : C ≠ K) : ∃ c t, Z.vm.findClass C = some c ∧ Z.vm.findClass K = some t ∧ Z.vm.assignable c t = false := by
  obtain ⟨c, t, h0, g0, n3⟩ := ns
  obtain ⟨p, k, kp, h1, h2, h3, h4, h5, -, h7⟩ := Cond.superclass_spec h0 w
  obtain ⟨t', k', g1, g2, g5, g7, -⟩ := Cond.instantiable_spec wk
  cases g0.symm.trans g1
  have ne := ids_ne h0 g0 hn
  refine ⟨c, t, h0, g0, ?_⟩
  show Z.vm.assignableAux (255 + 1) c t = false
  simp [Vm.assignableAux, ne, h2, g2, h5, g5, (Bool.or_eq_false_iff.mp g7).1, Vm.isSubclass, n3]
theorem own_selp {s : State} {args : Array Value} {y : MethodName} {n : Nat} (wi : (Jvm.Cond.instantiable y.cls n).before args s = true) (hp : (Jvm.Cond.privateMethod y).before args s = true) (hinst : (Jvm.Cond.instanceMethod y).before args s = true) (hy : y.cls ≠ "java/lang/invoke/MethodHandle" ∧ y.cls ≠ "java/lang/invoke/VarHandle") : (Jvm.Cond.selects y.cls y y).before args s = true := by
  obtain ⟨c, k, h1, h2, -, h4, -⟩ := Cond.instantiable_spec wi
  exact selects_self_of_private h1 h2 (Bool.or_eq_false_iff.mp h4).1 (Cond.privateMethod_at hp) hinst hy
theorem own_keep_ext {h h' : Heap} (E : Ext h h') : Keep h h' [] := (Keep.refl h []).ext E
theorem own_len {s : State} {args : Array Value} {t : Term} {a : Addr} {cl : Cell} {ty : FieldType} {k : Int32} (ht : t.eval args s none [] s = some (.ref a)) (A : Arr s s.heap a cl ty) (h : (Cond.eq (.length t) (.int k)).value args s none s [] = some true) : cl.slots.size < 2 ^ 31 ∧ cl.slots.size.toInt32 = k := by
  obtain ⟨x, y, e1, e2, -, k2⟩ := cmp_v (Or.inl h)
  obtain rfl : Value.int k = y := Option.some.inj e2
  obtain ⟨z, rfl⟩ := k2
  have q : (z = k) := gotT (P := z = k) (by simp [Cond.value, e1, e2]) h
  subst q
  have hA := A.fin (Vm.Alike.refl _)
  by_cases hl : cl.slots.size < 2 ^ 31
  · rw [len_f ht hA hl] at e1
    exact ⟨hl, by simpa using e1⟩
  · simp [Term.eval, ht, hA, hl] at e1
theorem own_stR {s : State} {args : Array Value} {t u : Term} {b : Addr} (h : (Cond.eq t u).value args s none s [] = some true) (hu : u.eval args s none [] s = some (.ref b)) : t.eval args s none [] s = some (.ref b) := by
  obtain ⟨x, y, e1, e2, k1, k2⟩ := cmp_v (Or.inl h)
  obtain rfl : y = Value.ref b := Option.some.inj (e2.symm.trans hu)
  have hx : x.isRef = true := by cases x <;> simp [Kin, Value.isRef] at k1 k2 ⊢
  have q : x = Value.ref b := gotT (eq_R e1 e2 hx rfl) h
  subst q; exact e1
theorem own_fldI {s : State} {args : Array Value} {t : Term} {a : Addr} {C n d : String} {k : Int32} (ht : t.eval args s none [] s = some (.ref a)) (h : (Cond.eq (.field t C n d) (.int k)).value args s none s [] = some true) : Fld s s.heap a C n d (.int k) := by
  obtain ⟨x, y, e1, e2, -, k2⟩ := cmp_v (Or.inl h)
  obtain rfl : Value.int k = y := Option.some.inj e2
  obtain ⟨z, rfl⟩ := k2
  have q : (z = k) := gotT (P := z = k) (by simp [Cond.value, e1, e2]) h
  subst q
  exact Fld.start (by rw [← fld_at ht]; exact e1)
theorem own_fldL {s : State} {args : Array Value} {t : Term} {a : Addr} {C n d : String} {k : Int64} (ht : t.eval args s none [] s = some (.ref a)) (h : (Cond.eq (.field t C n d) (.long k)).value args s none s [] = some true) : Fld s s.heap a C n d (.long k) := by
  obtain ⟨x, y, e1, e2, -, k2⟩ := cmp_v (Or.inl h)
  obtain rfl : Value.long k = y := Option.some.inj e2
  obtain ⟨z, rfl⟩ := k2
  have q : (z = k) := gotT (P := z = k) (by simp [Cond.value, e1, e2]) h
  subst q
  exact Fld.start (by rw [← fld_at ht]; exact e1)
theorem own_fldN {s : State} {args : Array Value} {t : Term} {a : Addr} {C n d : String} (ht : t.eval args s none [] s = some (.ref a)) (h : (Cond.eq (.field t C n d) .null).value args s none s [] = some true) : Fld s s.heap a C n d .null :=
  Fld.start (by rw [← fld_at ht]; exact null_v h)
theorem own_fldR {s : State} {args : Array Value} {t : Term} {a b : Addr} {C n d : String} (ht : t.eval args s none [] s = some (.ref a)) (h : (Term.field t C n d).eval args s none [] s = some (.ref b)) : Fld s s.heap a C n d (.ref b) :=
  Fld.start (by rw [← fld_at ht]; exact h)
theorem own_stI {s : State} {args : Array Value} {t : Term} {k : Int32} (h : (Cond.eq t (.int k)).value args s none s [] = some true) : t.eval args s none [] s = some (.int k) := by
  obtain ⟨x, y, e1, e2, -, k2⟩ := cmp_v (Or.inl h)
  obtain rfl : Value.int k = y := Option.some.inj e2
  obtain ⟨z, rfl⟩ := k2
  have q : (z = k) := gotT (P := z = k) (by simp [Cond.value, e1, e2]) h
  subst q; exact e1
theorem own_narc {f : Int32} (h : ¬ f < 0 ∧ ¬ (255 : Int32) < f) : nar .char f = f := by
  obtain ⟨h1, h2⟩ := h
  have e0 : (0 : Int32).toInt = 0 := rfl
  have e1 : (255 : Int32).toInt = 255 := rfl
  rw [Int32.lt_iff_toInt_lt] at h1 h2
  have q := c_i2c f
  apply Int32.toInt_inj.mp
  show f.toUInt32.toUInt16.toUInt32.toInt32.toInt = f.toInt
  omega
theorem own_i2c (x : Int32) : ¬ ((x &&& (255 : Int32)).toUInt32.toUInt16.toUInt32.toInt32) < 0 ∧ ¬ (255 : Int32) < ((x &&& (255 : Int32)).toUInt32.toUInt16.toUInt32.toInt32) := by
  have q := c_i2c (x &&& 255)
  have h := c_mask x 255 8 (by decide) (by decide)
  have e0 : (0 : Int32).toInt = 0 := rfl
  have e1 : (255 : Int32).toInt = 255 := rfl
  rw [Int32.lt_iff_toInt_lt, Int32.lt_iff_toInt_lt]
  omega
theorem own_b8 {f g : Int32} (hf : ¬ f < 0 ∧ ¬ (255 : Int32) < f) (hg : ¬ g < 0 ∧ ¬ (255 : Int32) < g) : f.toInt8.toInt32 = g.toInt8.toInt32 ↔ f = g := by
  obtain ⟨h1, h2⟩ := hf
  obtain ⟨h3, h4⟩ := hg
  have e0 : (0 : Int32).toInt = 0 := rfl
  have e1 : (255 : Int32).toInt = 255 := rfl
  rw [Int32.lt_iff_toInt_lt] at h1 h2 h3 h4
  have q := c_i2b f
  have q' := c_i2b g
  rw [← Int32.toInt_inj, ← Int32.toInt_inj]
  omega
theorem own_nz {s : State} {args : Array Value} {t : Term} {z : Int32} (ht : t.eval args s none [] s = some (.int z)) (h : (Jvm.Cond.not (.eq t (.int (0 : Int32)))).value args s none s [] = some true) : ¬ z = 0 := by
  have q := not_v h
  exact gotF (P := z = 0) (by simp [Cond.value, ht, Term.eval]) q
def Nar (Z : State) (w_Market_MKT_GLB : Addr) (w_Market_MKT_ONE : Addr) (z_cs : Int32) : Prop := (Sta Z Z.heap "com/example/arvi/arvi/model/Market" "MKT_GLB" "Lcom/example/arvi/arvi/model/Market;" (.ref w_Market_MKT_GLB)) ∧ (Exa Z Z.heap w_Market_MKT_GLB "com/example/arvi/arvi/model/Market") ∧ (Sta Z Z.heap "com/example/arvi/arvi/model/Market" "MKT_ONE" "Lcom/example/arvi/arvi/model/Market;" (.ref w_Market_MKT_ONE)) ∧ (Exa Z Z.heap w_Market_MKT_ONE "com/example/arvi/arvi/model/Market") ∧ (Sta Z Z.heap "java/lang/String" "COMPACT_STRINGS" "Z" (.int z_cs)) ∧ (¬ z_cs = 0)
theorem d8_0 : decode jdk_31_method_11_code 0 = .ok (.aload_n 0, 1) := by decide +kernel
theorem d8_1 : decode jdk_31_method_11_code 1 = .ok (.ifnonnull 12, 3) := by decide +kernel
theorem d8_13 : decode jdk_31_method_11_code 13 = .ok (.aload_n 0, 1) := by decide +kernel
theorem d8_14 : decode jdk_31_method_11_code 14 = .ok (.areturn, 1) := by decide +kernel
theorem pn_8 : plainName "java/util/Objects" = true := by first | (simp [plainName, overriddenIn]; done) | decide +kernel
theorem ef_rmQ (m : MethodId) (x0 : Addr) (x1 : Addr) : entryFrame m #[(.ref x0), (.ref x1)] 2 = mkF m 0 #[.val (.ref x0), .val (.ref x1)] [] := by first | (simp [entryFrame, mkF, argsToLocals, Value.category]; done) | rfl
def Q_rmQ (Z : State) (xa : Addr) (xm : Addr) (w_Market_MKT_GLB : Addr) (w_Market_MKT_ONE : Addr) (z_cs : Int32) (h0 : Heap) (n0 : Nat) (v : Option Value) (h : Heap) (L : List Loc) : Prop := v = some (.ref xa) ∧ Fr n0 L ∧ h = h0
set_option maxRecDepth 65536 in
set_option maxHeartbeats 40000000 in
theorem rmQ (l : Launch) (Z : State) (a0 : Array Value) (hw : ∀ d ∈ tables_1, d.before a0 Z = true) (ws : List Jvm.Cond) (xa : Addr) (xm : Addr) (w_Market_MKT_GLB : Addr) (w_Market_MKT_ONE : Addr) (z_cs : Int32) (h0 : Heap) (n0 : Nat) (O0 : Old Z n0 h0) (NF : Nar Z w_Market_MKT_GLB w_Market_MKT_ONE z_cs) :
    MetFree l (⟨"java/util/Objects", "requireNonNull", "(Ljava/lang/Object;Ljava/lang/String;)Ljava/lang/Object;"⟩ : MethodName) (head1 (Jvm.Cond.code (⟨"java/util/Objects", "requireNonNull", "(Ljava/lang/Object;Ljava/lang/String;)Ljava/lang/Object;"⟩ : MethodName) jdk_31_method_11_code 2 (some (.object "java/lang/Object")) :: ws) ({ frames := 0, cells := 0, slots := 0, locals := 0 } : Room)) (fun a U => a = #[(.ref xa), (.ref xm)] ∧ Z.Warmed39 U.vm ∧ U.heap = h0) (fun _ _ _ _ _ => True) (fun _ U o U' => ∃ v L, o = .returned v ∧ Q_rmQ Z xa xm w_Market_MKT_GLB w_Market_MKT_ONE z_cs h0 n0 v U'.heap L ∧ FrameEnd U o U' L ({ frames := 0, cells := 0, slots := 0, locals := 0 } : Room).cells ({ frames := 0, cells := 0, slots := 0, locals := 0 } : Room).slots) := by
  refine MetFree.of_bodySF (plainFor_of_name pn_8) hisR ?_
  intro p e s m args below meth c s₁ Bd hml0 hP hK
  obtain ⟨rfl, hZ, hh⟩ := hP
  have hx := Bd.exec
  have hby := Bd.bytes
  have hml : c.maxLocals = 2 := hml0
  have hown : s.vm.findClass "java/util/Objects" = some m.cls := findClass_of_methodNamed Bd.named
  have hnm := (name_of_methodNamed Bd.named Bd.method).1
  have X0 : Stand p l e ({ frames := 0, cells := 0, slots := 0, locals := 0 } : Room) s m #[(.ref xa), (.ref xm)] below meth c s₁ [] 0 0 := Stand.of_body Bd
  have e0 : s₁.heap = h0 := by rw [← hh, Bd.state]; rfl
  have N0 := Fr.nil n0
  suffices G : ∀ (Qf : Outcome → State → Prop), Qf = (fun (_ : Array Value) (U : State) (o : Outcome) (U' : State) => ∃ v L, o = .returned v ∧ Q_rmQ Z xa xm w_Market_MKT_GLB w_Market_MKT_ONE z_cs h0 n0 v U'.heap L ∧ FrameEnd U o U' L ({ frames := 0, cells := 0, slots := 0, locals := 0 } : Room).cells ({ frames := 0, cells := 0, slots := 0, locals := 0 } : Room).slots) #[] s → Goes p.tables e below Qf (s₁.setTop (mkF m 0 #[.val (.ref xa), .val (.ref xm)] [])) by
    obtain ⟨s₂, o, g1, g2, g3, g4⟩ := G _ rfl
    exact ⟨s₂, o, castTop (ef_rmQ m _ _) g1, g2, g3, g4⟩
  intro Qf hQf
  obtain ⟨S_w_Market_MKT_GLB, E_w_Market_MKT_GLB, S_w_Market_MKT_ONE, E_w_Market_MKT_ONE, S_cs, nz_cs⟩ := id NF
  refine Goes.to (T' := s₁.setTop (mkF m 1 #[.val (.ref xa), .val (.ref xm)] [(.ref xa)])) (fun t k => XS.aloadN X0.here hx rfl (hb hby d8_0) rfl rfl k) ?_
  refine Goes.to (T' := s₁.setTop (mkF m 13 #[.val (.ref xa), .val (.ref xm)] [])) (fun t k => XS.ifnonnullYes X0.here hx rfl (pc0 := 1) (pc' := 13) rfl (hb hby d8_1) rfl (by decide) (by decide) k) ?_
  refine Goes.to (T' := s₁.setTop (mkF m 14 #[.val (.ref xa), .val (.ref xm)] [(.ref xa)])) (fun t k => XS.aloadN X0.here hx rfl (hb hby d8_13) rfl rfl k) ?_
  obtain ⟨fs, hrL, hrun, hended, hW, hsame⟩ := X0.leave (v := some (.ref xa)) (fun h => by rw [Bd.returns] at h; cases h)
  subst hQf
  refine ⟨_, _, retOut X0 hx Bd.returns rfl (Or.inr (Or.inr (Or.inr (Or.inr ⟨rfl, rfl, rfl⟩)))) (hb hby d8_14) hrL, hrun, hended, _, _, rfl, ?_, ⟨_, rfl⟩, hW, hsame.mono (by decide) (by decide)⟩
  show (fun (v : Option Value) (h : Heap) (L : List Loc) => v = some (.ref xa) ∧ Fr n0 L ∧ h = h0) (some (.ref xa)) s₁.heap _
  rw [e0]
  exact ⟨rfl, N0, rfl⟩
theorem pd_5 : parseMethodDescriptor "(Ljava/lang/Object;Ljava/lang/String;)Ljava/lang/Object;" = some ⟨[(.object "java/lang/Object"), (.object "java/lang/String")], some (.object "java/lang/Object")⟩ := by decide +kernel
theorem d7_0 : decode prog_27_method_1_code 0 = .ok (.aload_n 0, 1) := by decide +kernel
theorem d7_1 : decode prog_27_method_1_code 1 = .ok (.invokespecial 1, 3) := by decide +kernel
theorem d7_4 : decode prog_27_method_1_code 4 = .ok (.aload_n 0, 1) := by decide +kernel
theorem d7_5 : decode prog_27_method_1_code 5 = .ok (.lload_n 1, 1) := by decide +kernel
theorem d7_6 : decode prog_27_method_1_code 6 = .ok (.putfield 7, 3) := by decide +kernel
theorem d7_9 : decode prog_27_method_1_code 9 = .ok (.aload_n 0, 1) := by decide +kernel
theorem d7_10 : decode prog_27_method_1_code 10 = .ok (.lload_n 3, 1) := by decide +kernel
theorem d7_11 : decode prog_27_method_1_code 11 = .ok (.putfield 13, 3) := by decide +kernel
theorem d7_14 : decode prog_27_method_1_code 14 = .ok (.aload_n 0, 1) := by decide +kernel
theorem d7_15 : decode prog_27_method_1_code 15 = .ok (.lload 5, 2) := by decide +kernel
theorem d7_17 : decode prog_27_method_1_code 17 = .ok (.putfield 16, 3) := by decide +kernel
theorem d7_20 : decode prog_27_method_1_code 20 = .ok (.aload_n 0, 1) := by decide +kernel
theorem d7_21 : decode prog_27_method_1_code 21 = .ok (.iload 7, 2) := by decide +kernel
theorem d7_23 : decode prog_27_method_1_code 23 = .ok (.putfield 19, 3) := by decide +kernel
theorem d7_26 : decode prog_27_method_1_code 26 = .ok (.aload_n 0, 1) := by decide +kernel
theorem d7_27 : decode prog_27_method_1_code 27 = .ok (.iload 8, 2) := by decide +kernel
theorem d7_29 : decode prog_27_method_1_code 29 = .ok (.putfield 23, 3) := by decide +kernel
theorem d7_32 : decode prog_27_method_1_code 32 = .ok (.aload_n 0, 1) := by decide +kernel
theorem d7_33 : decode prog_27_method_1_code 33 = .ok (.lload 9, 2) := by decide +kernel
theorem d7_35 : decode prog_27_method_1_code 35 = .ok (.putfield 27, 3) := by decide +kernel
theorem d7_38 : decode prog_27_method_1_code 38 = .ok (.aload_n 0, 1) := by decide +kernel
theorem d7_39 : decode prog_27_method_1_code 39 = .ok (.iload 11, 2) := by decide +kernel
theorem d7_41 : decode prog_27_method_1_code 41 = .ok (.putfield 30, 3) := by decide +kernel
theorem d7_44 : decode prog_27_method_1_code 44 = .ok (.aload_n 0, 1) := by decide +kernel
theorem d7_45 : decode prog_27_method_1_code 45 = .ok (.aload 12, 2) := by decide +kernel
theorem d7_47 : decode prog_27_method_1_code 47 = .ok (.ldc 33, 2) := by decide +kernel
theorem d7_49 : decode prog_27_method_1_code 49 = .ok (.invokestatic 35, 3) := by decide +kernel
theorem d7_52 : decode prog_27_method_1_code 52 = .ok (.checkcast 41, 3) := by decide +kernel
theorem d7_55 : decode prog_27_method_1_code 55 = .ok (.putfield 43, 3) := by decide +kernel
theorem d7_58 : decode prog_27_method_1_code 58 = .ok (.aload_n 0, 1) := by decide +kernel
theorem d7_59 : decode prog_27_method_1_code 59 = .ok (.iload 13, 2) := by decide +kernel
theorem d7_61 : decode prog_27_method_1_code 61 = .ok (.putfield 46, 3) := by decide +kernel
theorem d7_64 : decode prog_27_method_1_code 64 = .ok (.aload_n 0, 1) := by decide +kernel
theorem d7_65 : decode prog_27_method_1_code 65 = .ok (.aload 14, 2) := by decide +kernel
theorem d7_67 : decode prog_27_method_1_code 67 = .ok (.ldc 49, 2) := by decide +kernel
theorem d7_69 : decode prog_27_method_1_code 69 = .ok (.invokestatic 35, 3) := by decide +kernel
theorem d7_72 : decode prog_27_method_1_code 72 = .ok (.checkcast 51, 3) := by decide +kernel
theorem d7_75 : decode prog_27_method_1_code 75 = .ok (.putfield 53, 3) := by decide +kernel
theorem d7_78 : decode prog_27_method_1_code 78 = .ok (.return_, 1) := by decide +kernel
theorem pn_7 : plainName "com/example/arvi/arvi/model/RecurringPurchaseDetails" = true := by first | (simp [plainName, overriddenIn]; done) | decide +kernel
theorem ef_rmI (m : MethodId) (x0 : Addr) (x1 : Int64) (x2 : Int64) (x3 : Int64) (x4 : Int32) (x5 : Int32) (x6 : Int64) (x7 : Int32) (x8 : Addr) (x9 : Int32) (x10 : Addr) : entryFrame m #[(.ref x0), (.long x1), (.long x2), (.long x3), (.int x4), (.int x5), (.long x6), (.int x7), (.ref x8), (.int x9), (.ref x10)] 15 = mkF m 0 #[.val (.ref x0), .val (.long x1), .second, .val (.long x2), .second, .val (.long x3), .second, .val (.int x4), .val (.int x5), .val (.long x6), .second, .val (.int x7), .val (.ref x8), .val (.int x9), .val (.ref x10)] [] := by first | (simp [entryFrame, mkF, argsToLocals, Value.category]; done) | rfl
def Q_rmI (Z : State) (xa : Addr) (q1 : Int64) (q2 : Int64) (q3 : Int64) (p4 : Int32) (p5 : Int32) (q6 : Int64) (p7 : Int32) (xs : Addr) (p9 : Int32) (xk : Addr) (w_Market_MKT_GLB : Addr) (w_Market_MKT_ONE : Addr) (z_cs : Int32) (h0 : Heap) (n0 : Nat) (v : Option Value) (h : Heap) (L : List Loc) : Prop := v = none ∧ Fr n0 L ∧ Keep h0 h [xa] ∧ Fld Z h xa "com/example/arvi/arvi/model/RecurringPurchaseDetails" "expiryTime" "J" (.long q2) ∧ Fld Z h xa "com/example/arvi/arvi/model/RecurringPurchaseDetails" "lastPurchaseState" "I" (.int p9)
set_option maxRecDepth 65536 in
set_option maxHeartbeats 40000000 in
theorem rmI (l : Launch) (Z : State) (a0 : Array Value) (hw : ∀ d ∈ tables_1, d.before a0 Z = true) (ws : List Jvm.Cond) (xa : Addr) (q1 : Int64) (q2 : Int64) (q3 : Int64) (p4 : Int32) (p5 : Int32) (q6 : Int64) (p7 : Int32) (xs : Addr) (p9 : Int32) (xk : Addr) (w_Market_MKT_GLB : Addr) (w_Market_MKT_ONE : Addr) (z_cs : Int32) (h0 : Heap) (n0 : Nat) (O0 : Old Z n0 h0) (NF : Nar Z w_Market_MKT_GLB w_Market_MKT_ONE z_cs) (E_xa : Exa Z h0 xa "com/example/arvi/arvi/model/RecurringPurchaseDetails") (F_startTime_xa : Fld Z h0 xa "com/example/arvi/arvi/model/RecurringPurchaseDetails" "startTime" "J" (.long (0 : Int64))) (F_expiryTime_xa : Fld Z h0 xa "com/example/arvi/arvi/model/RecurringPurchaseDetails" "expiryTime" "J" (.long (0 : Int64))) (F_nextPaymentTime_xa : Fld Z h0 xa "com/example/arvi/arvi/model/RecurringPurchaseDetails" "nextPaymentTime" "J" (.long (0 : Int64))) (F_autoRenewing_xa : Fld Z h0 xa "com/example/arvi/arvi/model/RecurringPurchaseDetails" "autoRenewing" "Z" (.int (0 : Int32))) (F_cancelReason_xa : Fld Z h0 xa "com/example/arvi/arvi/model/RecurringPurchaseDetails" "cancelReason" "I" (.int (0 : Int32))) (F_cancelledTime_xa : Fld Z h0 xa "com/example/arvi/arvi/model/RecurringPurchaseDetails" "cancelledTime" "J" (.long (0 : Int64))) (F_acknowledgeState_xa : Fld Z h0 xa "com/example/arvi/arvi/model/RecurringPurchaseDetails" "acknowledgeState" "I" (.int (0 : Int32))) (F_lastPurchaseId_xa : Fld Z h0 xa "com/example/arvi/arvi/model/RecurringPurchaseDetails" "lastPurchaseId" "Ljava/lang/String;" .null) (F_lastPurchaseState_xa : Fld Z h0 xa "com/example/arvi/arvi/model/RecurringPurchaseDetails" "lastPurchaseState" "I" (.int (0 : Int32))) (F_market_xa : Fld Z h0 xa "com/example/arvi/arvi/model/RecurringPurchaseDetails" "market" "Lcom/example/arvi/arvi/model/Market;" .null) (E_xs : Exa Z h0 xs "java/lang/String") (E_xk : Exa Z h0 xk "com/example/arvi/arvi/model/Market") (g_xa : n0 ≤ xa) (ne_xs_xa : xs ≠ xa) (ne_xk_xa : xk ≠ xa) :
    MetFree l (⟨"com/example/arvi/arvi/model/RecurringPurchaseDetails", "<init>", "(JJJZIJILjava/lang/String;ILcom/example/arvi/arvi/model/Market;)V"⟩ : MethodName) (head1 (Jvm.Cond.code (⟨"com/example/arvi/arvi/model/RecurringPurchaseDetails", "<init>", "(JJJZIJILjava/lang/String;ILcom/example/arvi/arvi/model/Market;)V"⟩ : MethodName) prog_27_method_1_code 15 none :: ws) ({ frames := 1, cells := 4, slots := 88, locals := 40 } : Room)) (fun a U => a = #[(.ref xa), (.long q1), (.long q2), (.long q3), (.int p4), (.int p5), (.long q6), (.int p7), (.ref xs), (.int p9), (.ref xk)] ∧ Z.Warmed39 U.vm ∧ U.heap = h0) (fun _ _ _ _ _ => True) (fun _ U o U' => ∃ v L, o = .returned v ∧ Q_rmI Z xa q1 q2 q3 p4 p5 q6 p7 xs p9 xk w_Market_MKT_GLB w_Market_MKT_ONE z_cs h0 n0 v U'.heap L ∧ ReturnedEndW U o U' L ({ frames := 1, cells := 4, slots := 88, locals := 40 } : Room).cells ({ frames := 1, cells := 4, slots := 88, locals := 40 } : Room).slots) := by
  refine MetFree.of_bodySF (plainFor_of_name pn_7) hisR ?_
  intro p e s m args below meth c s₁ Bd hml0 hP hK
  obtain ⟨rfl, hZ, hh⟩ := hP
  have hx := Bd.exec
  have hby := Bd.bytes
  have hml : c.maxLocals = 15 := hml0
  have hown : s.vm.findClass "com/example/arvi/arvi/model/RecurringPurchaseDetails" = some m.cls := findClass_of_methodNamed Bd.named
  have hnm := (name_of_methodNamed Bd.named Bd.method).1
  have X0 : Stand p l e ({ frames := 1, cells := 4, slots := 88, locals := 40 } : Room) (s.setVm s.vm) m #[(.ref xa), (.long q1), (.long q2), (.long q3), (.int p4), (.int p5), (.long q6), (.int p7), (.ref xs), (.int p9), (.ref xk)] below meth c s₁ [] 0 0 := Stand.of_body Bd
  have e0 : s₁.heap = h0 := by rw [← hh, Bd.state]; rfl
  have N0 := Fr.nil n0
  have hZ : Z.Warmed39 (s.setVm s.vm).vm := hZ
  have hown : (s.setVm s.vm).vm.findClass "com/example/arvi/arvi/model/RecurringPurchaseDetails" = some m.cls := hown
  have hS : s.Since s.vm h0.size := (State.WarmedH.refl s).since _
  have hk : h0.size ≤ h0.size := Nat.le_refl _
  have own_strw : ∀ a ∈ Bundle.stringAtoms, a.before a0 Z = true := fun d hd => hw d ((by decide +kernel : ∀ d ∈ Bundle.stringAtoms, d ∈ tables_1) d hd)
  have K0 := Keep.refl h0 [xa]
  suffices G : ∀ (Qf : Outcome → State → Prop), Qf = (fun (_ : Array Value) (U : State) (o : Outcome) (U' : State) => ∃ v L, o = .returned v ∧ Q_rmI Z xa q1 q2 q3 p4 p5 q6 p7 xs p9 xk w_Market_MKT_GLB w_Market_MKT_ONE z_cs h0 n0 v U'.heap L ∧ ReturnedEndW U o U' L ({ frames := 1, cells := 4, slots := 88, locals := 40 } : Room).cells ({ frames := 1, cells := 4, slots := 88, locals := 40 } : Room).slots) #[] s → Goes p.tables e below Qf (s₁.setTop (mkF m 0 #[.val (.ref xa), .val (.long q1), .second, .val (.long q2), .second, .val (.long q3), .second, .val (.int p4), .val (.int p5), .val (.long q6), .second, .val (.int p7), .val (.ref xs), .val (.int p9), .val (.ref xk)] [])) by
    obtain ⟨s₂, o, g1, g2, g3, g4⟩ := G _ rfl
    exact ⟨s₂, o, castTop (ef_rmI m _ _ _ _ _ _ _ _ _ _ _) g1, g2, g3, g4⟩
  intro Qf hQf
  obtain ⟨S_w_Market_MKT_GLB, E_w_Market_MKT_GLB, S_w_Market_MKT_ONE, E_w_Market_MKT_ONE, S_cs, nz_cs⟩ := id NF
  refine Goes.to (T' := s₁.setTop (mkF m 1 #[.val (.ref xa), .val (.long q1), .second, .val (.long q2), .second, .val (.long q3), .second, .val (.int p4), .val (.int p5), .val (.long q6), .second, .val (.int p7), .val (.ref xs), .val (.int p9), .val (.ref xk)] [(.ref xa)])) (fun t k => XS.aloadN X0.here hx rfl (hb hby d7_0) rfl rfl k) ?_
  obtain ⟨T1, X1, e1, st1⟩ := initO X0 hx hZ hown (hw _ (List.mem_of_getElem? (i := 39) rfl)) (hw _ (List.mem_of_getElem? (i := 15) rfl)) (hw _ (List.mem_of_getElem? (i := 16) rfl)) e0 (g := (mkF m 1 #[.val (.ref xa), .val (.long q1), .second, .val (.long q2), .second, .val (.long q3), .second, .val (.int p4), .val (.int p5), .val (.long q6), .second, .val (.int p7), .val (.ref xs), .val (.int p9), .val (.ref xk)] [(.ref xa)])) rfl (by rw [hml]; rfl) rfl (hb hby d7_1) (by decide) (W := 0) (by show 2 * 0 + _ ≤ _; exact Nat.le_of_eq rfl) (by decide)
  refine Goes.to (T' := T1.setTop (mkF m 4 #[.val (.ref xa), .val (.long q1), .second, .val (.long q2), .second, .val (.long q3), .second, .val (.int p4), .val (.int p5), .val (.long q6), .second, .val (.int p7), .val (.ref xs), .val (.int p9), .val (.ref xk)] [])) st1 ?_
  refine Goes.to (T' := T1.setTop (mkF m 5 #[.val (.ref xa), .val (.long q1), .second, .val (.long q2), .second, .val (.long q3), .second, .val (.int p4), .val (.int p5), .val (.long q6), .second, .val (.int p7), .val (.ref xs), .val (.int p9), .val (.ref xk)] [(.ref xa)])) (fun t k => XS.aloadN X1.here hx rfl (hb hby d7_4) rfl rfl k) ?_
  refine Goes.to (T' := T1.setTop (mkF m 6 #[.val (.ref xa), .val (.long q1), .second, .val (.long q2), .second, .val (.long q3), .second, .val (.int p4), .val (.int p5), .val (.long q6), .second, .val (.int p7), .val (.ref xs), .val (.int p9), .val (.ref xk)] [(.long q1), (.ref xa)])) (fun t k => XS.lloadN X1.here hx rfl (hb hby d7_5) rfl k) ?_
  obtain ⟨T2, h2, X2, e2, W2, st2⟩ := putF X1 hx hZ hown (host := "") (Or.inl (hw _ (List.mem_of_getElem? (i := 40) rfl))) Via.refl e1 F_startTime_xa E_xa (Or.inr ⟨(hw _ (List.mem_of_getElem? (i := 41) rfl)), rfl, hnm⟩) (hw _ (List.mem_of_getElem? (i := 34) rfl)) (ty := .long) (by decide) rfl rfl (g := (mkF m 6 #[.val (.ref xa), .val (.long q1), .second, .val (.long q2), .second, .val (.long q3), .second, .val (.int p4), .val (.int p5), .val (.long q6), .second, .val (.int p7), .val (.ref xs), .val (.int p9), .val (.ref xk)] [(.long q1), (.ref xa)])) rfl rfl (hb hby d7_6)
  have F_startTime_xa := F_startTime_xa.same W2
  have E_xa := E_xa.wr W2
  have F_expiryTime_xa := F_expiryTime_xa.other W2 (Or.inr (slot_ne (Or.inr (hw _ (List.mem_of_getElem? (i := 43) rfl))) (Or.inr (hw _ (List.mem_of_getElem? (i := 41) rfl))) (by decide) (t := .long) (t' := .long) (by decide) (by decide)))
  have F_nextPaymentTime_xa := F_nextPaymentTime_xa.other W2 (Or.inr (slot_ne (Or.inr (hw _ (List.mem_of_getElem? (i := 45) rfl))) (Or.inr (hw _ (List.mem_of_getElem? (i := 41) rfl))) (by decide) (t := .long) (t' := .long) (by decide) (by decide)))
  have F_autoRenewing_xa := F_autoRenewing_xa.other W2 (Or.inr (slot_ne (Or.inr (hw _ (List.mem_of_getElem? (i := 47) rfl))) (Or.inr (hw _ (List.mem_of_getElem? (i := 41) rfl))) (by decide) (t := .boolean) (t' := .long) (by decide) (by decide)))
  have F_cancelReason_xa := F_cancelReason_xa.other W2 (Or.inr (slot_ne (Or.inr (hw _ (List.mem_of_getElem? (i := 49) rfl))) (Or.inr (hw _ (List.mem_of_getElem? (i := 41) rfl))) (by decide) (t := .int) (t' := .long) (by decide) (by decide)))
  have F_cancelledTime_xa := F_cancelledTime_xa.other W2 (Or.inr (slot_ne (Or.inr (hw _ (List.mem_of_getElem? (i := 51) rfl))) (Or.inr (hw _ (List.mem_of_getElem? (i := 41) rfl))) (by decide) (t := .long) (t' := .long) (by decide) (by decide)))
  have F_acknowledgeState_xa := F_acknowledgeState_xa.other W2 (Or.inr (slot_ne (Or.inr (hw _ (List.mem_of_getElem? (i := 53) rfl))) (Or.inr (hw _ (List.mem_of_getElem? (i := 41) rfl))) (by decide) (t := .int) (t' := .long) (by decide) (by decide)))
  have F_lastPurchaseId_xa := F_lastPurchaseId_xa.other W2 (Or.inr (slot_ne (Or.inr (hw _ (List.mem_of_getElem? (i := 63) rfl))) (Or.inr (hw _ (List.mem_of_getElem? (i := 41) rfl))) (by decide) (t := (.object "java/lang/String")) (t' := .long) (by decide) (by decide)))
  have F_lastPurchaseState_xa := F_lastPurchaseState_xa.other W2 (Or.inr (slot_ne (Or.inr (hw _ (List.mem_of_getElem? (i := 65) rfl))) (Or.inr (hw _ (List.mem_of_getElem? (i := 41) rfl))) (by decide) (t := .int) (t' := .long) (by decide) (by decide)))
  have F_market_xa := F_market_xa.other W2 (Or.inr (slot_ne (Or.inr (hw _ (List.mem_of_getElem? (i := 70) rfl))) (Or.inr (hw _ (List.mem_of_getElem? (i := 41) rfl))) (by decide) (t := (.object "com/example/arvi/arvi/model/Market")) (t' := .long) (by decide) (by decide)))
  have E_xs := E_xs.wr W2
  have E_xk := E_xk.wr W2
  have O0 := O0.wr W2 g_xa
  have hk := Nat.le_trans hk (Keep.of_wr W2).1
  have K0 := K0.wr W2 (Or.inl (List.mem_of_getElem? (i := 0) rfl))
  have N2 := Fr.snoc X2 N0 g_xa
  refine Goes.to (T' := T2.setTop (mkF m 9 #[.val (.ref xa), .val (.long q1), .second, .val (.long q2), .second, .val (.long q3), .second, .val (.int p4), .val (.int p5), .val (.long q6), .second, .val (.int p7), .val (.ref xs), .val (.int p9), .val (.ref xk)] [])) st2 ?_
  refine Goes.to (T' := T2.setTop (mkF m 10 #[.val (.ref xa), .val (.long q1), .second, .val (.long q2), .second, .val (.long q3), .second, .val (.int p4), .val (.int p5), .val (.long q6), .second, .val (.int p7), .val (.ref xs), .val (.int p9), .val (.ref xk)] [(.ref xa)])) (fun t k => XS.aloadN X2.here hx rfl (hb hby d7_9) rfl rfl k) ?_
  refine Goes.to (T' := T2.setTop (mkF m 11 #[.val (.ref xa), .val (.long q1), .second, .val (.long q2), .second, .val (.long q3), .second, .val (.int p4), .val (.int p5), .val (.long q6), .second, .val (.int p7), .val (.ref xs), .val (.int p9), .val (.ref xk)] [(.long q2), (.ref xa)])) (fun t k => XS.lloadN X2.here hx rfl (hb hby d7_10) rfl k) ?_
  obtain ⟨T3, h3, X3, e3, W3, st3⟩ := putF X2 hx hZ hown (host := "") (Or.inl (hw _ (List.mem_of_getElem? (i := 42) rfl))) Via.refl e2 F_expiryTime_xa E_xa (Or.inr ⟨(hw _ (List.mem_of_getElem? (i := 43) rfl)), rfl, hnm⟩) (hw _ (List.mem_of_getElem? (i := 34) rfl)) (ty := .long) (by decide) rfl rfl (g := (mkF m 11 #[.val (.ref xa), .val (.long q1), .second, .val (.long q2), .second, .val (.long q3), .second, .val (.int p4), .val (.int p5), .val (.long q6), .second, .val (.int p7), .val (.ref xs), .val (.int p9), .val (.ref xk)] [(.long q2), (.ref xa)])) rfl rfl (hb hby d7_11)
  have F_expiryTime_xa := F_expiryTime_xa.same W3
  have E_xa := E_xa.wr W3
  have F_startTime_xa := F_startTime_xa.other W3 (Or.inr (slot_ne (Or.inr (hw _ (List.mem_of_getElem? (i := 41) rfl))) (Or.inr (hw _ (List.mem_of_getElem? (i := 43) rfl))) (by decide) (t := .long) (t' := .long) (by decide) (by decide)))
  have F_nextPaymentTime_xa := F_nextPaymentTime_xa.other W3 (Or.inr (slot_ne (Or.inr (hw _ (List.mem_of_getElem? (i := 45) rfl))) (Or.inr (hw _ (List.mem_of_getElem? (i := 43) rfl))) (by decide) (t := .long) (t' := .long) (by decide) (by decide)))
  have F_autoRenewing_xa := F_autoRenewing_xa.other W3 (Or.inr (slot_ne (Or.inr (hw _ (List.mem_of_getElem? (i := 47) rfl))) (Or.inr (hw _ (List.mem_of_getElem? (i := 43) rfl))) (by decide) (t := .boolean) (t' := .long) (by decide) (by decide)))
  have F_cancelReason_xa := F_cancelReason_xa.other W3 (Or.inr (slot_ne (Or.inr (hw _ (List.mem_of_getElem? (i := 49) rfl))) (Or.inr (hw _ (List.mem_of_getElem? (i := 43) rfl))) (by decide) (t := .int) (t' := .long) (by decide) (by decide)))
  have F_cancelledTime_xa := F_cancelledTime_xa.other W3 (Or.inr (slot_ne (Or.inr (hw _ (List.mem_of_getElem? (i := 51) rfl))) (Or.inr (hw _ (List.mem_of_getElem? (i := 43) rfl))) (by decide) (t := .long) (t' := .long) (by decide) (by decide)))
  have F_acknowledgeState_xa := F_acknowledgeState_xa.other W3 (Or.inr (slot_ne (Or.inr (hw _ (List.mem_of_getElem? (i := 53) rfl))) (Or.inr (hw _ (List.mem_of_getElem? (i := 43) rfl))) (by decide) (t := .int) (t' := .long) (by decide) (by decide)))
  have F_lastPurchaseId_xa := F_lastPurchaseId_xa.other W3 (Or.inr (slot_ne (Or.inr (hw _ (List.mem_of_getElem? (i := 63) rfl))) (Or.inr (hw _ (List.mem_of_getElem? (i := 43) rfl))) (by decide) (t := (.object "java/lang/String")) (t' := .long) (by decide) (by decide)))
  have F_lastPurchaseState_xa := F_lastPurchaseState_xa.other W3 (Or.inr (slot_ne (Or.inr (hw _ (List.mem_of_getElem? (i := 65) rfl))) (Or.inr (hw _ (List.mem_of_getElem? (i := 43) rfl))) (by decide) (t := .int) (t' := .long) (by decide) (by decide)))
  have F_market_xa := F_market_xa.other W3 (Or.inr (slot_ne (Or.inr (hw _ (List.mem_of_getElem? (i := 70) rfl))) (Or.inr (hw _ (List.mem_of_getElem? (i := 43) rfl))) (by decide) (t := (.object "com/example/arvi/arvi/model/Market")) (t' := .long) (by decide) (by decide)))
  have E_xs := E_xs.wr W3
  have E_xk := E_xk.wr W3
  have O0 := O0.wr W3 g_xa
  have hk := Nat.le_trans hk (Keep.of_wr W3).1
  have K0 := K0.wr W3 (Or.inl (List.mem_of_getElem? (i := 0) rfl))
  have N3 := Fr.snoc X3 N2 g_xa
  refine Goes.to (T' := T3.setTop (mkF m 14 #[.val (.ref xa), .val (.long q1), .second, .val (.long q2), .second, .val (.long q3), .second, .val (.int p4), .val (.int p5), .val (.long q6), .second, .val (.int p7), .val (.ref xs), .val (.int p9), .val (.ref xk)] [])) st3 ?_
  refine Goes.to (T' := T3.setTop (mkF m 15 #[.val (.ref xa), .val (.long q1), .second, .val (.long q2), .second, .val (.long q3), .second, .val (.int p4), .val (.int p5), .val (.long q6), .second, .val (.int p7), .val (.ref xs), .val (.int p9), .val (.ref xk)] [(.ref xa)])) (fun t k => XS.aloadN X3.here hx rfl (hb hby d7_14) rfl rfl k) ?_
  refine Goes.to (T' := T3.setTop (mkF m 17 #[.val (.ref xa), .val (.long q1), .second, .val (.long q2), .second, .val (.long q3), .second, .val (.int p4), .val (.int p5), .val (.long q6), .second, .val (.int p7), .val (.ref xs), .val (.int p9), .val (.ref xk)] [(.long q3), (.ref xa)])) (fun t k => XS.lload X3.here hx rfl (hb hby d7_15) rfl k) ?_
  obtain ⟨T4, h4, X4, e4, W4, st4⟩ := putF X3 hx hZ hown (host := "") (Or.inl (hw _ (List.mem_of_getElem? (i := 44) rfl))) Via.refl e3 F_nextPaymentTime_xa E_xa (Or.inr ⟨(hw _ (List.mem_of_getElem? (i := 45) rfl)), rfl, hnm⟩) (hw _ (List.mem_of_getElem? (i := 34) rfl)) (ty := .long) (by decide) rfl rfl (g := (mkF m 17 #[.val (.ref xa), .val (.long q1), .second, .val (.long q2), .second, .val (.long q3), .second, .val (.int p4), .val (.int p5), .val (.long q6), .second, .val (.int p7), .val (.ref xs), .val (.int p9), .val (.ref xk)] [(.long q3), (.ref xa)])) rfl rfl (hb hby d7_17)
  have F_nextPaymentTime_xa := F_nextPaymentTime_xa.same W4
  have E_xa := E_xa.wr W4
  have F_startTime_xa := F_startTime_xa.other W4 (Or.inr (slot_ne (Or.inr (hw _ (List.mem_of_getElem? (i := 41) rfl))) (Or.inr (hw _ (List.mem_of_getElem? (i := 45) rfl))) (by decide) (t := .long) (t' := .long) (by decide) (by decide)))
  have F_expiryTime_xa := F_expiryTime_xa.other W4 (Or.inr (slot_ne (Or.inr (hw _ (List.mem_of_getElem? (i := 43) rfl))) (Or.inr (hw _ (List.mem_of_getElem? (i := 45) rfl))) (by decide) (t := .long) (t' := .long) (by decide) (by decide)))
  have F_autoRenewing_xa := F_autoRenewing_xa.other W4 (Or.inr (slot_ne (Or.inr (hw _ (List.mem_of_getElem? (i := 47) rfl))) (Or.inr (hw _ (List.mem_of_getElem? (i := 45) rfl))) (by decide) (t := .boolean) (t' := .long) (by decide) (by decide)))
  have F_cancelReason_xa := F_cancelReason_xa.other W4 (Or.inr (slot_ne (Or.inr (hw _ (List.mem_of_getElem? (i := 49) rfl))) (Or.inr (hw _ (List.mem_of_getElem? (i := 45) rfl))) (by decide) (t := .int) (t' := .long) (by decide) (by decide)))
  have F_cancelledTime_xa := F_cancelledTime_xa.other W4 (Or.inr (slot_ne (Or.inr (hw _ (List.mem_of_getElem? (i := 51) rfl))) (Or.inr (hw _ (List.mem_of_getElem? (i := 45) rfl))) (by decide) (t := .long) (t' := .long) (by decide) (by decide)))
  have F_acknowledgeState_xa := F_acknowledgeState_xa.other W4 (Or.inr (slot_ne (Or.inr (hw _ (List.mem_of_getElem? (i := 53) rfl))) (Or.inr (hw _ (List.mem_of_getElem? (i := 45) rfl))) (by decide) (t := .int) (t' := .long) (by decide) (by decide)))
  have F_lastPurchaseId_xa := F_lastPurchaseId_xa.other W4 (Or.inr (slot_ne (Or.inr (hw _ (List.mem_of_getElem? (i := 63) rfl))) (Or.inr (hw _ (List.mem_of_getElem? (i := 45) rfl))) (by decide) (t := (.object "java/lang/String")) (t' := .long) (by decide) (by decide)))
  have F_lastPurchaseState_xa := F_lastPurchaseState_xa.other W4 (Or.inr (slot_ne (Or.inr (hw _ (List.mem_of_getElem? (i := 65) rfl))) (Or.inr (hw _ (List.mem_of_getElem? (i := 45) rfl))) (by decide) (t := .int) (t' := .long) (by decide) (by decide)))
  have F_market_xa := F_market_xa.other W4 (Or.inr (slot_ne (Or.inr (hw _ (List.mem_of_getElem? (i := 70) rfl))) (Or.inr (hw _ (List.mem_of_getElem? (i := 45) rfl))) (by decide) (t := (.object "com/example/arvi/arvi/model/Market")) (t' := .long) (by decide) (by decide)))
  have E_xs := E_xs.wr W4
  have E_xk := E_xk.wr W4
  have O0 := O0.wr W4 g_xa
  have hk := Nat.le_trans hk (Keep.of_wr W4).1
  have K0 := K0.wr W4 (Or.inl (List.mem_of_getElem? (i := 0) rfl))
  have N4 := Fr.snoc X4 N3 g_xa
  refine Goes.to (T' := T4.setTop (mkF m 20 #[.val (.ref xa), .val (.long q1), .second, .val (.long q2), .second, .val (.long q3), .second, .val (.int p4), .val (.int p5), .val (.long q6), .second, .val (.int p7), .val (.ref xs), .val (.int p9), .val (.ref xk)] [])) st4 ?_
  refine Goes.to (T' := T4.setTop (mkF m 21 #[.val (.ref xa), .val (.long q1), .second, .val (.long q2), .second, .val (.long q3), .second, .val (.int p4), .val (.int p5), .val (.long q6), .second, .val (.int p7), .val (.ref xs), .val (.int p9), .val (.ref xk)] [(.ref xa)])) (fun t k => XS.aloadN X4.here hx rfl (hb hby d7_20) rfl rfl k) ?_
  refine Goes.to (T' := T4.setTop (mkF m 23 #[.val (.ref xa), .val (.long q1), .second, .val (.long q2), .second, .val (.long q3), .second, .val (.int p4), .val (.int p5), .val (.long q6), .second, .val (.int p7), .val (.ref xs), .val (.int p9), .val (.ref xk)] [(.int p4), (.ref xa)])) (fun t k => XS.iload X4.here hx rfl (hb hby d7_21) rfl k) ?_
  obtain ⟨T5, h5, X5, e5, W5, st5⟩ := putFN X4 hx hZ hown (hw _ (List.mem_of_getElem? (i := 46) rfl)) Via.refl e4 F_autoRenewing_xa E_xa (Or.inr ⟨(hw _ (List.mem_of_getElem? (i := 47) rfl)), rfl, hnm⟩) (hw _ (List.mem_of_getElem? (i := 34) rfl)) (ty := .boolean) (v' := (.int (nar .boolean p4))) (by decide) rfl (fits_nar_bool _) (g := (mkF m 23 #[.val (.ref xa), .val (.long q1), .second, .val (.long q2), .second, .val (.long q3), .second, .val (.int p4), .val (.int p5), .val (.long q6), .second, .val (.int p7), .val (.ref xs), .val (.int p9), .val (.ref xk)] [(.int p4), (.ref xa)])) rfl rfl (hb hby d7_23)
  have F_autoRenewing_xa := F_autoRenewing_xa.same W5
  have E_xa := E_xa.wr W5
  have F_startTime_xa := F_startTime_xa.other W5 (Or.inr (slot_ne (Or.inr (hw _ (List.mem_of_getElem? (i := 41) rfl))) (Or.inr (hw _ (List.mem_of_getElem? (i := 47) rfl))) (by decide) (t := .long) (t' := .boolean) (by decide) (by decide)))
  have F_expiryTime_xa := F_expiryTime_xa.other W5 (Or.inr (slot_ne (Or.inr (hw _ (List.mem_of_getElem? (i := 43) rfl))) (Or.inr (hw _ (List.mem_of_getElem? (i := 47) rfl))) (by decide) (t := .long) (t' := .boolean) (by decide) (by decide)))
  have F_nextPaymentTime_xa := F_nextPaymentTime_xa.other W5 (Or.inr (slot_ne (Or.inr (hw _ (List.mem_of_getElem? (i := 45) rfl))) (Or.inr (hw _ (List.mem_of_getElem? (i := 47) rfl))) (by decide) (t := .long) (t' := .boolean) (by decide) (by decide)))
  have F_cancelReason_xa := F_cancelReason_xa.other W5 (Or.inr (slot_ne (Or.inr (hw _ (List.mem_of_getElem? (i := 49) rfl))) (Or.inr (hw _ (List.mem_of_getElem? (i := 47) rfl))) (by decide) (t := .int) (t' := .boolean) (by decide) (by decide)))
  have F_cancelledTime_xa := F_cancelledTime_xa.other W5 (Or.inr (slot_ne (Or.inr (hw _ (List.mem_of_getElem? (i := 51) rfl))) (Or.inr (hw _ (List.mem_of_getElem? (i := 47) rfl))) (by decide) (t := .long) (t' := .boolean) (by decide) (by decide)))
  have F_acknowledgeState_xa := F_acknowledgeState_xa.other W5 (Or.inr (slot_ne (Or.inr (hw _ (List.mem_of_getElem? (i := 53) rfl))) (Or.inr (hw _ (List.mem_of_getElem? (i := 47) rfl))) (by decide) (t := .int) (t' := .boolean) (by decide) (by decide)))
  have F_lastPurchaseId_xa := F_lastPurchaseId_xa.other W5 (Or.inr (slot_ne (Or.inr (hw _ (List.mem_of_getElem? (i := 63) rfl))) (Or.inr (hw _ (List.mem_of_getElem? (i := 47) rfl))) (by decide) (t := (.object "java/lang/String")) (t' := .boolean) (by decide) (by decide)))
  have F_lastPurchaseState_xa := F_lastPurchaseState_xa.other W5 (Or.inr (slot_ne (Or.inr (hw _ (List.mem_of_getElem? (i := 65) rfl))) (Or.inr (hw _ (List.mem_of_getElem? (i := 47) rfl))) (by decide) (t := .int) (t' := .boolean) (by decide) (by decide)))
  have F_market_xa := F_market_xa.other W5 (Or.inr (slot_ne (Or.inr (hw _ (List.mem_of_getElem? (i := 70) rfl))) (Or.inr (hw _ (List.mem_of_getElem? (i := 47) rfl))) (by decide) (t := (.object "com/example/arvi/arvi/model/Market")) (t' := .boolean) (by decide) (by decide)))
  have E_xs := E_xs.wr W5
  have E_xk := E_xk.wr W5
  have O0 := O0.wr W5 g_xa
  have hk := Nat.le_trans hk (Keep.of_wr W5).1
  have K0 := K0.wr W5 (Or.inl (List.mem_of_getElem? (i := 0) rfl))
  have N5 := Fr.snoc X5 N4 g_xa
  refine Goes.to (T' := T5.setTop (mkF m 26 #[.val (.ref xa), .val (.long q1), .second, .val (.long q2), .second, .val (.long q3), .second, .val (.int p4), .val (.int p5), .val (.long q6), .second, .val (.int p7), .val (.ref xs), .val (.int p9), .val (.ref xk)] [])) st5 ?_
  refine Goes.to (T' := T5.setTop (mkF m 27 #[.val (.ref xa), .val (.long q1), .second, .val (.long q2), .second, .val (.long q3), .second, .val (.int p4), .val (.int p5), .val (.long q6), .second, .val (.int p7), .val (.ref xs), .val (.int p9), .val (.ref xk)] [(.ref xa)])) (fun t k => XS.aloadN X5.here hx rfl (hb hby d7_26) rfl rfl k) ?_
  refine Goes.to (T' := T5.setTop (mkF m 29 #[.val (.ref xa), .val (.long q1), .second, .val (.long q2), .second, .val (.long q3), .second, .val (.int p4), .val (.int p5), .val (.long q6), .second, .val (.int p7), .val (.ref xs), .val (.int p9), .val (.ref xk)] [(.int p5), (.ref xa)])) (fun t k => XS.iload X5.here hx rfl (hb hby d7_27) rfl k) ?_
  obtain ⟨T6, h6, X6, e6, W6, st6⟩ := putF X5 hx hZ hown (host := "") (Or.inl (hw _ (List.mem_of_getElem? (i := 48) rfl))) Via.refl e5 F_cancelReason_xa E_xa (Or.inr ⟨(hw _ (List.mem_of_getElem? (i := 49) rfl)), rfl, hnm⟩) (hw _ (List.mem_of_getElem? (i := 34) rfl)) (ty := .int) (by decide) rfl rfl (g := (mkF m 29 #[.val (.ref xa), .val (.long q1), .second, .val (.long q2), .second, .val (.long q3), .second, .val (.int p4), .val (.int p5), .val (.long q6), .second, .val (.int p7), .val (.ref xs), .val (.int p9), .val (.ref xk)] [(.int p5), (.ref xa)])) rfl rfl (hb hby d7_29)
  have F_cancelReason_xa := F_cancelReason_xa.same W6
  have E_xa := E_xa.wr W6
  have F_startTime_xa := F_startTime_xa.other W6 (Or.inr (slot_ne (Or.inr (hw _ (List.mem_of_getElem? (i := 41) rfl))) (Or.inr (hw _ (List.mem_of_getElem? (i := 49) rfl))) (by decide) (t := .long) (t' := .int) (by decide) (by decide)))
  have F_expiryTime_xa := F_expiryTime_xa.other W6 (Or.inr (slot_ne (Or.inr (hw _ (List.mem_of_getElem? (i := 43) rfl))) (Or.inr (hw _ (List.mem_of_getElem? (i := 49) rfl))) (by decide) (t := .long) (t' := .int) (by decide) (by decide)))
  have F_nextPaymentTime_xa := F_nextPaymentTime_xa.other W6 (Or.inr (slot_ne (Or.inr (hw _ (List.mem_of_getElem? (i := 45) rfl))) (Or.inr (hw _ (List.mem_of_getElem? (i := 49) rfl))) (by decide) (t := .long) (t' := .int) (by decide) (by decide)))
  have F_autoRenewing_xa := F_autoRenewing_xa.other W6 (Or.inr (slot_ne (Or.inr (hw _ (List.mem_of_getElem? (i := 47) rfl))) (Or.inr (hw _ (List.mem_of_getElem? (i := 49) rfl))) (by decide) (t := .boolean) (t' := .int) (by decide) (by decide)))
  have F_cancelledTime_xa := F_cancelledTime_xa.other W6 (Or.inr (slot_ne (Or.inr (hw _ (List.mem_of_getElem? (i := 51) rfl))) (Or.inr (hw _ (List.mem_of_getElem? (i := 49) rfl))) (by decide) (t := .long) (t' := .int) (by decide) (by decide)))
  have F_acknowledgeState_xa := F_acknowledgeState_xa.other W6 (Or.inr (slot_ne (Or.inr (hw _ (List.mem_of_getElem? (i := 53) rfl))) (Or.inr (hw _ (List.mem_of_getElem? (i := 49) rfl))) (by decide) (t := .int) (t' := .int) (by decide) (by decide)))
  have F_lastPurchaseId_xa := F_lastPurchaseId_xa.other W6 (Or.inr (slot_ne (Or.inr (hw _ (List.mem_of_getElem? (i := 63) rfl))) (Or.inr (hw _ (List.mem_of_getElem? (i := 49) rfl))) (by decide) (t := (.object "java/lang/String")) (t' := .int) (by decide) (by decide)))
  have F_lastPurchaseState_xa := F_lastPurchaseState_xa.other W6 (Or.inr (slot_ne (Or.inr (hw _ (List.mem_of_getElem? (i := 65) rfl))) (Or.inr (hw _ (List.mem_of_getElem? (i := 49) rfl))) (by decide) (t := .int) (t' := .int) (by decide) (by decide)))
  have F_market_xa := F_market_xa.other W6 (Or.inr (slot_ne (Or.inr (hw _ (List.mem_of_getElem? (i := 70) rfl))) (Or.inr (hw _ (List.mem_of_getElem? (i := 49) rfl))) (by decide) (t := (.object "com/example/arvi/arvi/model/Market")) (t' := .int) (by decide) (by decide)))
  have E_xs := E_xs.wr W6
  have E_xk := E_xk.wr W6
  have O0 := O0.wr W6 g_xa
  have hk := Nat.le_trans hk (Keep.of_wr W6).1
  have K0 := K0.wr W6 (Or.inl (List.mem_of_getElem? (i := 0) rfl))
  have N6 := Fr.snoc X6 N5 g_xa
  refine Goes.to (T' := T6.setTop (mkF m 32 #[.val (.ref xa), .val (.long q1), .second, .val (.long q2), .second, .val (.long q3), .second, .val (.int p4), .val (.int p5), .val (.long q6), .second, .val (.int p7), .val (.ref xs), .val (.int p9), .val (.ref xk)] [])) st6 ?_
  refine Goes.to (T' := T6.setTop (mkF m 33 #[.val (.ref xa), .val (.long q1), .second, .val (.long q2), .second, .val (.long q3), .second, .val (.int p4), .val (.int p5), .val (.long q6), .second, .val (.int p7), .val (.ref xs), .val (.int p9), .val (.ref xk)] [(.ref xa)])) (fun t k => XS.aloadN X6.here hx rfl (hb hby d7_32) rfl rfl k) ?_
  refine Goes.to (T' := T6.setTop (mkF m 35 #[.val (.ref xa), .val (.long q1), .second, .val (.long q2), .second, .val (.long q3), .second, .val (.int p4), .val (.int p5), .val (.long q6), .second, .val (.int p7), .val (.ref xs), .val (.int p9), .val (.ref xk)] [(.long q6), (.ref xa)])) (fun t k => XS.lload X6.here hx rfl (hb hby d7_33) rfl k) ?_
  obtain ⟨T7, h7, X7, e7, W7, st7⟩ := putF X6 hx hZ hown (host := "") (Or.inl (hw _ (List.mem_of_getElem? (i := 50) rfl))) Via.refl e6 F_cancelledTime_xa E_xa (Or.inr ⟨(hw _ (List.mem_of_getElem? (i := 51) rfl)), rfl, hnm⟩) (hw _ (List.mem_of_getElem? (i := 34) rfl)) (ty := .long) (by decide) rfl rfl (g := (mkF m 35 #[.val (.ref xa), .val (.long q1), .second, .val (.long q2), .second, .val (.long q3), .second, .val (.int p4), .val (.int p5), .val (.long q6), .second, .val (.int p7), .val (.ref xs), .val (.int p9), .val (.ref xk)] [(.long q6), (.ref xa)])) rfl rfl (hb hby d7_35)
  have F_cancelledTime_xa := F_cancelledTime_xa.same W7
  have E_xa := E_xa.wr W7
  have F_startTime_xa := F_startTime_xa.other W7 (Or.inr (slot_ne (Or.inr (hw _ (List.mem_of_getElem? (i := 41) rfl))) (Or.inr (hw _ (List.mem_of_getElem? (i := 51) rfl))) (by decide) (t := .long) (t' := .long) (by decide) (by decide)))
  have F_expiryTime_xa := F_expiryTime_xa.other W7 (Or.inr (slot_ne (Or.inr (hw _ (List.mem_of_getElem? (i := 43) rfl))) (Or.inr (hw _ (List.mem_of_getElem? (i := 51) rfl))) (by decide) (t := .long) (t' := .long) (by decide) (by decide)))
  have F_nextPaymentTime_xa := F_nextPaymentTime_xa.other W7 (Or.inr (slot_ne (Or.inr (hw _ (List.mem_of_getElem? (i := 45) rfl))) (Or.inr (hw _ (List.mem_of_getElem? (i := 51) rfl))) (by decide) (t := .long) (t' := .long) (by decide) (by decide)))
  have F_autoRenewing_xa := F_autoRenewing_xa.other W7 (Or.inr (slot_ne (Or.inr (hw _ (List.mem_of_getElem? (i := 47) rfl))) (Or.inr (hw _ (List.mem_of_getElem? (i := 51) rfl))) (by decide) (t := .boolean) (t' := .long) (by decide) (by decide)))
  have F_cancelReason_xa := F_cancelReason_xa.other W7 (Or.inr (slot_ne (Or.inr (hw _ (List.mem_of_getElem? (i := 49) rfl))) (Or.inr (hw _ (List.mem_of_getElem? (i := 51) rfl))) (by decide) (t := .int) (t' := .long) (by decide) (by decide)))
  have F_acknowledgeState_xa := F_acknowledgeState_xa.other W7 (Or.inr (slot_ne (Or.inr (hw _ (List.mem_of_getElem? (i := 53) rfl))) (Or.inr (hw _ (List.mem_of_getElem? (i := 51) rfl))) (by decide) (t := .int) (t' := .long) (by decide) (by decide)))
  have F_lastPurchaseId_xa := F_lastPurchaseId_xa.other W7 (Or.inr (slot_ne (Or.inr (hw _ (List.mem_of_getElem? (i := 63) rfl))) (Or.inr (hw _ (List.mem_of_getElem? (i := 51) rfl))) (by decide) (t := (.object "java/lang/String")) (t' := .long) (by decide) (by decide)))
  have F_lastPurchaseState_xa := F_lastPurchaseState_xa.other W7 (Or.inr (slot_ne (Or.inr (hw _ (List.mem_of_getElem? (i := 65) rfl))) (Or.inr (hw _ (List.mem_of_getElem? (i := 51) rfl))) (by decide) (t := .int) (t' := .long) (by decide) (by decide)))
  have F_market_xa := F_market_xa.other W7 (Or.inr (slot_ne (Or.inr (hw _ (List.mem_of_getElem? (i := 70) rfl))) (Or.inr (hw _ (List.mem_of_getElem? (i := 51) rfl))) (by decide) (t := (.object "com/example/arvi/arvi/model/Market")) (t' := .long) (by decide) (by decide)))
  have E_xs := E_xs.wr W7
  have E_xk := E_xk.wr W7
  have O0 := O0.wr W7 g_xa
  have hk := Nat.le_trans hk (Keep.of_wr W7).1
  have K0 := K0.wr W7 (Or.inl (List.mem_of_getElem? (i := 0) rfl))
  have N7 := Fr.snoc X7 N6 g_xa
  refine Goes.to (T' := T7.setTop (mkF m 38 #[.val (.ref xa), .val (.long q1), .second, .val (.long q2), .second, .val (.long q3), .second, .val (.int p4), .val (.int p5), .val (.long q6), .second, .val (.int p7), .val (.ref xs), .val (.int p9), .val (.ref xk)] [])) st7 ?_
  refine Goes.to (T' := T7.setTop (mkF m 39 #[.val (.ref xa), .val (.long q1), .second, .val (.long q2), .second, .val (.long q3), .second, .val (.int p4), .val (.int p5), .val (.long q6), .second, .val (.int p7), .val (.ref xs), .val (.int p9), .val (.ref xk)] [(.ref xa)])) (fun t k => XS.aloadN X7.here hx rfl (hb hby d7_38) rfl rfl k) ?_
  refine Goes.to (T' := T7.setTop (mkF m 41 #[.val (.ref xa), .val (.long q1), .second, .val (.long q2), .second, .val (.long q3), .second, .val (.int p4), .val (.int p5), .val (.long q6), .second, .val (.int p7), .val (.ref xs), .val (.int p9), .val (.ref xk)] [(.int p7), (.ref xa)])) (fun t k => XS.iload X7.here hx rfl (hb hby d7_39) rfl k) ?_
  obtain ⟨T8, h8, X8, e8, W8, st8⟩ := putF X7 hx hZ hown (host := "") (Or.inl (hw _ (List.mem_of_getElem? (i := 52) rfl))) Via.refl e7 F_acknowledgeState_xa E_xa (Or.inr ⟨(hw _ (List.mem_of_getElem? (i := 53) rfl)), rfl, hnm⟩) (hw _ (List.mem_of_getElem? (i := 34) rfl)) (ty := .int) (by decide) rfl rfl (g := (mkF m 41 #[.val (.ref xa), .val (.long q1), .second, .val (.long q2), .second, .val (.long q3), .second, .val (.int p4), .val (.int p5), .val (.long q6), .second, .val (.int p7), .val (.ref xs), .val (.int p9), .val (.ref xk)] [(.int p7), (.ref xa)])) rfl rfl (hb hby d7_41)
  have F_acknowledgeState_xa := F_acknowledgeState_xa.same W8
  have E_xa := E_xa.wr W8
  have F_startTime_xa := F_startTime_xa.other W8 (Or.inr (slot_ne (Or.inr (hw _ (List.mem_of_getElem? (i := 41) rfl))) (Or.inr (hw _ (List.mem_of_getElem? (i := 53) rfl))) (by decide) (t := .long) (t' := .int) (by decide) (by decide)))
  have F_expiryTime_xa := F_expiryTime_xa.other W8 (Or.inr (slot_ne (Or.inr (hw _ (List.mem_of_getElem? (i := 43) rfl))) (Or.inr (hw _ (List.mem_of_getElem? (i := 53) rfl))) (by decide) (t := .long) (t' := .int) (by decide) (by decide)))
  have F_nextPaymentTime_xa := F_nextPaymentTime_xa.other W8 (Or.inr (slot_ne (Or.inr (hw _ (List.mem_of_getElem? (i := 45) rfl))) (Or.inr (hw _ (List.mem_of_getElem? (i := 53) rfl))) (by decide) (t := .long) (t' := .int) (by decide) (by decide)))
  have F_autoRenewing_xa := F_autoRenewing_xa.other W8 (Or.inr (slot_ne (Or.inr (hw _ (List.mem_of_getElem? (i := 47) rfl))) (Or.inr (hw _ (List.mem_of_getElem? (i := 53) rfl))) (by decide) (t := .boolean) (t' := .int) (by decide) (by decide)))
  have F_cancelReason_xa := F_cancelReason_xa.other W8 (Or.inr (slot_ne (Or.inr (hw _ (List.mem_of_getElem? (i := 49) rfl))) (Or.inr (hw _ (List.mem_of_getElem? (i := 53) rfl))) (by decide) (t := .int) (t' := .int) (by decide) (by decide)))
  have F_cancelledTime_xa := F_cancelledTime_xa.other W8 (Or.inr (slot_ne (Or.inr (hw _ (List.mem_of_getElem? (i := 51) rfl))) (Or.inr (hw _ (List.mem_of_getElem? (i := 53) rfl))) (by decide) (t := .long) (t' := .int) (by decide) (by decide)))
  have F_lastPurchaseId_xa := F_lastPurchaseId_xa.other W8 (Or.inr (slot_ne (Or.inr (hw _ (List.mem_of_getElem? (i := 63) rfl))) (Or.inr (hw _ (List.mem_of_getElem? (i := 53) rfl))) (by decide) (t := (.object "java/lang/String")) (t' := .int) (by decide) (by decide)))
  have F_lastPurchaseState_xa := F_lastPurchaseState_xa.other W8 (Or.inr (slot_ne (Or.inr (hw _ (List.mem_of_getElem? (i := 65) rfl))) (Or.inr (hw _ (List.mem_of_getElem? (i := 53) rfl))) (by decide) (t := .int) (t' := .int) (by decide) (by decide)))
  have F_market_xa := F_market_xa.other W8 (Or.inr (slot_ne (Or.inr (hw _ (List.mem_of_getElem? (i := 70) rfl))) (Or.inr (hw _ (List.mem_of_getElem? (i := 53) rfl))) (by decide) (t := (.object "com/example/arvi/arvi/model/Market")) (t' := .int) (by decide) (by decide)))
  have E_xs := E_xs.wr W8
  have E_xk := E_xk.wr W8
  have O0 := O0.wr W8 g_xa
  have hk := Nat.le_trans hk (Keep.of_wr W8).1
  have K0 := K0.wr W8 (Or.inl (List.mem_of_getElem? (i := 0) rfl))
  have N8 := Fr.snoc X8 N7 g_xa
  refine Goes.to (T' := T8.setTop (mkF m 44 #[.val (.ref xa), .val (.long q1), .second, .val (.long q2), .second, .val (.long q3), .second, .val (.int p4), .val (.int p5), .val (.long q6), .second, .val (.int p7), .val (.ref xs), .val (.int p9), .val (.ref xk)] [])) st8 ?_
  refine Goes.to (T' := T8.setTop (mkF m 45 #[.val (.ref xa), .val (.long q1), .second, .val (.long q2), .second, .val (.long q3), .second, .val (.int p4), .val (.int p5), .val (.long q6), .second, .val (.int p7), .val (.ref xs), .val (.int p9), .val (.ref xk)] [(.ref xa)])) (fun t k => XS.aloadN X8.here hx rfl (hb hby d7_44) rfl rfl k) ?_
  refine Goes.to (T' := T8.setTop (mkF m 47 #[.val (.ref xa), .val (.long q1), .second, .val (.long q2), .second, .val (.long q3), .second, .val (.int p4), .val (.int p5), .val (.long q6), .second, .val (.int p7), .val (.ref xs), .val (.int p9), .val (.ref xk)] [(.ref xs), (.ref xa)])) (fun t k => XS.aload X8.here hx rfl (hb hby d7_45) rfl rfl k) ?_
  obtain ⟨b9, T9, h9, kS9, X9, e9, E9, hS, hk, hZ, hown, st9⟩ := ldcS X8 hx hZ hown (hw _ (List.mem_of_getElem? (i := 54) rfl)) own_strw e8 hS hk (g := (mkF m 47 #[.val (.ref xa), .val (.long q1), .second, .val (.long q2), .second, .val (.long q3), .second, .val (.int p4), .val (.int p5), .val (.long q6), .second, .val (.int p7), .val (.ref xs), .val (.int p9), .val (.ref xk)] [(.ref xs), (.ref xa)])) rfl (hb hby d7_47) (n := 56) (by decide) (by decide) (by decide) (by decide)
  have E_xa := E_xa.ext E9
  have F_startTime_xa := F_startTime_xa.ext E9
  have F_expiryTime_xa := F_expiryTime_xa.ext E9
  have F_nextPaymentTime_xa := F_nextPaymentTime_xa.ext E9
  have F_autoRenewing_xa := F_autoRenewing_xa.ext E9
  have F_cancelReason_xa := F_cancelReason_xa.ext E9
  have F_cancelledTime_xa := F_cancelledTime_xa.ext E9
  have F_acknowledgeState_xa := F_acknowledgeState_xa.ext E9
  have F_lastPurchaseId_xa := F_lastPurchaseId_xa.ext E9
  have F_lastPurchaseState_xa := F_lastPurchaseState_xa.ext E9
  have F_market_xa := F_market_xa.ext E9
  have E_xs := E_xs.ext E9
  have E_xk := E_xk.ext E9
  have O0 := O0.ext E9
  have K0 := K0.ext E9
  refine Goes.to (T' := T9.setTop (mkF m 49 #[.val (.ref xa), .val (.long q1), .second, .val (.long q2), .second, .val (.long q3), .second, .val (.int p4), .val (.int p5), .val (.long q6), .second, .val (.int p7), .val (.ref xs), .val (.int p9), .val (.ref xk)] [(.ref b9), (.ref xs), (.ref xa)])) st9 ?_
  obtain ⟨_, _, ⟨T10, L10, k10, n10⟩, -, X10, ⟨Lc10, hQ10, l10, y10, z10⟩, st10⟩ := Jvm.LawKit.callS X9 hx (y := (⟨"java/util/Objects", "requireNonNull", "(Ljava/lang/Object;Ljava/lang/String;)Ljava/lang/Object;"⟩ : MethodName)) hown (mvT hZ (hw _ (List.mem_of_getElem? (i := 57) rfl))) (mvT hZ (hw _ (List.mem_of_getElem? (i := 58) rfl))) (mvT hZ (hw _ (List.mem_of_getElem? (i := 59) rfl))) (mvT hZ (hw _ (List.mem_of_getElem? (i := 60) rfl))) (by decide) (backOf (W := 1) (rmQ l Z a0 hw [] xs b9 w_Market_MKT_GLB w_Market_MKT_ONE z_cs  h9 n0 O0 NF ) hZ (hw _ (List.mem_of_getElem? (i := 60) rfl)) (hw _ (List.mem_of_getElem? (i := 59) rfl)) (by decide) (by decide)) (g := (mkF m 49 #[.val (.ref xa), .val (.long q1), .second, .val (.long q2), .second, .val (.long q3), .second, .val (.int p4), .val (.int p5), .val (.long q6), .second, .val (.int p7), .val (.ref xs), .val (.int p9), .val (.ref xk)] [(.ref b9), (.ref xs), (.ref xa)])) rfl (by rw [hml]; rfl) (argsL := [(.ref xs), (.ref b9)]) (rest := [(.ref xa)]) (lenOf pd_5 rfl) rfl (by show 2 * 0 + _ ≤ _; exact Nat.le_of_eq rfl) (hb hby d7_49) (fun _ _ => ⟨rfl, e9, (by decide : 2 + 0 ≤ _), (by decide : 60 + 0 ≤ _)⟩)
  dsimp only [Pt.U, Pt.locs, Pt.cells, Pt.slots] at X10 l10 y10 z10 st10 hQ10
  subst l10 y10 z10
  obtain ⟨rfl, Nq10, e10⟩ := hQ10
  have N10 := Fr.app N8 Nq10
  refine Goes.to (T' := T10.setTop (mkF m 52 #[.val (.ref xa), .val (.long q1), .second, .val (.long q2), .second, .val (.long q3), .second, .val (.int p4), .val (.int p5), .val (.long q6), .second, .val (.int p7), .val (.ref xs), .val (.int p9), .val (.ref xk)] [(.ref xs), (.ref xa)])) st10 ?_
  obtain ⟨T11, X11, e11, st11⟩ := castY X10 hx hZ hown (hw _ (List.mem_of_getElem? (i := 61) rfl)) e10 (Ins.self E_xs) (g := (mkF m 52 #[.val (.ref xa), .val (.long q1), .second, .val (.long q2), .second, .val (.long q3), .second, .val (.int p4), .val (.int p5), .val (.long q6), .second, .val (.int p7), .val (.ref xs), .val (.int p9), .val (.ref xk)] [(.ref xs), (.ref xa)])) rfl rfl (hb hby d7_52)
  refine Goes.to (T' := T11.setTop (mkF m 55 #[.val (.ref xa), .val (.long q1), .second, .val (.long q2), .second, .val (.long q3), .second, .val (.int p4), .val (.int p5), .val (.long q6), .second, .val (.int p7), .val (.ref xs), .val (.int p9), .val (.ref xk)] [(.ref xs), (.ref xa)])) st11 ?_
  obtain ⟨T12, h12, X12, e12, W12, st12⟩ := putF X11 hx hZ hown (host := "") (Or.inl (hw _ (List.mem_of_getElem? (i := 62) rfl))) Via.refl e11 F_lastPurchaseId_xa E_xa (Or.inr ⟨(hw _ (List.mem_of_getElem? (i := 63) rfl)), rfl, hnm⟩) (hw _ (List.mem_of_getElem? (i := 34) rfl)) (ty := (.object "java/lang/String")) (by decide) rfl rfl (g := (mkF m 55 #[.val (.ref xa), .val (.long q1), .second, .val (.long q2), .second, .val (.long q3), .second, .val (.int p4), .val (.int p5), .val (.long q6), .second, .val (.int p7), .val (.ref xs), .val (.int p9), .val (.ref xk)] [(.ref xs), (.ref xa)])) rfl rfl (hb hby d7_55)
  have F_lastPurchaseId_xa := F_lastPurchaseId_xa.same W12
  have E_xa := E_xa.wr W12
  have F_startTime_xa := F_startTime_xa.other W12 (Or.inr (slot_ne (Or.inr (hw _ (List.mem_of_getElem? (i := 41) rfl))) (Or.inr (hw _ (List.mem_of_getElem? (i := 63) rfl))) (by decide) (t := .long) (t' := (.object "java/lang/String")) (by decide) (by decide)))
  have F_expiryTime_xa := F_expiryTime_xa.other W12 (Or.inr (slot_ne (Or.inr (hw _ (List.mem_of_getElem? (i := 43) rfl))) (Or.inr (hw _ (List.mem_of_getElem? (i := 63) rfl))) (by decide) (t := .long) (t' := (.object "java/lang/String")) (by decide) (by decide)))
  have F_nextPaymentTime_xa := F_nextPaymentTime_xa.other W12 (Or.inr (slot_ne (Or.inr (hw _ (List.mem_of_getElem? (i := 45) rfl))) (Or.inr (hw _ (List.mem_of_getElem? (i := 63) rfl))) (by decide) (t := .long) (t' := (.object "java/lang/String")) (by decide) (by decide)))
  have F_autoRenewing_xa := F_autoRenewing_xa.other W12 (Or.inr (slot_ne (Or.inr (hw _ (List.mem_of_getElem? (i := 47) rfl))) (Or.inr (hw _ (List.mem_of_getElem? (i := 63) rfl))) (by decide) (t := .boolean) (t' := (.object "java/lang/String")) (by decide) (by decide)))
  have F_cancelReason_xa := F_cancelReason_xa.other W12 (Or.inr (slot_ne (Or.inr (hw _ (List.mem_of_getElem? (i := 49) rfl))) (Or.inr (hw _ (List.mem_of_getElem? (i := 63) rfl))) (by decide) (t := .int) (t' := (.object "java/lang/String")) (by decide) (by decide)))
  have F_cancelledTime_xa := F_cancelledTime_xa.other W12 (Or.inr (slot_ne (Or.inr (hw _ (List.mem_of_getElem? (i := 51) rfl))) (Or.inr (hw _ (List.mem_of_getElem? (i := 63) rfl))) (by decide) (t := .long) (t' := (.object "java/lang/String")) (by decide) (by decide)))
  have F_acknowledgeState_xa := F_acknowledgeState_xa.other W12 (Or.inr (slot_ne (Or.inr (hw _ (List.mem_of_getElem? (i := 53) rfl))) (Or.inr (hw _ (List.mem_of_getElem? (i := 63) rfl))) (by decide) (t := .int) (t' := (.object "java/lang/String")) (by decide) (by decide)))
  have F_lastPurchaseState_xa := F_lastPurchaseState_xa.other W12 (Or.inr (slot_ne (Or.inr (hw _ (List.mem_of_getElem? (i := 65) rfl))) (Or.inr (hw _ (List.mem_of_getElem? (i := 63) rfl))) (by decide) (t := .int) (t' := (.object "java/lang/String")) (by decide) (by decide)))
  have F_market_xa := F_market_xa.other W12 (Or.inr (slot_ne (Or.inr (hw _ (List.mem_of_getElem? (i := 70) rfl))) (Or.inr (hw _ (List.mem_of_getElem? (i := 63) rfl))) (by decide) (t := (.object "com/example/arvi/arvi/model/Market")) (t' := (.object "java/lang/String")) (by decide) (by decide)))
  have E_xs := E_xs.wr W12
  have E_xk := E_xk.wr W12
  have O0 := O0.wr W12 g_xa
  have hk := Nat.le_trans hk (Keep.of_wr W12).1
  have K0 := K0.wr W12 (Or.inl (List.mem_of_getElem? (i := 0) rfl))
  have N12 := Fr.snoc X12 N10 g_xa
  refine Goes.to (T' := T12.setTop (mkF m 58 #[.val (.ref xa), .val (.long q1), .second, .val (.long q2), .second, .val (.long q3), .second, .val (.int p4), .val (.int p5), .val (.long q6), .second, .val (.int p7), .val (.ref xs), .val (.int p9), .val (.ref xk)] [])) st12 ?_
  refine Goes.to (T' := T12.setTop (mkF m 59 #[.val (.ref xa), .val (.long q1), .second, .val (.long q2), .second, .val (.long q3), .second, .val (.int p4), .val (.int p5), .val (.long q6), .second, .val (.int p7), .val (.ref xs), .val (.int p9), .val (.ref xk)] [(.ref xa)])) (fun t k => XS.aloadN X12.here hx rfl (hb hby d7_58) rfl rfl k) ?_
  refine Goes.to (T' := T12.setTop (mkF m 61 #[.val (.ref xa), .val (.long q1), .second, .val (.long q2), .second, .val (.long q3), .second, .val (.int p4), .val (.int p5), .val (.long q6), .second, .val (.int p7), .val (.ref xs), .val (.int p9), .val (.ref xk)] [(.int p9), (.ref xa)])) (fun t k => XS.iload X12.here hx rfl (hb hby d7_59) rfl k) ?_
  obtain ⟨T13, h13, X13, e13, W13, st13⟩ := putF X12 hx hZ hown (host := "") (Or.inl (hw _ (List.mem_of_getElem? (i := 64) rfl))) Via.refl e12 F_lastPurchaseState_xa E_xa (Or.inr ⟨(hw _ (List.mem_of_getElem? (i := 65) rfl)), rfl, hnm⟩) (hw _ (List.mem_of_getElem? (i := 34) rfl)) (ty := .int) (by decide) rfl rfl (g := (mkF m 61 #[.val (.ref xa), .val (.long q1), .second, .val (.long q2), .second, .val (.long q3), .second, .val (.int p4), .val (.int p5), .val (.long q6), .second, .val (.int p7), .val (.ref xs), .val (.int p9), .val (.ref xk)] [(.int p9), (.ref xa)])) rfl rfl (hb hby d7_61)
  have F_lastPurchaseState_xa := F_lastPurchaseState_xa.same W13
  have E_xa := E_xa.wr W13
  have F_startTime_xa := F_startTime_xa.other W13 (Or.inr (slot_ne (Or.inr (hw _ (List.mem_of_getElem? (i := 41) rfl))) (Or.inr (hw _ (List.mem_of_getElem? (i := 65) rfl))) (by decide) (t := .long) (t' := .int) (by decide) (by decide)))
  have F_expiryTime_xa := F_expiryTime_xa.other W13 (Or.inr (slot_ne (Or.inr (hw _ (List.mem_of_getElem? (i := 43) rfl))) (Or.inr (hw _ (List.mem_of_getElem? (i := 65) rfl))) (by decide) (t := .long) (t' := .int) (by decide) (by decide)))
  have F_nextPaymentTime_xa := F_nextPaymentTime_xa.other W13 (Or.inr (slot_ne (Or.inr (hw _ (List.mem_of_getElem? (i := 45) rfl))) (Or.inr (hw _ (List.mem_of_getElem? (i := 65) rfl))) (by decide) (t := .long) (t' := .int) (by decide) (by decide)))
  have F_autoRenewing_xa := F_autoRenewing_xa.other W13 (Or.inr (slot_ne (Or.inr (hw _ (List.mem_of_getElem? (i := 47) rfl))) (Or.inr (hw _ (List.mem_of_getElem? (i := 65) rfl))) (by decide) (t := .boolean) (t' := .int) (by decide) (by decide)))
  have F_cancelReason_xa := F_cancelReason_xa.other W13 (Or.inr (slot_ne (Or.inr (hw _ (List.mem_of_getElem? (i := 49) rfl))) (Or.inr (hw _ (List.mem_of_getElem? (i := 65) rfl))) (by decide) (t := .int) (t' := .int) (by decide) (by decide)))
  have F_cancelledTime_xa := F_cancelledTime_xa.other W13 (Or.inr (slot_ne (Or.inr (hw _ (List.mem_of_getElem? (i := 51) rfl))) (Or.inr (hw _ (List.mem_of_getElem? (i := 65) rfl))) (by decide) (t := .long) (t' := .int) (by decide) (by decide)))
  have F_acknowledgeState_xa := F_acknowledgeState_xa.other W13 (Or.inr (slot_ne (Or.inr (hw _ (List.mem_of_getElem? (i := 53) rfl))) (Or.inr (hw _ (List.mem_of_getElem? (i := 65) rfl))) (by decide) (t := .int) (t' := .int) (by decide) (by decide)))
  have F_lastPurchaseId_xa := F_lastPurchaseId_xa.other W13 (Or.inr (slot_ne (Or.inr (hw _ (List.mem_of_getElem? (i := 63) rfl))) (Or.inr (hw _ (List.mem_of_getElem? (i := 65) rfl))) (by decide) (t := (.object "java/lang/String")) (t' := .int) (by decide) (by decide)))
  have F_market_xa := F_market_xa.other W13 (Or.inr (slot_ne (Or.inr (hw _ (List.mem_of_getElem? (i := 70) rfl))) (Or.inr (hw _ (List.mem_of_getElem? (i := 65) rfl))) (by decide) (t := (.object "com/example/arvi/arvi/model/Market")) (t' := .int) (by decide) (by decide)))
  have E_xs := E_xs.wr W13
  have E_xk := E_xk.wr W13
  have O0 := O0.wr W13 g_xa
  have hk := Nat.le_trans hk (Keep.of_wr W13).1
  have K0 := K0.wr W13 (Or.inl (List.mem_of_getElem? (i := 0) rfl))
  have N13 := Fr.snoc X13 N12 g_xa
  refine Goes.to (T' := T13.setTop (mkF m 64 #[.val (.ref xa), .val (.long q1), .second, .val (.long q2), .second, .val (.long q3), .second, .val (.int p4), .val (.int p5), .val (.long q6), .second, .val (.int p7), .val (.ref xs), .val (.int p9), .val (.ref xk)] [])) st13 ?_
  refine Goes.to (T' := T13.setTop (mkF m 65 #[.val (.ref xa), .val (.long q1), .second, .val (.long q2), .second, .val (.long q3), .second, .val (.int p4), .val (.int p5), .val (.long q6), .second, .val (.int p7), .val (.ref xs), .val (.int p9), .val (.ref xk)] [(.ref xa)])) (fun t k => XS.aloadN X13.here hx rfl (hb hby d7_64) rfl rfl k) ?_
  refine Goes.to (T' := T13.setTop (mkF m 67 #[.val (.ref xa), .val (.long q1), .second, .val (.long q2), .second, .val (.long q3), .second, .val (.int p4), .val (.int p5), .val (.long q6), .second, .val (.int p7), .val (.ref xs), .val (.int p9), .val (.ref xk)] [(.ref xk), (.ref xa)])) (fun t k => XS.aload X13.here hx rfl (hb hby d7_65) rfl rfl k) ?_
  obtain ⟨b14, T14, h14, kS14, X14, e14, E14, hS, hk, hZ, hown, st14⟩ := ldcS X13 hx hZ hown (hw _ (List.mem_of_getElem? (i := 66) rfl)) own_strw e13 hS hk (g := (mkF m 67 #[.val (.ref xa), .val (.long q1), .second, .val (.long q2), .second, .val (.long q3), .second, .val (.int p4), .val (.int p5), .val (.long q6), .second, .val (.int p7), .val (.ref xs), .val (.int p9), .val (.ref xk)] [(.ref xk), (.ref xa)])) rfl (hb hby d7_67) (n := 24) (by decide) (by decide) (by decide) (by decide)
  have E_xa := E_xa.ext E14
  have F_startTime_xa := F_startTime_xa.ext E14
  have F_expiryTime_xa := F_expiryTime_xa.ext E14
  have F_nextPaymentTime_xa := F_nextPaymentTime_xa.ext E14
  have F_autoRenewing_xa := F_autoRenewing_xa.ext E14
  have F_cancelReason_xa := F_cancelReason_xa.ext E14
  have F_cancelledTime_xa := F_cancelledTime_xa.ext E14
  have F_acknowledgeState_xa := F_acknowledgeState_xa.ext E14
  have F_lastPurchaseId_xa := F_lastPurchaseId_xa.ext E14
  have F_lastPurchaseState_xa := F_lastPurchaseState_xa.ext E14
  have F_market_xa := F_market_xa.ext E14
  have E_xs := E_xs.ext E14
  have E_xk := E_xk.ext E14
  have O0 := O0.ext E14
  have K0 := K0.ext E14
  refine Goes.to (T' := T14.setTop (mkF m 69 #[.val (.ref xa), .val (.long q1), .second, .val (.long q2), .second, .val (.long q3), .second, .val (.int p4), .val (.int p5), .val (.long q6), .second, .val (.int p7), .val (.ref xs), .val (.int p9), .val (.ref xk)] [(.ref b14), (.ref xk), (.ref xa)])) st14 ?_
  obtain ⟨_, _, ⟨T15, L15, k15, n15⟩, -, X15, ⟨Lc15, hQ15, l15, y15, z15⟩, st15⟩ := Jvm.LawKit.callS X14 hx (y := (⟨"java/util/Objects", "requireNonNull", "(Ljava/lang/Object;Ljava/lang/String;)Ljava/lang/Object;"⟩ : MethodName)) hown (mvT hZ (hw _ (List.mem_of_getElem? (i := 57) rfl))) (mvT hZ (hw _ (List.mem_of_getElem? (i := 58) rfl))) (mvT hZ (hw _ (List.mem_of_getElem? (i := 59) rfl))) (mvT hZ (hw _ (List.mem_of_getElem? (i := 60) rfl))) (by decide) (backOf (W := 1) (rmQ l Z a0 hw [] xk b14 w_Market_MKT_GLB w_Market_MKT_ONE z_cs  h14 n0 O0 NF ) hZ (hw _ (List.mem_of_getElem? (i := 60) rfl)) (hw _ (List.mem_of_getElem? (i := 59) rfl)) (by decide) (by decide)) (g := (mkF m 69 #[.val (.ref xa), .val (.long q1), .second, .val (.long q2), .second, .val (.long q3), .second, .val (.int p4), .val (.int p5), .val (.long q6), .second, .val (.int p7), .val (.ref xs), .val (.int p9), .val (.ref xk)] [(.ref b14), (.ref xk), (.ref xa)])) rfl (by rw [hml]; rfl) (argsL := [(.ref xk), (.ref b14)]) (rest := [(.ref xa)]) (lenOf pd_5 rfl) rfl (by show 2 * 0 + _ ≤ _; exact Nat.le_of_eq rfl) (hb hby d7_69) (fun _ _ => ⟨rfl, e14, (by decide : 4 + 0 ≤ _), (by decide : 88 + 0 ≤ _)⟩)
  dsimp only [Pt.U, Pt.locs, Pt.cells, Pt.slots] at X15 l15 y15 z15 st15 hQ15
  subst l15 y15 z15
  obtain ⟨rfl, Nq15, e15⟩ := hQ15
  have N15 := Fr.app N13 Nq15
  refine Goes.to (T' := T15.setTop (mkF m 72 #[.val (.ref xa), .val (.long q1), .second, .val (.long q2), .second, .val (.long q3), .second, .val (.int p4), .val (.int p5), .val (.long q6), .second, .val (.int p7), .val (.ref xs), .val (.int p9), .val (.ref xk)] [(.ref xk), (.ref xa)])) st15 ?_
  obtain ⟨T16, X16, e16, st16⟩ := castY X15 hx hZ hown (hw _ (List.mem_of_getElem? (i := 67) rfl)) e15 (Ins.self E_xk) (g := (mkF m 72 #[.val (.ref xa), .val (.long q1), .second, .val (.long q2), .second, .val (.long q3), .second, .val (.int p4), .val (.int p5), .val (.long q6), .second, .val (.int p7), .val (.ref xs), .val (.int p9), .val (.ref xk)] [(.ref xk), (.ref xa)])) rfl rfl (hb hby d7_72)
  refine Goes.to (T' := T16.setTop (mkF m 75 #[.val (.ref xa), .val (.long q1), .second, .val (.long q2), .second, .val (.long q3), .second, .val (.int p4), .val (.int p5), .val (.long q6), .second, .val (.int p7), .val (.ref xs), .val (.int p9), .val (.ref xk)] [(.ref xk), (.ref xa)])) st16 ?_
  obtain ⟨T17, h17, X17, e17, W17, st17⟩ := putF X16 hx hZ hown (host := "") (Or.inl (hw _ (List.mem_of_getElem? (i := 69) rfl))) Via.refl e16 F_market_xa E_xa (Or.inr ⟨(hw _ (List.mem_of_getElem? (i := 70) rfl)), rfl, hnm⟩) (hw _ (List.mem_of_getElem? (i := 34) rfl)) (ty := (.object "com/example/arvi/arvi/model/Market")) (by decide) rfl rfl (g := (mkF m 75 #[.val (.ref xa), .val (.long q1), .second, .val (.long q2), .second, .val (.long q3), .second, .val (.int p4), .val (.int p5), .val (.long q6), .second, .val (.int p7), .val (.ref xs), .val (.int p9), .val (.ref xk)] [(.ref xk), (.ref xa)])) rfl rfl (hb hby d7_75)
  have F_market_xa := F_market_xa.same W17
  have E_xa := E_xa.wr W17
  have F_startTime_xa := F_startTime_xa.other W17 (Or.inr (slot_ne (Or.inr (hw _ (List.mem_of_getElem? (i := 41) rfl))) (Or.inr (hw _ (List.mem_of_getElem? (i := 70) rfl))) (by decide) (t := .long) (t' := (.object "com/example/arvi/arvi/model/Market")) (by decide) (by decide)))
  have F_expiryTime_xa := F_expiryTime_xa.other W17 (Or.inr (slot_ne (Or.inr (hw _ (List.mem_of_getElem? (i := 43) rfl))) (Or.inr (hw _ (List.mem_of_getElem? (i := 70) rfl))) (by decide) (t := .long) (t' := (.object "com/example/arvi/arvi/model/Market")) (by decide) (by decide)))
  have F_nextPaymentTime_xa := F_nextPaymentTime_xa.other W17 (Or.inr (slot_ne (Or.inr (hw _ (List.mem_of_getElem? (i := 45) rfl))) (Or.inr (hw _ (List.mem_of_getElem? (i := 70) rfl))) (by decide) (t := .long) (t' := (.object "com/example/arvi/arvi/model/Market")) (by decide) (by decide)))
  have F_autoRenewing_xa := F_autoRenewing_xa.other W17 (Or.inr (slot_ne (Or.inr (hw _ (List.mem_of_getElem? (i := 47) rfl))) (Or.inr (hw _ (List.mem_of_getElem? (i := 70) rfl))) (by decide) (t := .boolean) (t' := (.object "com/example/arvi/arvi/model/Market")) (by decide) (by decide)))
  have F_cancelReason_xa := F_cancelReason_xa.other W17 (Or.inr (slot_ne (Or.inr (hw _ (List.mem_of_getElem? (i := 49) rfl))) (Or.inr (hw _ (List.mem_of_getElem? (i := 70) rfl))) (by decide) (t := .int) (t' := (.object "com/example/arvi/arvi/model/Market")) (by decide) (by decide)))
  have F_cancelledTime_xa := F_cancelledTime_xa.other W17 (Or.inr (slot_ne (Or.inr (hw _ (List.mem_of_getElem? (i := 51) rfl))) (Or.inr (hw _ (List.mem_of_getElem? (i := 70) rfl))) (by decide) (t := .long) (t' := (.object "com/example/arvi/arvi/model/Market")) (by decide) (by decide)))
  have F_acknowledgeState_xa := F_acknowledgeState_xa.other W17 (Or.inr (slot_ne (Or.inr (hw _ (List.mem_of_getElem? (i := 53) rfl))) (Or.inr (hw _ (List.mem_of_getElem? (i := 70) rfl))) (by decide) (t := .int) (t' := (.object "com/example/arvi/arvi/model/Market")) (by decide) (by decide)))
  have F_lastPurchaseId_xa := F_lastPurchaseId_xa.other W17 (Or.inr (slot_ne (Or.inr (hw _ (List.mem_of_getElem? (i := 63) rfl))) (Or.inr (hw _ (List.mem_of_getElem? (i := 70) rfl))) (by decide) (t := (.object "java/lang/String")) (t' := (.object "com/example/arvi/arvi/model/Market")) (by decide) (by decide)))
  have F_lastPurchaseState_xa := F_lastPurchaseState_xa.other W17 (Or.inr (slot_ne (Or.inr (hw _ (List.mem_of_getElem? (i := 65) rfl))) (Or.inr (hw _ (List.mem_of_getElem? (i := 70) rfl))) (by decide) (t := .int) (t' := (.object "com/example/arvi/arvi/model/Market")) (by decide) (by decide)))
  have E_xs := E_xs.wr W17
  have E_xk := E_xk.wr W17
  have O0 := O0.wr W17 g_xa
  have hk := Nat.le_trans hk (Keep.of_wr W17).1
  have K0 := K0.wr W17 (Or.inl (List.mem_of_getElem? (i := 0) rfl))
  have N17 := Fr.snoc X17 N15 g_xa
  refine Goes.to (T' := T17.setTop (mkF m 78 #[.val (.ref xa), .val (.long q1), .second, .val (.long q2), .second, .val (.long q3), .second, .val (.int p4), .val (.int p5), .val (.long q6), .second, .val (.int p7), .val (.ref xs), .val (.int p9), .val (.ref xk)] [])) st17 ?_
  obtain ⟨fs, hrL, hrun, hended, hRW⟩ := X17.leaveW hS (by rw [e17]; exact hk) (v := none) (fun _ => rfl)
  subst hQf
  refine ⟨_, _, X17.returnOut hx Bd.returns (hb hby d7_78) hrL, hrun, hended, _, _, rfl, ?_, hRW.1, hRW.2.1, hRW.2.2.1, hRW.2.2.2.mono (by decide) (by decide)⟩
  show (fun (v : Option Value) (h : Heap) (L : List Loc) => v = none ∧ Fr n0 L ∧ Keep h0 h [xa] ∧ Fld Z h xa "com/example/arvi/arvi/model/RecurringPurchaseDetails" "expiryTime" "J" (.long q2) ∧ Fld Z h xa "com/example/arvi/arvi/model/RecurringPurchaseDetails" "lastPurchaseState" "I" (.int p9)) (none) T17.heap _
  rw [e17]
  exact ⟨rfl, N17, K0, F_expiryTime_xa, F_lastPurchaseState_xa⟩
theorem d9_0 : decode prog_27_method_12_code 0 = .ok (.aload_n 0, 1) := by decide +kernel
theorem d9_1 : decode prog_27_method_12_code 1 = .ok (.getfield 13, 3) := by decide +kernel
theorem d9_4 : decode prog_27_method_12_code 4 = .ok (.lload_n 1, 1) := by decide +kernel
theorem d9_5 : decode prog_27_method_12_code 5 = .ok (.lcmp, 1) := by decide +kernel
theorem d9_6 : decode prog_27_method_12_code 6 = .ok (.ifCond .lt 14, 3) := by decide +kernel
theorem d9_9 : decode prog_27_method_12_code 9 = .ok (.aload_n 0, 1) := by decide +kernel
theorem d9_10 : decode prog_27_method_12_code 10 = .ok (.getfield 46, 3) := by decide +kernel
theorem d9_13 : decode prog_27_method_12_code 13 = .ok (.ifCond .ne 7, 3) := by decide +kernel
theorem d9_16 : decode prog_27_method_12_code 16 = .ok (.iconst 1, 1) := by decide +kernel
theorem d9_17 : decode prog_27_method_12_code 17 = .ok (.goto 4, 3) := by decide +kernel
theorem d9_20 : decode prog_27_method_12_code 20 = .ok (.iconst 0, 1) := by decide +kernel
theorem d9_21 : decode prog_27_method_12_code 21 = .ok (.ireturn, 1) := by decide +kernel
theorem pn_9 : plainName "com/example/arvi/arvi/model/RecurringPurchaseDetails" = true := by first | (simp [plainName, overriddenIn]; done) | decide +kernel
theorem ef_rmE (m : MethodId) (x0 : Addr) (x1 : Int64) : entryFrame m #[(.ref x0), (.long x1)] 3 = mkF m 0 #[.val (.ref x0), .val (.long x1), .second] [] := by first | (simp [entryFrame, mkF, argsToLocals, Value.category]; done) | rfl
def Q_rmE (Z : State) (xa : Addr) (tt : Int64) (w_Market_MKT_GLB : Addr) (w_Market_MKT_ONE : Addr) (z_cs : Int32) (qe : Int64) (ps : Int32) (r : Int32) (h0 : Heap) (n0 : Nat) (v : Option Value) (h : Heap) (L : List Loc) : Prop := v = some (.int r) ∧ Fr n0 L ∧ h = h0
set_option maxRecDepth 65536 in
set_option maxHeartbeats 40000000 in
theorem rmE (l : Launch) (Z : State) (a0 : Array Value) (hw : ∀ d ∈ tables_1, d.before a0 Z = true) (ws : List Jvm.Cond) (xa : Addr) (tt : Int64) (w_Market_MKT_GLB : Addr) (w_Market_MKT_ONE : Addr) (z_cs : Int32) (qe : Int64) (ps : Int32) (r : Int32) (h0 : Heap) (n0 : Nat) (O0 : Old Z n0 h0) (NF : Nar Z w_Market_MKT_GLB w_Market_MKT_ONE z_cs) (F_expiryTime_xa : Fld Z h0 xa "com/example/arvi/arvi/model/RecurringPurchaseDetails" "expiryTime" "J" (.long qe)) (F_lastPurchaseState_xa : Fld Z h0 xa "com/example/arvi/arvi/model/RecurringPurchaseDetails" "lastPurchaseState" "I" (.int ps)) (hr : r = if qe < tt then 0 else if ps = 0 then 1 else 0) :
    MetFree l (⟨"com/example/arvi/arvi/model/RecurringPurchaseDetails", "isEntitledAt", "(J)Z"⟩ : MethodName) (head1 (Jvm.Cond.code (⟨"com/example/arvi/arvi/model/RecurringPurchaseDetails", "isEntitledAt", "(J)Z"⟩ : MethodName) prog_27_method_12_code 3 (some .boolean) :: ws) ({ frames := 0, cells := 0, slots := 0, locals := 0 } : Room)) (fun a U => a = #[(.ref xa), (.long tt)] ∧ Z.Warmed39 U.vm ∧ U.heap = h0) (fun _ _ _ _ _ => True) (fun _ U o U' => ∃ v L, o = .returned v ∧ Q_rmE Z xa tt w_Market_MKT_GLB w_Market_MKT_ONE z_cs qe ps r h0 n0 v U'.heap L ∧ FrameEnd U o U' L ({ frames := 0, cells := 0, slots := 0, locals := 0 } : Room).cells ({ frames := 0, cells := 0, slots := 0, locals := 0 } : Room).slots) := by
  refine MetFree.of_bodySF (plainFor_of_name pn_9) hisR ?_
  intro p e s m args below meth c s₁ Bd hml0 hP hK
  obtain ⟨rfl, hZ, hh⟩ := hP
  have hx := Bd.exec
  have hby := Bd.bytes
  have hml : c.maxLocals = 3 := hml0
  have hown : s.vm.findClass "com/example/arvi/arvi/model/RecurringPurchaseDetails" = some m.cls := findClass_of_methodNamed Bd.named
  have hnm := (name_of_methodNamed Bd.named Bd.method).1
  have X0 : Stand p l e ({ frames := 0, cells := 0, slots := 0, locals := 0 } : Room) s m #[(.ref xa), (.long tt)] below meth c s₁ [] 0 0 := Stand.of_body Bd
  have e0 : s₁.heap = h0 := by rw [← hh, Bd.state]; rfl
  have N0 := Fr.nil n0
  suffices G : ∀ (Qf : Outcome → State → Prop), Qf = (fun (_ : Array Value) (U : State) (o : Outcome) (U' : State) => ∃ v L, o = .returned v ∧ Q_rmE Z xa tt w_Market_MKT_GLB w_Market_MKT_ONE z_cs qe ps r h0 n0 v U'.heap L ∧ FrameEnd U o U' L ({ frames := 0, cells := 0, slots := 0, locals := 0 } : Room).cells ({ frames := 0, cells := 0, slots := 0, locals := 0 } : Room).slots) #[] s → Goes p.tables e below Qf (s₁.setTop (mkF m 0 #[.val (.ref xa), .val (.long tt), .second] [])) by
    obtain ⟨s₂, o, g1, g2, g3, g4⟩ := G _ rfl
    exact ⟨s₂, o, castTop (ef_rmE m _ _) g1, g2, g3, g4⟩
  intro Qf hQf
  obtain ⟨S_w_Market_MKT_GLB, E_w_Market_MKT_GLB, S_w_Market_MKT_ONE, E_w_Market_MKT_ONE, S_cs, nz_cs⟩ := id NF
  refine Goes.to (T' := s₁.setTop (mkF m 1 #[.val (.ref xa), .val (.long tt), .second] [(.ref xa)])) (fun t k => XS.aloadN X0.here hx rfl (hb hby d9_0) rfl rfl k) ?_
  obtain ⟨T1, X1, e1, st1⟩ := getF X0 hx hZ hown (host := "") (Or.inl (hw _ (List.mem_of_getElem? (i := 42) rfl))) Via.refl e0 F_expiryTime_xa (g := (mkF m 1 #[.val (.ref xa), .val (.long tt), .second] [(.ref xa)])) rfl rfl (hb hby d9_1)
  refine Goes.to (T' := T1.setTop (mkF m 4 #[.val (.ref xa), .val (.long tt), .second] [(.long qe)])) st1 ?_
  refine Goes.to (T' := T1.setTop (mkF m 5 #[.val (.ref xa), .val (.long tt), .second] [(.long tt), (.long qe)])) (fun t k => XS.lloadN X1.here hx rfl (hb hby d9_4) rfl k) ?_
  refine Goes.to (T' := T1.setTop (mkF m 6 #[.val (.ref xa), .val (.long tt), .second] [(.int (lcmpW qe tt))])) (fun t k => XS.lcmp X1.here hx rfl (hb hby d9_5) rfl k) ?_
  rcases Decidable.em (qe < tt) with hc6_2 | hc6_2
  · skip
    refine Goes.to (T' := T1.setTop (mkF m 20 #[.val (.ref xa), .val (.long tt), .second] [])) (fun t k => XS.ifYes X1.here hx rfl (pc0 := 6) (pc' := 20) rfl (hb hby d9_6) rfl ((if0 _ _).trans (tlt ((lw_lt qe tt).mpr hc6_2)).1) (by decide) (by decide) k) ?_
    refine Goes.to (T' := T1.setTop (mkF m 21 #[.val (.ref xa), .val (.long tt), .second] [(.int (0 : Int32))])) (fun t k => XS.iconst X1.here hx rfl (hb hby d9_20) k) ?_
    obtain ⟨fs, hrL, hrun, hended, hW, hsame⟩ := X1.leave (v := some (.int (0 : Int32))) (fun h => by rw [Bd.returns] at h; cases h)
    subst hQf
    refine ⟨_, _, retN X1 hx (t := .boolean) Bd.returns (by simp) (hb hby d9_21) hrL, hrun, hended, _, _, rfl, ?_, ⟨_, rfl⟩, hW, hsame.mono (by decide) (by decide)⟩
    show (fun (v : Option Value) (h : Heap) (L : List Loc) => v = some (.int r) ∧ Fr n0 L ∧ h = h0) (some (.int (0 : Int32))) T1.heap _
    rw [e1]
    have hv : ((0 : Int32) : Int32) = r := by rw [hr]; first | (simp [hc6_2]; done) | ((repeat' split) <;> first | rfl | contradiction | simp_all)
    exact ⟨by rw [hv], N0, rfl⟩
  · skip
    refine Goes.to (T' := T1.setTop (mkF m 9 #[.val (.ref xa), .val (.long tt), .second] [])) (fun t k => XS.ifNo X1.here hx rfl (hb hby d9_6) rfl ((if0 _ _).trans (flt (fun q => hc6_2 ((lw_lt qe tt).mp q))).1) k) ?_
    refine Goes.to (T' := T1.setTop (mkF m 10 #[.val (.ref xa), .val (.long tt), .second] [(.ref xa)])) (fun t k => XS.aloadN X1.here hx rfl (hb hby d9_9) rfl rfl k) ?_
    obtain ⟨T3, X3, e3, st3⟩ := getF X1 hx hZ hown (host := "") (Or.inl (hw _ (List.mem_of_getElem? (i := 64) rfl))) Via.refl e1 F_lastPurchaseState_xa (g := (mkF m 10 #[.val (.ref xa), .val (.long tt), .second] [(.ref xa)])) rfl rfl (hb hby d9_10)
    refine Goes.to (T' := T3.setTop (mkF m 13 #[.val (.ref xa), .val (.long tt), .second] [(.int ps)])) st3 ?_
    rcases Decidable.em (ps = (0 : Int32)) with hc13_4 | hc13_4
    · skip
      refine Goes.to (T' := T3.setTop (mkF m 16 #[.val (.ref xa), .val (.long tt), .second] [])) (fun t k => XS.ifNo X3.here hx rfl (hb hby d9_13) rfl ((if0 _ _).trans (teq hc13_4).2) k) ?_
      refine Goes.to (T' := T3.setTop (mkF m 17 #[.val (.ref xa), .val (.long tt), .second] [(.int (1 : Int32))])) (fun t k => XS.iconst X3.here hx rfl (hb hby d9_16) k) ?_
      refine Goes.to (T' := T3.setTop (mkF m 21 #[.val (.ref xa), .val (.long tt), .second] [(.int (1 : Int32))])) (fun t k => XS.goto X3.here hx rfl (pc0 := 17) (pc' := 21) rfl (hb hby d9_17) (by decide) (by decide) k) ?_
      obtain ⟨fs, hrL, hrun, hended, hW, hsame⟩ := X3.leave (v := some (.int (1 : Int32))) (fun h => by rw [Bd.returns] at h; cases h)
      subst hQf
      refine ⟨_, _, retN X3 hx (t := .boolean) Bd.returns (by simp) (hb hby d9_21) hrL, hrun, hended, _, _, rfl, ?_, ⟨_, rfl⟩, hW, hsame.mono (by decide) (by decide)⟩
      show (fun (v : Option Value) (h : Heap) (L : List Loc) => v = some (.int r) ∧ Fr n0 L ∧ h = h0) (some (.int (1 : Int32))) T3.heap _
      rw [e3]
      have hv : ((1 : Int32) : Int32) = r := by rw [hr]; first | (simp [hc6_2, hc13_4]; done) | ((repeat' split) <;> first | rfl | contradiction | simp_all)
      exact ⟨by rw [hv], N0, rfl⟩
    · skip
      refine Goes.to (T' := T3.setTop (mkF m 20 #[.val (.ref xa), .val (.long tt), .second] [])) (fun t k => XS.ifYes X3.here hx rfl (pc0 := 13) (pc' := 20) rfl (hb hby d9_13) rfl ((if0 _ _).trans (feq hc13_4).2) (by decide) (by decide) k) ?_
      refine Goes.to (T' := T3.setTop (mkF m 21 #[.val (.ref xa), .val (.long tt), .second] [(.int (0 : Int32))])) (fun t k => XS.iconst X3.here hx rfl (hb hby d9_20) k) ?_
      obtain ⟨fs, hrL, hrun, hended, hW, hsame⟩ := X3.leave (v := some (.int (0 : Int32))) (fun h => by rw [Bd.returns] at h; cases h)
      subst hQf
      refine ⟨_, _, retN X3 hx (t := .boolean) Bd.returns (by simp) (hb hby d9_21) hrL, hrun, hended, _, _, rfl, ?_, ⟨_, rfl⟩, hW, hsame.mono (by decide) (by decide)⟩
      show (fun (v : Option Value) (h : Heap) (L : List Loc) => v = some (.int r) ∧ Fr n0 L ∧ h = h0) (some (.int (0 : Int32))) T3.heap _
      rw [e3]
      have hv : ((0 : Int32) : Int32) = r := by rw [hr]; first | (simp [hc6_2, hc13_4]; done) | ((repeat' split) <;> first | rfl | contradiction | simp_all)
      exact ⟨by rw [hv], N0, rfl⟩
theorem pd_59 : parseMethodDescriptor "([C)V" = some ⟨[(.array .char)], none⟩ := by decide +kernel
theorem pd_60 : parseMethodDescriptor "(JJJZIJILjava/lang/String;ILcom/example/arvi/arvi/model/Market;)V" = some ⟨[.long, .long, .long, .boolean, .int, .long, .int, (.object "java/lang/String"), .int, (.object "com/example/arvi/arvi/model/Market")], none⟩ := by decide +kernel
theorem pd_61 : parseMethodDescriptor "(J)Z" = some ⟨[.long], some .boolean⟩ := by decide +kernel
theorem pn_0 : plainName "com/example/arvi/arvi/model/RecurringPurchaseDetailsIsEntitledAtPinLaw" = true := by first | (simp [plainName, overriddenIn]; done) | decide +kernel
theorem ef_rm0 (m : MethodId) (x0 : Int64) (x1 : Int64) (x2 : Int32) (x3 : Int64) (x4 : Int32) (x5 : Int32) : entryFrame m #[(.long x0), (.long x1), (.int x2), (.long x3), (.int x4), (.int x5)] maxLocals = mkF m 0 #[.val (.long x0), .second, .val (.long x1), .second, .val (.int x2), .val (.long x3), .second, .val (.int x4), .val (.int x5), .unset, .unset, .unset, .unset, .unset, .unset, .unset, .unset, .unset, .unset, .unset, .unset, .unset] [] := by first | (simp [entryFrame, mkF, argsToLocals, Value.category, maxLocals]; done) | rfl
def Q_rm0 (Z : State) (q0 : Int64) (q1 : Int64) (p2 : Int32) (q3 : Int64) (p4 : Int32) (p5 : Int32) (w_Market_MKT_GLB : Addr) (w_Market_MKT_ONE : Addr) (z_cs : Int32) (h0 : Heap) (n0 : Nat) (v : Option Value) (h : Heap) (L : List Loc) : Prop := v = some (.int 1) ∧ Fr n0 L
set_option maxRecDepth 65536 in
set_option maxHeartbeats 40000000 in
theorem rm0 (l : Launch) (Z : State) (a0 : Array Value) (hw : ∀ d ∈ tables_1, d.before a0 Z = true) (ws : List Jvm.Cond) (q0 : Int64) (q1 : Int64) (p2 : Int32) (q3 : Int64) (p4 : Int32) (p5 : Int32) (w_Market_MKT_GLB : Addr) (w_Market_MKT_ONE : Addr) (z_cs : Int32) (h0 : Heap) (n0 : Nat) (O0 : Old Z n0 h0) (NF : Nar Z w_Market_MKT_GLB w_Market_MKT_ONE z_cs) :
    MetFree l x (head1 (Jvm.Cond.code x code maxLocals ret :: ws) room_1) (fun a U => a = #[(.long q0), (.long q1), (.int p2), (.long q3), (.int p4), (.int p5)] ∧ Z.Warmed39 U.vm ∧ U.heap = h0) (fun _ _ _ _ _ => True) (fun _ U o U' => ∃ v L, o = .returned v ∧ Q_rm0 Z q0 q1 p2 q3 p4 p5 w_Market_MKT_GLB w_Market_MKT_ONE z_cs h0 n0 v U'.heap L ∧ ReturnedEndW U o U' L room_1.cells room_1.slots) := by
  refine MetFree.of_bodySF (plainFor_of_name pn_0) hisR ?_
  intro p e s m args below meth c s₁ Bd hml0 hP hK
  obtain ⟨rfl, hZ, hh⟩ := hP
  have hx := Bd.exec
  have hby := Bd.bytes
  have hml : c.maxLocals = 22 := hml0
  have hown : s.vm.findClass "com/example/arvi/arvi/model/RecurringPurchaseDetailsIsEntitledAtPinLaw" = some m.cls := findClass_of_methodNamed Bd.named
  have hnm := (name_of_methodNamed Bd.named Bd.method).1
  have X0 : Stand p l e room_1 (s.setVm s.vm) m #[(.long q0), (.long q1), (.int p2), (.long q3), (.int p4), (.int p5)] below meth c s₁ [] 0 0 := Stand.of_body Bd
  have e0 : s₁.heap = h0 := by rw [← hh, Bd.state]; rfl
  have N0 := Fr.nil n0
  have hZ : Z.Warmed39 (s.setVm s.vm).vm := hZ
  have hown : (s.setVm s.vm).vm.findClass "com/example/arvi/arvi/model/RecurringPurchaseDetailsIsEntitledAtPinLaw" = some m.cls := hown
  have hS : s.Since s.vm h0.size := (State.WarmedH.refl s).since _
  have hk : h0.size ≤ h0.size := Nat.le_refl _
  have own_strw : ∀ a ∈ Bundle.stringAtoms, a.before a0 Z = true := fun d hd => hw d ((by decide +kernel : ∀ d ∈ Bundle.stringAtoms, d ∈ tables_1) d hd)
  suffices G : ∀ (Qf : Outcome → State → Prop), Qf = (fun (_ : Array Value) (U : State) (o : Outcome) (U' : State) => ∃ v L, o = .returned v ∧ Q_rm0 Z q0 q1 p2 q3 p4 p5 w_Market_MKT_GLB w_Market_MKT_ONE z_cs h0 n0 v U'.heap L ∧ ReturnedEndW U o U' L room_1.cells room_1.slots) #[] s → Goes p.tables e below Qf (s₁.setTop (mkF m 0 #[.val (.long q0), .second, .val (.long q1), .second, .val (.int p2), .val (.long q3), .second, .val (.int p4), .val (.int p5), .unset, .unset, .unset, .unset, .unset, .unset, .unset, .unset, .unset, .unset, .unset, .unset, .unset] [])) by
    obtain ⟨s₂, o, g1, g2, g3, g4⟩ := G _ rfl
    exact ⟨s₂, o, castTop (ef_rm0 m _ _ _ _ _ _) g1, g2, g3, g4⟩
  intro Qf hQf
  obtain ⟨S_w_Market_MKT_GLB, E_w_Market_MKT_GLB, S_w_Market_MKT_ONE, E_w_Market_MKT_ONE, S_cs, nz_cs⟩ := id NF
  refine Goes.to (T' := s₁.setTop (mkF m 2 #[.val (.long q0), .second, .val (.long q1), .second, .val (.int p2), .val (.long q3), .second, .val (.int p4), .val (.int p5), .unset, .unset, .unset, .unset, .unset, .unset, .unset, .unset, .unset, .unset, .unset, .unset, .unset] [(.int p4)])) (fun t k => XS.iload X0.here hx rfl (hb hby at_0) rfl k) ?_
  refine Goes.to (T' := s₁.setTop (mkF m 3 #[.val (.long q0), .second, .val (.long q1), .second, .val (.int p2), .val (.long q3), .second, .val (.int p4), .val (.int p5), .unset, .unset, .unset, .unset, .unset, .unset, .unset, .unset, .unset, .unset, .unset, .unset, .unset] [(.int (3 : Int32)), (.int p4)])) (fun t k => XS.iconst X0.here hx rfl (hb hby at_2) k) ?_
  refine Goes.to (T' := s₁.setTop (mkF m 4 #[.val (.long q0), .second, .val (.long q1), .second, .val (.int p2), .val (.long q3), .second, .val (.int p4), .val (.int p5), .unset, .unset, .unset, .unset, .unset, .unset, .unset, .unset, .unset, .unset, .unset, .unset, .unset] [(.int (p4 &&& (3 : Int32)))])) (fun t k => XS.iand X0.here hx rfl (hb hby at_3) rfl k) ?_
  refine Goes.to (T' := s₁.setTop (mkF m 6 #[.val (.long q0), .second, .val (.long q1), .second, .val (.int p2), .val (.long q3), .second, .val (.int p4), .val (.int p5), .val (.int (p4 &&& (3 : Int32))), .unset, .unset, .unset, .unset, .unset, .unset, .unset, .unset, .unset, .unset, .unset, .unset] [])) (fun t k => XS.istore X0.here hx rfl (hb hby at_4) rfl (l' := #[.val (.long q0), .second, .val (.long q1), .second, .val (.int p2), .val (.long q3), .second, .val (.int p4), .val (.int p5), .val (.int (p4 &&& (3 : Int32))), .unset, .unset, .unset, .unset, .unset, .unset, .unset, .unset, .unset, .unset, .unset, .unset]) rfl k) ?_
  have J48 : ∀ (TJ1 : State) (locsJ1 : List Loc) (tm : Int64) (XJ1 : Stand p l e room_1 (s.setVm s.vm) m #[(.long q0), (.long q1), (.int p2), (.long q3), (.int p4), (.int p5)] below meth c TJ1 locsJ1 0 0) (eJ1 : TJ1.heap = h0) (NJ1 : Fr n0 locsJ1), Goes p.tables e below Qf (TJ1.setTop (mkF m 48 #[.val (.long q0), .second, .val (.long q1), .second, .val (.int p2), .val (.long q3), .second, .val (.int p4), .val (.int p5), .val (.int (p4 &&& (3 : Int32))), .val (.long tm), .second, .unset, .unset, .unset, .unset, .unset, .unset, .unset, .unset, .unset, .unset] [])) := by
    intro TJ1 locsJ1 tm XJ1 eJ1 NJ1 
    have J65 : ∀ (TJ2 : State) (locsJ2 : List Loc) (stv : Int32) (XJ2 : Stand p l e room_1 (s.setVm s.vm) m #[(.long q0), (.long q1), (.int p2), (.long q3), (.int p4), (.int p5)] below meth c TJ2 locsJ2 0 0) (eJ2 : TJ2.heap = h0) (NJ2 : Fr n0 locsJ2), Goes p.tables e below Qf (TJ2.setTop (mkF m 65 #[.val (.long q0), .second, .val (.long q1), .second, .val (.int p2), .val (.long q3), .second, .val (.int p4), .val (.int p5), .val (.int (p4 &&& (3 : Int32))), .val (.long tm), .second, .val (.int stv), .unset, .unset, .unset, .unset, .unset, .unset, .unset, .unset, .unset] [])) := by
      intro TJ2 locsJ2 stv XJ2 eJ2 NJ2 
      have J81 : ∀ (TJ3 : State) (locsJ3 : List Loc) (ar : Int32) (XJ3 : Stand p l e room_1 (s.setVm s.vm) m #[(.long q0), (.long q1), (.int p2), (.long q3), (.int p4), (.int p5)] below meth c TJ3 locsJ3 0 0) (eJ3 : TJ3.heap = h0) (NJ3 : Fr n0 locsJ3), Goes p.tables e below Qf (TJ3.setTop (mkF m 81 #[.val (.long q0), .second, .val (.long q1), .second, .val (.int p2), .val (.long q3), .second, .val (.int p4), .val (.int p5), .val (.int (p4 &&& (3 : Int32))), .val (.long tm), .second, .val (.int stv), .val (.int ar), .unset, .unset, .unset, .unset, .unset, .unset, .unset, .unset] [])) := by
        intro TJ3 locsJ3 ar XJ3 eJ3 NJ3 
        have J101 : ∀ (TJ4 : State) (locsJ4 : List Loc) (mk : Addr) (XJ4 : Stand p l e room_1 (s.setVm s.vm) m #[(.long q0), (.long q1), (.int p2), (.long q3), (.int p4), (.int p5)] below meth c TJ4 locsJ4 0 0) (eJ4 : TJ4.heap = h0) (NJ4 : Fr n0 locsJ4) (E_mk : Exa Z Z.heap mk "com/example/arvi/arvi/model/Market"), Goes p.tables e below Qf (TJ4.setTop (mkF m 101 #[.val (.long q0), .second, .val (.long q1), .second, .val (.int p2), .val (.long q3), .second, .val (.int p4), .val (.int p5), .val (.int (p4 &&& (3 : Int32))), .val (.long tm), .second, .val (.int stv), .val (.int ar), .val (.ref mk), .unset, .unset, .unset, .unset, .unset, .unset, .unset] [])) := by
          intro TJ4 locsJ4 mk XJ4 eJ4 NJ4 E_mk
          refine Goes.to (T' := TJ4.setTop (mkF m 102 #[.val (.long q0), .second, .val (.long q1), .second, .val (.int p2), .val (.long q3), .second, .val (.int p4), .val (.int p5), .val (.int (p4 &&& (3 : Int32))), .val (.long tm), .second, .val (.int stv), .val (.int ar), .val (.ref mk), .unset, .unset, .unset, .unset, .unset, .unset, .unset] [(.int (1 : Int32))])) (fun t k => XS.iconst XJ4.here hx rfl (hb hby at_101) k) ?_
          obtain ⟨T5, h5, k5, X5, e5, E5, A5, st5⟩ := newP XJ4 hx hZ (hw _ (List.mem_of_getElem? (i := 3) rfl)) eJ4 (g := (mkF m 102 #[.val (.long q0), .second, .val (.long q1), .second, .val (.int p2), .val (.long q3), .second, .val (.int p4), .val (.int p5), .val (.int (p4 &&& (3 : Int32))), .val (.long tm), .second, .val (.int stv), .val (.int ar), .val (.ref mk), .unset, .unset, .unset, .unset, .unset, .unset, .unset] [(.int (1 : Int32))])) rfl (hb hby at_102) rfl (by decide) (cap := 1) (by decide) (by decide) (by decide) (by decide)
          obtain ⟨b5, g5⟩ : ∃ z, z = h0.size := ⟨_, rfl⟩
          rw [← g5] at A5 st5
          have g_b5 : n0 ≤ b5 := Nat.le_trans (own_old O0) (Nat.le_of_eq g5.symm)
          have O0 := O0.ext E5
          have hk := Nat.le_trans hk E5.1
          have V_b5 : Arv Z h5 b5 k5 .char (1 : Int32) [(.int (0 : Int32))] (.int (0 : Int32)) := (Arv.new A5 (by decide)).pad (pad_rep [] (.int (0 : Int32)) 1)
          refine Goes.to (T' := T5.setTop (mkF m 104 #[.val (.long q0), .second, .val (.long q1), .second, .val (.int p2), .val (.long q3), .second, .val (.int p4), .val (.int p5), .val (.int (p4 &&& (3 : Int32))), .val (.long tm), .second, .val (.int stv), .val (.int ar), .val (.ref mk), .unset, .unset, .unset, .unset, .unset, .unset, .unset] [(.ref b5)])) st5 ?_
          refine Goes.to (T' := T5.setTop (mkF m 106 #[.val (.long q0), .second, .val (.long q1), .second, .val (.int p2), .val (.long q3), .second, .val (.int p4), .val (.int p5), .val (.int (p4 &&& (3 : Int32))), .val (.long tm), .second, .val (.int stv), .val (.int ar), .val (.ref mk), .val (.ref b5), .unset, .unset, .unset, .unset, .unset, .unset] [])) (fun t k => XS.astore X5.here hx rfl (hb hby at_104) rfl rfl (l' := #[.val (.long q0), .second, .val (.long q1), .second, .val (.int p2), .val (.long q3), .second, .val (.int p4), .val (.int p5), .val (.int (p4 &&& (3 : Int32))), .val (.long tm), .second, .val (.int stv), .val (.int ar), .val (.ref mk), .val (.ref b5), .unset, .unset, .unset, .unset, .unset, .unset]) rfl k) ?_
          refine Goes.to (T' := T5.setTop (mkF m 108 #[.val (.long q0), .second, .val (.long q1), .second, .val (.int p2), .val (.long q3), .second, .val (.int p4), .val (.int p5), .val (.int (p4 &&& (3 : Int32))), .val (.long tm), .second, .val (.int stv), .val (.int ar), .val (.ref mk), .val (.ref b5), .unset, .unset, .unset, .unset, .unset, .unset] [(.ref b5)])) (fun t k => XS.aload X5.here hx rfl (hb hby at_106) rfl rfl k) ?_
          refine Goes.to (T' := T5.setTop (mkF m 109 #[.val (.long q0), .second, .val (.long q1), .second, .val (.int p2), .val (.long q3), .second, .val (.int p4), .val (.int p5), .val (.int (p4 &&& (3 : Int32))), .val (.long tm), .second, .val (.int stv), .val (.int ar), .val (.ref mk), .val (.ref b5), .unset, .unset, .unset, .unset, .unset, .unset] [(.int (0 : Int32)), (.ref b5)])) (fun t k => XS.iconst X5.here hx rfl (hb hby at_108) k) ?_
          refine Goes.to (T' := T5.setTop (mkF m 111 #[.val (.long q0), .second, .val (.long q1), .second, .val (.int p2), .val (.long q3), .second, .val (.int p4), .val (.int p5), .val (.int (p4 &&& (3 : Int32))), .val (.long tm), .second, .val (.int stv), .val (.int ar), .val (.ref mk), .val (.ref b5), .unset, .unset, .unset, .unset, .unset, .unset] [(.int p5), (.int (0 : Int32)), (.ref b5)])) (fun t k => XS.iload X5.here hx rfl (hb hby at_109) rfl k) ?_
          refine Goes.to (T' := T5.setTop (mkF m 114 #[.val (.long q0), .second, .val (.long q1), .second, .val (.int p2), .val (.long q3), .second, .val (.int p4), .val (.int p5), .val (.int (p4 &&& (3 : Int32))), .val (.long tm), .second, .val (.int stv), .val (.int ar), .val (.ref mk), .val (.ref b5), .unset, .unset, .unset, .unset, .unset, .unset] [(.int (255 : Int32)), (.int p5), (.int (0 : Int32)), (.ref b5)])) (fun t k => XS.sipush X5.here hx rfl (hb hby at_111) k) ?_
          refine Goes.to (T' := T5.setTop (mkF m 115 #[.val (.long q0), .second, .val (.long q1), .second, .val (.int p2), .val (.long q3), .second, .val (.int p4), .val (.int p5), .val (.int (p4 &&& (3 : Int32))), .val (.long tm), .second, .val (.int stv), .val (.int ar), .val (.ref mk), .val (.ref b5), .unset, .unset, .unset, .unset, .unset, .unset] [(.int (p5 &&& (255 : Int32))), (.int (0 : Int32)), (.ref b5)])) (fun t k => XS.iand X5.here hx rfl (hb hby at_114) rfl k) ?_
          refine Goes.to (T' := T5.setTop (mkF m 116 #[.val (.long q0), .second, .val (.long q1), .second, .val (.int p2), .val (.long q3), .second, .val (.int p4), .val (.int p5), .val (.int (p4 &&& (3 : Int32))), .val (.long tm), .second, .val (.int stv), .val (.int ar), .val (.ref mk), .val (.ref b5), .unset, .unset, .unset, .unset, .unset, .unset] [(.int ((p5 &&& (255 : Int32)).toUInt32.toUInt16.toUInt32.toInt32)), (.int (0 : Int32)), (.ref b5)])) (fun t k => XS.i2c X5.here hx rfl (hb hby at_115) rfl k) ?_
          obtain ⟨c0, hc0⟩ : ∃ z : Int32, z = ((p5 &&& (255 : Int32)).toUInt32.toUInt16.toUInt32.toInt32) := ⟨_, rfl⟩
          rw [← hc0]
          have h_c0 : ¬ c0 < 0 ∧ ¬ (255 : Int32) < c0 := hc0 ▸ own_i2c _
          obtain ⟨cl6, Ar6, q6, S6, Ng6, H6, G6⟩ := V_b5
          have hin6 : ¬ ((0 : Int32) < 0 ∨ cl6.slots.size ≤ ((0 : Int32)).toNatClampNeg) := inb_of S6 ⟨by decide, by decide⟩
          obtain ⟨T7, h7, X7, e7, W7, st7⟩ := stC X5 hx hZ e5 Ar6 (j := (0 : Int32)) hin6 (g := (mkF m 116 #[.val (.long q0), .second, .val (.long q1), .second, .val (.int p2), .val (.long q3), .second, .val (.int p4), .val (.int p5), .val (.int (p4 &&& (3 : Int32))), .val (.long tm), .second, .val (.int stv), .val (.int ar), .val (.ref mk), .val (.ref b5), .unset, .unset, .unset, .unset, .unset, .unset] [(.int c0), (.int (0 : Int32)), (.ref b5)])) rfl rfl (hb hby at_116)
          have V_b5 : Arv Z h7 b5 k5 .char (1 : Int32) [(.int (nar .char c0))] (.int (0 : Int32)) := Arv.set Ar6 q6 S6 Ng6 H6 G6 (fits_nar_char _) W7 0 rfl (Nat.le_of_ble_eq_true rfl)
          have O0 := O0.wr W7 g_b5
          have hk := Nat.le_trans hk (Keep.of_wr W7).1
          have N7 := Fr.snoc X7 NJ4 g_b5
          refine Goes.to (T' := T7.setTop (mkF m 117 #[.val (.long q0), .second, .val (.long q1), .second, .val (.int p2), .val (.long q3), .second, .val (.int p4), .val (.int p5), .val (.int (p4 &&& (3 : Int32))), .val (.long tm), .second, .val (.int stv), .val (.int ar), .val (.ref mk), .val (.ref b5), .unset, .unset, .unset, .unset, .unset, .unset] [])) st7 ?_
          rw [own_narc h_c0] at V_b5
          obtain ⟨T8, h8, X8, e8, E8, A8, D8, -, st8⟩ := newO X7 hx hZ hown (hw _ (List.mem_of_getElem? (i := 4) rfl)) (hw _ (List.mem_of_getElem? (i := 5) rfl)) (hw _ (List.mem_of_getElem? (i := 6) rfl)) e7 (g := (mkF m 117 #[.val (.long q0), .second, .val (.long q1), .second, .val (.int p2), .val (.long q3), .second, .val (.int p4), .val (.int p5), .val (.int (p4 &&& (3 : Int32))), .val (.long tm), .second, .val (.int stv), .val (.int ar), .val (.ref mk), .val (.ref b5), .unset, .unset, .unset, .unset, .unset, .unset] [])) rfl (hb hby at_117) (by decide) (by decide)
          obtain ⟨b8, g8⟩ : ∃ z, z = h7.size := ⟨_, rfl⟩
          rw [← g8] at A8 D8 st8
          have g_b8 : n0 ≤ b8 := Nat.le_trans (own_old O0) (Nat.le_of_eq g8.symm)
          have ne_b5_b8 : b5 ≠ b8 := Nat.ne_of_lt (Nat.lt_of_lt_of_le V_b5.lt (Nat.le_of_eq g8.symm))
          have ne_b8_b5 := Ne.symm ne_b5_b8
          have V_b5 := V_b5.ext E8
          have O0 := O0.ext E8
          have hk := Nat.le_trans hk E8.1
          have E_b8 := A8
          have F_coder_b8 : Fld Z h8 b8 "java/lang/String" "coder" "B" (.int (0 : Int32)) := D8 (Or.inr (hw _ (List.mem_of_getElem? (i := 30) rfl))) (ty := .byte) (by decide)
          have F_value_b8 : Fld Z h8 b8 "java/lang/String" "value" "[B" .null := D8 (Or.inr (hw _ (List.mem_of_getElem? (i := 32) rfl))) (ty := (.array .byte)) (by decide)
          refine Goes.to (T' := T8.setTop (mkF m 120 #[.val (.long q0), .second, .val (.long q1), .second, .val (.int p2), .val (.long q3), .second, .val (.int p4), .val (.int p5), .val (.int (p4 &&& (3 : Int32))), .val (.long tm), .second, .val (.int stv), .val (.int ar), .val (.ref mk), .val (.ref b5), .unset, .unset, .unset, .unset, .unset, .unset] [(.ref b8)])) st8 ?_
          refine Goes.to (T' := T8.setTop (mkF m 121 #[.val (.long q0), .second, .val (.long q1), .second, .val (.int p2), .val (.long q3), .second, .val (.int p4), .val (.int p5), .val (.int (p4 &&& (3 : Int32))), .val (.long tm), .second, .val (.int stv), .val (.int ar), .val (.ref mk), .val (.ref b5), .unset, .unset, .unset, .unset, .unset, .unset] [(.ref b8), (.ref b8)])) (fun t k => XS.dup X8.here hx rfl (hb hby at_120) rfl rfl k) ?_
          refine Goes.to (T' := T8.setTop (mkF m 123 #[.val (.long q0), .second, .val (.long q1), .second, .val (.int p2), .val (.long q3), .second, .val (.int p4), .val (.int p5), .val (.int (p4 &&& (3 : Int32))), .val (.long tm), .second, .val (.int stv), .val (.int ar), .val (.ref mk), .val (.ref b5), .unset, .unset, .unset, .unset, .unset, .unset] [(.ref b5), (.ref b8), (.ref b8)])) (fun t k => XS.aload X8.here hx rfl (hb hby at_121) rfl rfl k) ?_
          have hws : ∀ d ∈ StrChars.Road.words, d.before a0 Z = true := fun d hd => hw d ((by decide +kernel : ∀ d ∈ StrChars.Road.words, d ∈ tables_1) d hd)
          have hlat : ∀ c ∈ [c0], ¬ c < 0 ∧ ¬ (255 : Int32) < c := by
            intro c hc
            simp only [List.mem_cons, List.not_mem_nil, or_false] at hc
            rcases hc with rfl
            · exact h_c0
          obtain ⟨_, _, ⟨T9, L9, k9, n9⟩, -, X9, ⟨Lc9, hQ9, l9, y9, z9⟩, st9⟩ := X8.specialBack hx (y := (⟨"java/lang/String", "<init>", "([C)V"⟩ : MethodName)) rfl hown (mvT hZ (hw _ (List.mem_of_getElem? (i := 7) rfl))) (mvT hZ (hw _ (List.mem_of_getElem? (i := 8) rfl))) (mvT hZ (hw _ (List.mem_of_getElem? (i := 9) rfl))) (by decide) (StrChars.Road.backV (W := 1) hZ hws (kI := 4) (hw _ (List.mem_of_getElem? (i := 5) rfl)) (cs := [c0]) (bs := [c0.toInt8.toInt32]) (n := 1) g_b8 (own_old O0) E_b8 F_value_b8 F_coder_b8 V_b5 (S_cs.ext O0.2) nz_cs rfl rfl (by decide) (by decide) hlat rfl (by decide) (by decide)) (g := (mkF m 123 #[.val (.long q0), .second, .val (.long q1), .second, .val (.int p2), .val (.long q3), .second, .val (.int p4), .val (.int p5), .val (.int (p4 &&& (3 : Int32))), .val (.long tm), .second, .val (.int stv), .val (.int ar), .val (.ref mk), .val (.ref b5), .unset, .unset, .unset, .unset, .unset, .unset] [(.ref b5), (.ref b8), (.ref b8)])) rfl (by rw [hml]; rfl) (Steps.refl _) (a := b8) (argsL := [(.ref b5)]) (rest := [(.ref b8)]) (lenOf pd_59 rfl) rfl (by show 2 * 0 + _ ≤ _; exact Nat.le_of_eq rfl) (hb hby at_123) (fun _ _ => ⟨rfl, e8, (by decide : 2 + 1 ≤ _), (by decide : 5 + 1 ≤ _)⟩)
          dsimp only [Pt.U, Pt.locs, Pt.cells, Pt.slots] at X9 l9 y9 z9 st9 hQ9
          subst l9 y9 z9
          obtain ⟨rfl, Nq9, K9, -, Fc9, t9, kb9, gt9, szt9, net9, Fv9, Av9⟩ := hQ9
          have N9 := Fr.app N7 Nq9
          have g_t9 : n0 ≤ t9 := gt9
          have ne_b5_t9 : b5 ≠ t9 := Nat.ne_of_lt (Nat.lt_of_lt_of_le V_b5.lt szt9)
          have ne_t9_b5 := Ne.symm ne_b5_t9
          have ne_b8_t9 : b8 ≠ t9 := Nat.ne_of_lt (Nat.lt_of_lt_of_le E_b8.lt szt9)
          have ne_t9_b8 := Ne.symm ne_b8_t9
          have V_b5 := V_b5.keep K9 (ninS (ne_b5_b8) nin0)
          have E_b8 := E_b8.keep K9
          have O0 := O0.keep K9 (allS g_b8 all0)
          have hk := Nat.le_trans hk K9.1
          have F_coder_b8 := Fc9
          have F_value_b8 := Fv9
          have V_t9 : Arv Z T9.heap t9 kb9 .byte (1 : Int32) [(.int c0.toInt8.toInt32)] (.int (0 : Int32)) := Av9
          refine Goes.thru (T' := T9.setTop (mkF m 126 #[.val (.long q0), .second, .val (.long q1), .second, .val (.int p2), .val (.long q3), .second, .val (.int p4), .val (.int p5), .val (.int (p4 &&& (3 : Int32))), .val (.long tm), .second, .val (.int stv), .val (.int ar), .val (.ref mk), .val (.ref b5), .unset, .unset, .unset, .unset, .unset, .unset] [(.ref b8)])) st9 ?_
          refine Goes.to (T' := T9.setTop (mkF m 128 #[.val (.long q0), .second, .val (.long q1), .second, .val (.int p2), .val (.long q3), .second, .val (.int p4), .val (.int p5), .val (.int (p4 &&& (3 : Int32))), .val (.long tm), .second, .val (.int stv), .val (.int ar), .val (.ref mk), .val (.ref b5), .val (.ref b8), .unset, .unset, .unset, .unset, .unset] [])) (fun t k => XS.astore X9.here hx rfl (hb hby at_126) rfl rfl (l' := #[.val (.long q0), .second, .val (.long q1), .second, .val (.int p2), .val (.long q3), .second, .val (.int p4), .val (.int p5), .val (.int (p4 &&& (3 : Int32))), .val (.long tm), .second, .val (.int stv), .val (.int ar), .val (.ref mk), .val (.ref b5), .val (.ref b8), .unset, .unset, .unset, .unset, .unset]) rfl k) ?_
          obtain ⟨T10, h10, X10, e10, E10, A10, D10, -, st10⟩ := newO X9 hx hZ hown (hw _ (List.mem_of_getElem? (i := 33) rfl)) (hw _ (List.mem_of_getElem? (i := 34) rfl)) (hw _ (List.mem_of_getElem? (i := 35) rfl)) rfl (g := (mkF m 128 #[.val (.long q0), .second, .val (.long q1), .second, .val (.int p2), .val (.long q3), .second, .val (.int p4), .val (.int p5), .val (.int (p4 &&& (3 : Int32))), .val (.long tm), .second, .val (.int stv), .val (.int ar), .val (.ref mk), .val (.ref b5), .val (.ref b8), .unset, .unset, .unset, .unset, .unset] [])) rfl (hb hby at_128) (by decide) (by decide)
          obtain ⟨b10, g10⟩ : ∃ z, z = T9.heap.size := ⟨_, rfl⟩
          rw [← g10] at A10 D10 st10
          have g_b10 : n0 ≤ b10 := Nat.le_trans (own_old O0) (Nat.le_of_eq g10.symm)
          have ne_b5_b10 : b5 ≠ b10 := Nat.ne_of_lt (Nat.lt_of_lt_of_le V_b5.lt (Nat.le_of_eq g10.symm))
          have ne_b10_b5 := Ne.symm ne_b5_b10
          have ne_b8_b10 : b8 ≠ b10 := Nat.ne_of_lt (Nat.lt_of_lt_of_le E_b8.lt (Nat.le_of_eq g10.symm))
          have ne_b10_b8 := Ne.symm ne_b8_b10
          have ne_t9_b10 : t9 ≠ b10 := Nat.ne_of_lt (Nat.lt_of_lt_of_le V_t9.lt (Nat.le_of_eq g10.symm))
          have ne_b10_t9 := Ne.symm ne_t9_b10
          have V_b5 := V_b5.ext E10
          have E_b8 := E_b8.ext E10
          have F_coder_b8 := F_coder_b8.ext E10
          have F_value_b8 := F_value_b8.ext E10
          have V_t9 := V_t9.ext E10
          have O0 := O0.ext E10
          have hk := Nat.le_trans hk E10.1
          have E_b10 := A10
          have F_startTime_b10 : Fld Z h10 b10 "com/example/arvi/arvi/model/RecurringPurchaseDetails" "startTime" "J" (.long (0 : Int64)) := D10 (Or.inr (hw _ (List.mem_of_getElem? (i := 41) rfl))) (ty := .long) (by decide)
          have F_expiryTime_b10 : Fld Z h10 b10 "com/example/arvi/arvi/model/RecurringPurchaseDetails" "expiryTime" "J" (.long (0 : Int64)) := D10 (Or.inr (hw _ (List.mem_of_getElem? (i := 43) rfl))) (ty := .long) (by decide)
          have F_nextPaymentTime_b10 : Fld Z h10 b10 "com/example/arvi/arvi/model/RecurringPurchaseDetails" "nextPaymentTime" "J" (.long (0 : Int64)) := D10 (Or.inr (hw _ (List.mem_of_getElem? (i := 45) rfl))) (ty := .long) (by decide)
          have F_autoRenewing_b10 : Fld Z h10 b10 "com/example/arvi/arvi/model/RecurringPurchaseDetails" "autoRenewing" "Z" (.int (0 : Int32)) := D10 (Or.inr (hw _ (List.mem_of_getElem? (i := 47) rfl))) (ty := .boolean) (by decide)
          have F_cancelReason_b10 : Fld Z h10 b10 "com/example/arvi/arvi/model/RecurringPurchaseDetails" "cancelReason" "I" (.int (0 : Int32)) := D10 (Or.inr (hw _ (List.mem_of_getElem? (i := 49) rfl))) (ty := .int) (by decide)
          have F_cancelledTime_b10 : Fld Z h10 b10 "com/example/arvi/arvi/model/RecurringPurchaseDetails" "cancelledTime" "J" (.long (0 : Int64)) := D10 (Or.inr (hw _ (List.mem_of_getElem? (i := 51) rfl))) (ty := .long) (by decide)
          have F_acknowledgeState_b10 : Fld Z h10 b10 "com/example/arvi/arvi/model/RecurringPurchaseDetails" "acknowledgeState" "I" (.int (0 : Int32)) := D10 (Or.inr (hw _ (List.mem_of_getElem? (i := 53) rfl))) (ty := .int) (by decide)
          have F_lastPurchaseId_b10 : Fld Z h10 b10 "com/example/arvi/arvi/model/RecurringPurchaseDetails" "lastPurchaseId" "Ljava/lang/String;" .null := D10 (Or.inr (hw _ (List.mem_of_getElem? (i := 63) rfl))) (ty := (.object "java/lang/String")) (by decide)
          have F_lastPurchaseState_b10 : Fld Z h10 b10 "com/example/arvi/arvi/model/RecurringPurchaseDetails" "lastPurchaseState" "I" (.int (0 : Int32)) := D10 (Or.inr (hw _ (List.mem_of_getElem? (i := 65) rfl))) (ty := .int) (by decide)
          have F_market_b10 : Fld Z h10 b10 "com/example/arvi/arvi/model/RecurringPurchaseDetails" "market" "Lcom/example/arvi/arvi/model/Market;" .null := D10 (Or.inr (hw _ (List.mem_of_getElem? (i := 70) rfl))) (ty := (.object "com/example/arvi/arvi/model/Market")) (by decide)
          refine Goes.to (T' := T10.setTop (mkF m 131 #[.val (.long q0), .second, .val (.long q1), .second, .val (.int p2), .val (.long q3), .second, .val (.int p4), .val (.int p5), .val (.int (p4 &&& (3 : Int32))), .val (.long tm), .second, .val (.int stv), .val (.int ar), .val (.ref mk), .val (.ref b5), .val (.ref b8), .unset, .unset, .unset, .unset, .unset] [(.ref b10)])) st10 ?_
          refine Goes.to (T' := T10.setTop (mkF m 132 #[.val (.long q0), .second, .val (.long q1), .second, .val (.int p2), .val (.long q3), .second, .val (.int p4), .val (.int p5), .val (.int (p4 &&& (3 : Int32))), .val (.long tm), .second, .val (.int stv), .val (.int ar), .val (.ref mk), .val (.ref b5), .val (.ref b8), .unset, .unset, .unset, .unset, .unset] [(.ref b10), (.ref b10)])) (fun t k => XS.dup X10.here hx rfl (hb hby at_131) rfl rfl k) ?_
          refine Goes.to (T' := T10.setTop (mkF m 134 #[.val (.long q0), .second, .val (.long q1), .second, .val (.int p2), .val (.long q3), .second, .val (.int p4), .val (.int p5), .val (.int (p4 &&& (3 : Int32))), .val (.long tm), .second, .val (.int stv), .val (.int ar), .val (.ref mk), .val (.ref b5), .val (.ref b8), .unset, .unset, .unset, .unset, .unset] [(.long q3), (.ref b10), (.ref b10)])) (fun t k => XS.lload X10.here hx rfl (hb hby at_132) rfl k) ?_
          refine Goes.to (T' := T10.setTop (mkF m 135 #[.val (.long q0), .second, .val (.long q1), .second, .val (.int p2), .val (.long q3), .second, .val (.int p4), .val (.int p5), .val (.int (p4 &&& (3 : Int32))), .val (.long tm), .second, .val (.int stv), .val (.int ar), .val (.ref mk), .val (.ref b5), .val (.ref b8), .unset, .unset, .unset, .unset, .unset] [(.long q0), (.long q3), (.ref b10), (.ref b10)])) (fun t k => XS.lloadN X10.here hx rfl (hb hby at_134) rfl k) ?_
          refine Goes.to (T' := T10.setTop (mkF m 137 #[.val (.long q0), .second, .val (.long q1), .second, .val (.int p2), .val (.long q3), .second, .val (.int p4), .val (.int p5), .val (.int (p4 &&& (3 : Int32))), .val (.long tm), .second, .val (.int stv), .val (.int ar), .val (.ref mk), .val (.ref b5), .val (.ref b8), .unset, .unset, .unset, .unset, .unset] [(.long q3), (.long q0), (.long q3), (.ref b10), (.ref b10)])) (fun t k => XS.lload X10.here hx rfl (hb hby at_135) rfl k) ?_
          refine Goes.to (T' := T10.setTop (mkF m 138 #[.val (.long q0), .second, .val (.long q1), .second, .val (.int p2), .val (.long q3), .second, .val (.int p4), .val (.int p5), .val (.int (p4 &&& (3 : Int32))), .val (.long tm), .second, .val (.int stv), .val (.int ar), .val (.ref mk), .val (.ref b5), .val (.ref b8), .unset, .unset, .unset, .unset, .unset] [(.long q0), (.long q3), (.long q0), (.long q3), (.ref b10), (.ref b10)])) (fun t k => XS.lloadN X10.here hx rfl (hb hby at_137) rfl k) ?_
          refine Goes.to (T' := T10.setTop (mkF m 139 #[.val (.long q0), .second, .val (.long q1), .second, .val (.int p2), .val (.long q3), .second, .val (.int p4), .val (.int p5), .val (.int (p4 &&& (3 : Int32))), .val (.long tm), .second, .val (.int stv), .val (.int ar), .val (.ref mk), .val (.ref b5), .val (.ref b8), .unset, .unset, .unset, .unset, .unset] [(.long (q3 ^^^ q0)), (.long q0), (.long q3), (.ref b10), (.ref b10)])) (fun t k => XS.lxor X10.here hx rfl (hb hby at_138) rfl k) ?_
          refine Goes.to (T' := T10.setTop (mkF m 141 #[.val (.long q0), .second, .val (.long q1), .second, .val (.int p2), .val (.long q3), .second, .val (.int p4), .val (.int p5), .val (.int (p4 &&& (3 : Int32))), .val (.long tm), .second, .val (.int stv), .val (.int ar), .val (.ref mk), .val (.ref b5), .val (.ref b8), .unset, .unset, .unset, .unset, .unset] [(.int ar), (.long (q3 ^^^ q0)), (.long q0), (.long q3), (.ref b10), (.ref b10)])) (fun t k => XS.iload X10.here hx rfl (hb hby at_139) rfl k) ?_
          refine Goes.to (T' := T10.setTop (mkF m 143 #[.val (.long q0), .second, .val (.long q1), .second, .val (.int p2), .val (.long q3), .second, .val (.int p4), .val (.int p5), .val (.int (p4 &&& (3 : Int32))), .val (.long tm), .second, .val (.int stv), .val (.int ar), .val (.ref mk), .val (.ref b5), .val (.ref b8), .unset, .unset, .unset, .unset, .unset] [(.int p5), (.int ar), (.long (q3 ^^^ q0)), (.long q0), (.long q3), (.ref b10), (.ref b10)])) (fun t k => XS.iload X10.here hx rfl (hb hby at_141) rfl k) ?_
          refine Goes.to (T' := T10.setTop (mkF m 145 #[.val (.long q0), .second, .val (.long q1), .second, .val (.int p2), .val (.long q3), .second, .val (.int p4), .val (.int p5), .val (.int (p4 &&& (3 : Int32))), .val (.long tm), .second, .val (.int stv), .val (.int ar), .val (.ref mk), .val (.ref b5), .val (.ref b8), .unset, .unset, .unset, .unset, .unset] [(.long q3), (.int p5), (.int ar), (.long (q3 ^^^ q0)), (.long q0), (.long q3), (.ref b10), (.ref b10)])) (fun t k => XS.lload X10.here hx rfl (hb hby at_143) rfl k) ?_
          refine Goes.to (T' := T10.setTop (mkF m 146 #[.val (.long q0), .second, .val (.long q1), .second, .val (.int p2), .val (.long q3), .second, .val (.int p4), .val (.int p5), .val (.int (p4 &&& (3 : Int32))), .val (.long tm), .second, .val (.int stv), .val (.int ar), .val (.ref mk), .val (.ref b5), .val (.ref b8), .unset, .unset, .unset, .unset, .unset] [(.long (1 : Int64)), (.long q3), (.int p5), (.int ar), (.long (q3 ^^^ q0)), (.long q0), (.long q3), (.ref b10), (.ref b10)])) (fun t k => XS.lconst X10.here hx rfl (hb hby at_145) k) ?_
          refine Goes.to (T' := T10.setTop (mkF m 147 #[.val (.long q0), .second, .val (.long q1), .second, .val (.int p2), .val (.long q3), .second, .val (.int p4), .val (.int p5), .val (.int (p4 &&& (3 : Int32))), .val (.long tm), .second, .val (.int stv), .val (.int ar), .val (.ref mk), .val (.ref b5), .val (.ref b8), .unset, .unset, .unset, .unset, .unset] [(.long (q3 + (1 : Int64))), (.int p5), (.int ar), (.long (q3 ^^^ q0)), (.long q0), (.long q3), (.ref b10), (.ref b10)])) (fun t k => XS.ladd X10.here hx rfl (hb hby at_146) rfl k) ?_
          refine Goes.to (T' := T10.setTop (mkF m 149 #[.val (.long q0), .second, .val (.long q1), .second, .val (.int p2), .val (.long q3), .second, .val (.int p4), .val (.int p5), .val (.int (p4 &&& (3 : Int32))), .val (.long tm), .second, .val (.int stv), .val (.int ar), .val (.ref mk), .val (.ref b5), .val (.ref b8), .unset, .unset, .unset, .unset, .unset] [(.int p4), (.long (q3 + (1 : Int64))), (.int p5), (.int ar), (.long (q3 ^^^ q0)), (.long q0), (.long q3), (.ref b10), (.ref b10)])) (fun t k => XS.iload X10.here hx rfl (hb hby at_147) rfl k) ?_
          refine Goes.to (T' := T10.setTop (mkF m 151 #[.val (.long q0), .second, .val (.long q1), .second, .val (.int p2), .val (.long q3), .second, .val (.int p4), .val (.int p5), .val (.int (p4 &&& (3 : Int32))), .val (.long tm), .second, .val (.int stv), .val (.int ar), .val (.ref mk), .val (.ref b5), .val (.ref b8), .unset, .unset, .unset, .unset, .unset] [(.ref b8), (.int p4), (.long (q3 + (1 : Int64))), (.int p5), (.int ar), (.long (q3 ^^^ q0)), (.long q0), (.long q3), (.ref b10), (.ref b10)])) (fun t k => XS.aload X10.here hx rfl (hb hby at_149) rfl rfl k) ?_
          refine Goes.to (T' := T10.setTop (mkF m 153 #[.val (.long q0), .second, .val (.long q1), .second, .val (.int p2), .val (.long q3), .second, .val (.int p4), .val (.int p5), .val (.int (p4 &&& (3 : Int32))), .val (.long tm), .second, .val (.int stv), .val (.int ar), .val (.ref mk), .val (.ref b5), .val (.ref b8), .unset, .unset, .unset, .unset, .unset] [(.int stv), (.ref b8), (.int p4), (.long (q3 + (1 : Int64))), (.int p5), (.int ar), (.long (q3 ^^^ q0)), (.long q0), (.long q3), (.ref b10), (.ref b10)])) (fun t k => XS.iload X10.here hx rfl (hb hby at_151) rfl k) ?_
          refine Goes.to (T' := T10.setTop (mkF m 155 #[.val (.long q0), .second, .val (.long q1), .second, .val (.int p2), .val (.long q3), .second, .val (.int p4), .val (.int p5), .val (.int (p4 &&& (3 : Int32))), .val (.long tm), .second, .val (.int stv), .val (.int ar), .val (.ref mk), .val (.ref b5), .val (.ref b8), .unset, .unset, .unset, .unset, .unset] [(.ref mk), (.int stv), (.ref b8), (.int p4), (.long (q3 + (1 : Int64))), (.int p5), (.int ar), (.long (q3 ^^^ q0)), (.long q0), (.long q3), (.ref b10), (.ref b10)])) (fun t k => XS.aload X10.here hx rfl (hb hby at_153) rfl rfl k) ?_
          obtain ⟨_, _, ⟨T11, L11, k11, n11⟩, -, X11, hS11, hg11, ⟨Lc11, hQ11, l11, y11, z11⟩, st11⟩ := X10.specialBackS hx (y := (⟨"com/example/arvi/arvi/model/RecurringPurchaseDetails", "<init>", "(JJJZIJILjava/lang/String;ILcom/example/arvi/arvi/model/Market;)V"⟩ : MethodName)) rfl hown (mvT hZ (hw _ (List.mem_of_getElem? (i := 36) rfl))) (mvT hZ (hw _ (List.mem_of_getElem? (i := 37) rfl))) (mvT hZ (hw _ (List.mem_of_getElem? (i := 38) rfl))) (by decide) (backOfS (W := 1) (rmI l Z a0 hw [] b10 q3 q0 (q3 ^^^ q0) ar p5 (q3 + (1 : Int64)) p4 b8 stv mk w_Market_MKT_GLB w_Market_MKT_ONE z_cs  h10 n0 O0 NF E_b10 F_startTime_b10 F_expiryTime_b10 F_nextPaymentTime_b10 F_autoRenewing_b10 F_cancelReason_b10 F_cancelledTime_b10 F_acknowledgeState_b10 F_lastPurchaseId_b10 F_lastPurchaseState_b10 F_market_b10 E_b8 (E_mk.ext O0.2) g_b10 ne_b8_b10 (O0.ne E_mk.lt g_b10)) hZ (hw _ (List.mem_of_getElem? (i := 38) rfl)) (hw _ (List.mem_of_getElem? (i := 35) rfl)) (by decide) (by decide)) (g := (mkF m 155 #[.val (.long q0), .second, .val (.long q1), .second, .val (.int p2), .val (.long q3), .second, .val (.int p4), .val (.int p5), .val (.int (p4 &&& (3 : Int32))), .val (.long tm), .second, .val (.int stv), .val (.int ar), .val (.ref mk), .val (.ref b5), .val (.ref b8), .unset, .unset, .unset, .unset, .unset] [(.ref mk), (.int stv), (.ref b8), (.int p4), (.long (q3 + (1 : Int64))), (.int p5), (.int ar), (.long (q3 ^^^ q0)), (.long q0), (.long q3), (.ref b10), (.ref b10)])) rfl (by rw [hml]; rfl) (Steps.refl _) (a := b10) (argsL := [(.long q3), (.long q0), (.long (q3 ^^^ q0)), (.int ar), (.int p5), (.long (q3 + (1 : Int64))), (.int p4), (.ref b8), (.int stv), (.ref mk)]) (rest := [(.ref b10)]) (lenOf pd_60 rfl) rfl (by show 2 * 0 + _ ≤ _; exact Nat.le_of_eq rfl) (hb hby at_155) (fun _ _ => ⟨rfl, e10, (by decide : 4 + 4 ≤ _), (by decide : 16 + 88 ≤ _)⟩)
          dsimp only [Pt.U, Pt.locs, Pt.cells, Pt.slots] at X11 l11 y11 z11 st11 hQ11 hS11 hg11
          subst l11 y11 z11
          obtain ⟨rfl, Nq11, K11, Fe11, Fl11⟩ := hQ11
          have N11 := Fr.app N9 Nq11
          have hS := hS.trans hS11 (Nat.le_trans hk (by rw [← e10]; exact hg11))
          have hk : T11.heap.size ≤ T11.heap.size := Nat.le_refl _
          have hZ : Z.Warmed39 (s.setVm T11.vm).vm := State.Warmed39.trans (t := (s.setVm s.vm)) hZ hS11.1
          have hown : (s.setVm T11.vm).vm.findClass "com/example/arvi/arvi/model/RecurringPurchaseDetailsIsEntitledAtPinLaw" = some m.cls := by rw [show (s.setVm T11.vm).vm = T11.vm from rfl, hS11.1.alike.findClass]; exact hown
          have V_b5 := V_b5.keep K11 (ninS (ne_b5_b10) nin0)
          have E_b8 := E_b8.keep K11
          have F_coder_b8 := F_coder_b8.keep K11 (ninS (ne_b8_b10) nin0)
          have F_value_b8 := F_value_b8.keep K11 (ninS (ne_b8_b10) nin0)
          have V_t9 := V_t9.keep K11 (ninS (ne_t9_b10) nin0)
          have E_b10 := E_b10.keep K11
          have O0 := O0.keep K11 (allS g_b10 all0)
          have F_expiryTime_b10 := Fe11
          have F_lastPurchaseState_b10 := Fl11
          refine Goes.thru (T' := T11.setTop (mkF m 158 #[.val (.long q0), .second, .val (.long q1), .second, .val (.int p2), .val (.long q3), .second, .val (.int p4), .val (.int p5), .val (.int (p4 &&& (3 : Int32))), .val (.long tm), .second, .val (.int stv), .val (.int ar), .val (.ref mk), .val (.ref b5), .val (.ref b8), .unset, .unset, .unset, .unset, .unset] [(.ref b10)])) st11 ?_
          refine Goes.to (T' := T11.setTop (mkF m 160 #[.val (.long q0), .second, .val (.long q1), .second, .val (.int p2), .val (.long q3), .second, .val (.int p4), .val (.int p5), .val (.int (p4 &&& (3 : Int32))), .val (.long tm), .second, .val (.int stv), .val (.int ar), .val (.ref mk), .val (.ref b5), .val (.ref b8), .val (.ref b10), .unset, .unset, .unset, .unset] [])) (fun t k => XS.astore X11.here hx rfl (hb hby at_158) rfl rfl (l' := #[.val (.long q0), .second, .val (.long q1), .second, .val (.int p2), .val (.long q3), .second, .val (.int p4), .val (.int p5), .val (.int (p4 &&& (3 : Int32))), .val (.long tm), .second, .val (.int stv), .val (.int ar), .val (.ref mk), .val (.ref b5), .val (.ref b8), .val (.ref b10), .unset, .unset, .unset, .unset]) rfl k) ?_
          rcases Decidable.em (q0 < tm) with hk12 | hk12
          · skip
            rcases Decidable.em (stv = (0 : Int32)) with hk13 | hk13
            · skip
              refine Goes.to (T' := T11.setTop (mkF m 162 #[.val (.long q0), .second, .val (.long q1), .second, .val (.int p2), .val (.long q3), .second, .val (.int p4), .val (.int p5), .val (.int (p4 &&& (3 : Int32))), .val (.long tm), .second, .val (.int stv), .val (.int ar), .val (.ref mk), .val (.ref b5), .val (.ref b8), .val (.ref b10), .unset, .unset, .unset, .unset] [(.ref b10)])) (fun t k => XS.aload X11.here hx rfl (hb hby at_160) rfl rfl k) ?_
              refine Goes.to (T' := T11.setTop (mkF m 164 #[.val (.long q0), .second, .val (.long q1), .second, .val (.int p2), .val (.long q3), .second, .val (.int p4), .val (.int p5), .val (.int (p4 &&& (3 : Int32))), .val (.long tm), .second, .val (.int stv), .val (.int ar), .val (.ref mk), .val (.ref b5), .val (.ref b8), .val (.ref b10), .unset, .unset, .unset, .unset] [(.long tm), (.ref b10)])) (fun t k => XS.lload X11.here hx rfl (hb hby at_162) rfl k) ?_
              obtain ⟨cq14, kq14, q14a, q14b, q14c⟩ := isOf hZ rfl E_b10
              obtain ⟨_, _, ⟨T14, L14, k14, n14⟩, -, X14, ⟨Lc14, hQ14, l14, y14, z14⟩, st14⟩ := X11.virtualBack hx (y := (⟨"com/example/arvi/arvi/model/RecurringPurchaseDetails", "isEntitledAt", "(J)Z"⟩ : MethodName)) (z := (⟨"com/example/arvi/arvi/model/RecurringPurchaseDetails", "isEntitledAt", "(J)Z"⟩ : MethodName)) hown (mvT hZ (hw _ (List.mem_of_getElem? (i := 71) rfl))) (mvT hZ (hw _ (List.mem_of_getElem? (i := 72) rfl))) (notFace_of_selects (args := #[]) (mvT hZ (hw _ (List.mem_of_getElem? (i := 74) rfl)))) (mvT hZ (hw _ (List.mem_of_getElem? (i := 74) rfl))) (mvT hZ (hw _ (List.mem_of_getElem? (i := 73) rfl))) (by decide) (backOf (W := 0) (rmE l Z a0 hw [] b10 tm w_Market_MKT_GLB w_Market_MKT_ONE z_cs q0 stv (0 : Int32) T11.heap n0 O0 NF F_expiryTime_b10 F_lastPurchaseState_b10 (by first | (simp [hk12, hk13]; done) | ((repeat' split) <;> first | rfl | contradiction | simp_all))) hZ (hw _ (List.mem_of_getElem? (i := 75) rfl)) (hw _ (List.mem_of_getElem? (i := 35) rfl)) (by decide) (by decide)) q14a q14c (g := (mkF m 164 #[.val (.long q0), .second, .val (.long q1), .second, .val (.int p2), .val (.long q3), .second, .val (.int p4), .val (.int p5), .val (.int (p4 &&& (3 : Int32))), .val (.long tm), .second, .val (.int stv), .val (.int ar), .val (.ref mk), .val (.ref b5), .val (.ref b8), .val (.ref b10), .unset, .unset, .unset, .unset] [(.long tm), (.ref b10)])) rfl (by rw [hml]; rfl) (Steps.refl _) (argsL := [(.long tm)]) (rest := []) (lenOf pd_61 rfl) rfl (by show 2 * 0 + _ ≤ _; exact Nat.le_of_eq rfl) (hb hby at_164) (fun _ _ => ⟨rfl, rfl, (by decide : 8 + 0 ≤ _), (by decide : 104 + 0 ≤ _)⟩)
              dsimp only [Pt.U, Pt.locs, Pt.cells, Pt.slots] at X14 l14 y14 z14 st14 hQ14
              subst l14 y14 z14
              obtain ⟨rfl, Nq14, e14⟩ := hQ14
              have N14 := Fr.app N11 Nq14
              refine Goes.thru (T' := T14.setTop (mkF m 167 #[.val (.long q0), .second, .val (.long q1), .second, .val (.int p2), .val (.long q3), .second, .val (.int p4), .val (.int p5), .val (.int (p4 &&& (3 : Int32))), .val (.long tm), .second, .val (.int stv), .val (.int ar), .val (.ref mk), .val (.ref b5), .val (.ref b8), .val (.ref b10), .unset, .unset, .unset, .unset] [(.int (0 : Int32))])) st14 ?_
              refine Goes.to (T' := T14.setTop (mkF m 169 #[.val (.long q0), .second, .val (.long q1), .second, .val (.int p2), .val (.long q3), .second, .val (.int p4), .val (.int p5), .val (.int (p4 &&& (3 : Int32))), .val (.long tm), .second, .val (.int stv), .val (.int ar), .val (.ref mk), .val (.ref b5), .val (.ref b8), .val (.ref b10), .val (.int (0 : Int32)), .unset, .unset, .unset] [])) (fun t k => XS.istore X14.here hx rfl (hb hby at_167) rfl (l' := #[.val (.long q0), .second, .val (.long q1), .second, .val (.int p2), .val (.long q3), .second, .val (.int p4), .val (.int p5), .val (.int (p4 &&& (3 : Int32))), .val (.long tm), .second, .val (.int stv), .val (.int ar), .val (.ref mk), .val (.ref b5), .val (.ref b8), .val (.ref b10), .val (.int (0 : Int32)), .unset, .unset, .unset]) rfl k) ?_
              refine Goes.to (T' := T14.setTop (mkF m 171 #[.val (.long q0), .second, .val (.long q1), .second, .val (.int p2), .val (.long q3), .second, .val (.int p4), .val (.int p5), .val (.int (p4 &&& (3 : Int32))), .val (.long tm), .second, .val (.int stv), .val (.int ar), .val (.ref mk), .val (.ref b5), .val (.ref b8), .val (.ref b10), .val (.int (0 : Int32)), .unset, .unset, .unset] [(.long tm)])) (fun t k => XS.lload X14.here hx rfl (hb hby at_169) rfl k) ?_
              refine Goes.to (T' := T14.setTop (mkF m 172 #[.val (.long q0), .second, .val (.long q1), .second, .val (.int p2), .val (.long q3), .second, .val (.int p4), .val (.int p5), .val (.int (p4 &&& (3 : Int32))), .val (.long tm), .second, .val (.int stv), .val (.int ar), .val (.ref mk), .val (.ref b5), .val (.ref b8), .val (.ref b10), .val (.int (0 : Int32)), .unset, .unset, .unset] [(.long q0), (.long tm)])) (fun t k => XS.lloadN X14.here hx rfl (hb hby at_171) rfl k) ?_
              refine Goes.to (T' := T14.setTop (mkF m 173 #[.val (.long q0), .second, .val (.long q1), .second, .val (.int p2), .val (.long q3), .second, .val (.int p4), .val (.int p5), .val (.int (p4 &&& (3 : Int32))), .val (.long tm), .second, .val (.int stv), .val (.int ar), .val (.ref mk), .val (.ref b5), .val (.ref b8), .val (.ref b10), .val (.int (0 : Int32)), .unset, .unset, .unset] [(.int (lcmpW tm q0))])) (fun t k => XS.lcmp X14.here hx rfl (hb hby at_172) rfl k) ?_
              refine Goes.to (T' := T14.setTop (mkF m 180 #[.val (.long q0), .second, .val (.long q1), .second, .val (.int p2), .val (.long q3), .second, .val (.int p4), .val (.int p5), .val (.int (p4 &&& (3 : Int32))), .val (.long tm), .second, .val (.int stv), .val (.int ar), .val (.ref mk), .val (.ref b5), .val (.ref b8), .val (.ref b10), .val (.int (0 : Int32)), .unset, .unset, .unset] [])) (fun t k => XS.ifYes X14.here hx rfl (pc0 := 173) (pc' := 180) rfl (hb hby at_173) rfl ((if0 _ _).trans (tlt ((lw_gt tm q0).mpr hk12)).2.2.1) (by decide) (by decide) k) ?_
              refine Goes.to (T' := T14.setTop (mkF m 181 #[.val (.long q0), .second, .val (.long q1), .second, .val (.int p2), .val (.long q3), .second, .val (.int p4), .val (.int p5), .val (.int (p4 &&& (3 : Int32))), .val (.long tm), .second, .val (.int stv), .val (.int ar), .val (.ref mk), .val (.ref b5), .val (.ref b8), .val (.ref b10), .val (.int (0 : Int32)), .unset, .unset, .unset] [(.int (0 : Int32))])) (fun t k => XS.iconst X14.here hx rfl (hb hby at_180) k) ?_
              refine Goes.to (T' := T14.setTop (mkF m 183 #[.val (.long q0), .second, .val (.long q1), .second, .val (.int p2), .val (.long q3), .second, .val (.int p4), .val (.int p5), .val (.int (p4 &&& (3 : Int32))), .val (.long tm), .second, .val (.int stv), .val (.int ar), .val (.ref mk), .val (.ref b5), .val (.ref b8), .val (.ref b10), .val (.int (0 : Int32)), .val (.int (0 : Int32)), .unset, .unset] [])) (fun t k => XS.istore X14.here hx rfl (hb hby at_181) rfl (l' := #[.val (.long q0), .second, .val (.long q1), .second, .val (.int p2), .val (.long q3), .second, .val (.int p4), .val (.int p5), .val (.int (p4 &&& (3 : Int32))), .val (.long tm), .second, .val (.int stv), .val (.int ar), .val (.ref mk), .val (.ref b5), .val (.ref b8), .val (.ref b10), .val (.int (0 : Int32)), .val (.int (0 : Int32)), .unset, .unset]) rfl k) ?_
              refine Goes.to (T' := T14.setTop (mkF m 185 #[.val (.long q0), .second, .val (.long q1), .second, .val (.int p2), .val (.long q3), .second, .val (.int p4), .val (.int p5), .val (.int (p4 &&& (3 : Int32))), .val (.long tm), .second, .val (.int stv), .val (.int ar), .val (.ref mk), .val (.ref b5), .val (.ref b8), .val (.ref b10), .val (.int (0 : Int32)), .val (.int (0 : Int32)), .unset, .unset] [(.int stv)])) (fun t k => XS.iload X14.here hx rfl (hb hby at_183) rfl k) ?_
              refine Goes.to (T' := T14.setTop (mkF m 188 #[.val (.long q0), .second, .val (.long q1), .second, .val (.int p2), .val (.long q3), .second, .val (.int p4), .val (.int p5), .val (.int (p4 &&& (3 : Int32))), .val (.long tm), .second, .val (.int stv), .val (.int ar), .val (.ref mk), .val (.ref b5), .val (.ref b8), .val (.ref b10), .val (.int (0 : Int32)), .val (.int (0 : Int32)), .unset, .unset] [])) (fun t k => XS.ifNo X14.here hx rfl (hb hby at_185) rfl ((if0 _ _).trans (teq hk13).2) k) ?_
              refine Goes.to (T' := T14.setTop (mkF m 189 #[.val (.long q0), .second, .val (.long q1), .second, .val (.int p2), .val (.long q3), .second, .val (.int p4), .val (.int p5), .val (.int (p4 &&& (3 : Int32))), .val (.long tm), .second, .val (.int stv), .val (.int ar), .val (.ref mk), .val (.ref b5), .val (.ref b8), .val (.ref b10), .val (.int (0 : Int32)), .val (.int (0 : Int32)), .unset, .unset] [(.int (1 : Int32))])) (fun t k => XS.iconst X14.here hx rfl (hb hby at_188) k) ?_
              refine Goes.to (T' := T14.setTop (mkF m 193 #[.val (.long q0), .second, .val (.long q1), .second, .val (.int p2), .val (.long q3), .second, .val (.int p4), .val (.int p5), .val (.int (p4 &&& (3 : Int32))), .val (.long tm), .second, .val (.int stv), .val (.int ar), .val (.ref mk), .val (.ref b5), .val (.ref b8), .val (.ref b10), .val (.int (0 : Int32)), .val (.int (0 : Int32)), .unset, .unset] [(.int (1 : Int32))])) (fun t k => XS.goto X14.here hx rfl (pc0 := 189) (pc' := 193) rfl (hb hby at_189) (by decide) (by decide) k) ?_
              refine Goes.to (T' := T14.setTop (mkF m 195 #[.val (.long q0), .second, .val (.long q1), .second, .val (.int p2), .val (.long q3), .second, .val (.int p4), .val (.int p5), .val (.int (p4 &&& (3 : Int32))), .val (.long tm), .second, .val (.int stv), .val (.int ar), .val (.ref mk), .val (.ref b5), .val (.ref b8), .val (.ref b10), .val (.int (0 : Int32)), .val (.int (0 : Int32)), .val (.int (1 : Int32)), .unset] [])) (fun t k => XS.istore X14.here hx rfl (hb hby at_193) rfl (l' := #[.val (.long q0), .second, .val (.long q1), .second, .val (.int p2), .val (.long q3), .second, .val (.int p4), .val (.int p5), .val (.int (p4 &&& (3 : Int32))), .val (.long tm), .second, .val (.int stv), .val (.int ar), .val (.ref mk), .val (.ref b5), .val (.ref b8), .val (.ref b10), .val (.int (0 : Int32)), .val (.int (0 : Int32)), .val (.int (1 : Int32)), .unset]) rfl k) ?_
              refine Goes.to (T' := T14.setTop (mkF m 197 #[.val (.long q0), .second, .val (.long q1), .second, .val (.int p2), .val (.long q3), .second, .val (.int p4), .val (.int p5), .val (.int (p4 &&& (3 : Int32))), .val (.long tm), .second, .val (.int stv), .val (.int ar), .val (.ref mk), .val (.ref b5), .val (.ref b8), .val (.ref b10), .val (.int (0 : Int32)), .val (.int (0 : Int32)), .val (.int (1 : Int32)), .unset] [(.int (0 : Int32))])) (fun t k => XS.iload X14.here hx rfl (hb hby at_195) rfl k) ?_
              refine Goes.to (T' := T14.setTop (mkF m 209 #[.val (.long q0), .second, .val (.long q1), .second, .val (.int p2), .val (.long q3), .second, .val (.int p4), .val (.int p5), .val (.int (p4 &&& (3 : Int32))), .val (.long tm), .second, .val (.int stv), .val (.int ar), .val (.ref mk), .val (.ref b5), .val (.ref b8), .val (.ref b10), .val (.int (0 : Int32)), .val (.int (0 : Int32)), .val (.int (1 : Int32)), .unset] [])) (fun t k => XS.ifYes X14.here hx rfl (pc0 := 197) (pc' := 209) rfl (hb hby at_197) rfl ((if0 _ _).trans (teq (by decide)).1) (by decide) (by decide) k) ?_
              refine Goes.to (T' := T14.setTop (mkF m 210 #[.val (.long q0), .second, .val (.long q1), .second, .val (.int p2), .val (.long q3), .second, .val (.int p4), .val (.int p5), .val (.int (p4 &&& (3 : Int32))), .val (.long tm), .second, .val (.int stv), .val (.int ar), .val (.ref mk), .val (.ref b5), .val (.ref b8), .val (.ref b10), .val (.int (0 : Int32)), .val (.int (0 : Int32)), .val (.int (1 : Int32)), .unset] [(.int (0 : Int32))])) (fun t k => XS.iconst X14.here hx rfl (hb hby at_209) k) ?_
              refine Goes.to (T' := T14.setTop (mkF m 212 #[.val (.long q0), .second, .val (.long q1), .second, .val (.int p2), .val (.long q3), .second, .val (.int p4), .val (.int p5), .val (.int (p4 &&& (3 : Int32))), .val (.long tm), .second, .val (.int stv), .val (.int ar), .val (.ref mk), .val (.ref b5), .val (.ref b8), .val (.ref b10), .val (.int (0 : Int32)), .val (.int (0 : Int32)), .val (.int (1 : Int32)), .val (.int (0 : Int32))] [])) (fun t k => XS.istore X14.here hx rfl (hb hby at_210) rfl (l' := #[.val (.long q0), .second, .val (.long q1), .second, .val (.int p2), .val (.long q3), .second, .val (.int p4), .val (.int p5), .val (.int (p4 &&& (3 : Int32))), .val (.long tm), .second, .val (.int stv), .val (.int ar), .val (.ref mk), .val (.ref b5), .val (.ref b8), .val (.ref b10), .val (.int (0 : Int32)), .val (.int (0 : Int32)), .val (.int (1 : Int32)), .val (.int (0 : Int32))]) rfl k) ?_
              refine Goes.to (T' := T14.setTop (mkF m 214 #[.val (.long q0), .second, .val (.long q1), .second, .val (.int p2), .val (.long q3), .second, .val (.int p4), .val (.int p5), .val (.int (p4 &&& (3 : Int32))), .val (.long tm), .second, .val (.int stv), .val (.int ar), .val (.ref mk), .val (.ref b5), .val (.ref b8), .val (.ref b10), .val (.int (0 : Int32)), .val (.int (0 : Int32)), .val (.int (1 : Int32)), .val (.int (0 : Int32))] [(.int (0 : Int32))])) (fun t k => XS.iload X14.here hx rfl (hb hby at_212) rfl k) ?_
              refine Goes.to (T' := T14.setTop (mkF m 216 #[.val (.long q0), .second, .val (.long q1), .second, .val (.int p2), .val (.long q3), .second, .val (.int p4), .val (.int p5), .val (.int (p4 &&& (3 : Int32))), .val (.long tm), .second, .val (.int stv), .val (.int ar), .val (.ref mk), .val (.ref b5), .val (.ref b8), .val (.ref b10), .val (.int (0 : Int32)), .val (.int (0 : Int32)), .val (.int (1 : Int32)), .val (.int (0 : Int32))] [(.int (0 : Int32)), (.int (0 : Int32))])) (fun t k => XS.iload X14.here hx rfl (hb hby at_214) rfl k) ?_
              refine Goes.to (T' := T14.setTop (mkF m 219 #[.val (.long q0), .second, .val (.long q1), .second, .val (.int p2), .val (.long q3), .second, .val (.int p4), .val (.int p5), .val (.int (p4 &&& (3 : Int32))), .val (.long tm), .second, .val (.int stv), .val (.int ar), .val (.ref mk), .val (.ref b5), .val (.ref b8), .val (.ref b10), .val (.int (0 : Int32)), .val (.int (0 : Int32)), .val (.int (1 : Int32)), .val (.int (0 : Int32))] [])) (fun t k => XS.icmpNo X14.here hx rfl (hb hby at_216) rfl (teq (by decide)).2 k) ?_
              refine Goes.to (T' := T14.setTop (mkF m 220 #[.val (.long q0), .second, .val (.long q1), .second, .val (.int p2), .val (.long q3), .second, .val (.int p4), .val (.int p5), .val (.int (p4 &&& (3 : Int32))), .val (.long tm), .second, .val (.int stv), .val (.int ar), .val (.ref mk), .val (.ref b5), .val (.ref b8), .val (.ref b10), .val (.int (0 : Int32)), .val (.int (0 : Int32)), .val (.int (1 : Int32)), .val (.int (0 : Int32))] [(.int (1 : Int32))])) (fun t k => XS.iconst X14.here hx rfl (hb hby at_219) k) ?_
              refine Goes.to (T' := T14.setTop (mkF m 224 #[.val (.long q0), .second, .val (.long q1), .second, .val (.int p2), .val (.long q3), .second, .val (.int p4), .val (.int p5), .val (.int (p4 &&& (3 : Int32))), .val (.long tm), .second, .val (.int stv), .val (.int ar), .val (.ref mk), .val (.ref b5), .val (.ref b8), .val (.ref b10), .val (.int (0 : Int32)), .val (.int (0 : Int32)), .val (.int (1 : Int32)), .val (.int (0 : Int32))] [(.int (1 : Int32))])) (fun t k => XS.goto X14.here hx rfl (pc0 := 220) (pc' := 224) rfl (hb hby at_220) (by decide) (by decide) k) ?_
              obtain ⟨fs, hrL, hrun, hended, hRW⟩ := X14.leaveW hS (by rw [e14]; exact hk) (v := some (.int (1 : Int32))) (fun h => by rw [Bd.returns] at h; cases h)
              subst hQf
              refine ⟨_, _, retN X14 hx (t := .boolean) Bd.returns (by simp) (hb hby at_224) hrL, hrun, hended, _, _, rfl, ?_, hRW.1, hRW.2.1, hRW.2.2.1, hRW.2.2.2.mono (by decide) (by decide)⟩
              show (fun (v : Option Value) (h : Heap) (L : List Loc) => v = some (.int 1) ∧ Fr n0 L) (some (.int (1 : Int32))) T14.heap _
              rw [e14]
              exact ⟨rfl, N14⟩
            · skip
              refine Goes.to (T' := T11.setTop (mkF m 162 #[.val (.long q0), .second, .val (.long q1), .second, .val (.int p2), .val (.long q3), .second, .val (.int p4), .val (.int p5), .val (.int (p4 &&& (3 : Int32))), .val (.long tm), .second, .val (.int stv), .val (.int ar), .val (.ref mk), .val (.ref b5), .val (.ref b8), .val (.ref b10), .unset, .unset, .unset, .unset] [(.ref b10)])) (fun t k => XS.aload X11.here hx rfl (hb hby at_160) rfl rfl k) ?_
              refine Goes.to (T' := T11.setTop (mkF m 164 #[.val (.long q0), .second, .val (.long q1), .second, .val (.int p2), .val (.long q3), .second, .val (.int p4), .val (.int p5), .val (.int (p4 &&& (3 : Int32))), .val (.long tm), .second, .val (.int stv), .val (.int ar), .val (.ref mk), .val (.ref b5), .val (.ref b8), .val (.ref b10), .unset, .unset, .unset, .unset] [(.long tm), (.ref b10)])) (fun t k => XS.lload X11.here hx rfl (hb hby at_162) rfl k) ?_
              obtain ⟨cq15, kq15, q15a, q15b, q15c⟩ := isOf hZ rfl E_b10
              obtain ⟨_, _, ⟨T15, L15, k15, n15⟩, -, X15, ⟨Lc15, hQ15, l15, y15, z15⟩, st15⟩ := X11.virtualBack hx (y := (⟨"com/example/arvi/arvi/model/RecurringPurchaseDetails", "isEntitledAt", "(J)Z"⟩ : MethodName)) (z := (⟨"com/example/arvi/arvi/model/RecurringPurchaseDetails", "isEntitledAt", "(J)Z"⟩ : MethodName)) hown (mvT hZ (hw _ (List.mem_of_getElem? (i := 71) rfl))) (mvT hZ (hw _ (List.mem_of_getElem? (i := 72) rfl))) (notFace_of_selects (args := #[]) (mvT hZ (hw _ (List.mem_of_getElem? (i := 74) rfl)))) (mvT hZ (hw _ (List.mem_of_getElem? (i := 74) rfl))) (mvT hZ (hw _ (List.mem_of_getElem? (i := 73) rfl))) (by decide) (backOf (W := 0) (rmE l Z a0 hw [] b10 tm w_Market_MKT_GLB w_Market_MKT_ONE z_cs q0 stv (0 : Int32) T11.heap n0 O0 NF F_expiryTime_b10 F_lastPurchaseState_b10 (by first | (simp [hk12, hk13]; done) | ((repeat' split) <;> first | rfl | contradiction | simp_all))) hZ (hw _ (List.mem_of_getElem? (i := 75) rfl)) (hw _ (List.mem_of_getElem? (i := 35) rfl)) (by decide) (by decide)) q15a q15c (g := (mkF m 164 #[.val (.long q0), .second, .val (.long q1), .second, .val (.int p2), .val (.long q3), .second, .val (.int p4), .val (.int p5), .val (.int (p4 &&& (3 : Int32))), .val (.long tm), .second, .val (.int stv), .val (.int ar), .val (.ref mk), .val (.ref b5), .val (.ref b8), .val (.ref b10), .unset, .unset, .unset, .unset] [(.long tm), (.ref b10)])) rfl (by rw [hml]; rfl) (Steps.refl _) (argsL := [(.long tm)]) (rest := []) (lenOf pd_61 rfl) rfl (by show 2 * 0 + _ ≤ _; exact Nat.le_of_eq rfl) (hb hby at_164) (fun _ _ => ⟨rfl, rfl, (by decide : 8 + 0 ≤ _), (by decide : 104 + 0 ≤ _)⟩)
              dsimp only [Pt.U, Pt.locs, Pt.cells, Pt.slots] at X15 l15 y15 z15 st15 hQ15
              subst l15 y15 z15
              obtain ⟨rfl, Nq15, e15⟩ := hQ15
              have N15 := Fr.app N11 Nq15
              refine Goes.thru (T' := T15.setTop (mkF m 167 #[.val (.long q0), .second, .val (.long q1), .second, .val (.int p2), .val (.long q3), .second, .val (.int p4), .val (.int p5), .val (.int (p4 &&& (3 : Int32))), .val (.long tm), .second, .val (.int stv), .val (.int ar), .val (.ref mk), .val (.ref b5), .val (.ref b8), .val (.ref b10), .unset, .unset, .unset, .unset] [(.int (0 : Int32))])) st15 ?_
              refine Goes.to (T' := T15.setTop (mkF m 169 #[.val (.long q0), .second, .val (.long q1), .second, .val (.int p2), .val (.long q3), .second, .val (.int p4), .val (.int p5), .val (.int (p4 &&& (3 : Int32))), .val (.long tm), .second, .val (.int stv), .val (.int ar), .val (.ref mk), .val (.ref b5), .val (.ref b8), .val (.ref b10), .val (.int (0 : Int32)), .unset, .unset, .unset] [])) (fun t k => XS.istore X15.here hx rfl (hb hby at_167) rfl (l' := #[.val (.long q0), .second, .val (.long q1), .second, .val (.int p2), .val (.long q3), .second, .val (.int p4), .val (.int p5), .val (.int (p4 &&& (3 : Int32))), .val (.long tm), .second, .val (.int stv), .val (.int ar), .val (.ref mk), .val (.ref b5), .val (.ref b8), .val (.ref b10), .val (.int (0 : Int32)), .unset, .unset, .unset]) rfl k) ?_
              refine Goes.to (T' := T15.setTop (mkF m 171 #[.val (.long q0), .second, .val (.long q1), .second, .val (.int p2), .val (.long q3), .second, .val (.int p4), .val (.int p5), .val (.int (p4 &&& (3 : Int32))), .val (.long tm), .second, .val (.int stv), .val (.int ar), .val (.ref mk), .val (.ref b5), .val (.ref b8), .val (.ref b10), .val (.int (0 : Int32)), .unset, .unset, .unset] [(.long tm)])) (fun t k => XS.lload X15.here hx rfl (hb hby at_169) rfl k) ?_
              refine Goes.to (T' := T15.setTop (mkF m 172 #[.val (.long q0), .second, .val (.long q1), .second, .val (.int p2), .val (.long q3), .second, .val (.int p4), .val (.int p5), .val (.int (p4 &&& (3 : Int32))), .val (.long tm), .second, .val (.int stv), .val (.int ar), .val (.ref mk), .val (.ref b5), .val (.ref b8), .val (.ref b10), .val (.int (0 : Int32)), .unset, .unset, .unset] [(.long q0), (.long tm)])) (fun t k => XS.lloadN X15.here hx rfl (hb hby at_171) rfl k) ?_
              refine Goes.to (T' := T15.setTop (mkF m 173 #[.val (.long q0), .second, .val (.long q1), .second, .val (.int p2), .val (.long q3), .second, .val (.int p4), .val (.int p5), .val (.int (p4 &&& (3 : Int32))), .val (.long tm), .second, .val (.int stv), .val (.int ar), .val (.ref mk), .val (.ref b5), .val (.ref b8), .val (.ref b10), .val (.int (0 : Int32)), .unset, .unset, .unset] [(.int (lcmpW tm q0))])) (fun t k => XS.lcmp X15.here hx rfl (hb hby at_172) rfl k) ?_
              refine Goes.to (T' := T15.setTop (mkF m 180 #[.val (.long q0), .second, .val (.long q1), .second, .val (.int p2), .val (.long q3), .second, .val (.int p4), .val (.int p5), .val (.int (p4 &&& (3 : Int32))), .val (.long tm), .second, .val (.int stv), .val (.int ar), .val (.ref mk), .val (.ref b5), .val (.ref b8), .val (.ref b10), .val (.int (0 : Int32)), .unset, .unset, .unset] [])) (fun t k => XS.ifYes X15.here hx rfl (pc0 := 173) (pc' := 180) rfl (hb hby at_173) rfl ((if0 _ _).trans (tlt ((lw_gt tm q0).mpr hk12)).2.2.1) (by decide) (by decide) k) ?_
              refine Goes.to (T' := T15.setTop (mkF m 181 #[.val (.long q0), .second, .val (.long q1), .second, .val (.int p2), .val (.long q3), .second, .val (.int p4), .val (.int p5), .val (.int (p4 &&& (3 : Int32))), .val (.long tm), .second, .val (.int stv), .val (.int ar), .val (.ref mk), .val (.ref b5), .val (.ref b8), .val (.ref b10), .val (.int (0 : Int32)), .unset, .unset, .unset] [(.int (0 : Int32))])) (fun t k => XS.iconst X15.here hx rfl (hb hby at_180) k) ?_
              refine Goes.to (T' := T15.setTop (mkF m 183 #[.val (.long q0), .second, .val (.long q1), .second, .val (.int p2), .val (.long q3), .second, .val (.int p4), .val (.int p5), .val (.int (p4 &&& (3 : Int32))), .val (.long tm), .second, .val (.int stv), .val (.int ar), .val (.ref mk), .val (.ref b5), .val (.ref b8), .val (.ref b10), .val (.int (0 : Int32)), .val (.int (0 : Int32)), .unset, .unset] [])) (fun t k => XS.istore X15.here hx rfl (hb hby at_181) rfl (l' := #[.val (.long q0), .second, .val (.long q1), .second, .val (.int p2), .val (.long q3), .second, .val (.int p4), .val (.int p5), .val (.int (p4 &&& (3 : Int32))), .val (.long tm), .second, .val (.int stv), .val (.int ar), .val (.ref mk), .val (.ref b5), .val (.ref b8), .val (.ref b10), .val (.int (0 : Int32)), .val (.int (0 : Int32)), .unset, .unset]) rfl k) ?_
              refine Goes.to (T' := T15.setTop (mkF m 185 #[.val (.long q0), .second, .val (.long q1), .second, .val (.int p2), .val (.long q3), .second, .val (.int p4), .val (.int p5), .val (.int (p4 &&& (3 : Int32))), .val (.long tm), .second, .val (.int stv), .val (.int ar), .val (.ref mk), .val (.ref b5), .val (.ref b8), .val (.ref b10), .val (.int (0 : Int32)), .val (.int (0 : Int32)), .unset, .unset] [(.int stv)])) (fun t k => XS.iload X15.here hx rfl (hb hby at_183) rfl k) ?_
              refine Goes.to (T' := T15.setTop (mkF m 192 #[.val (.long q0), .second, .val (.long q1), .second, .val (.int p2), .val (.long q3), .second, .val (.int p4), .val (.int p5), .val (.int (p4 &&& (3 : Int32))), .val (.long tm), .second, .val (.int stv), .val (.int ar), .val (.ref mk), .val (.ref b5), .val (.ref b8), .val (.ref b10), .val (.int (0 : Int32)), .val (.int (0 : Int32)), .unset, .unset] [])) (fun t k => XS.ifYes X15.here hx rfl (pc0 := 185) (pc' := 192) rfl (hb hby at_185) rfl ((if0 _ _).trans (feq hk13).2) (by decide) (by decide) k) ?_
              refine Goes.to (T' := T15.setTop (mkF m 193 #[.val (.long q0), .second, .val (.long q1), .second, .val (.int p2), .val (.long q3), .second, .val (.int p4), .val (.int p5), .val (.int (p4 &&& (3 : Int32))), .val (.long tm), .second, .val (.int stv), .val (.int ar), .val (.ref mk), .val (.ref b5), .val (.ref b8), .val (.ref b10), .val (.int (0 : Int32)), .val (.int (0 : Int32)), .unset, .unset] [(.int (0 : Int32))])) (fun t k => XS.iconst X15.here hx rfl (hb hby at_192) k) ?_
              refine Goes.to (T' := T15.setTop (mkF m 195 #[.val (.long q0), .second, .val (.long q1), .second, .val (.int p2), .val (.long q3), .second, .val (.int p4), .val (.int p5), .val (.int (p4 &&& (3 : Int32))), .val (.long tm), .second, .val (.int stv), .val (.int ar), .val (.ref mk), .val (.ref b5), .val (.ref b8), .val (.ref b10), .val (.int (0 : Int32)), .val (.int (0 : Int32)), .val (.int (0 : Int32)), .unset] [])) (fun t k => XS.istore X15.here hx rfl (hb hby at_193) rfl (l' := #[.val (.long q0), .second, .val (.long q1), .second, .val (.int p2), .val (.long q3), .second, .val (.int p4), .val (.int p5), .val (.int (p4 &&& (3 : Int32))), .val (.long tm), .second, .val (.int stv), .val (.int ar), .val (.ref mk), .val (.ref b5), .val (.ref b8), .val (.ref b10), .val (.int (0 : Int32)), .val (.int (0 : Int32)), .val (.int (0 : Int32)), .unset]) rfl k) ?_
              refine Goes.to (T' := T15.setTop (mkF m 197 #[.val (.long q0), .second, .val (.long q1), .second, .val (.int p2), .val (.long q3), .second, .val (.int p4), .val (.int p5), .val (.int (p4 &&& (3 : Int32))), .val (.long tm), .second, .val (.int stv), .val (.int ar), .val (.ref mk), .val (.ref b5), .val (.ref b8), .val (.ref b10), .val (.int (0 : Int32)), .val (.int (0 : Int32)), .val (.int (0 : Int32)), .unset] [(.int (0 : Int32))])) (fun t k => XS.iload X15.here hx rfl (hb hby at_195) rfl k) ?_
              refine Goes.to (T' := T15.setTop (mkF m 209 #[.val (.long q0), .second, .val (.long q1), .second, .val (.int p2), .val (.long q3), .second, .val (.int p4), .val (.int p5), .val (.int (p4 &&& (3 : Int32))), .val (.long tm), .second, .val (.int stv), .val (.int ar), .val (.ref mk), .val (.ref b5), .val (.ref b8), .val (.ref b10), .val (.int (0 : Int32)), .val (.int (0 : Int32)), .val (.int (0 : Int32)), .unset] [])) (fun t k => XS.ifYes X15.here hx rfl (pc0 := 197) (pc' := 209) rfl (hb hby at_197) rfl ((if0 _ _).trans (teq (by decide)).1) (by decide) (by decide) k) ?_
              refine Goes.to (T' := T15.setTop (mkF m 210 #[.val (.long q0), .second, .val (.long q1), .second, .val (.int p2), .val (.long q3), .second, .val (.int p4), .val (.int p5), .val (.int (p4 &&& (3 : Int32))), .val (.long tm), .second, .val (.int stv), .val (.int ar), .val (.ref mk), .val (.ref b5), .val (.ref b8), .val (.ref b10), .val (.int (0 : Int32)), .val (.int (0 : Int32)), .val (.int (0 : Int32)), .unset] [(.int (0 : Int32))])) (fun t k => XS.iconst X15.here hx rfl (hb hby at_209) k) ?_
              refine Goes.to (T' := T15.setTop (mkF m 212 #[.val (.long q0), .second, .val (.long q1), .second, .val (.int p2), .val (.long q3), .second, .val (.int p4), .val (.int p5), .val (.int (p4 &&& (3 : Int32))), .val (.long tm), .second, .val (.int stv), .val (.int ar), .val (.ref mk), .val (.ref b5), .val (.ref b8), .val (.ref b10), .val (.int (0 : Int32)), .val (.int (0 : Int32)), .val (.int (0 : Int32)), .val (.int (0 : Int32))] [])) (fun t k => XS.istore X15.here hx rfl (hb hby at_210) rfl (l' := #[.val (.long q0), .second, .val (.long q1), .second, .val (.int p2), .val (.long q3), .second, .val (.int p4), .val (.int p5), .val (.int (p4 &&& (3 : Int32))), .val (.long tm), .second, .val (.int stv), .val (.int ar), .val (.ref mk), .val (.ref b5), .val (.ref b8), .val (.ref b10), .val (.int (0 : Int32)), .val (.int (0 : Int32)), .val (.int (0 : Int32)), .val (.int (0 : Int32))]) rfl k) ?_
              refine Goes.to (T' := T15.setTop (mkF m 214 #[.val (.long q0), .second, .val (.long q1), .second, .val (.int p2), .val (.long q3), .second, .val (.int p4), .val (.int p5), .val (.int (p4 &&& (3 : Int32))), .val (.long tm), .second, .val (.int stv), .val (.int ar), .val (.ref mk), .val (.ref b5), .val (.ref b8), .val (.ref b10), .val (.int (0 : Int32)), .val (.int (0 : Int32)), .val (.int (0 : Int32)), .val (.int (0 : Int32))] [(.int (0 : Int32))])) (fun t k => XS.iload X15.here hx rfl (hb hby at_212) rfl k) ?_
              refine Goes.to (T' := T15.setTop (mkF m 216 #[.val (.long q0), .second, .val (.long q1), .second, .val (.int p2), .val (.long q3), .second, .val (.int p4), .val (.int p5), .val (.int (p4 &&& (3 : Int32))), .val (.long tm), .second, .val (.int stv), .val (.int ar), .val (.ref mk), .val (.ref b5), .val (.ref b8), .val (.ref b10), .val (.int (0 : Int32)), .val (.int (0 : Int32)), .val (.int (0 : Int32)), .val (.int (0 : Int32))] [(.int (0 : Int32)), (.int (0 : Int32))])) (fun t k => XS.iload X15.here hx rfl (hb hby at_214) rfl k) ?_
              refine Goes.to (T' := T15.setTop (mkF m 219 #[.val (.long q0), .second, .val (.long q1), .second, .val (.int p2), .val (.long q3), .second, .val (.int p4), .val (.int p5), .val (.int (p4 &&& (3 : Int32))), .val (.long tm), .second, .val (.int stv), .val (.int ar), .val (.ref mk), .val (.ref b5), .val (.ref b8), .val (.ref b10), .val (.int (0 : Int32)), .val (.int (0 : Int32)), .val (.int (0 : Int32)), .val (.int (0 : Int32))] [])) (fun t k => XS.icmpNo X15.here hx rfl (hb hby at_216) rfl (teq (by decide)).2 k) ?_
              refine Goes.to (T' := T15.setTop (mkF m 220 #[.val (.long q0), .second, .val (.long q1), .second, .val (.int p2), .val (.long q3), .second, .val (.int p4), .val (.int p5), .val (.int (p4 &&& (3 : Int32))), .val (.long tm), .second, .val (.int stv), .val (.int ar), .val (.ref mk), .val (.ref b5), .val (.ref b8), .val (.ref b10), .val (.int (0 : Int32)), .val (.int (0 : Int32)), .val (.int (0 : Int32)), .val (.int (0 : Int32))] [(.int (1 : Int32))])) (fun t k => XS.iconst X15.here hx rfl (hb hby at_219) k) ?_
              refine Goes.to (T' := T15.setTop (mkF m 224 #[.val (.long q0), .second, .val (.long q1), .second, .val (.int p2), .val (.long q3), .second, .val (.int p4), .val (.int p5), .val (.int (p4 &&& (3 : Int32))), .val (.long tm), .second, .val (.int stv), .val (.int ar), .val (.ref mk), .val (.ref b5), .val (.ref b8), .val (.ref b10), .val (.int (0 : Int32)), .val (.int (0 : Int32)), .val (.int (0 : Int32)), .val (.int (0 : Int32))] [(.int (1 : Int32))])) (fun t k => XS.goto X15.here hx rfl (pc0 := 220) (pc' := 224) rfl (hb hby at_220) (by decide) (by decide) k) ?_
              obtain ⟨fs, hrL, hrun, hended, hRW⟩ := X15.leaveW hS (by rw [e15]; exact hk) (v := some (.int (1 : Int32))) (fun h => by rw [Bd.returns] at h; cases h)
              subst hQf
              refine ⟨_, _, retN X15 hx (t := .boolean) Bd.returns (by simp) (hb hby at_224) hrL, hrun, hended, _, _, rfl, ?_, hRW.1, hRW.2.1, hRW.2.2.1, hRW.2.2.2.mono (by decide) (by decide)⟩
              show (fun (v : Option Value) (h : Heap) (L : List Loc) => v = some (.int 1) ∧ Fr n0 L) (some (.int (1 : Int32))) T15.heap _
              rw [e15]
              exact ⟨rfl, N15⟩
          · skip
            rcases Decidable.em (stv = (0 : Int32)) with hk16 | hk16
            · skip
              refine Goes.to (T' := T11.setTop (mkF m 162 #[.val (.long q0), .second, .val (.long q1), .second, .val (.int p2), .val (.long q3), .second, .val (.int p4), .val (.int p5), .val (.int (p4 &&& (3 : Int32))), .val (.long tm), .second, .val (.int stv), .val (.int ar), .val (.ref mk), .val (.ref b5), .val (.ref b8), .val (.ref b10), .unset, .unset, .unset, .unset] [(.ref b10)])) (fun t k => XS.aload X11.here hx rfl (hb hby at_160) rfl rfl k) ?_
              refine Goes.to (T' := T11.setTop (mkF m 164 #[.val (.long q0), .second, .val (.long q1), .second, .val (.int p2), .val (.long q3), .second, .val (.int p4), .val (.int p5), .val (.int (p4 &&& (3 : Int32))), .val (.long tm), .second, .val (.int stv), .val (.int ar), .val (.ref mk), .val (.ref b5), .val (.ref b8), .val (.ref b10), .unset, .unset, .unset, .unset] [(.long tm), (.ref b10)])) (fun t k => XS.lload X11.here hx rfl (hb hby at_162) rfl k) ?_
              obtain ⟨cq17, kq17, q17a, q17b, q17c⟩ := isOf hZ rfl E_b10
              obtain ⟨_, _, ⟨T17, L17, k17, n17⟩, -, X17, ⟨Lc17, hQ17, l17, y17, z17⟩, st17⟩ := X11.virtualBack hx (y := (⟨"com/example/arvi/arvi/model/RecurringPurchaseDetails", "isEntitledAt", "(J)Z"⟩ : MethodName)) (z := (⟨"com/example/arvi/arvi/model/RecurringPurchaseDetails", "isEntitledAt", "(J)Z"⟩ : MethodName)) hown (mvT hZ (hw _ (List.mem_of_getElem? (i := 71) rfl))) (mvT hZ (hw _ (List.mem_of_getElem? (i := 72) rfl))) (notFace_of_selects (args := #[]) (mvT hZ (hw _ (List.mem_of_getElem? (i := 74) rfl)))) (mvT hZ (hw _ (List.mem_of_getElem? (i := 74) rfl))) (mvT hZ (hw _ (List.mem_of_getElem? (i := 73) rfl))) (by decide) (backOf (W := 0) (rmE l Z a0 hw [] b10 tm w_Market_MKT_GLB w_Market_MKT_ONE z_cs q0 stv (1 : Int32) T11.heap n0 O0 NF F_expiryTime_b10 F_lastPurchaseState_b10 (by first | (simp [hk12, hk16]; done) | ((repeat' split) <;> first | rfl | contradiction | simp_all))) hZ (hw _ (List.mem_of_getElem? (i := 75) rfl)) (hw _ (List.mem_of_getElem? (i := 35) rfl)) (by decide) (by decide)) q17a q17c (g := (mkF m 164 #[.val (.long q0), .second, .val (.long q1), .second, .val (.int p2), .val (.long q3), .second, .val (.int p4), .val (.int p5), .val (.int (p4 &&& (3 : Int32))), .val (.long tm), .second, .val (.int stv), .val (.int ar), .val (.ref mk), .val (.ref b5), .val (.ref b8), .val (.ref b10), .unset, .unset, .unset, .unset] [(.long tm), (.ref b10)])) rfl (by rw [hml]; rfl) (Steps.refl _) (argsL := [(.long tm)]) (rest := []) (lenOf pd_61 rfl) rfl (by show 2 * 0 + _ ≤ _; exact Nat.le_of_eq rfl) (hb hby at_164) (fun _ _ => ⟨rfl, rfl, (by decide : 8 + 0 ≤ _), (by decide : 104 + 0 ≤ _)⟩)
              dsimp only [Pt.U, Pt.locs, Pt.cells, Pt.slots] at X17 l17 y17 z17 st17 hQ17
              subst l17 y17 z17
              obtain ⟨rfl, Nq17, e17⟩ := hQ17
              have N17 := Fr.app N11 Nq17
              refine Goes.thru (T' := T17.setTop (mkF m 167 #[.val (.long q0), .second, .val (.long q1), .second, .val (.int p2), .val (.long q3), .second, .val (.int p4), .val (.int p5), .val (.int (p4 &&& (3 : Int32))), .val (.long tm), .second, .val (.int stv), .val (.int ar), .val (.ref mk), .val (.ref b5), .val (.ref b8), .val (.ref b10), .unset, .unset, .unset, .unset] [(.int (1 : Int32))])) st17 ?_
              refine Goes.to (T' := T17.setTop (mkF m 169 #[.val (.long q0), .second, .val (.long q1), .second, .val (.int p2), .val (.long q3), .second, .val (.int p4), .val (.int p5), .val (.int (p4 &&& (3 : Int32))), .val (.long tm), .second, .val (.int stv), .val (.int ar), .val (.ref mk), .val (.ref b5), .val (.ref b8), .val (.ref b10), .val (.int (1 : Int32)), .unset, .unset, .unset] [])) (fun t k => XS.istore X17.here hx rfl (hb hby at_167) rfl (l' := #[.val (.long q0), .second, .val (.long q1), .second, .val (.int p2), .val (.long q3), .second, .val (.int p4), .val (.int p5), .val (.int (p4 &&& (3 : Int32))), .val (.long tm), .second, .val (.int stv), .val (.int ar), .val (.ref mk), .val (.ref b5), .val (.ref b8), .val (.ref b10), .val (.int (1 : Int32)), .unset, .unset, .unset]) rfl k) ?_
              refine Goes.to (T' := T17.setTop (mkF m 171 #[.val (.long q0), .second, .val (.long q1), .second, .val (.int p2), .val (.long q3), .second, .val (.int p4), .val (.int p5), .val (.int (p4 &&& (3 : Int32))), .val (.long tm), .second, .val (.int stv), .val (.int ar), .val (.ref mk), .val (.ref b5), .val (.ref b8), .val (.ref b10), .val (.int (1 : Int32)), .unset, .unset, .unset] [(.long tm)])) (fun t k => XS.lload X17.here hx rfl (hb hby at_169) rfl k) ?_
              refine Goes.to (T' := T17.setTop (mkF m 172 #[.val (.long q0), .second, .val (.long q1), .second, .val (.int p2), .val (.long q3), .second, .val (.int p4), .val (.int p5), .val (.int (p4 &&& (3 : Int32))), .val (.long tm), .second, .val (.int stv), .val (.int ar), .val (.ref mk), .val (.ref b5), .val (.ref b8), .val (.ref b10), .val (.int (1 : Int32)), .unset, .unset, .unset] [(.long q0), (.long tm)])) (fun t k => XS.lloadN X17.here hx rfl (hb hby at_171) rfl k) ?_
              refine Goes.to (T' := T17.setTop (mkF m 173 #[.val (.long q0), .second, .val (.long q1), .second, .val (.int p2), .val (.long q3), .second, .val (.int p4), .val (.int p5), .val (.int (p4 &&& (3 : Int32))), .val (.long tm), .second, .val (.int stv), .val (.int ar), .val (.ref mk), .val (.ref b5), .val (.ref b8), .val (.ref b10), .val (.int (1 : Int32)), .unset, .unset, .unset] [(.int (lcmpW tm q0))])) (fun t k => XS.lcmp X17.here hx rfl (hb hby at_172) rfl k) ?_
              refine Goes.to (T' := T17.setTop (mkF m 176 #[.val (.long q0), .second, .val (.long q1), .second, .val (.int p2), .val (.long q3), .second, .val (.int p4), .val (.int p5), .val (.int (p4 &&& (3 : Int32))), .val (.long tm), .second, .val (.int stv), .val (.int ar), .val (.ref mk), .val (.ref b5), .val (.ref b8), .val (.ref b10), .val (.int (1 : Int32)), .unset, .unset, .unset] [])) (fun t k => XS.ifNo X17.here hx rfl (hb hby at_173) rfl ((if0 _ _).trans (flt (fun q => hk12 ((lw_gt tm q0).mp q))).2.2.1) k) ?_
              refine Goes.to (T' := T17.setTop (mkF m 177 #[.val (.long q0), .second, .val (.long q1), .second, .val (.int p2), .val (.long q3), .second, .val (.int p4), .val (.int p5), .val (.int (p4 &&& (3 : Int32))), .val (.long tm), .second, .val (.int stv), .val (.int ar), .val (.ref mk), .val (.ref b5), .val (.ref b8), .val (.ref b10), .val (.int (1 : Int32)), .unset, .unset, .unset] [(.int (1 : Int32))])) (fun t k => XS.iconst X17.here hx rfl (hb hby at_176) k) ?_
              refine Goes.to (T' := T17.setTop (mkF m 181 #[.val (.long q0), .second, .val (.long q1), .second, .val (.int p2), .val (.long q3), .second, .val (.int p4), .val (.int p5), .val (.int (p4 &&& (3 : Int32))), .val (.long tm), .second, .val (.int stv), .val (.int ar), .val (.ref mk), .val (.ref b5), .val (.ref b8), .val (.ref b10), .val (.int (1 : Int32)), .unset, .unset, .unset] [(.int (1 : Int32))])) (fun t k => XS.goto X17.here hx rfl (pc0 := 177) (pc' := 181) rfl (hb hby at_177) (by decide) (by decide) k) ?_
              refine Goes.to (T' := T17.setTop (mkF m 183 #[.val (.long q0), .second, .val (.long q1), .second, .val (.int p2), .val (.long q3), .second, .val (.int p4), .val (.int p5), .val (.int (p4 &&& (3 : Int32))), .val (.long tm), .second, .val (.int stv), .val (.int ar), .val (.ref mk), .val (.ref b5), .val (.ref b8), .val (.ref b10), .val (.int (1 : Int32)), .val (.int (1 : Int32)), .unset, .unset] [])) (fun t k => XS.istore X17.here hx rfl (hb hby at_181) rfl (l' := #[.val (.long q0), .second, .val (.long q1), .second, .val (.int p2), .val (.long q3), .second, .val (.int p4), .val (.int p5), .val (.int (p4 &&& (3 : Int32))), .val (.long tm), .second, .val (.int stv), .val (.int ar), .val (.ref mk), .val (.ref b5), .val (.ref b8), .val (.ref b10), .val (.int (1 : Int32)), .val (.int (1 : Int32)), .unset, .unset]) rfl k) ?_
              refine Goes.to (T' := T17.setTop (mkF m 185 #[.val (.long q0), .second, .val (.long q1), .second, .val (.int p2), .val (.long q3), .second, .val (.int p4), .val (.int p5), .val (.int (p4 &&& (3 : Int32))), .val (.long tm), .second, .val (.int stv), .val (.int ar), .val (.ref mk), .val (.ref b5), .val (.ref b8), .val (.ref b10), .val (.int (1 : Int32)), .val (.int (1 : Int32)), .unset, .unset] [(.int stv)])) (fun t k => XS.iload X17.here hx rfl (hb hby at_183) rfl k) ?_
              refine Goes.to (T' := T17.setTop (mkF m 188 #[.val (.long q0), .second, .val (.long q1), .second, .val (.int p2), .val (.long q3), .second, .val (.int p4), .val (.int p5), .val (.int (p4 &&& (3 : Int32))), .val (.long tm), .second, .val (.int stv), .val (.int ar), .val (.ref mk), .val (.ref b5), .val (.ref b8), .val (.ref b10), .val (.int (1 : Int32)), .val (.int (1 : Int32)), .unset, .unset] [])) (fun t k => XS.ifNo X17.here hx rfl (hb hby at_185) rfl ((if0 _ _).trans (teq hk16).2) k) ?_
              refine Goes.to (T' := T17.setTop (mkF m 189 #[.val (.long q0), .second, .val (.long q1), .second, .val (.int p2), .val (.long q3), .second, .val (.int p4), .val (.int p5), .val (.int (p4 &&& (3 : Int32))), .val (.long tm), .second, .val (.int stv), .val (.int ar), .val (.ref mk), .val (.ref b5), .val (.ref b8), .val (.ref b10), .val (.int (1 : Int32)), .val (.int (1 : Int32)), .unset, .unset] [(.int (1 : Int32))])) (fun t k => XS.iconst X17.here hx rfl (hb hby at_188) k) ?_
              refine Goes.to (T' := T17.setTop (mkF m 193 #[.val (.long q0), .second, .val (.long q1), .second, .val (.int p2), .val (.long q3), .second, .val (.int p4), .val (.int p5), .val (.int (p4 &&& (3 : Int32))), .val (.long tm), .second, .val (.int stv), .val (.int ar), .val (.ref mk), .val (.ref b5), .val (.ref b8), .val (.ref b10), .val (.int (1 : Int32)), .val (.int (1 : Int32)), .unset, .unset] [(.int (1 : Int32))])) (fun t k => XS.goto X17.here hx rfl (pc0 := 189) (pc' := 193) rfl (hb hby at_189) (by decide) (by decide) k) ?_
              refine Goes.to (T' := T17.setTop (mkF m 195 #[.val (.long q0), .second, .val (.long q1), .second, .val (.int p2), .val (.long q3), .second, .val (.int p4), .val (.int p5), .val (.int (p4 &&& (3 : Int32))), .val (.long tm), .second, .val (.int stv), .val (.int ar), .val (.ref mk), .val (.ref b5), .val (.ref b8), .val (.ref b10), .val (.int (1 : Int32)), .val (.int (1 : Int32)), .val (.int (1 : Int32)), .unset] [])) (fun t k => XS.istore X17.here hx rfl (hb hby at_193) rfl (l' := #[.val (.long q0), .second, .val (.long q1), .second, .val (.int p2), .val (.long q3), .second, .val (.int p4), .val (.int p5), .val (.int (p4 &&& (3 : Int32))), .val (.long tm), .second, .val (.int stv), .val (.int ar), .val (.ref mk), .val (.ref b5), .val (.ref b8), .val (.ref b10), .val (.int (1 : Int32)), .val (.int (1 : Int32)), .val (.int (1 : Int32)), .unset]) rfl k) ?_
              refine Goes.to (T' := T17.setTop (mkF m 197 #[.val (.long q0), .second, .val (.long q1), .second, .val (.int p2), .val (.long q3), .second, .val (.int p4), .val (.int p5), .val (.int (p4 &&& (3 : Int32))), .val (.long tm), .second, .val (.int stv), .val (.int ar), .val (.ref mk), .val (.ref b5), .val (.ref b8), .val (.ref b10), .val (.int (1 : Int32)), .val (.int (1 : Int32)), .val (.int (1 : Int32)), .unset] [(.int (1 : Int32))])) (fun t k => XS.iload X17.here hx rfl (hb hby at_195) rfl k) ?_
              refine Goes.to (T' := T17.setTop (mkF m 200 #[.val (.long q0), .second, .val (.long q1), .second, .val (.int p2), .val (.long q3), .second, .val (.int p4), .val (.int p5), .val (.int (p4 &&& (3 : Int32))), .val (.long tm), .second, .val (.int stv), .val (.int ar), .val (.ref mk), .val (.ref b5), .val (.ref b8), .val (.ref b10), .val (.int (1 : Int32)), .val (.int (1 : Int32)), .val (.int (1 : Int32)), .unset] [])) (fun t k => XS.ifNo X17.here hx rfl (hb hby at_197) rfl ((if0 _ _).trans (feq (by decide)).1) k) ?_
              refine Goes.to (T' := T17.setTop (mkF m 202 #[.val (.long q0), .second, .val (.long q1), .second, .val (.int p2), .val (.long q3), .second, .val (.int p4), .val (.int p5), .val (.int (p4 &&& (3 : Int32))), .val (.long tm), .second, .val (.int stv), .val (.int ar), .val (.ref mk), .val (.ref b5), .val (.ref b8), .val (.ref b10), .val (.int (1 : Int32)), .val (.int (1 : Int32)), .val (.int (1 : Int32)), .unset] [(.int (1 : Int32))])) (fun t k => XS.iload X17.here hx rfl (hb hby at_200) rfl k) ?_
              refine Goes.to (T' := T17.setTop (mkF m 205 #[.val (.long q0), .second, .val (.long q1), .second, .val (.int p2), .val (.long q3), .second, .val (.int p4), .val (.int p5), .val (.int (p4 &&& (3 : Int32))), .val (.long tm), .second, .val (.int stv), .val (.int ar), .val (.ref mk), .val (.ref b5), .val (.ref b8), .val (.ref b10), .val (.int (1 : Int32)), .val (.int (1 : Int32)), .val (.int (1 : Int32)), .unset] [])) (fun t k => XS.ifNo X17.here hx rfl (hb hby at_202) rfl ((if0 _ _).trans (feq (by decide)).1) k) ?_
              refine Goes.to (T' := T17.setTop (mkF m 206 #[.val (.long q0), .second, .val (.long q1), .second, .val (.int p2), .val (.long q3), .second, .val (.int p4), .val (.int p5), .val (.int (p4 &&& (3 : Int32))), .val (.long tm), .second, .val (.int stv), .val (.int ar), .val (.ref mk), .val (.ref b5), .val (.ref b8), .val (.ref b10), .val (.int (1 : Int32)), .val (.int (1 : Int32)), .val (.int (1 : Int32)), .unset] [(.int (1 : Int32))])) (fun t k => XS.iconst X17.here hx rfl (hb hby at_205) k) ?_
              refine Goes.to (T' := T17.setTop (mkF m 210 #[.val (.long q0), .second, .val (.long q1), .second, .val (.int p2), .val (.long q3), .second, .val (.int p4), .val (.int p5), .val (.int (p4 &&& (3 : Int32))), .val (.long tm), .second, .val (.int stv), .val (.int ar), .val (.ref mk), .val (.ref b5), .val (.ref b8), .val (.ref b10), .val (.int (1 : Int32)), .val (.int (1 : Int32)), .val (.int (1 : Int32)), .unset] [(.int (1 : Int32))])) (fun t k => XS.goto X17.here hx rfl (pc0 := 206) (pc' := 210) rfl (hb hby at_206) (by decide) (by decide) k) ?_
              refine Goes.to (T' := T17.setTop (mkF m 212 #[.val (.long q0), .second, .val (.long q1), .second, .val (.int p2), .val (.long q3), .second, .val (.int p4), .val (.int p5), .val (.int (p4 &&& (3 : Int32))), .val (.long tm), .second, .val (.int stv), .val (.int ar), .val (.ref mk), .val (.ref b5), .val (.ref b8), .val (.ref b10), .val (.int (1 : Int32)), .val (.int (1 : Int32)), .val (.int (1 : Int32)), .val (.int (1 : Int32))] [])) (fun t k => XS.istore X17.here hx rfl (hb hby at_210) rfl (l' := #[.val (.long q0), .second, .val (.long q1), .second, .val (.int p2), .val (.long q3), .second, .val (.int p4), .val (.int p5), .val (.int (p4 &&& (3 : Int32))), .val (.long tm), .second, .val (.int stv), .val (.int ar), .val (.ref mk), .val (.ref b5), .val (.ref b8), .val (.ref b10), .val (.int (1 : Int32)), .val (.int (1 : Int32)), .val (.int (1 : Int32)), .val (.int (1 : Int32))]) rfl k) ?_
              refine Goes.to (T' := T17.setTop (mkF m 214 #[.val (.long q0), .second, .val (.long q1), .second, .val (.int p2), .val (.long q3), .second, .val (.int p4), .val (.int p5), .val (.int (p4 &&& (3 : Int32))), .val (.long tm), .second, .val (.int stv), .val (.int ar), .val (.ref mk), .val (.ref b5), .val (.ref b8), .val (.ref b10), .val (.int (1 : Int32)), .val (.int (1 : Int32)), .val (.int (1 : Int32)), .val (.int (1 : Int32))] [(.int (1 : Int32))])) (fun t k => XS.iload X17.here hx rfl (hb hby at_212) rfl k) ?_
              refine Goes.to (T' := T17.setTop (mkF m 216 #[.val (.long q0), .second, .val (.long q1), .second, .val (.int p2), .val (.long q3), .second, .val (.int p4), .val (.int p5), .val (.int (p4 &&& (3 : Int32))), .val (.long tm), .second, .val (.int stv), .val (.int ar), .val (.ref mk), .val (.ref b5), .val (.ref b8), .val (.ref b10), .val (.int (1 : Int32)), .val (.int (1 : Int32)), .val (.int (1 : Int32)), .val (.int (1 : Int32))] [(.int (1 : Int32)), (.int (1 : Int32))])) (fun t k => XS.iload X17.here hx rfl (hb hby at_214) rfl k) ?_
              refine Goes.to (T' := T17.setTop (mkF m 219 #[.val (.long q0), .second, .val (.long q1), .second, .val (.int p2), .val (.long q3), .second, .val (.int p4), .val (.int p5), .val (.int (p4 &&& (3 : Int32))), .val (.long tm), .second, .val (.int stv), .val (.int ar), .val (.ref mk), .val (.ref b5), .val (.ref b8), .val (.ref b10), .val (.int (1 : Int32)), .val (.int (1 : Int32)), .val (.int (1 : Int32)), .val (.int (1 : Int32))] [])) (fun t k => XS.icmpNo X17.here hx rfl (hb hby at_216) rfl (teq (by decide)).2 k) ?_
              refine Goes.to (T' := T17.setTop (mkF m 220 #[.val (.long q0), .second, .val (.long q1), .second, .val (.int p2), .val (.long q3), .second, .val (.int p4), .val (.int p5), .val (.int (p4 &&& (3 : Int32))), .val (.long tm), .second, .val (.int stv), .val (.int ar), .val (.ref mk), .val (.ref b5), .val (.ref b8), .val (.ref b10), .val (.int (1 : Int32)), .val (.int (1 : Int32)), .val (.int (1 : Int32)), .val (.int (1 : Int32))] [(.int (1 : Int32))])) (fun t k => XS.iconst X17.here hx rfl (hb hby at_219) k) ?_
              refine Goes.to (T' := T17.setTop (mkF m 224 #[.val (.long q0), .second, .val (.long q1), .second, .val (.int p2), .val (.long q3), .second, .val (.int p4), .val (.int p5), .val (.int (p4 &&& (3 : Int32))), .val (.long tm), .second, .val (.int stv), .val (.int ar), .val (.ref mk), .val (.ref b5), .val (.ref b8), .val (.ref b10), .val (.int (1 : Int32)), .val (.int (1 : Int32)), .val (.int (1 : Int32)), .val (.int (1 : Int32))] [(.int (1 : Int32))])) (fun t k => XS.goto X17.here hx rfl (pc0 := 220) (pc' := 224) rfl (hb hby at_220) (by decide) (by decide) k) ?_
              obtain ⟨fs, hrL, hrun, hended, hRW⟩ := X17.leaveW hS (by rw [e17]; exact hk) (v := some (.int (1 : Int32))) (fun h => by rw [Bd.returns] at h; cases h)
              subst hQf
              refine ⟨_, _, retN X17 hx (t := .boolean) Bd.returns (by simp) (hb hby at_224) hrL, hrun, hended, _, _, rfl, ?_, hRW.1, hRW.2.1, hRW.2.2.1, hRW.2.2.2.mono (by decide) (by decide)⟩
              show (fun (v : Option Value) (h : Heap) (L : List Loc) => v = some (.int 1) ∧ Fr n0 L) (some (.int (1 : Int32))) T17.heap _
              rw [e17]
              exact ⟨rfl, N17⟩
            · skip
              refine Goes.to (T' := T11.setTop (mkF m 162 #[.val (.long q0), .second, .val (.long q1), .second, .val (.int p2), .val (.long q3), .second, .val (.int p4), .val (.int p5), .val (.int (p4 &&& (3 : Int32))), .val (.long tm), .second, .val (.int stv), .val (.int ar), .val (.ref mk), .val (.ref b5), .val (.ref b8), .val (.ref b10), .unset, .unset, .unset, .unset] [(.ref b10)])) (fun t k => XS.aload X11.here hx rfl (hb hby at_160) rfl rfl k) ?_
              refine Goes.to (T' := T11.setTop (mkF m 164 #[.val (.long q0), .second, .val (.long q1), .second, .val (.int p2), .val (.long q3), .second, .val (.int p4), .val (.int p5), .val (.int (p4 &&& (3 : Int32))), .val (.long tm), .second, .val (.int stv), .val (.int ar), .val (.ref mk), .val (.ref b5), .val (.ref b8), .val (.ref b10), .unset, .unset, .unset, .unset] [(.long tm), (.ref b10)])) (fun t k => XS.lload X11.here hx rfl (hb hby at_162) rfl k) ?_
              obtain ⟨cq18, kq18, q18a, q18b, q18c⟩ := isOf hZ rfl E_b10
              obtain ⟨_, _, ⟨T18, L18, k18, n18⟩, -, X18, ⟨Lc18, hQ18, l18, y18, z18⟩, st18⟩ := X11.virtualBack hx (y := (⟨"com/example/arvi/arvi/model/RecurringPurchaseDetails", "isEntitledAt", "(J)Z"⟩ : MethodName)) (z := (⟨"com/example/arvi/arvi/model/RecurringPurchaseDetails", "isEntitledAt", "(J)Z"⟩ : MethodName)) hown (mvT hZ (hw _ (List.mem_of_getElem? (i := 71) rfl))) (mvT hZ (hw _ (List.mem_of_getElem? (i := 72) rfl))) (notFace_of_selects (args := #[]) (mvT hZ (hw _ (List.mem_of_getElem? (i := 74) rfl)))) (mvT hZ (hw _ (List.mem_of_getElem? (i := 74) rfl))) (mvT hZ (hw _ (List.mem_of_getElem? (i := 73) rfl))) (by decide) (backOf (W := 0) (rmE l Z a0 hw [] b10 tm w_Market_MKT_GLB w_Market_MKT_ONE z_cs q0 stv (0 : Int32) T11.heap n0 O0 NF F_expiryTime_b10 F_lastPurchaseState_b10 (by first | (simp [hk12, hk16]; done) | ((repeat' split) <;> first | rfl | contradiction | simp_all))) hZ (hw _ (List.mem_of_getElem? (i := 75) rfl)) (hw _ (List.mem_of_getElem? (i := 35) rfl)) (by decide) (by decide)) q18a q18c (g := (mkF m 164 #[.val (.long q0), .second, .val (.long q1), .second, .val (.int p2), .val (.long q3), .second, .val (.int p4), .val (.int p5), .val (.int (p4 &&& (3 : Int32))), .val (.long tm), .second, .val (.int stv), .val (.int ar), .val (.ref mk), .val (.ref b5), .val (.ref b8), .val (.ref b10), .unset, .unset, .unset, .unset] [(.long tm), (.ref b10)])) rfl (by rw [hml]; rfl) (Steps.refl _) (argsL := [(.long tm)]) (rest := []) (lenOf pd_61 rfl) rfl (by show 2 * 0 + _ ≤ _; exact Nat.le_of_eq rfl) (hb hby at_164) (fun _ _ => ⟨rfl, rfl, (by decide : 8 + 0 ≤ _), (by decide : 104 + 0 ≤ _)⟩)
              dsimp only [Pt.U, Pt.locs, Pt.cells, Pt.slots] at X18 l18 y18 z18 st18 hQ18
              subst l18 y18 z18
              obtain ⟨rfl, Nq18, e18⟩ := hQ18
              have N18 := Fr.app N11 Nq18
              refine Goes.thru (T' := T18.setTop (mkF m 167 #[.val (.long q0), .second, .val (.long q1), .second, .val (.int p2), .val (.long q3), .second, .val (.int p4), .val (.int p5), .val (.int (p4 &&& (3 : Int32))), .val (.long tm), .second, .val (.int stv), .val (.int ar), .val (.ref mk), .val (.ref b5), .val (.ref b8), .val (.ref b10), .unset, .unset, .unset, .unset] [(.int (0 : Int32))])) st18 ?_
              refine Goes.to (T' := T18.setTop (mkF m 169 #[.val (.long q0), .second, .val (.long q1), .second, .val (.int p2), .val (.long q3), .second, .val (.int p4), .val (.int p5), .val (.int (p4 &&& (3 : Int32))), .val (.long tm), .second, .val (.int stv), .val (.int ar), .val (.ref mk), .val (.ref b5), .val (.ref b8), .val (.ref b10), .val (.int (0 : Int32)), .unset, .unset, .unset] [])) (fun t k => XS.istore X18.here hx rfl (hb hby at_167) rfl (l' := #[.val (.long q0), .second, .val (.long q1), .second, .val (.int p2), .val (.long q3), .second, .val (.int p4), .val (.int p5), .val (.int (p4 &&& (3 : Int32))), .val (.long tm), .second, .val (.int stv), .val (.int ar), .val (.ref mk), .val (.ref b5), .val (.ref b8), .val (.ref b10), .val (.int (0 : Int32)), .unset, .unset, .unset]) rfl k) ?_
              refine Goes.to (T' := T18.setTop (mkF m 171 #[.val (.long q0), .second, .val (.long q1), .second, .val (.int p2), .val (.long q3), .second, .val (.int p4), .val (.int p5), .val (.int (p4 &&& (3 : Int32))), .val (.long tm), .second, .val (.int stv), .val (.int ar), .val (.ref mk), .val (.ref b5), .val (.ref b8), .val (.ref b10), .val (.int (0 : Int32)), .unset, .unset, .unset] [(.long tm)])) (fun t k => XS.lload X18.here hx rfl (hb hby at_169) rfl k) ?_
              refine Goes.to (T' := T18.setTop (mkF m 172 #[.val (.long q0), .second, .val (.long q1), .second, .val (.int p2), .val (.long q3), .second, .val (.int p4), .val (.int p5), .val (.int (p4 &&& (3 : Int32))), .val (.long tm), .second, .val (.int stv), .val (.int ar), .val (.ref mk), .val (.ref b5), .val (.ref b8), .val (.ref b10), .val (.int (0 : Int32)), .unset, .unset, .unset] [(.long q0), (.long tm)])) (fun t k => XS.lloadN X18.here hx rfl (hb hby at_171) rfl k) ?_
              refine Goes.to (T' := T18.setTop (mkF m 173 #[.val (.long q0), .second, .val (.long q1), .second, .val (.int p2), .val (.long q3), .second, .val (.int p4), .val (.int p5), .val (.int (p4 &&& (3 : Int32))), .val (.long tm), .second, .val (.int stv), .val (.int ar), .val (.ref mk), .val (.ref b5), .val (.ref b8), .val (.ref b10), .val (.int (0 : Int32)), .unset, .unset, .unset] [(.int (lcmpW tm q0))])) (fun t k => XS.lcmp X18.here hx rfl (hb hby at_172) rfl k) ?_
              refine Goes.to (T' := T18.setTop (mkF m 176 #[.val (.long q0), .second, .val (.long q1), .second, .val (.int p2), .val (.long q3), .second, .val (.int p4), .val (.int p5), .val (.int (p4 &&& (3 : Int32))), .val (.long tm), .second, .val (.int stv), .val (.int ar), .val (.ref mk), .val (.ref b5), .val (.ref b8), .val (.ref b10), .val (.int (0 : Int32)), .unset, .unset, .unset] [])) (fun t k => XS.ifNo X18.here hx rfl (hb hby at_173) rfl ((if0 _ _).trans (flt (fun q => hk12 ((lw_gt tm q0).mp q))).2.2.1) k) ?_
              refine Goes.to (T' := T18.setTop (mkF m 177 #[.val (.long q0), .second, .val (.long q1), .second, .val (.int p2), .val (.long q3), .second, .val (.int p4), .val (.int p5), .val (.int (p4 &&& (3 : Int32))), .val (.long tm), .second, .val (.int stv), .val (.int ar), .val (.ref mk), .val (.ref b5), .val (.ref b8), .val (.ref b10), .val (.int (0 : Int32)), .unset, .unset, .unset] [(.int (1 : Int32))])) (fun t k => XS.iconst X18.here hx rfl (hb hby at_176) k) ?_
              refine Goes.to (T' := T18.setTop (mkF m 181 #[.val (.long q0), .second, .val (.long q1), .second, .val (.int p2), .val (.long q3), .second, .val (.int p4), .val (.int p5), .val (.int (p4 &&& (3 : Int32))), .val (.long tm), .second, .val (.int stv), .val (.int ar), .val (.ref mk), .val (.ref b5), .val (.ref b8), .val (.ref b10), .val (.int (0 : Int32)), .unset, .unset, .unset] [(.int (1 : Int32))])) (fun t k => XS.goto X18.here hx rfl (pc0 := 177) (pc' := 181) rfl (hb hby at_177) (by decide) (by decide) k) ?_
              refine Goes.to (T' := T18.setTop (mkF m 183 #[.val (.long q0), .second, .val (.long q1), .second, .val (.int p2), .val (.long q3), .second, .val (.int p4), .val (.int p5), .val (.int (p4 &&& (3 : Int32))), .val (.long tm), .second, .val (.int stv), .val (.int ar), .val (.ref mk), .val (.ref b5), .val (.ref b8), .val (.ref b10), .val (.int (0 : Int32)), .val (.int (1 : Int32)), .unset, .unset] [])) (fun t k => XS.istore X18.here hx rfl (hb hby at_181) rfl (l' := #[.val (.long q0), .second, .val (.long q1), .second, .val (.int p2), .val (.long q3), .second, .val (.int p4), .val (.int p5), .val (.int (p4 &&& (3 : Int32))), .val (.long tm), .second, .val (.int stv), .val (.int ar), .val (.ref mk), .val (.ref b5), .val (.ref b8), .val (.ref b10), .val (.int (0 : Int32)), .val (.int (1 : Int32)), .unset, .unset]) rfl k) ?_
              refine Goes.to (T' := T18.setTop (mkF m 185 #[.val (.long q0), .second, .val (.long q1), .second, .val (.int p2), .val (.long q3), .second, .val (.int p4), .val (.int p5), .val (.int (p4 &&& (3 : Int32))), .val (.long tm), .second, .val (.int stv), .val (.int ar), .val (.ref mk), .val (.ref b5), .val (.ref b8), .val (.ref b10), .val (.int (0 : Int32)), .val (.int (1 : Int32)), .unset, .unset] [(.int stv)])) (fun t k => XS.iload X18.here hx rfl (hb hby at_183) rfl k) ?_
              refine Goes.to (T' := T18.setTop (mkF m 192 #[.val (.long q0), .second, .val (.long q1), .second, .val (.int p2), .val (.long q3), .second, .val (.int p4), .val (.int p5), .val (.int (p4 &&& (3 : Int32))), .val (.long tm), .second, .val (.int stv), .val (.int ar), .val (.ref mk), .val (.ref b5), .val (.ref b8), .val (.ref b10), .val (.int (0 : Int32)), .val (.int (1 : Int32)), .unset, .unset] [])) (fun t k => XS.ifYes X18.here hx rfl (pc0 := 185) (pc' := 192) rfl (hb hby at_185) rfl ((if0 _ _).trans (feq hk16).2) (by decide) (by decide) k) ?_
              refine Goes.to (T' := T18.setTop (mkF m 193 #[.val (.long q0), .second, .val (.long q1), .second, .val (.int p2), .val (.long q3), .second, .val (.int p4), .val (.int p5), .val (.int (p4 &&& (3 : Int32))), .val (.long tm), .second, .val (.int stv), .val (.int ar), .val (.ref mk), .val (.ref b5), .val (.ref b8), .val (.ref b10), .val (.int (0 : Int32)), .val (.int (1 : Int32)), .unset, .unset] [(.int (0 : Int32))])) (fun t k => XS.iconst X18.here hx rfl (hb hby at_192) k) ?_
              refine Goes.to (T' := T18.setTop (mkF m 195 #[.val (.long q0), .second, .val (.long q1), .second, .val (.int p2), .val (.long q3), .second, .val (.int p4), .val (.int p5), .val (.int (p4 &&& (3 : Int32))), .val (.long tm), .second, .val (.int stv), .val (.int ar), .val (.ref mk), .val (.ref b5), .val (.ref b8), .val (.ref b10), .val (.int (0 : Int32)), .val (.int (1 : Int32)), .val (.int (0 : Int32)), .unset] [])) (fun t k => XS.istore X18.here hx rfl (hb hby at_193) rfl (l' := #[.val (.long q0), .second, .val (.long q1), .second, .val (.int p2), .val (.long q3), .second, .val (.int p4), .val (.int p5), .val (.int (p4 &&& (3 : Int32))), .val (.long tm), .second, .val (.int stv), .val (.int ar), .val (.ref mk), .val (.ref b5), .val (.ref b8), .val (.ref b10), .val (.int (0 : Int32)), .val (.int (1 : Int32)), .val (.int (0 : Int32)), .unset]) rfl k) ?_
              refine Goes.to (T' := T18.setTop (mkF m 197 #[.val (.long q0), .second, .val (.long q1), .second, .val (.int p2), .val (.long q3), .second, .val (.int p4), .val (.int p5), .val (.int (p4 &&& (3 : Int32))), .val (.long tm), .second, .val (.int stv), .val (.int ar), .val (.ref mk), .val (.ref b5), .val (.ref b8), .val (.ref b10), .val (.int (0 : Int32)), .val (.int (1 : Int32)), .val (.int (0 : Int32)), .unset] [(.int (1 : Int32))])) (fun t k => XS.iload X18.here hx rfl (hb hby at_195) rfl k) ?_
              refine Goes.to (T' := T18.setTop (mkF m 200 #[.val (.long q0), .second, .val (.long q1), .second, .val (.int p2), .val (.long q3), .second, .val (.int p4), .val (.int p5), .val (.int (p4 &&& (3 : Int32))), .val (.long tm), .second, .val (.int stv), .val (.int ar), .val (.ref mk), .val (.ref b5), .val (.ref b8), .val (.ref b10), .val (.int (0 : Int32)), .val (.int (1 : Int32)), .val (.int (0 : Int32)), .unset] [])) (fun t k => XS.ifNo X18.here hx rfl (hb hby at_197) rfl ((if0 _ _).trans (feq (by decide)).1) k) ?_
              refine Goes.to (T' := T18.setTop (mkF m 202 #[.val (.long q0), .second, .val (.long q1), .second, .val (.int p2), .val (.long q3), .second, .val (.int p4), .val (.int p5), .val (.int (p4 &&& (3 : Int32))), .val (.long tm), .second, .val (.int stv), .val (.int ar), .val (.ref mk), .val (.ref b5), .val (.ref b8), .val (.ref b10), .val (.int (0 : Int32)), .val (.int (1 : Int32)), .val (.int (0 : Int32)), .unset] [(.int (0 : Int32))])) (fun t k => XS.iload X18.here hx rfl (hb hby at_200) rfl k) ?_
              refine Goes.to (T' := T18.setTop (mkF m 209 #[.val (.long q0), .second, .val (.long q1), .second, .val (.int p2), .val (.long q3), .second, .val (.int p4), .val (.int p5), .val (.int (p4 &&& (3 : Int32))), .val (.long tm), .second, .val (.int stv), .val (.int ar), .val (.ref mk), .val (.ref b5), .val (.ref b8), .val (.ref b10), .val (.int (0 : Int32)), .val (.int (1 : Int32)), .val (.int (0 : Int32)), .unset] [])) (fun t k => XS.ifYes X18.here hx rfl (pc0 := 202) (pc' := 209) rfl (hb hby at_202) rfl ((if0 _ _).trans (teq (by decide)).1) (by decide) (by decide) k) ?_
              refine Goes.to (T' := T18.setTop (mkF m 210 #[.val (.long q0), .second, .val (.long q1), .second, .val (.int p2), .val (.long q3), .second, .val (.int p4), .val (.int p5), .val (.int (p4 &&& (3 : Int32))), .val (.long tm), .second, .val (.int stv), .val (.int ar), .val (.ref mk), .val (.ref b5), .val (.ref b8), .val (.ref b10), .val (.int (0 : Int32)), .val (.int (1 : Int32)), .val (.int (0 : Int32)), .unset] [(.int (0 : Int32))])) (fun t k => XS.iconst X18.here hx rfl (hb hby at_209) k) ?_
              refine Goes.to (T' := T18.setTop (mkF m 212 #[.val (.long q0), .second, .val (.long q1), .second, .val (.int p2), .val (.long q3), .second, .val (.int p4), .val (.int p5), .val (.int (p4 &&& (3 : Int32))), .val (.long tm), .second, .val (.int stv), .val (.int ar), .val (.ref mk), .val (.ref b5), .val (.ref b8), .val (.ref b10), .val (.int (0 : Int32)), .val (.int (1 : Int32)), .val (.int (0 : Int32)), .val (.int (0 : Int32))] [])) (fun t k => XS.istore X18.here hx rfl (hb hby at_210) rfl (l' := #[.val (.long q0), .second, .val (.long q1), .second, .val (.int p2), .val (.long q3), .second, .val (.int p4), .val (.int p5), .val (.int (p4 &&& (3 : Int32))), .val (.long tm), .second, .val (.int stv), .val (.int ar), .val (.ref mk), .val (.ref b5), .val (.ref b8), .val (.ref b10), .val (.int (0 : Int32)), .val (.int (1 : Int32)), .val (.int (0 : Int32)), .val (.int (0 : Int32))]) rfl k) ?_
              refine Goes.to (T' := T18.setTop (mkF m 214 #[.val (.long q0), .second, .val (.long q1), .second, .val (.int p2), .val (.long q3), .second, .val (.int p4), .val (.int p5), .val (.int (p4 &&& (3 : Int32))), .val (.long tm), .second, .val (.int stv), .val (.int ar), .val (.ref mk), .val (.ref b5), .val (.ref b8), .val (.ref b10), .val (.int (0 : Int32)), .val (.int (1 : Int32)), .val (.int (0 : Int32)), .val (.int (0 : Int32))] [(.int (0 : Int32))])) (fun t k => XS.iload X18.here hx rfl (hb hby at_212) rfl k) ?_
              refine Goes.to (T' := T18.setTop (mkF m 216 #[.val (.long q0), .second, .val (.long q1), .second, .val (.int p2), .val (.long q3), .second, .val (.int p4), .val (.int p5), .val (.int (p4 &&& (3 : Int32))), .val (.long tm), .second, .val (.int stv), .val (.int ar), .val (.ref mk), .val (.ref b5), .val (.ref b8), .val (.ref b10), .val (.int (0 : Int32)), .val (.int (1 : Int32)), .val (.int (0 : Int32)), .val (.int (0 : Int32))] [(.int (0 : Int32)), (.int (0 : Int32))])) (fun t k => XS.iload X18.here hx rfl (hb hby at_214) rfl k) ?_
              refine Goes.to (T' := T18.setTop (mkF m 219 #[.val (.long q0), .second, .val (.long q1), .second, .val (.int p2), .val (.long q3), .second, .val (.int p4), .val (.int p5), .val (.int (p4 &&& (3 : Int32))), .val (.long tm), .second, .val (.int stv), .val (.int ar), .val (.ref mk), .val (.ref b5), .val (.ref b8), .val (.ref b10), .val (.int (0 : Int32)), .val (.int (1 : Int32)), .val (.int (0 : Int32)), .val (.int (0 : Int32))] [])) (fun t k => XS.icmpNo X18.here hx rfl (hb hby at_216) rfl (teq (by decide)).2 k) ?_
              refine Goes.to (T' := T18.setTop (mkF m 220 #[.val (.long q0), .second, .val (.long q1), .second, .val (.int p2), .val (.long q3), .second, .val (.int p4), .val (.int p5), .val (.int (p4 &&& (3 : Int32))), .val (.long tm), .second, .val (.int stv), .val (.int ar), .val (.ref mk), .val (.ref b5), .val (.ref b8), .val (.ref b10), .val (.int (0 : Int32)), .val (.int (1 : Int32)), .val (.int (0 : Int32)), .val (.int (0 : Int32))] [(.int (1 : Int32))])) (fun t k => XS.iconst X18.here hx rfl (hb hby at_219) k) ?_
              refine Goes.to (T' := T18.setTop (mkF m 224 #[.val (.long q0), .second, .val (.long q1), .second, .val (.int p2), .val (.long q3), .second, .val (.int p4), .val (.int p5), .val (.int (p4 &&& (3 : Int32))), .val (.long tm), .second, .val (.int stv), .val (.int ar), .val (.ref mk), .val (.ref b5), .val (.ref b8), .val (.ref b10), .val (.int (0 : Int32)), .val (.int (1 : Int32)), .val (.int (0 : Int32)), .val (.int (0 : Int32))] [(.int (1 : Int32))])) (fun t k => XS.goto X18.here hx rfl (pc0 := 220) (pc' := 224) rfl (hb hby at_220) (by decide) (by decide) k) ?_
              obtain ⟨fs, hrL, hrun, hended, hRW⟩ := X18.leaveW hS (by rw [e18]; exact hk) (v := some (.int (1 : Int32))) (fun h => by rw [Bd.returns] at h; cases h)
              subst hQf
              refine ⟨_, _, retN X18 hx (t := .boolean) Bd.returns (by simp) (hb hby at_224) hrL, hrun, hended, _, _, rfl, ?_, hRW.1, hRW.2.1, hRW.2.2.1, hRW.2.2.2.mono (by decide) (by decide)⟩
              show (fun (v : Option Value) (h : Heap) (L : List Loc) => v = some (.int 1) ∧ Fr n0 L) (some (.int (1 : Int32))) T18.heap _
              rw [e18]
              exact ⟨rfl, N18⟩
        refine Goes.to (T' := TJ3.setTop (mkF m 83 #[.val (.long q0), .second, .val (.long q1), .second, .val (.int p2), .val (.long q3), .second, .val (.int p4), .val (.int p5), .val (.int (p4 &&& (3 : Int32))), .val (.long tm), .second, .val (.int stv), .val (.int ar), .unset, .unset, .unset, .unset, .unset, .unset, .unset, .unset] [(.int p4)])) (fun t k => XS.iload XJ3.here hx rfl (hb hby at_81) rfl k) ?_
        refine Goes.to (T' := TJ3.setTop (mkF m 84 #[.val (.long q0), .second, .val (.long q1), .second, .val (.int p2), .val (.long q3), .second, .val (.int p4), .val (.int p5), .val (.int (p4 &&& (3 : Int32))), .val (.long tm), .second, .val (.int stv), .val (.int ar), .unset, .unset, .unset, .unset, .unset, .unset, .unset, .unset] [(.int (4 : Int32)), (.int p4)])) (fun t k => XS.iconst XJ3.here hx rfl (hb hby at_83) k) ?_
        refine Goes.to (T' := TJ3.setTop (mkF m 85 #[.val (.long q0), .second, .val (.long q1), .second, .val (.int p2), .val (.long q3), .second, .val (.int p4), .val (.int p5), .val (.int (p4 &&& (3 : Int32))), .val (.long tm), .second, .val (.int stv), .val (.int ar), .unset, .unset, .unset, .unset, .unset, .unset, .unset, .unset] [(.int (p4 >>> ((4 : Int32) &&& 31)))])) (fun t k => XS.ishr XJ3.here hx rfl (hb hby at_84) rfl k) ?_
        refine Goes.to (T' := TJ3.setTop (mkF m 86 #[.val (.long q0), .second, .val (.long q1), .second, .val (.int p2), .val (.long q3), .second, .val (.int p4), .val (.int p5), .val (.int (p4 &&& (3 : Int32))), .val (.long tm), .second, .val (.int stv), .val (.int ar), .unset, .unset, .unset, .unset, .unset, .unset, .unset, .unset] [(.int (1 : Int32)), (.int (p4 >>> ((4 : Int32) &&& 31)))])) (fun t k => XS.iconst XJ3.here hx rfl (hb hby at_85) k) ?_
        refine Goes.to (T' := TJ3.setTop (mkF m 87 #[.val (.long q0), .second, .val (.long q1), .second, .val (.int p2), .val (.long q3), .second, .val (.int p4), .val (.int p5), .val (.int (p4 &&& (3 : Int32))), .val (.long tm), .second, .val (.int stv), .val (.int ar), .unset, .unset, .unset, .unset, .unset, .unset, .unset, .unset] [(.int ((p4 >>> ((4 : Int32) &&& 31)) &&& (1 : Int32)))])) (fun t k => XS.iand XJ3.here hx rfl (hb hby at_86) rfl k) ?_
        rcases Decidable.em (((p4 >>> ((4 : Int32) &&& 31)) &&& (1 : Int32)) = (0 : Int32)) with hc87_19 | hc87_19
        · skip
          refine Goes.to (T' := TJ3.setTop (mkF m 96 #[.val (.long q0), .second, .val (.long q1), .second, .val (.int p2), .val (.long q3), .second, .val (.int p4), .val (.int p5), .val (.int (p4 &&& (3 : Int32))), .val (.long tm), .second, .val (.int stv), .val (.int ar), .unset, .unset, .unset, .unset, .unset, .unset, .unset, .unset] [])) (fun t k => XS.ifYes XJ3.here hx rfl (pc0 := 87) (pc' := 96) rfl (hb hby at_87) rfl ((if0 _ _).trans (teq hc87_19).1) (by decide) (by decide) k) ?_
          obtain ⟨T20, X20, e20, st20⟩ := getS2 XJ3 hx hZ hown (host := "") (Or.inl (hw _ (List.mem_of_getElem? (i := 0) rfl))) Via.refl eJ3 (S_w_Market_MKT_GLB.ext O0.2) (g := (mkF m 96 #[.val (.long q0), .second, .val (.long q1), .second, .val (.int p2), .val (.long q3), .second, .val (.int p4), .val (.int p5), .val (.int (p4 &&& (3 : Int32))), .val (.long tm), .second, .val (.int stv), .val (.int ar), .unset, .unset, .unset, .unset, .unset, .unset, .unset, .unset] [])) rfl (hb hby at_96)
          refine Goes.to (T' := T20.setTop (mkF m 99 #[.val (.long q0), .second, .val (.long q1), .second, .val (.int p2), .val (.long q3), .second, .val (.int p4), .val (.int p5), .val (.int (p4 &&& (3 : Int32))), .val (.long tm), .second, .val (.int stv), .val (.int ar), .unset, .unset, .unset, .unset, .unset, .unset, .unset, .unset] [(.ref w_Market_MKT_GLB)])) st20 ?_
          refine Goes.to (T' := T20.setTop (mkF m 101 #[.val (.long q0), .second, .val (.long q1), .second, .val (.int p2), .val (.long q3), .second, .val (.int p4), .val (.int p5), .val (.int (p4 &&& (3 : Int32))), .val (.long tm), .second, .val (.int stv), .val (.int ar), .val (.ref w_Market_MKT_GLB), .unset, .unset, .unset, .unset, .unset, .unset, .unset] [])) (fun t k => XS.astore X20.here hx rfl (hb hby at_99) rfl rfl (l' := #[.val (.long q0), .second, .val (.long q1), .second, .val (.int p2), .val (.long q3), .second, .val (.int p4), .val (.int p5), .val (.int (p4 &&& (3 : Int32))), .val (.long tm), .second, .val (.int stv), .val (.int ar), .val (.ref w_Market_MKT_GLB), .unset, .unset, .unset, .unset, .unset, .unset, .unset]) rfl k) ?_
          exact J101 _ _ w_Market_MKT_GLB X20 e20 NJ3 E_w_Market_MKT_GLB
        · skip
          refine Goes.to (T' := TJ3.setTop (mkF m 90 #[.val (.long q0), .second, .val (.long q1), .second, .val (.int p2), .val (.long q3), .second, .val (.int p4), .val (.int p5), .val (.int (p4 &&& (3 : Int32))), .val (.long tm), .second, .val (.int stv), .val (.int ar), .unset, .unset, .unset, .unset, .unset, .unset, .unset, .unset] [])) (fun t k => XS.ifNo XJ3.here hx rfl (hb hby at_87) rfl ((if0 _ _).trans (feq hc87_19).1) k) ?_
          obtain ⟨T21, X21, e21, st21⟩ := getS2 XJ3 hx hZ hown (host := "") (Or.inl (hw _ (List.mem_of_getElem? (i := 76) rfl))) Via.refl eJ3 (S_w_Market_MKT_ONE.ext O0.2) (g := (mkF m 90 #[.val (.long q0), .second, .val (.long q1), .second, .val (.int p2), .val (.long q3), .second, .val (.int p4), .val (.int p5), .val (.int (p4 &&& (3 : Int32))), .val (.long tm), .second, .val (.int stv), .val (.int ar), .unset, .unset, .unset, .unset, .unset, .unset, .unset, .unset] [])) rfl (hb hby at_90)
          refine Goes.to (T' := T21.setTop (mkF m 93 #[.val (.long q0), .second, .val (.long q1), .second, .val (.int p2), .val (.long q3), .second, .val (.int p4), .val (.int p5), .val (.int (p4 &&& (3 : Int32))), .val (.long tm), .second, .val (.int stv), .val (.int ar), .unset, .unset, .unset, .unset, .unset, .unset, .unset, .unset] [(.ref w_Market_MKT_ONE)])) st21 ?_
          refine Goes.to (T' := T21.setTop (mkF m 99 #[.val (.long q0), .second, .val (.long q1), .second, .val (.int p2), .val (.long q3), .second, .val (.int p4), .val (.int p5), .val (.int (p4 &&& (3 : Int32))), .val (.long tm), .second, .val (.int stv), .val (.int ar), .unset, .unset, .unset, .unset, .unset, .unset, .unset, .unset] [(.ref w_Market_MKT_ONE)])) (fun t k => XS.goto X21.here hx rfl (pc0 := 93) (pc' := 99) rfl (hb hby at_93) (by decide) (by decide) k) ?_
          refine Goes.to (T' := T21.setTop (mkF m 101 #[.val (.long q0), .second, .val (.long q1), .second, .val (.int p2), .val (.long q3), .second, .val (.int p4), .val (.int p5), .val (.int (p4 &&& (3 : Int32))), .val (.long tm), .second, .val (.int stv), .val (.int ar), .val (.ref w_Market_MKT_ONE), .unset, .unset, .unset, .unset, .unset, .unset, .unset] [])) (fun t k => XS.astore X21.here hx rfl (hb hby at_99) rfl rfl (l' := #[.val (.long q0), .second, .val (.long q1), .second, .val (.int p2), .val (.long q3), .second, .val (.int p4), .val (.int p5), .val (.int (p4 &&& (3 : Int32))), .val (.long tm), .second, .val (.int stv), .val (.int ar), .val (.ref w_Market_MKT_ONE), .unset, .unset, .unset, .unset, .unset, .unset, .unset]) rfl k) ?_
          exact J101 _ _ w_Market_MKT_ONE X21 e21 NJ3 E_w_Market_MKT_ONE
      refine Goes.to (T' := TJ2.setTop (mkF m 67 #[.val (.long q0), .second, .val (.long q1), .second, .val (.int p2), .val (.long q3), .second, .val (.int p4), .val (.int p5), .val (.int (p4 &&& (3 : Int32))), .val (.long tm), .second, .val (.int stv), .unset, .unset, .unset, .unset, .unset, .unset, .unset, .unset, .unset] [(.int p4)])) (fun t k => XS.iload XJ2.here hx rfl (hb hby at_65) rfl k) ?_
      refine Goes.to (T' := TJ2.setTop (mkF m 68 #[.val (.long q0), .second, .val (.long q1), .second, .val (.int p2), .val (.long q3), .second, .val (.int p4), .val (.int p5), .val (.int (p4 &&& (3 : Int32))), .val (.long tm), .second, .val (.int stv), .unset, .unset, .unset, .unset, .unset, .unset, .unset, .unset, .unset] [(.int (3 : Int32)), (.int p4)])) (fun t k => XS.iconst XJ2.here hx rfl (hb hby at_67) k) ?_
      refine Goes.to (T' := TJ2.setTop (mkF m 69 #[.val (.long q0), .second, .val (.long q1), .second, .val (.int p2), .val (.long q3), .second, .val (.int p4), .val (.int p5), .val (.int (p4 &&& (3 : Int32))), .val (.long tm), .second, .val (.int stv), .unset, .unset, .unset, .unset, .unset, .unset, .unset, .unset, .unset] [(.int (p4 >>> ((3 : Int32) &&& 31)))])) (fun t k => XS.ishr XJ2.here hx rfl (hb hby at_68) rfl k) ?_
      refine Goes.to (T' := TJ2.setTop (mkF m 70 #[.val (.long q0), .second, .val (.long q1), .second, .val (.int p2), .val (.long q3), .second, .val (.int p4), .val (.int p5), .val (.int (p4 &&& (3 : Int32))), .val (.long tm), .second, .val (.int stv), .unset, .unset, .unset, .unset, .unset, .unset, .unset, .unset, .unset] [(.int (1 : Int32)), (.int (p4 >>> ((3 : Int32) &&& 31)))])) (fun t k => XS.iconst XJ2.here hx rfl (hb hby at_69) k) ?_
      refine Goes.to (T' := TJ2.setTop (mkF m 71 #[.val (.long q0), .second, .val (.long q1), .second, .val (.int p2), .val (.long q3), .second, .val (.int p4), .val (.int p5), .val (.int (p4 &&& (3 : Int32))), .val (.long tm), .second, .val (.int stv), .unset, .unset, .unset, .unset, .unset, .unset, .unset, .unset, .unset] [(.int ((p4 >>> ((3 : Int32) &&& 31)) &&& (1 : Int32)))])) (fun t k => XS.iand XJ2.here hx rfl (hb hby at_70) rfl k) ?_
      rcases Decidable.em (((p4 >>> ((3 : Int32) &&& 31)) &&& (1 : Int32)) = (0 : Int32)) with hc71_22 | hc71_22
      · skip
        refine Goes.to (T' := TJ2.setTop (mkF m 78 #[.val (.long q0), .second, .val (.long q1), .second, .val (.int p2), .val (.long q3), .second, .val (.int p4), .val (.int p5), .val (.int (p4 &&& (3 : Int32))), .val (.long tm), .second, .val (.int stv), .unset, .unset, .unset, .unset, .unset, .unset, .unset, .unset, .unset] [])) (fun t k => XS.ifYes XJ2.here hx rfl (pc0 := 71) (pc' := 78) rfl (hb hby at_71) rfl ((if0 _ _).trans (teq hc71_22).1) (by decide) (by decide) k) ?_
        refine Goes.to (T' := TJ2.setTop (mkF m 79 #[.val (.long q0), .second, .val (.long q1), .second, .val (.int p2), .val (.long q3), .second, .val (.int p4), .val (.int p5), .val (.int (p4 &&& (3 : Int32))), .val (.long tm), .second, .val (.int stv), .unset, .unset, .unset, .unset, .unset, .unset, .unset, .unset, .unset] [(.int (0 : Int32))])) (fun t k => XS.iconst XJ2.here hx rfl (hb hby at_78) k) ?_
        refine Goes.to (T' := TJ2.setTop (mkF m 81 #[.val (.long q0), .second, .val (.long q1), .second, .val (.int p2), .val (.long q3), .second, .val (.int p4), .val (.int p5), .val (.int (p4 &&& (3 : Int32))), .val (.long tm), .second, .val (.int stv), .val (.int (0 : Int32)), .unset, .unset, .unset, .unset, .unset, .unset, .unset, .unset] [])) (fun t k => XS.istore XJ2.here hx rfl (hb hby at_79) rfl (l' := #[.val (.long q0), .second, .val (.long q1), .second, .val (.int p2), .val (.long q3), .second, .val (.int p4), .val (.int p5), .val (.int (p4 &&& (3 : Int32))), .val (.long tm), .second, .val (.int stv), .val (.int (0 : Int32)), .unset, .unset, .unset, .unset, .unset, .unset, .unset, .unset]) rfl k) ?_
        exact J81 _ _ (0 : Int32) XJ2 eJ2 NJ2 
      · skip
        refine Goes.to (T' := TJ2.setTop (mkF m 74 #[.val (.long q0), .second, .val (.long q1), .second, .val (.int p2), .val (.long q3), .second, .val (.int p4), .val (.int p5), .val (.int (p4 &&& (3 : Int32))), .val (.long tm), .second, .val (.int stv), .unset, .unset, .unset, .unset, .unset, .unset, .unset, .unset, .unset] [])) (fun t k => XS.ifNo XJ2.here hx rfl (hb hby at_71) rfl ((if0 _ _).trans (feq hc71_22).1) k) ?_
        refine Goes.to (T' := TJ2.setTop (mkF m 75 #[.val (.long q0), .second, .val (.long q1), .second, .val (.int p2), .val (.long q3), .second, .val (.int p4), .val (.int p5), .val (.int (p4 &&& (3 : Int32))), .val (.long tm), .second, .val (.int stv), .unset, .unset, .unset, .unset, .unset, .unset, .unset, .unset, .unset] [(.int (1 : Int32))])) (fun t k => XS.iconst XJ2.here hx rfl (hb hby at_74) k) ?_
        refine Goes.to (T' := TJ2.setTop (mkF m 79 #[.val (.long q0), .second, .val (.long q1), .second, .val (.int p2), .val (.long q3), .second, .val (.int p4), .val (.int p5), .val (.int (p4 &&& (3 : Int32))), .val (.long tm), .second, .val (.int stv), .unset, .unset, .unset, .unset, .unset, .unset, .unset, .unset, .unset] [(.int (1 : Int32))])) (fun t k => XS.goto XJ2.here hx rfl (pc0 := 75) (pc' := 79) rfl (hb hby at_75) (by decide) (by decide) k) ?_
        refine Goes.to (T' := TJ2.setTop (mkF m 81 #[.val (.long q0), .second, .val (.long q1), .second, .val (.int p2), .val (.long q3), .second, .val (.int p4), .val (.int p5), .val (.int (p4 &&& (3 : Int32))), .val (.long tm), .second, .val (.int stv), .val (.int (1 : Int32)), .unset, .unset, .unset, .unset, .unset, .unset, .unset, .unset] [])) (fun t k => XS.istore XJ2.here hx rfl (hb hby at_79) rfl (l' := #[.val (.long q0), .second, .val (.long q1), .second, .val (.int p2), .val (.long q3), .second, .val (.int p4), .val (.int p5), .val (.int (p4 &&& (3 : Int32))), .val (.long tm), .second, .val (.int stv), .val (.int (1 : Int32)), .unset, .unset, .unset, .unset, .unset, .unset, .unset, .unset]) rfl k) ?_
        exact J81 _ _ (1 : Int32) XJ2 eJ2 NJ2 
    refine Goes.to (T' := TJ1.setTop (mkF m 50 #[.val (.long q0), .second, .val (.long q1), .second, .val (.int p2), .val (.long q3), .second, .val (.int p4), .val (.int p5), .val (.int (p4 &&& (3 : Int32))), .val (.long tm), .second, .unset, .unset, .unset, .unset, .unset, .unset, .unset, .unset, .unset, .unset] [(.int p4)])) (fun t k => XS.iload XJ1.here hx rfl (hb hby at_48) rfl k) ?_
    refine Goes.to (T' := TJ1.setTop (mkF m 51 #[.val (.long q0), .second, .val (.long q1), .second, .val (.int p2), .val (.long q3), .second, .val (.int p4), .val (.int p5), .val (.int (p4 &&& (3 : Int32))), .val (.long tm), .second, .unset, .unset, .unset, .unset, .unset, .unset, .unset, .unset, .unset, .unset] [(.int (2 : Int32)), (.int p4)])) (fun t k => XS.iconst XJ1.here hx rfl (hb hby at_50) k) ?_
    refine Goes.to (T' := TJ1.setTop (mkF m 52 #[.val (.long q0), .second, .val (.long q1), .second, .val (.int p2), .val (.long q3), .second, .val (.int p4), .val (.int p5), .val (.int (p4 &&& (3 : Int32))), .val (.long tm), .second, .unset, .unset, .unset, .unset, .unset, .unset, .unset, .unset, .unset, .unset] [(.int (p4 >>> ((2 : Int32) &&& 31)))])) (fun t k => XS.ishr XJ1.here hx rfl (hb hby at_51) rfl k) ?_
    refine Goes.to (T' := TJ1.setTop (mkF m 53 #[.val (.long q0), .second, .val (.long q1), .second, .val (.int p2), .val (.long q3), .second, .val (.int p4), .val (.int p5), .val (.int (p4 &&& (3 : Int32))), .val (.long tm), .second, .unset, .unset, .unset, .unset, .unset, .unset, .unset, .unset, .unset, .unset] [(.int (1 : Int32)), (.int (p4 >>> ((2 : Int32) &&& 31)))])) (fun t k => XS.iconst XJ1.here hx rfl (hb hby at_52) k) ?_
    refine Goes.to (T' := TJ1.setTop (mkF m 54 #[.val (.long q0), .second, .val (.long q1), .second, .val (.int p2), .val (.long q3), .second, .val (.int p4), .val (.int p5), .val (.int (p4 &&& (3 : Int32))), .val (.long tm), .second, .unset, .unset, .unset, .unset, .unset, .unset, .unset, .unset, .unset, .unset] [(.int ((p4 >>> ((2 : Int32) &&& 31)) &&& (1 : Int32)))])) (fun t k => XS.iand XJ1.here hx rfl (hb hby at_53) rfl k) ?_
    rcases Decidable.em (((p4 >>> ((2 : Int32) &&& 31)) &&& (1 : Int32)) = (0 : Int32)) with hc54_23 | hc54_23
    · skip
      refine Goes.to (T' := TJ1.setTop (mkF m 62 #[.val (.long q0), .second, .val (.long q1), .second, .val (.int p2), .val (.long q3), .second, .val (.int p4), .val (.int p5), .val (.int (p4 &&& (3 : Int32))), .val (.long tm), .second, .unset, .unset, .unset, .unset, .unset, .unset, .unset, .unset, .unset, .unset] [])) (fun t k => XS.ifYes XJ1.here hx rfl (pc0 := 54) (pc' := 62) rfl (hb hby at_54) rfl ((if0 _ _).trans (teq hc54_23).1) (by decide) (by decide) k) ?_
      refine Goes.to (T' := TJ1.setTop (mkF m 63 #[.val (.long q0), .second, .val (.long q1), .second, .val (.int p2), .val (.long q3), .second, .val (.int p4), .val (.int p5), .val (.int (p4 &&& (3 : Int32))), .val (.long tm), .second, .unset, .unset, .unset, .unset, .unset, .unset, .unset, .unset, .unset, .unset] [(.int (0 : Int32))])) (fun t k => XS.iconst XJ1.here hx rfl (hb hby at_62) k) ?_
      refine Goes.to (T' := TJ1.setTop (mkF m 65 #[.val (.long q0), .second, .val (.long q1), .second, .val (.int p2), .val (.long q3), .second, .val (.int p4), .val (.int p5), .val (.int (p4 &&& (3 : Int32))), .val (.long tm), .second, .val (.int (0 : Int32)), .unset, .unset, .unset, .unset, .unset, .unset, .unset, .unset, .unset] [])) (fun t k => XS.istore XJ1.here hx rfl (hb hby at_63) rfl (l' := #[.val (.long q0), .second, .val (.long q1), .second, .val (.int p2), .val (.long q3), .second, .val (.int p4), .val (.int p5), .val (.int (p4 &&& (3 : Int32))), .val (.long tm), .second, .val (.int (0 : Int32)), .unset, .unset, .unset, .unset, .unset, .unset, .unset, .unset, .unset]) rfl k) ?_
      exact J65 _ _ (0 : Int32) XJ1 eJ1 NJ1 
    · skip
      refine Goes.to (T' := TJ1.setTop (mkF m 57 #[.val (.long q0), .second, .val (.long q1), .second, .val (.int p2), .val (.long q3), .second, .val (.int p4), .val (.int p5), .val (.int (p4 &&& (3 : Int32))), .val (.long tm), .second, .unset, .unset, .unset, .unset, .unset, .unset, .unset, .unset, .unset, .unset] [])) (fun t k => XS.ifNo XJ1.here hx rfl (hb hby at_54) rfl ((if0 _ _).trans (feq hc54_23).1) k) ?_
      refine Goes.to (T' := TJ1.setTop (mkF m 59 #[.val (.long q0), .second, .val (.long q1), .second, .val (.int p2), .val (.long q3), .second, .val (.int p4), .val (.int p5), .val (.int (p4 &&& (3 : Int32))), .val (.long tm), .second, .unset, .unset, .unset, .unset, .unset, .unset, .unset, .unset, .unset, .unset] [(.int p2)])) (fun t k => XS.iload XJ1.here hx rfl (hb hby at_57) rfl k) ?_
      refine Goes.to (T' := TJ1.setTop (mkF m 63 #[.val (.long q0), .second, .val (.long q1), .second, .val (.int p2), .val (.long q3), .second, .val (.int p4), .val (.int p5), .val (.int (p4 &&& (3 : Int32))), .val (.long tm), .second, .unset, .unset, .unset, .unset, .unset, .unset, .unset, .unset, .unset, .unset] [(.int p2)])) (fun t k => XS.goto XJ1.here hx rfl (pc0 := 59) (pc' := 63) rfl (hb hby at_59) (by decide) (by decide) k) ?_
      refine Goes.to (T' := TJ1.setTop (mkF m 65 #[.val (.long q0), .second, .val (.long q1), .second, .val (.int p2), .val (.long q3), .second, .val (.int p4), .val (.int p5), .val (.int (p4 &&& (3 : Int32))), .val (.long tm), .second, .val (.int p2), .unset, .unset, .unset, .unset, .unset, .unset, .unset, .unset, .unset] [])) (fun t k => XS.istore XJ1.here hx rfl (hb hby at_63) rfl (l' := #[.val (.long q0), .second, .val (.long q1), .second, .val (.int p2), .val (.long q3), .second, .val (.int p4), .val (.int p5), .val (.int (p4 &&& (3 : Int32))), .val (.long tm), .second, .val (.int p2), .unset, .unset, .unset, .unset, .unset, .unset, .unset, .unset, .unset]) rfl k) ?_
      exact J65 _ _ p2 XJ1 eJ1 NJ1 
  refine Goes.to (T' := s₁.setTop (mkF m 8 #[.val (.long q0), .second, .val (.long q1), .second, .val (.int p2), .val (.long q3), .second, .val (.int p4), .val (.int p5), .val (.int (p4 &&& (3 : Int32))), .unset, .unset, .unset, .unset, .unset, .unset, .unset, .unset, .unset, .unset, .unset, .unset] [(.int (p4 &&& (3 : Int32)))])) (fun t k => XS.iload X0.here hx rfl (hb hby at_6) rfl k) ?_
  rcases Decidable.em ((p4 &&& (3 : Int32)) = (0 : Int32)) with hc8_24 | hc8_24
  · skip
    refine Goes.to (T' := s₁.setTop (mkF m 11 #[.val (.long q0), .second, .val (.long q1), .second, .val (.int p2), .val (.long q3), .second, .val (.int p4), .val (.int p5), .val (.int (p4 &&& (3 : Int32))), .unset, .unset, .unset, .unset, .unset, .unset, .unset, .unset, .unset, .unset, .unset, .unset] [])) (fun t k => XS.ifNo X0.here hx rfl (hb hby at_8) rfl ((if0 _ _).trans (teq hc8_24).2) k) ?_
    refine Goes.to (T' := s₁.setTop (mkF m 12 #[.val (.long q0), .second, .val (.long q1), .second, .val (.int p2), .val (.long q3), .second, .val (.int p4), .val (.int p5), .val (.int (p4 &&& (3 : Int32))), .unset, .unset, .unset, .unset, .unset, .unset, .unset, .unset, .unset, .unset, .unset, .unset] [(.long q1)])) (fun t k => XS.lloadN X0.here hx rfl (hb hby at_11) rfl k) ?_
    refine Goes.to (T' := s₁.setTop (mkF m 14 #[.val (.long q0), .second, .val (.long q1), .second, .val (.int p2), .val (.long q3), .second, .val (.int p4), .val (.int p5), .val (.int (p4 &&& (3 : Int32))), .val (.long q1), .second, .unset, .unset, .unset, .unset, .unset, .unset, .unset, .unset, .unset, .unset] [])) (fun t k => XS.lstore X0.here hx rfl (hb hby at_12) rfl (l' := #[.val (.long q0), .second, .val (.long q1), .second, .val (.int p2), .val (.long q3), .second, .val (.int p4), .val (.int p5), .val (.int (p4 &&& (3 : Int32))), .val (.long q1), .second, .unset, .unset, .unset, .unset, .unset, .unset, .unset, .unset, .unset, .unset]) rfl k) ?_
    refine Goes.to (T' := s₁.setTop (mkF m 48 #[.val (.long q0), .second, .val (.long q1), .second, .val (.int p2), .val (.long q3), .second, .val (.int p4), .val (.int p5), .val (.int (p4 &&& (3 : Int32))), .val (.long q1), .second, .unset, .unset, .unset, .unset, .unset, .unset, .unset, .unset, .unset, .unset] [])) (fun t k => XS.goto X0.here hx rfl (pc0 := 14) (pc' := 48) rfl (hb hby at_14) (by decide) (by decide) k) ?_
    exact J48 _ _ q1 X0 e0 N0 
  · skip
    refine Goes.to (T' := s₁.setTop (mkF m 17 #[.val (.long q0), .second, .val (.long q1), .second, .val (.int p2), .val (.long q3), .second, .val (.int p4), .val (.int p5), .val (.int (p4 &&& (3 : Int32))), .unset, .unset, .unset, .unset, .unset, .unset, .unset, .unset, .unset, .unset, .unset, .unset] [])) (fun t k => XS.ifYes X0.here hx rfl (pc0 := 8) (pc' := 17) rfl (hb hby at_8) rfl ((if0 _ _).trans (feq hc8_24).2) (by decide) (by decide) k) ?_
    refine Goes.to (T' := s₁.setTop (mkF m 19 #[.val (.long q0), .second, .val (.long q1), .second, .val (.int p2), .val (.long q3), .second, .val (.int p4), .val (.int p5), .val (.int (p4 &&& (3 : Int32))), .unset, .unset, .unset, .unset, .unset, .unset, .unset, .unset, .unset, .unset, .unset, .unset] [(.int (p4 &&& (3 : Int32)))])) (fun t k => XS.iload X0.here hx rfl (hb hby at_17) rfl k) ?_
    refine Goes.to (T' := s₁.setTop (mkF m 20 #[.val (.long q0), .second, .val (.long q1), .second, .val (.int p2), .val (.long q3), .second, .val (.int p4), .val (.int p5), .val (.int (p4 &&& (3 : Int32))), .unset, .unset, .unset, .unset, .unset, .unset, .unset, .unset, .unset, .unset, .unset, .unset] [(.int (1 : Int32)), (.int (p4 &&& (3 : Int32)))])) (fun t k => XS.iconst X0.here hx rfl (hb hby at_19) k) ?_
    rcases Decidable.em ((p4 &&& (3 : Int32)) = (1 : Int32)) with hc20_25 | hc20_25
    · skip
      refine Goes.to (T' := s₁.setTop (mkF m 23 #[.val (.long q0), .second, .val (.long q1), .second, .val (.int p2), .val (.long q3), .second, .val (.int p4), .val (.int p5), .val (.int (p4 &&& (3 : Int32))), .unset, .unset, .unset, .unset, .unset, .unset, .unset, .unset, .unset, .unset, .unset, .unset] [])) (fun t k => XS.icmpNo X0.here hx rfl (hb hby at_20) rfl (teq hc20_25).2 k) ?_
      refine Goes.to (T' := s₁.setTop (mkF m 24 #[.val (.long q0), .second, .val (.long q1), .second, .val (.int p2), .val (.long q3), .second, .val (.int p4), .val (.int p5), .val (.int (p4 &&& (3 : Int32))), .unset, .unset, .unset, .unset, .unset, .unset, .unset, .unset, .unset, .unset, .unset, .unset] [(.long q0)])) (fun t k => XS.lloadN X0.here hx rfl (hb hby at_23) rfl k) ?_
      refine Goes.to (T' := s₁.setTop (mkF m 26 #[.val (.long q0), .second, .val (.long q1), .second, .val (.int p2), .val (.long q3), .second, .val (.int p4), .val (.int p5), .val (.int (p4 &&& (3 : Int32))), .val (.long q0), .second, .unset, .unset, .unset, .unset, .unset, .unset, .unset, .unset, .unset, .unset] [])) (fun t k => XS.lstore X0.here hx rfl (hb hby at_24) rfl (l' := #[.val (.long q0), .second, .val (.long q1), .second, .val (.int p2), .val (.long q3), .second, .val (.int p4), .val (.int p5), .val (.int (p4 &&& (3 : Int32))), .val (.long q0), .second, .unset, .unset, .unset, .unset, .unset, .unset, .unset, .unset, .unset, .unset]) rfl k) ?_
      refine Goes.to (T' := s₁.setTop (mkF m 48 #[.val (.long q0), .second, .val (.long q1), .second, .val (.int p2), .val (.long q3), .second, .val (.int p4), .val (.int p5), .val (.int (p4 &&& (3 : Int32))), .val (.long q0), .second, .unset, .unset, .unset, .unset, .unset, .unset, .unset, .unset, .unset, .unset] [])) (fun t k => XS.goto X0.here hx rfl (pc0 := 26) (pc' := 48) rfl (hb hby at_26) (by decide) (by decide) k) ?_
      exact J48 _ _ q0 X0 e0 N0 
    · skip
      refine Goes.to (T' := s₁.setTop (mkF m 29 #[.val (.long q0), .second, .val (.long q1), .second, .val (.int p2), .val (.long q3), .second, .val (.int p4), .val (.int p5), .val (.int (p4 &&& (3 : Int32))), .unset, .unset, .unset, .unset, .unset, .unset, .unset, .unset, .unset, .unset, .unset, .unset] [])) (fun t k => XS.icmpYes X0.here hx rfl (pc0 := 20) (pc' := 29) rfl (hb hby at_20) rfl (feq hc20_25).2 (by decide) (by decide) k) ?_
      refine Goes.to (T' := s₁.setTop (mkF m 31 #[.val (.long q0), .second, .val (.long q1), .second, .val (.int p2), .val (.long q3), .second, .val (.int p4), .val (.int p5), .val (.int (p4 &&& (3 : Int32))), .unset, .unset, .unset, .unset, .unset, .unset, .unset, .unset, .unset, .unset, .unset, .unset] [(.int (p4 &&& (3 : Int32)))])) (fun t k => XS.iload X0.here hx rfl (hb hby at_29) rfl k) ?_
      refine Goes.to (T' := s₁.setTop (mkF m 32 #[.val (.long q0), .second, .val (.long q1), .second, .val (.int p2), .val (.long q3), .second, .val (.int p4), .val (.int p5), .val (.int (p4 &&& (3 : Int32))), .unset, .unset, .unset, .unset, .unset, .unset, .unset, .unset, .unset, .unset, .unset, .unset] [(.int (2 : Int32)), (.int (p4 &&& (3 : Int32)))])) (fun t k => XS.iconst X0.here hx rfl (hb hby at_31) k) ?_
      rcases Decidable.em ((p4 &&& (3 : Int32)) = (2 : Int32)) with hc32_26 | hc32_26
      · skip
        refine Goes.to (T' := s₁.setTop (mkF m 35 #[.val (.long q0), .second, .val (.long q1), .second, .val (.int p2), .val (.long q3), .second, .val (.int p4), .val (.int p5), .val (.int (p4 &&& (3 : Int32))), .unset, .unset, .unset, .unset, .unset, .unset, .unset, .unset, .unset, .unset, .unset, .unset] [])) (fun t k => XS.icmpNo X0.here hx rfl (hb hby at_32) rfl (teq hc32_26).2 k) ?_
        refine Goes.to (T' := s₁.setTop (mkF m 36 #[.val (.long q0), .second, .val (.long q1), .second, .val (.int p2), .val (.long q3), .second, .val (.int p4), .val (.int p5), .val (.int (p4 &&& (3 : Int32))), .unset, .unset, .unset, .unset, .unset, .unset, .unset, .unset, .unset, .unset, .unset, .unset] [(.long q0)])) (fun t k => XS.lloadN X0.here hx rfl (hb hby at_35) rfl k) ?_
        refine Goes.to (T' := s₁.setTop (mkF m 37 #[.val (.long q0), .second, .val (.long q1), .second, .val (.int p2), .val (.long q3), .second, .val (.int p4), .val (.int p5), .val (.int (p4 &&& (3 : Int32))), .unset, .unset, .unset, .unset, .unset, .unset, .unset, .unset, .unset, .unset, .unset, .unset] [(.long (1 : Int64)), (.long q0)])) (fun t k => XS.lconst X0.here hx rfl (hb hby at_36) k) ?_
        refine Goes.to (T' := s₁.setTop (mkF m 38 #[.val (.long q0), .second, .val (.long q1), .second, .val (.int p2), .val (.long q3), .second, .val (.int p4), .val (.int p5), .val (.int (p4 &&& (3 : Int32))), .unset, .unset, .unset, .unset, .unset, .unset, .unset, .unset, .unset, .unset, .unset, .unset] [(.long (q0 + (1 : Int64)))])) (fun t k => XS.ladd X0.here hx rfl (hb hby at_37) rfl k) ?_
        refine Goes.to (T' := s₁.setTop (mkF m 40 #[.val (.long q0), .second, .val (.long q1), .second, .val (.int p2), .val (.long q3), .second, .val (.int p4), .val (.int p5), .val (.int (p4 &&& (3 : Int32))), .val (.long (q0 + (1 : Int64))), .second, .unset, .unset, .unset, .unset, .unset, .unset, .unset, .unset, .unset, .unset] [])) (fun t k => XS.lstore X0.here hx rfl (hb hby at_38) rfl (l' := #[.val (.long q0), .second, .val (.long q1), .second, .val (.int p2), .val (.long q3), .second, .val (.int p4), .val (.int p5), .val (.int (p4 &&& (3 : Int32))), .val (.long (q0 + (1 : Int64))), .second, .unset, .unset, .unset, .unset, .unset, .unset, .unset, .unset, .unset, .unset]) rfl k) ?_
        refine Goes.to (T' := s₁.setTop (mkF m 48 #[.val (.long q0), .second, .val (.long q1), .second, .val (.int p2), .val (.long q3), .second, .val (.int p4), .val (.int p5), .val (.int (p4 &&& (3 : Int32))), .val (.long (q0 + (1 : Int64))), .second, .unset, .unset, .unset, .unset, .unset, .unset, .unset, .unset, .unset, .unset] [])) (fun t k => XS.goto X0.here hx rfl (pc0 := 40) (pc' := 48) rfl (hb hby at_40) (by decide) (by decide) k) ?_
        exact J48 _ _ (q0 + (1 : Int64)) X0 e0 N0 
      · skip
        refine Goes.to (T' := s₁.setTop (mkF m 43 #[.val (.long q0), .second, .val (.long q1), .second, .val (.int p2), .val (.long q3), .second, .val (.int p4), .val (.int p5), .val (.int (p4 &&& (3 : Int32))), .unset, .unset, .unset, .unset, .unset, .unset, .unset, .unset, .unset, .unset, .unset, .unset] [])) (fun t k => XS.icmpYes X0.here hx rfl (pc0 := 32) (pc' := 43) rfl (hb hby at_32) rfl (feq hc32_26).2 (by decide) (by decide) k) ?_
        refine Goes.to (T' := s₁.setTop (mkF m 44 #[.val (.long q0), .second, .val (.long q1), .second, .val (.int p2), .val (.long q3), .second, .val (.int p4), .val (.int p5), .val (.int (p4 &&& (3 : Int32))), .unset, .unset, .unset, .unset, .unset, .unset, .unset, .unset, .unset, .unset, .unset, .unset] [(.long q0)])) (fun t k => XS.lloadN X0.here hx rfl (hb hby at_43) rfl k) ?_
        refine Goes.to (T' := s₁.setTop (mkF m 45 #[.val (.long q0), .second, .val (.long q1), .second, .val (.int p2), .val (.long q3), .second, .val (.int p4), .val (.int p5), .val (.int (p4 &&& (3 : Int32))), .unset, .unset, .unset, .unset, .unset, .unset, .unset, .unset, .unset, .unset, .unset, .unset] [(.long (1 : Int64)), (.long q0)])) (fun t k => XS.lconst X0.here hx rfl (hb hby at_44) k) ?_
        refine Goes.to (T' := s₁.setTop (mkF m 46 #[.val (.long q0), .second, .val (.long q1), .second, .val (.int p2), .val (.long q3), .second, .val (.int p4), .val (.int p5), .val (.int (p4 &&& (3 : Int32))), .unset, .unset, .unset, .unset, .unset, .unset, .unset, .unset, .unset, .unset, .unset, .unset] [(.long (q0 - (1 : Int64)))])) (fun t k => XS.lsub X0.here hx rfl (hb hby at_45) rfl k) ?_
        refine Goes.to (T' := s₁.setTop (mkF m 48 #[.val (.long q0), .second, .val (.long q1), .second, .val (.int p2), .val (.long q3), .second, .val (.int p4), .val (.int p5), .val (.int (p4 &&& (3 : Int32))), .val (.long (q0 - (1 : Int64))), .second, .unset, .unset, .unset, .unset, .unset, .unset, .unset, .unset, .unset, .unset] [])) (fun t k => XS.lstore X0.here hx rfl (hb hby at_46) rfl (l' := #[.val (.long q0), .second, .val (.long q1), .second, .val (.int p2), .val (.long q3), .second, .val (.int p4), .val (.int p5), .val (.int (p4 &&& (3 : Int32))), .val (.long (q0 - (1 : Int64))), .second, .unset, .unset, .unset, .unset, .unset, .unset, .unset, .unset, .unset, .unset]) rfl k) ?_
        exact J48 _ _ (q0 - (1 : Int64)) X0 e0 N0 
set_option maxRecDepth 65536 in
set_option maxHeartbeats 40000000 in
theorem comes_1 {Post : Tables → Env → Array Value → State → Outcome → State → Prop} (hpost : ∀ tb e args s v u, (limb_1_1.after args s (.returned v) u = true ∧ limb_1_2.after args s (.returned v) u = true ∧ True) → ReturnedEndW s (.returned v) u (Jvm.fieldLocs frame_1_writes args s ++ Jvm.arrayLocs frame_1_arrays args s ++ Jvm.staticLocs frame_1_statics s) 24 2176 → Post tb e args s (.returned v) u) :
    ArmFor flags0 classFile x code maxLocals ret World_1 tables_1 room_1 Calls_1 rest_1 Pre_1 Post := by
  intro l hfl _ _ p e ha hc hk s m args below hf hA hF happ hP
  obtain ⟨hcalls, hrest, hpre⟩ := hP
  obtain ⟨-, -, -, hnamed, -, -, -, hat⟩ := (Spec.applies_iff hf).mp happ
  obtain ⟨hg, hn⟩ := and_e (Cond.before_iff.mp (show (Jvm.Cond.and given_1 narrow_1).before args s = true from hpre))
  obtain ⟨gc, gr0⟩ := and_e hg
  obtain ⟨w0, w1, w2, w3, w4, w5, rfl⟩ : ∃ w0 w1 w2 w3 w4 w5 : Value, args = #[w0, w1, w2, w3, w4, w5] := by
    have hs : args.size = 6 := by simpa [Cond.value, given_1] using gc
    obtain ⟨L⟩ := args
    match L, hs with
    | [w0, w1, w2, w3, w4, w5], _ => exact ⟨w0, w1, w2, w3, w4, w5, rfl⟩
  have hw := fun d (hd : d ∈ tables_1) => atoms_spec (ws := Jvm.Cond.code x code maxLocals ret :: tables_1) hat d (List.mem_cons_of_mem _ hd)
  have hfit : Fit s := fun {y c} hc i hi => by
    obtain ⟨ha, rfl⟩ := Array.getElem?_eq_some_iff.mp hc
    have q := List.all_eq_true.mp ((Array.all_eq_true_iff_forall_mem.mp hF) _ (Array.getElem_mem ha)) i (List.mem_range.mpr hi)
    simpa [Array.getElem?_eq_getElem hi] using q
  obtain ⟨gv0, gr1⟩ := and_e gr0
  obtain ⟨i0, ei0⟩ := isL_v gv0
  obtain rfl : w0 = (.long i0) := Option.some.inj ei0
  obtain ⟨gv1, gr2⟩ := and_e gr1
  obtain ⟨i1, ei1⟩ := isL_v gv1
  obtain rfl : w1 = (.long i1) := Option.some.inj ei1
  obtain ⟨gv2, gr3⟩ := and_e gr2
  obtain ⟨i2, ei2⟩ := is_v gv2
  obtain rfl : w2 = (.int i2) := Option.some.inj ei2
  obtain ⟨gv3, gr4⟩ := and_e gr3
  obtain ⟨i3, ei3⟩ := isL_v gv3
  obtain rfl : w3 = (.long i3) := Option.some.inj ei3
  obtain ⟨gv4, gr5⟩ := and_e gr4
  obtain ⟨i4, ei4⟩ := is_v gv4
  obtain rfl : w4 = (.int i4) := Option.some.inj ei4
  obtain ⟨i5, ei5⟩ := is_v gr5
  obtain rfl : w5 = (.int i5) := Option.some.inj ei5
  have hsets := (atoms_of jdkStatics_1 (show (jdkStatics_1.foldr Cond.and restOwn_1).before _ s = true from by rw [← rest_1_c_eq]; exact hrest)).1
  obtain ⟨nl1, nr1⟩ := and_e hn
  obtain ⟨w_Market_MKT_GLB, ev_w_Market_MKT_GLB⟩ := exa_v nl1
  have S_w_Market_MKT_GLB : Sta s s.heap "com/example/arvi/arvi/model/Market" "MKT_GLB" "Lcom/example/arvi/arvi/model/Market;" (.ref w_Market_MKT_GLB) := Sta.start ev_w_Market_MKT_GLB (Or.inr ⟨(hw _ (List.mem_of_getElem? (i := 1) rfl)), (hw _ (List.mem_of_getElem? (i := 2) rfl))⟩)
  have E_w_Market_MKT_GLB : Exa s s.heap w_Market_MKT_GLB "com/example/arvi/arvi/model/Market" := Exa.start ev_w_Market_MKT_GLB nl1
  obtain ⟨w_Market_MKT_ONE, ev_w_Market_MKT_ONE⟩ := exa_v nr1
  have S_w_Market_MKT_ONE : Sta s s.heap "com/example/arvi/arvi/model/Market" "MKT_ONE" "Lcom/example/arvi/arvi/model/Market;" (.ref w_Market_MKT_ONE) := Sta.start ev_w_Market_MKT_ONE (Or.inr ⟨(hw _ (List.mem_of_getElem? (i := 1) rfl)), (hw _ (List.mem_of_getElem? (i := 77) rfl))⟩)
  have E_w_Market_MKT_ONE : Exa s s.heap w_Market_MKT_ONE "com/example/arvi/arvi/model/Market" := Exa.start ev_w_Market_MKT_ONE nr1
  obtain ⟨z_cs, ev_cs⟩ := is_v (Cond.before_iff.mp (hsets _ (List.mem_of_getElem? (i := 1) rfl)))
  have S_cs : Sta s s.heap "java/lang/String" "COMPACT_STRINGS" "Z" (.int z_cs) := Sta.start ev_cs (Or.inl (hsets _ (List.mem_of_getElem? (i := 0) rfl)))
  have nz_cs : ¬ z_cs = 0 := own_nz ev_cs (Cond.before_iff.mp (hsets _ (List.mem_of_getElem? (i := 2) rfl)))
  obtain ⟨n, o, h1, h2, h3, _, L, rfl, ⟨rfl, N⟩, hq⟩ := rm0 l s _ hw tables_1 i0 i1 i2 i3 i4 i5 w_Market_MKT_GLB w_Market_MKT_ONE z_cs s.heap s.heap.size (Old.start s) ⟨S_w_Market_MKT_GLB, E_w_Market_MKT_GLB, S_w_Market_MKT_ONE, E_w_Market_MKT_ONE, S_cs, nz_cs⟩ p e ha hc hk s m _ below hf ((Spec.applies_iff_loose hf).mp happ).1 ⟨rfl, State.Warmed39.refl s, rfl⟩ trivial
  refine ⟨n, _, h1, h2, h3, hpost _ _ _ _ _ _ ⟨Cond.after_iff.mpr rfl, Cond.after_iff.mpr (eq_i res_at (Term.int_eval (1)) rfl), trivial⟩ ⟨hq.1, hq.2.1, hq.2.2.1, (hq.2.2.2.sift fun y hy => Or.inr (N y hy)).mono (by decide) (by decide)⟩⟩
theorem main_1_1 : Claimed_1_1 := comes_1 fun _ _ _ _ _ _ h hF => ⟨h.1, hF⟩
theorem main_1_2 : Claimed_1_2 := comes_1 fun _ _ _ _ _ _ h hF => ⟨h.2.1, hF⟩
end Jvm.Pilot.@@N@@
namespace Jvm.Pilot.@@N@@
open Jvm Jvm.ClassFile Sem Op Lib Jvm.Free Jvm.Stand Jvm.Pilot.@@N@@.Jvm.D
/-! MADE BY PROGRAM (witnessworld.py) out of the Statement's table words and the real class files: 23 classes; the members and pool entries that the words name. The judged class is class 1, her method 1. -/
namespace start1
open Jvm.ClassFile
def u (s : String) : CpInfo := .utf8 (stringToUtf16 s)
/-- a pool by its gaps: so many unusable entries, then the entry; so many at the end -/
def gap : Nat → List CpInfo → List CpInfo
  | 0, r => r
  | n + 1, r => .unusable :: gap n r
def poolList (es : List (Nat × CpInfo)) (last : Nat) : List CpInfo := es.foldr (fun e r => gap e.1 (e.2 :: r)) (gap last [])
def pool (es : List (Nat × CpInfo)) (last : Nat) : Array CpInfo := ⟨poolList es last⟩
def fileOf (pool : Array CpInfo) (this : Nat) (attrs : Array Attribute := #[]) (ms : Array MethodInfo := #[]) (fl : Nat := 33) (sup : Nat := 0) (ifs : Array Nat := #[]) (fds : Array FieldInfo := #[]) : ClassFile where
  minorVersion := 0
  majorVersion := 65
  constantPool := pool
  accessFlags := fl
  thisClass := this
  superClass := sup
  interfaces := ifs
  fields := fds
  methods := ms
  attributes := attrs
def plain (name : String) (sup : Option ClassId) : Class where
  name := name
  kind := .ordinary
  loader := none
  accessFlags := 33
  super := sup
  interfaces := #[]
  cf := none
  fields := #[]
  methods := #[]
  instanceTypes := #[]
  staticTypes := #[]
  resolved := #[]
  callSites := []
  init := .initialized
  statics := none
  mirror := none

def pool0 : Array CpInfo := pool [(5, u "<init>"), (0, u "()V"), (1, .class_ 10), (1, u "java/lang/Object")] 113

def k0c0 : Code := { maxStack := 0, maxLocals := 1, code := object_method_1_code, exceptionTable := #[], attributes := #[] }
def k0m0 : Method := { name := "<init>", desc := "()V", sig := { parameters := [], returnType := none }, accessFlags := 1, code := some k0c0 }
/-- java/lang/Object -/
def k0 : Class := { plain "java/lang/Object" none with
  accessFlags := 33
  interfaces := #[]
  cf := some (fileOf pool0 8 #[] #[{ accessFlags := 1, nameIndex := 5, descriptorIndex := 6, attributes := #[] }] 33 0 #[] #[])
  fields := #[]
  methods := #[k0m0]
  instanceTypes := #[]
  staticTypes := #[]
  resolved := Array.replicate 124 none
  statics := none }

def pool1 : Array CpInfo := pool [(2, .class_ 4), (1, u "java/lang/Object"), (0, u "<init>"), (0, u "()V"), (0, .fieldref 8 9), (0, .class_ 10), (0, .nameAndType 11 12), (0, u "com/example/arvi/arvi/model/Market"), (0, u "MKT_ONE"), (0, u "Lcom/example/arvi/arvi/model/Market;"), (0, .fieldref 8 14), (0, .nameAndType 15 12), (0, u "MKT_GLB"), (0, .class_ 17), (0, u "java/lang/String"), (0, .methodref 16 19), (0, .nameAndType 5 20), (0, u "([C)V"), (0, .class_ 22), (0, u "com/example/arvi/arvi/model/RecurringPurchaseDetails"), (0, .methodref 21 24), (0, .nameAndType 5 25), (0, u "(JJJZIJILjava/lang/String;ILcom/example/arvi/arvi/model/Market;)V"), (0, .methodref 21 27), (0, .nameAndType 28 29), (0, u "isEntitledAt"), (0, u "(J)Z"), (0, .class_ 31), (0, u "com/example/arvi/arvi/model/RecurringPurchaseDetailsIsEntitledAtPinLaw"), (2, u "law"), (0, u "(JJIJII)Z")] 5

def k1m0 : Method := { name := "<init>", desc := "()V", sig := { parameters := [], returnType := none }, accessFlags := 1, code := none }
def k1c1 : Code := { maxStack := 16, maxLocals := 22, code := code, exceptionTable := #[], attributes := #[] }
def k1m1 : Method := { name := "law", desc := "(JJIJII)Z", sig := { parameters := [.long, .long, .int, .long, .int, .int], returnType := some .boolean }, accessFlags := 9, code := some k1c1 }
/-- com/example/arvi/arvi/model/RecurringPurchaseDetailsIsEntitledAtPinLaw -/
def k1 : Class := { plain "com/example/arvi/arvi/model/RecurringPurchaseDetailsIsEntitledAtPinLaw" (some 0) with
  accessFlags := 49
  interfaces := #[]
  cf := some (fileOf pool1 30 #[] #[{ accessFlags := 1, nameIndex := 5, descriptorIndex := 6, attributes := #[] }, { accessFlags := 9, nameIndex := 34, descriptorIndex := 35, attributes := #[] }] 49 2 #[] #[])
  fields := #[]
  methods := #[k1m0, k1m1]
  instanceTypes := #[]
  staticTypes := #[]
  resolved := Array.replicate 41 none
  statics := none }

def pool2 : Array CpInfo := pool [(1, .class_ 2), (0, u "java/lang/constant/Constable"), (0, .class_ 4), (0, u "java/lang/Object")] 6

/-- java/lang/constant/Constable -/
def k2 : Class := { plain "java/lang/constant/Constable" (some 0) with
  accessFlags := 1537
  interfaces := #[]
  cf := some (fileOf pool2 1 #[] #[] 1537 3 #[] #[])
  fields := #[]
  methods := #[]
  instanceTypes := #[]
  staticTypes := #[]
  resolved := Array.replicate 11 none
  statics := none }

def pool3 : Array CpInfo := pool [(1, .class_ 2), (0, u "java/lang/Comparable"), (0, .class_ 4), (0, u "java/lang/Object")] 7

/-- java/lang/Comparable -/
def k3 : Class := { plain "java/lang/Comparable" (some 0) with
  accessFlags := 1537
  interfaces := #[]
  cf := some (fileOf pool3 1 #[] #[] 1537 3 #[] #[])
  fields := #[]
  methods := #[]
  instanceTypes := #[]
  staticTypes := #[]
  resolved := Array.replicate 12 none
  statics := none }

def pool4 : Array CpInfo := pool [(1, .class_ 2), (0, u "java/io/Serializable"), (0, .class_ 4), (0, u "java/lang/Object")] 2

/-- java/io/Serializable -/
def k4 : Class := { plain "java/io/Serializable" (some 0) with
  accessFlags := 1537
  interfaces := #[]
  cf := some (fileOf pool4 1 #[] #[] 1537 3 #[] #[])
  fields := #[]
  methods := #[]
  instanceTypes := #[]
  staticTypes := #[]
  resolved := Array.replicate 7 none
  statics := none }

def pool5 : Array CpInfo := pool [(2, .class_ 4), (1, u "java/lang/Enum"), (0, u "name"), (0, u "Ljava/lang/String;"), (2, u "ordinal"), (0, u "I"), (1, .class_ 14), (1, u "java/lang/Object"), (4, u "hash"), (86, .class_ 108), (1, u "java/lang/Enum$EnumDesc"), (2, .class_ 112), (0, u "java/lang/constant/Constable"), (0, .class_ 114), (0, u "java/lang/Comparable"), (0, .class_ 116), (0, u "java/io/Serializable")] 87

/-- java/lang/Enum -/
def k5 : Class := { plain "java/lang/Enum" (some 0) with
  accessFlags := 1057
  interfaces := #[2, 3, 4]
  cf := some (fileOf pool5 2 #[.nestMembers #[106]] #[] 1057 12 #[111, 113, 115] #[{ accessFlags := 18, nameIndex := 5, descriptorIndex := 6, attributes := #[] }, { accessFlags := 18, nameIndex := 9, descriptorIndex := 10, attributes := #[] }, { accessFlags := 2, nameIndex := 19, descriptorIndex := 10, attributes := #[] }])
  fields := #[{ name := "name", type := (.object "java/lang/String"), accessFlags := 18, slot := 0, constantValue := 0 }, { name := "ordinal", type := .int, accessFlags := 18, slot := 1, constantValue := 0 }, { name := "hash", type := .int, accessFlags := 2, slot := 2, constantValue := 0 }]
  methods := #[]
  instanceTypes := #[(.object "java/lang/String"), .int, .int]
  staticTypes := #[]
  resolved := Array.replicate 204 none
  statics := none }

def pool6 : Array CpInfo := pool [(1, .class_ 2), (0, u "com/example/arvi/arvi/model/Market"), (2, u "MKT_ONE"), (0, u "Lcom/example/arvi/arvi/model/Market;"), (2, u "MKT_GLB"), (2, u "$VALUES"), (0, u "[Lcom/example/arvi/arvi/model/Market;"), (6, .class_ 22), (1, u "java/lang/Enum"), (8, u "offset"), (0, u "Ljava/time/ZoneOffset;")] 31

/-- com/example/arvi/arvi/model/Market -/
def k6 : Class := { plain "com/example/arvi/arvi/model/Market" (some 5) with
  accessFlags := 16433
  interfaces := #[]
  cf := some (fileOf pool6 1 #[] #[] 16433 20 #[] #[{ accessFlags := 16409, nameIndex := 5, descriptorIndex := 6, attributes := #[] }, { accessFlags := 16409, nameIndex := 9, descriptorIndex := 6, attributes := #[] }, { accessFlags := 18, nameIndex := 31, descriptorIndex := 32, attributes := #[] }, { accessFlags := 4122, nameIndex := 12, descriptorIndex := 13, attributes := #[] }])
  fields := #[{ name := "MKT_ONE", type := (.object "com/example/arvi/arvi/model/Market"), accessFlags := 16409, slot := 0, constantValue := 0 }, { name := "MKT_GLB", type := (.object "com/example/arvi/arvi/model/Market"), accessFlags := 16409, slot := 1, constantValue := 0 }, { name := "offset", type := (.object "java/time/ZoneOffset"), accessFlags := 18, slot := 3, constantValue := 0 }, { name := "$VALUES", type := (.array (.object "com/example/arvi/arvi/model/Market")), accessFlags := 4122, slot := 2, constantValue := 0 }]
  methods := #[]
  instanceTypes := #[(.object "java/lang/String"), .int, .int, (.object "java/time/ZoneOffset")]
  staticTypes := #[(.object "com/example/arvi/arvi/model/Market"), (.object "com/example/arvi/arvi/model/Market"), (.array (.object "com/example/arvi/arvi/model/Market"))]
  resolved := Array.replicate 64 none
  statics := some 0 }

def pool7 : Array CpInfo := pool [(2, .class_ 4), (1, u "java/lang/CharSequence"), (42, .class_ 48), (0, u "java/lang/CharSequence$1CodePointIterator"), (10, .class_ 60), (0, u "java/lang/CharSequence$1CharIterator"), (5, .class_ 67), (0, u "java/lang/Object")] 63

/-- java/lang/CharSequence -/
def k7 : Class := { plain "java/lang/CharSequence" (some 0) with
  accessFlags := 1537
  interfaces := #[]
  cf := some (fileOf pool7 2 #[.nestMembers #[47, 59]] #[] 1537 66 #[] #[])
  fields := #[]
  methods := #[]
  instanceTypes := #[]
  staticTypes := #[]
  resolved := Array.replicate 131 none
  statics := none }

def pool8 : Array CpInfo := pool [(1, .class_ 2), (0, u "java/lang/constant/ConstantDesc"), (0, .class_ 4), (0, u "java/lang/Object")] 32

/-- java/lang/constant/ConstantDesc -/
def k8 : Class := { plain "java/lang/constant/ConstantDesc" (some 0) with
  accessFlags := 1537
  interfaces := #[]
  cf := some (fileOf pool8 1 #[] #[] 1537 3 #[] #[])
  fields := #[]
  methods := #[]
  instanceTypes := #[]
  staticTypes := #[]
  resolved := Array.replicate 37 none
  statics := none }

def pool9 : Array CpInfo := pool [(1, .methodref 2 3), (0, .class_ 4), (0, .nameAndType 5 6), (0, u "java/lang/Object"), (0, u "<init>"), (0, u "()V"), (2, .fieldref 10 11), (0, .class_ 12), (0, .nameAndType 13 14), (0, u "java/lang/String"), (0, u "value"), (0, u "[B"), (0, .fieldref 10 16), (0, .nameAndType 17 18), (0, u "coder"), (0, u "B"), (2, u "hash"), (0, u "I"), (2, u "hashIsZero"), (0, u "Z"), (0, .methodref 10 28), (0, .nameAndType 5 29), (0, u "([CIILjava/lang/Void;)V"), (8, .fieldref 10 39), (0, .nameAndType 40 26), (0, u "COMPACT_STRINGS"), (1, .class_ 44), (1, u "java/lang/StringUTF16"), (0, u "compress"), (1, .methodref 42 48), (0, .nameAndType 49 50), (0, u "coderFromArrayLen"), (0, u "([BI)B"), (126, .methodref 42 178), (0, .nameAndType 45 179), (0, u "([CII)[B"), (395, .class_ 576), (0, u "java/lang/CharSequence"), (22, u "CASE_INSENSITIVE_ORDER"), (0, u "Ljava/util/Comparator;"), (409, u "([C)V"), (90, u "serialPersistentFields"), (0, u "[Ljava/io/ObjectStreamField;"), (0, .class_ 1104), (0, u "java/lang/String$CaseInsensitiveComparator"), (1, .class_ 1107), (0, u "java/io/Serializable"), (0, .class_ 1109), (0, u "java/lang/Comparable"), (0, .class_ 1111), (0, u "java/lang/constant/Constable"), (0, .class_ 1113), (0, u "java/lang/constant/ConstantDesc"), (2, u "serialVersionUID"), (0, u "J"), (3, u "REPL"), (0, u "C"), (2, u "LATIN1"), (1, u "UTF16")] 323

def k9m0 : Method := { name := "<init>", desc := "()V", sig := { parameters := [], returnType := none }, accessFlags := 1, code := none }
def k9c1 : Code := { maxStack := 5, maxLocals := 2, code := jdk_42_method_3_code, exceptionTable := #[], attributes := #[] }
def k9m1 : Method := { name := "<init>", desc := "([C)V", sig := { parameters := [(.array .char)], returnType := none }, accessFlags := 1, code := some k9c1 }
def k9c2 : Code := { maxStack := 4, maxLocals := 6, code := jdk_42_method_149_code, exceptionTable := #[], attributes := #[] }
def k9m2 : Method := { name := "<init>", desc := "([CIILjava/lang/Void;)V", sig := { parameters := [(.array .char), .int, .int, (.object "java/lang/Void")], returnType := none }, accessFlags := 2, code := some k9c2 }
/-- java/lang/String -/
def k9 : Class := { plain "java/lang/String" (some 0) with
  accessFlags := 49
  interfaces := #[4, 3, 7, 2, 8]
  cf := some (fileOf pool9 10 #[.nestMembers #[1103]] #[{ accessFlags := 1, nameIndex := 5, descriptorIndex := 6, attributes := #[] }, { accessFlags := 1, nameIndex := 5, descriptorIndex := 1010, attributes := #[] }, { accessFlags := 2, nameIndex := 5, descriptorIndex := 29, attributes := #[] }] 49 2 #[1106, 1108, 575, 1110, 1112] #[{ accessFlags := 18, nameIndex := 13, descriptorIndex := 14, attributes := #[] }, { accessFlags := 18, nameIndex := 17, descriptorIndex := 18, attributes := #[] }, { accessFlags := 2, nameIndex := 21, descriptorIndex := 22, attributes := #[] }, { accessFlags := 2, nameIndex := 25, descriptorIndex := 26, attributes := #[] }, { accessFlags := 26, nameIndex := 1116, descriptorIndex := 1117, attributes := #[] }, { accessFlags := 24, nameIndex := 40, descriptorIndex := 26, attributes := #[] }, { accessFlags := 26, nameIndex := 1101, descriptorIndex := 1102, attributes := #[] }, { accessFlags := 26, nameIndex := 1121, descriptorIndex := 1122, attributes := #[] }, { accessFlags := 25, nameIndex := 599, descriptorIndex := 600, attributes := #[] }, { accessFlags := 24, nameIndex := 1125, descriptorIndex := 18, attributes := #[] }, { accessFlags := 24, nameIndex := 1127, descriptorIndex := 18, attributes := #[] }])
  fields := #[{ name := "value", type := (.array .byte), accessFlags := 18, slot := 0, constantValue := 0 }, { name := "coder", type := .byte, accessFlags := 18, slot := 1, constantValue := 0 }, { name := "hash", type := .int, accessFlags := 2, slot := 2, constantValue := 0 }, { name := "hashIsZero", type := .boolean, accessFlags := 2, slot := 3, constantValue := 0 }, { name := "serialVersionUID", type := .long, accessFlags := 26, slot := 0, constantValue := 0 }, { name := "COMPACT_STRINGS", type := .boolean, accessFlags := 24, slot := 1, constantValue := 0 }, { name := "serialPersistentFields", type := (.array (.object "java/io/ObjectStreamField")), accessFlags := 26, slot := 2, constantValue := 0 }, { name := "REPL", type := .char, accessFlags := 26, slot := 3, constantValue := 0 }, { name := "CASE_INSENSITIVE_ORDER", type := (.object "java/util/Comparator"), accessFlags := 25, slot := 4, constantValue := 0 }, { name := "LATIN1", type := .byte, accessFlags := 24, slot := 5, constantValue := 0 }, { name := "UTF16", type := .byte, accessFlags := 24, slot := 6, constantValue := 0 }]
  methods := #[k9m0, k9m1, k9m2]
  instanceTypes := #[(.array .byte), .byte, .int, .boolean]
  staticTypes := #[.long, .boolean, (.array (.object "java/io/ObjectStreamField")), .char, (.object "java/util/Comparator"), .byte, .byte]
  resolved := Array.replicate 1451 none
  statics := some 1 }

def pool10 : Array CpInfo := pool [(6, .class_ 8), (1, u "java/lang/Object"), (0, u "<init>"), (0, u "()V"), (1, .class_ 14), (1, u "java/lang/StringUTF16"), (31, u "$assertionsDisabled"), (0, u "Z"), (13, u "HI_BYTE_SHIFT"), (0, u "I"), (2, u "LO_BYTE_SHIFT"), (49, .methodref 12 116), (0, .nameAndType 117 118), (0, u "compress"), (0, u "([CI[BII)I"), (3, u "([CII)[B"), (138, u "coderFromArrayLen"), (0, u "([BI)B"), (106, .class_ 371), (1, u "java/lang/StringUTF16$LinesSpliterator"), (58, u "MAX_LENGTH"), (196, .class_ 628), (0, u "java/lang/StringUTF16$CodePointsSpliterator"), (0, .class_ 630), (0, u "java/lang/StringUTF16$CharsSpliterator")] 4

def k10m0 : Method := { name := "<init>", desc := "()V", sig := { parameters := [], returnType := none }, accessFlags := 0, code := none }
def k10c1 : Code := { maxStack := 2, maxLocals := 2, code := jdk_52_method_15_code, exceptionTable := #[], attributes := #[] }
def k10m1 : Method := { name := "coderFromArrayLen", desc := "([BI)B", sig := { parameters := [(.array .byte), .int], returnType := some .byte }, accessFlags := 8, code := some k10c1 }
def k10c2 : Code := { maxStack := 5, maxLocals := 6, code := jdk_52_method_16_code, exceptionTable := #[], attributes := #[] }
def k10m2 : Method := { name := "compress", desc := "([CII)[B", sig := { parameters := [(.array .char), .int, .int], returnType := some (.array .byte) }, accessFlags := 9, code := some k10c2 }
def k10c3 : Code := { maxStack := 3, maxLocals := 7, code := jdk_52_method_21_code, exceptionTable := #[], attributes := #[] }
def k10m3 : Method := { name := "compress", desc := "([CI[BII)I", sig := { parameters := [(.array .char), .int, (.array .byte), .int, .int], returnType := some .int }, accessFlags := 9, code := some k10c3 }
/-- java/lang/StringUTF16 -/
def k10 : Class := { plain "java/lang/StringUTF16" (some 0) with
  accessFlags := 48
  interfaces := #[]
  cf := some (fileOf pool10 12 #[.nestMembers #[627, 629, 369]] #[{ accessFlags := 0, nameIndex := 9, descriptorIndex := 10, attributes := #[] }, { accessFlags := 8, nameIndex := 261, descriptorIndex := 262, attributes := #[] }, { accessFlags := 9, nameIndex := 117, descriptorIndex := 122, attributes := #[] }, { accessFlags := 9, nameIndex := 117, descriptorIndex := 118, attributes := #[] }] 48 6 #[] #[{ accessFlags := 26, nameIndex := 61, descriptorIndex := 62, attributes := #[] }, { accessFlags := 26, nameIndex := 65, descriptorIndex := 62, attributes := #[] }, { accessFlags := 24, nameIndex := 430, descriptorIndex := 62, attributes := #[] }, { accessFlags := 4120, nameIndex := 46, descriptorIndex := 47, attributes := #[] }])
  fields := #[{ name := "HI_BYTE_SHIFT", type := .int, accessFlags := 26, slot := 0, constantValue := 0 }, { name := "LO_BYTE_SHIFT", type := .int, accessFlags := 26, slot := 1, constantValue := 0 }, { name := "MAX_LENGTH", type := .int, accessFlags := 24, slot := 2, constantValue := 0 }, { name := "$assertionsDisabled", type := .boolean, accessFlags := 4120, slot := 3, constantValue := 0 }]
  methods := #[k10m0, k10m1, k10m2, k10m3]
  instanceTypes := #[]
  staticTypes := #[.int, .int, .int, .boolean]
  resolved := Array.replicate 635 none
  statics := none }

def pool11 : Array CpInfo := pool [(1, .methodref 2 3), (0, .class_ 4), (0, .nameAndType 5 6), (0, u "java/lang/Object"), (0, u "<init>"), (0, u "()V"), (0, .fieldref 8 9), (0, .class_ 10), (0, .nameAndType 11 12), (0, u "com/example/arvi/arvi/model/RecurringPurchaseDetails"), (0, u "startTime"), (0, u "J"), (0, .fieldref 8 14), (0, .nameAndType 15 12), (0, u "expiryTime"), (0, .fieldref 8 17), (0, .nameAndType 18 12), (0, u "nextPaymentTime"), (0, .fieldref 8 20), (0, .nameAndType 21 22), (0, u "autoRenewing"), (0, u "Z"), (0, .fieldref 8 24), (0, .nameAndType 25 26), (0, u "cancelReason"), (0, u "I"), (0, .fieldref 8 28), (0, .nameAndType 29 12), (0, u "cancelledTime"), (0, .fieldref 8 31), (0, .nameAndType 32 26), (0, u "acknowledgeState"), (0, .string 34), (0, u "lastPurchaseId"), (0, .methodref 36 37), (0, .class_ 38), (0, .nameAndType 39 40), (0, u "java/util/Objects"), (0, u "requireNonNull"), (0, u "(Ljava/lang/Object;Ljava/lang/String;)Ljava/lang/Object;"), (0, .class_ 42), (0, u "java/lang/String"), (0, .fieldref 8 44), (0, .nameAndType 34 45), (0, u "Ljava/lang/String;"), (0, .fieldref 8 47), (0, .nameAndType 48 26), (0, u "lastPurchaseState"), (0, .string 50), (0, u "market"), (0, .class_ 52), (0, u "com/example/arvi/arvi/model/Market"), (0, .fieldref 8 54), (0, .nameAndType 50 55), (0, u "Lcom/example/arvi/arvi/model/Market;"), (10, u "isEntitledAt"), (0, u "(J)Z"), (31, u "(JJJZIJILjava/lang/String;ILcom/example/arvi/arvi/model/Market;)V")] 28

def k11c0 : Code := { maxStack := 3, maxLocals := 15, code := prog_27_method_1_code, exceptionTable := #[], attributes := #[] }
def k11m0 : Method := { name := "<init>", desc := "(JJJZIJILjava/lang/String;ILcom/example/arvi/arvi/model/Market;)V", sig := { parameters := [.long, .long, .long, .boolean, .int, .long, .int, (.object "java/lang/String"), .int, (.object "com/example/arvi/arvi/model/Market")], returnType := none }, accessFlags := 1, code := some k11c0 }
def k11c1 : Code := { maxStack := 4, maxLocals := 3, code := prog_27_method_12_code, exceptionTable := #[], attributes := #[] }
def k11m1 : Method := { name := "isEntitledAt", desc := "(J)Z", sig := { parameters := [.long], returnType := some .boolean }, accessFlags := 1, code := some k11c1 }
/-- com/example/arvi/arvi/model/RecurringPurchaseDetails -/
def k11 : Class := { plain "com/example/arvi/arvi/model/RecurringPurchaseDetails" (some 0) with
  accessFlags := 49
  interfaces := #[]
  cf := some (fileOf pool11 8 #[] #[{ accessFlags := 1, nameIndex := 5, descriptorIndex := 99, attributes := #[] }, { accessFlags := 1, nameIndex := 66, descriptorIndex := 67, attributes := #[] }] 49 2 #[] #[{ accessFlags := 18, nameIndex := 11, descriptorIndex := 12, attributes := #[] }, { accessFlags := 18, nameIndex := 15, descriptorIndex := 12, attributes := #[] }, { accessFlags := 18, nameIndex := 18, descriptorIndex := 12, attributes := #[] }, { accessFlags := 18, nameIndex := 21, descriptorIndex := 22, attributes := #[] }, { accessFlags := 18, nameIndex := 25, descriptorIndex := 26, attributes := #[] }, { accessFlags := 18, nameIndex := 29, descriptorIndex := 12, attributes := #[] }, { accessFlags := 18, nameIndex := 32, descriptorIndex := 26, attributes := #[] }, { accessFlags := 18, nameIndex := 34, descriptorIndex := 45, attributes := #[] }, { accessFlags := 18, nameIndex := 48, descriptorIndex := 26, attributes := #[] }, { accessFlags := 18, nameIndex := 50, descriptorIndex := 55, attributes := #[] }])
  fields := #[{ name := "startTime", type := .long, accessFlags := 18, slot := 0, constantValue := 0 }, { name := "expiryTime", type := .long, accessFlags := 18, slot := 1, constantValue := 0 }, { name := "nextPaymentTime", type := .long, accessFlags := 18, slot := 2, constantValue := 0 }, { name := "autoRenewing", type := .boolean, accessFlags := 18, slot := 3, constantValue := 0 }, { name := "cancelReason", type := .int, accessFlags := 18, slot := 4, constantValue := 0 }, { name := "cancelledTime", type := .long, accessFlags := 18, slot := 5, constantValue := 0 }, { name := "acknowledgeState", type := .int, accessFlags := 18, slot := 6, constantValue := 0 }, { name := "lastPurchaseId", type := (.object "java/lang/String"), accessFlags := 18, slot := 7, constantValue := 0 }, { name := "lastPurchaseState", type := .int, accessFlags := 18, slot := 8, constantValue := 0 }, { name := "market", type := (.object "com/example/arvi/arvi/model/Market"), accessFlags := 18, slot := 9, constantValue := 0 }]
  methods := #[k11m0, k11m1]
  instanceTypes := #[.long, .long, .long, .boolean, .int, .long, .int, (.object "java/lang/String"), .int, (.object "com/example/arvi/arvi/model/Market")]
  staticTypes := #[]
  resolved := Array.replicate 128 none
  statics := none }

def pool12 : Array CpInfo := pool [(2, .class_ 4), (1, u "java/lang/Object"), (0, u "<init>"), (0, u "()V"), (35, .class_ 44), (1, u "java/util/Objects"), (0, u "requireNonNull"), (48, u "(Ljava/lang/Object;Ljava/lang/String;)Ljava/lang/Object;")] 89

def k12m0 : Method := { name := "<init>", desc := "()V", sig := { parameters := [], returnType := none }, accessFlags := 2, code := none }
def k12c1 : Code := { maxStack := 3, maxLocals := 2, code := jdk_31_method_11_code, exceptionTable := #[], attributes := #[] }
def k12m1 : Method := { name := "requireNonNull", desc := "(Ljava/lang/Object;Ljava/lang/String;)Ljava/lang/Object;", sig := { parameters := [(.object "java/lang/Object"), (.object "java/lang/String")], returnType := some (.object "java/lang/Object") }, accessFlags := 9, code := some k12c1 }
/-- java/util/Objects -/
def k12 : Class := { plain "java/util/Objects" (some 0) with
  accessFlags := 49
  interfaces := #[]
  cf := some (fileOf pool12 42 #[] #[{ accessFlags := 2, nameIndex := 5, descriptorIndex := 6, attributes := #[] }, { accessFlags := 9, nameIndex := 45, descriptorIndex := 94, attributes := #[] }] 49 2 #[] #[])
  fields := #[]
  methods := #[k12m0, k12m1]
  instanceTypes := #[]
  staticTypes := #[]
  resolved := Array.replicate 184 none
  statics := none }

def pool13 : Array CpInfo := pool [(4, .class_ 6), (1, u "java/lang/Object"), (0, u "<init>"), (0, u "()V"), (5, .class_ 16), (1, u "java/lang/StringLatin1"), (104, u "$assertionsDisabled"), (0, u "Z"), (98, .class_ 223), (1, u "java/lang/StringLatin1$LinesSpliterator"), (166, .class_ 391), (0, u "java/lang/StringLatin1$CharsSpliterator")] 3

def k13m0 : Method := { name := "<init>", desc := "()V", sig := { parameters := [], returnType := none }, accessFlags := 0, code := none }
/-- java/lang/StringLatin1 -/
def k13 : Class := { plain "java/lang/StringLatin1" (some 0) with
  accessFlags := 48
  interfaces := #[]
  cf := some (fileOf pool13 14 #[.nestMembers #[390, 221]] #[{ accessFlags := 0, nameIndex := 7, descriptorIndex := 8, attributes := #[] }] 48 4 #[] #[{ accessFlags := 4120, nameIndex := 121, descriptorIndex := 122, attributes := #[] }])
  fields := #[{ name := "$assertionsDisabled", type := .boolean, accessFlags := 4120, slot := 0, constantValue := 0 }]
  methods := #[k13m0]
  instanceTypes := #[]
  staticTypes := #[.boolean]
  resolved := Array.replicate 395 none
  statics := none }

def pool14 : Array CpInfo := pool [(2, .class_ 4), (1, u "java/lang/Object"), (0, u "<init>"), (0, u "()V"), (17, .class_ 26), (1, u "jdk/internal/util/Preconditions"), (28, .class_ 56), (0, u "jdk/internal/util/Preconditions$4"), (57, .class_ 115), (0, u "jdk/internal/util/Preconditions$1"), (7, u "SIOOBE_FORMATTER"), (0, u "Ljava/util/function/BiFunction;"), (0, .class_ 126), (0, u "jdk/internal/util/Preconditions$2"), (3, u "AIOOBE_FORMATTER"), (0, .class_ 132), (0, u "jdk/internal/util/Preconditions$3"), (3, u "IOOBE_FORMATTER")] 57

def k14m0 : Method := { name := "<init>", desc := "()V", sig := { parameters := [], returnType := none }, accessFlags := 1, code := none }
/-- jdk/internal/util/Preconditions -/
def k14 : Class := { plain "jdk/internal/util/Preconditions" (some 0) with
  accessFlags := 33
  interfaces := #[]
  cf := some (fileOf pool14 24 #[.nestMembers #[55, 131, 125, 114]] #[{ accessFlags := 1, nameIndex := 5, descriptorIndex := 6, attributes := #[] }] 33 2 #[] #[{ accessFlags := 25, nameIndex := 123, descriptorIndex := 124, attributes := #[] }, { accessFlags := 25, nameIndex := 130, descriptorIndex := 124, attributes := #[] }, { accessFlags := 25, nameIndex := 136, descriptorIndex := 124, attributes := #[] }])
  fields := #[{ name := "SIOOBE_FORMATTER", type := (.object "java/util/function/BiFunction"), accessFlags := 25, slot := 0, constantValue := 0 }, { name := "AIOOBE_FORMATTER", type := (.object "java/util/function/BiFunction"), accessFlags := 25, slot := 1, constantValue := 0 }, { name := "IOOBE_FORMATTER", type := (.object "java/util/function/BiFunction"), accessFlags := 25, slot := 2, constantValue := 0 }]
  methods := #[k14m0]
  instanceTypes := #[]
  staticTypes := #[(.object "java/util/function/BiFunction"), (.object "java/util/function/BiFunction"), (.object "java/util/function/BiFunction")]
  resolved := Array.replicate 194 none
  statics := some 2 }

def pool15 : Array CpInfo := pool [(9, u "<init>"), (6, .class_ 18), (1, u "java/lang/Object"), (0, u "()V"), (1, .class_ 23), (1, u "jdk/internal/util/ArraysSupport"), (0, u "LOG2_ARRAY_LONG_INDEX_SCALE"), (0, u "I"), (2, u "U"), (0, u "Ljdk/internal/misc/Unsafe;"), (8, u "BIG_ENDIAN"), (0, u "Z"), (8, u "LOG2_BYTE_BIT_SIZE"), (4, u "LOG2_ARRAY_INT_INDEX_SCALE"), (54, u "JLA"), (0, u "Ljdk/internal/access/JavaLangAccess;"), (11, u "LOG2_ARRAY_BOOLEAN_INDEX_SCALE"), (9, u "LOG2_ARRAY_BYTE_INDEX_SCALE"), (5, u "LOG2_ARRAY_CHAR_INDEX_SCALE"), (5, u "LOG2_ARRAY_SHORT_INDEX_SCALE"), (18, u "LOG2_ARRAY_FLOAT_INDEX_SCALE"), (24, u "LOG2_ARRAY_DOUBLE_INDEX_SCALE"), (89, u "T_BOOLEAN"), (2, u "T_CHAR"), (1, u "T_FLOAT"), (1, u "T_DOUBLE"), (1, u "T_BYTE"), (1, u "T_SHORT"), (1, u "T_INT"), (1, u "T_LONG"), (1, u "SOFT_MAX_ARRAY_LENGTH")] 83

def k15m0 : Method := { name := "<init>", desc := "()V", sig := { parameters := [], returnType := none }, accessFlags := 2, code := none }
/-- jdk/internal/util/ArraysSupport -/
def k15 : Class := { plain "jdk/internal/util/ArraysSupport" (some 0) with
  accessFlags := 33
  interfaces := #[]
  cf := some (fileOf pool15 21 #[] #[{ accessFlags := 2, nameIndex := 9, descriptorIndex := 19, attributes := #[] }] 33 16 #[] #[{ accessFlags := 24, nameIndex := 28, descriptorIndex := 29, attributes := #[] }, { accessFlags := 26, nameIndex := 38, descriptorIndex := 39, attributes := #[] }, { accessFlags := 25, nameIndex := 121, descriptorIndex := 25, attributes := #[] }, { accessFlags := 25, nameIndex := 131, descriptorIndex := 25, attributes := #[] }, { accessFlags := 25, nameIndex := 137, descriptorIndex := 25, attributes := #[] }, { accessFlags := 25, nameIndex := 143, descriptorIndex := 25, attributes := #[] }, { accessFlags := 25, nameIndex := 53, descriptorIndex := 25, attributes := #[] }, { accessFlags := 25, nameIndex := 24, descriptorIndex := 25, attributes := #[] }, { accessFlags := 25, nameIndex := 162, descriptorIndex := 25, attributes := #[] }, { accessFlags := 25, nameIndex := 187, descriptorIndex := 25, attributes := #[] }, { accessFlags := 26, nameIndex := 48, descriptorIndex := 25, attributes := #[] }, { accessFlags := 25, nameIndex := 277, descriptorIndex := 25, attributes := #[] }, { accessFlags := 25, nameIndex := 280, descriptorIndex := 25, attributes := #[] }, { accessFlags := 25, nameIndex := 282, descriptorIndex := 25, attributes := #[] }, { accessFlags := 25, nameIndex := 284, descriptorIndex := 25, attributes := #[] }, { accessFlags := 25, nameIndex := 286, descriptorIndex := 25, attributes := #[] }, { accessFlags := 25, nameIndex := 288, descriptorIndex := 25, attributes := #[] }, { accessFlags := 25, nameIndex := 290, descriptorIndex := 25, attributes := #[] }, { accessFlags := 25, nameIndex := 292, descriptorIndex := 25, attributes := #[] }, { accessFlags := 26, nameIndex := 108, descriptorIndex := 109, attributes := #[] }, { accessFlags := 25, nameIndex := 294, descriptorIndex := 25, attributes := #[] }])
  fields := #[{ name := "U", type := (.object "jdk/internal/misc/Unsafe"), accessFlags := 24, slot := 0, constantValue := 0 }, { name := "BIG_ENDIAN", type := .boolean, accessFlags := 26, slot := 1, constantValue := 0 }, { name := "LOG2_ARRAY_BOOLEAN_INDEX_SCALE", type := .int, accessFlags := 25, slot := 2, constantValue := 0 }, { name := "LOG2_ARRAY_BYTE_INDEX_SCALE", type := .int, accessFlags := 25, slot := 3, constantValue := 0 }, { name := "LOG2_ARRAY_CHAR_INDEX_SCALE", type := .int, accessFlags := 25, slot := 4, constantValue := 0 }, { name := "LOG2_ARRAY_SHORT_INDEX_SCALE", type := .int, accessFlags := 25, slot := 5, constantValue := 0 }, { name := "LOG2_ARRAY_INT_INDEX_SCALE", type := .int, accessFlags := 25, slot := 6, constantValue := 0 }, { name := "LOG2_ARRAY_LONG_INDEX_SCALE", type := .int, accessFlags := 25, slot := 7, constantValue := 0 }, { name := "LOG2_ARRAY_FLOAT_INDEX_SCALE", type := .int, accessFlags := 25, slot := 8, constantValue := 0 }, { name := "LOG2_ARRAY_DOUBLE_INDEX_SCALE", type := .int, accessFlags := 25, slot := 9, constantValue := 0 }, { name := "LOG2_BYTE_BIT_SIZE", type := .int, accessFlags := 26, slot := 10, constantValue := 0 }, { name := "T_BOOLEAN", type := .int, accessFlags := 25, slot := 11, constantValue := 0 }, { name := "T_CHAR", type := .int, accessFlags := 25, slot := 12, constantValue := 0 }, { name := "T_FLOAT", type := .int, accessFlags := 25, slot := 13, constantValue := 0 }, { name := "T_DOUBLE", type := .int, accessFlags := 25, slot := 14, constantValue := 0 }, { name := "T_BYTE", type := .int, accessFlags := 25, slot := 15, constantValue := 0 }, { name := "T_SHORT", type := .int, accessFlags := 25, slot := 16, constantValue := 0 }, { name := "T_INT", type := .int, accessFlags := 25, slot := 17, constantValue := 0 }, { name := "T_LONG", type := .int, accessFlags := 25, slot := 18, constantValue := 0 }, { name := "JLA", type := (.object "jdk/internal/access/JavaLangAccess"), accessFlags := 26, slot := 19, constantValue := 0 }, { name := "SOFT_MAX_ARRAY_LENGTH", type := .int, accessFlags := 25, slot := 20, constantValue := 0 }]
  methods := #[k15m0]
  instanceTypes := #[]
  staticTypes := #[(.object "jdk/internal/misc/Unsafe"), .boolean, .int, .int, .int, .int, .int, .int, .int, .int, .int, .int, .int, .int, .int, .int, .int, .int, .int, (.object "jdk/internal/access/JavaLangAccess"), .int]
  resolved := Array.replicate 378 none
  statics := none }

def pool16 : Array CpInfo := pool [(1, u "java/lang/Cloneable"), (0, .class_ 1), (0, u "java/lang/Object"), (0, .class_ 3)] 3

/-- java/lang/Cloneable -/
def k16 : Class := { plain "java/lang/Cloneable" (some 0) with
  accessFlags := 1537
  interfaces := #[]
  cf := some (fileOf pool16 2 #[] #[] 1537 4 #[] #[])
  fields := #[]
  methods := #[]
  instanceTypes := #[]
  staticTypes := #[]
  resolved := Array.replicate 8 none
  statics := none }

/-- the primitive byte -/
def k17 : Class := { plain "byte" none with kind := .primitive 'B', accessFlags := 0x411 }
/-- [B -/
def k18 : Class := { plain "[B" (some 0) with kind := .array 17 .byte, interfaces := #[16, 4], accessFlags := 1041 }

/-- the primitive char -/
def k19 : Class := { plain "char" none with kind := .primitive 'C', accessFlags := 0x411 }
/-- [C -/
def k20 : Class := { plain "[C" (some 0) with kind := .array 19 .char, interfaces := #[16, 4], accessFlags := 1041 }

/-- the primitive int -/
def k21 : Class := { plain "int" none with kind := .primitive 'I', accessFlags := 0x411 }
/-- [I -/
def k22 : Class := { plain "[I" (some 0) with kind := .array 21 .int, interfaces := #[16, 4], accessFlags := 1041 }

def heap : Heap := #[{ cls := 6, slots := #[.ref 4, .ref 3, .null], vm := .statics 6 },
  { cls := 9, slots := #[.long 0, .int 1, .null, .int 0, .null, .int 0, .int 0], vm := .statics 9 },
  { cls := 14, slots := #[.null, .null, .null], vm := .statics 14 },
  { cls := 6, slots := #[.null, .int 0, .int 0, .null], vm := .none },
  { cls := 6, slots := #[.null, .int 0, .int 0, .null], vm := .none }]
def classes : Array Class := #[k0, k1, k2, k3, k4, k5, k6, k7, k8, k9, k10, k11, k12, k13, k14, k15, k16, k17, k18, k19, k20, k21, k22]
def interned : List (Array UInt16 × Addr) := []
def slotsUsed : Nat := 21
def theMethod : MethodId := ⟨1, 1⟩
def args0 : Array Value := #[.long 5, .long 6, .int 7, .long 8, .int 9, .int 10]
def aboutOver (below : List Frame) : State where
  vm := { classes := classes, interned := interned.toArray }
  heap := heap
  slotsUsed := slotsUsed
  threads := #[{ frames := .invoking theMethod args0 :: below }]
def below0 : List Frame := [.native { method := ⟨0, 0⟩, args := #[] }]
def about1 : State := aboutOver below0
def p0 : Program := .bare "" "" ""
def e0 : Env := launch0.env 0 0 0
theorem w_frames : about1.frames = Frame.invoking theMethod args0 :: below0 := rfl
set_option maxRecDepth 65536 in
theorem w_args : argsFit about1.vm theMethod args0 = true := by decide +kernel
set_option maxRecDepth 65536 in
theorem w_heap : heapFits about1 = true := by decide +kernel
set_option maxRecDepth 65536 in
theorem w_runnable : about1.curStatus? = some .runnable := by decide +kernel
set_option maxRecDepth 65536 in
theorem w_alone : about1.alone = true := by decide +kernel
set_option maxRecDepth 65536 in
theorem w_named : about1.methodNamed? x = some theMethod := by decide +kernel
set_option maxRecDepth 65536 in
theorem w_hears : about1.hears theMethod below0 = true := by decide +kernel
set_option maxRecDepth 65536 in
theorem w_ripe : about1.ripe theMethod args0 below0 = true := by decide +kernel
theorem w_running : about1.status = .running := rfl
set_option maxRecDepth 65536 in
theorem w_room : about1.hasRoom e0.platform room_1 = true :=
  launch0.hasRoom_least _ room_1 (by decide +kernel) (by decide +kernel) (by decide +kernel) (by decide +kernel) (by decide +kernel) (by decide +kernel)
theorem allAtoms_all (ts : List Jvm.Cond) (a : Array Jvm.Value) (st : Jvm.State) : (allAtoms ts).before a st = ts.all (fun c => c.before a st) := by
  induction ts with
  | nil => rfl
  | cons c t ih =>
    show (Jvm.Cond.and c (allAtoms t)).before a st = _
    rw [Jvm.Cond.before_and, ih, List.all_cons]
def words1 : List Jvm.Cond := Jvm.Cond.code x code maxLocals ret :: tables_1
/-- a 'code' word, met by the world's own term for the bytes: nothing is compared byte by byte -/
theorem code_word {y : MethodName} {bytes : ByteArray} {mx : Nat} {rt : Option FieldType} {a : Array Value} {s : State} {m : MethodId} {meth : Method} {c : Code} (h1 : s.methodNamed? y = some m) (h2 : s.vm.method? m = some meth) (h3 : meth.code = some c) (h4 : c.code = bytes)
    (h5 : (c.maxLocals == mx && c.exceptionTable.isEmpty && decide (c.maxStack ≤ mostOperands) && decide (meth.sig.returnType = rt) && !meth.locks && decide (parseMethodDescriptor y.desc = some meth.sig)) = true) : (Jvm.Cond.code y bytes mx rt).before a s = true := by
  simp only [Bool.and_eq_true, beq_iff_eq, Bool.not_eq_true', decide_eq_true_eq] at h5
  obtain ⟨⟨⟨⟨⟨g1, g2⟩, g3⟩, g4⟩, g5⟩, g6⟩ := h5
  simp [Cond.before, Cond.holds, Cond.value, h1, h2, h3, h4, g1, g2, g3, g4, g5, g6]
def isCode : Jvm.Cond → Bool
  | .code _ _ _ _ => true
  | _ => false
theorem all_split {L : List Jvm.Cond} {P : Jvm.Cond → Bool} (h1 : L.all (fun c => isCode c || P c) = true) (h2 : ∀ c ∈ L.filter isCode, P c = true) : L.all P = true := by
  refine List.all_eq_true.mpr fun c hc => ?_
  have h := List.all_eq_true.mp h1 c hc
  rcases Bool.eq_false_or_eq_true (isCode c) with hi | hi
  · exact h2 c (List.mem_filter.mpr ⟨hc, hi⟩)
  · simpa [hi] using h
set_option maxRecDepth 65536 in
theorem w_c0 : (Jvm.Cond.code x code maxLocals ret).before args0 about1 = true := code_word (m := ⟨1, 1⟩) (meth := k1m1) (c := k1c1) (by decide +kernel) rfl rfl rfl (by decide +kernel)
set_option maxRecDepth 65536 in
theorem w_c1 : (Jvm.Cond.code ({ cls := "java/lang/String", name := "<init>", desc := "([C)V" } : Jvm.MethodName) jdk_42_method_3_code (2 : Nat) (Option.none : Option Jvm.ClassFile.FieldType)).before args0 about1 = true := code_word (m := ⟨9, 1⟩) (meth := k9m1) (c := k9c1) (by decide +kernel) rfl rfl rfl (by decide +kernel)
set_option maxRecDepth 65536 in
theorem w_c2 : (Jvm.Cond.code ({ cls := "java/lang/String", name := "<init>", desc := "([CIILjava/lang/Void;)V" } : Jvm.MethodName) jdk_42_method_149_code (6 : Nat) (Option.none : Option Jvm.ClassFile.FieldType)).before args0 about1 = true := code_word (m := ⟨9, 2⟩) (meth := k9m2) (c := k9c2) (by decide +kernel) rfl rfl rfl (by decide +kernel)
set_option maxRecDepth 65536 in
theorem w_c3 : (Jvm.Cond.code ({ cls := "java/lang/Object", name := "<init>", desc := "()V" } : Jvm.MethodName) object_method_1_code (1 : Nat) (Option.none : Option Jvm.ClassFile.FieldType)).before args0 about1 = true := code_word (m := ⟨0, 0⟩) (meth := k0m0) (c := k0c0) (by decide +kernel) rfl rfl rfl (by decide +kernel)
set_option maxRecDepth 65536 in
theorem w_c4 : (Jvm.Cond.code ({ cls := "java/lang/StringUTF16", name := "compress", desc := "([CII)[B" } : Jvm.MethodName) jdk_52_method_16_code (6 : Nat) (Option.some (Jvm.ClassFile.FieldType.array Jvm.ClassFile.FieldType.byte))).before args0 about1 = true := code_word (m := ⟨10, 2⟩) (meth := k10m2) (c := k10c2) (by decide +kernel) rfl rfl rfl (by decide +kernel)
set_option maxRecDepth 65536 in
theorem w_c5 : (Jvm.Cond.code ({ cls := "java/lang/StringUTF16", name := "compress", desc := "([CI[BII)I" } : Jvm.MethodName) jdk_52_method_21_code (7 : Nat) (Option.some Jvm.ClassFile.FieldType.int)).before args0 about1 = true := code_word (m := ⟨10, 3⟩) (meth := k10m3) (c := k10c3) (by decide +kernel) rfl rfl rfl (by decide +kernel)
set_option maxRecDepth 65536 in
theorem w_c6 : (Jvm.Cond.code ({ cls := "java/lang/StringUTF16", name := "coderFromArrayLen", desc := "([BI)B" } : Jvm.MethodName) jdk_52_method_15_code (2 : Nat) (Option.some Jvm.ClassFile.FieldType.byte)).before args0 about1 = true := code_word (m := ⟨10, 1⟩) (meth := k10m1) (c := k10c1) (by decide +kernel) rfl rfl rfl (by decide +kernel)
set_option maxRecDepth 65536 in
theorem w_c7 : (Jvm.Cond.code ({ cls := "com/example/arvi/arvi/model/RecurringPurchaseDetails", name := "<init>", desc := "(JJJZIJILjava/lang/String;ILcom/example/arvi/arvi/model/Market;)V" } : Jvm.MethodName) prog_27_method_1_code (15 : Nat) (Option.none : Option Jvm.ClassFile.FieldType)).before args0 about1 = true := code_word (m := ⟨11, 0⟩) (meth := k11m0) (c := k11c0) (by decide +kernel) rfl rfl rfl (by decide +kernel)
set_option maxRecDepth 65536 in
theorem w_c8 : (Jvm.Cond.code ({ cls := "java/util/Objects", name := "requireNonNull", desc := "(Ljava/lang/Object;Ljava/lang/String;)Ljava/lang/Object;" } : Jvm.MethodName) jdk_31_method_11_code (2 : Nat) (Option.some (Jvm.ClassFile.FieldType.object "java/lang/Object"))).before args0 about1 = true := code_word (m := ⟨12, 1⟩) (meth := k12m1) (c := k12c1) (by decide +kernel) rfl rfl rfl (by decide +kernel)
set_option maxRecDepth 65536 in
theorem w_c9 : (Jvm.Cond.code ({ cls := "com/example/arvi/arvi/model/RecurringPurchaseDetails", name := "isEntitledAt", desc := "(J)Z" } : Jvm.MethodName) prog_27_method_12_code (3 : Nat) (Option.some Jvm.ClassFile.FieldType.boolean)).before args0 about1 = true := code_word (m := ⟨11, 1⟩) (meth := k11m1) (c := k11c1) (by decide +kernel) rfl rfl rfl (by decide +kernel)
def codes1 : List Jvm.Cond := [Jvm.Cond.code x code maxLocals ret, Jvm.Cond.code ({ cls := "java/lang/String", name := "<init>", desc := "([C)V" } : Jvm.MethodName) jdk_42_method_3_code (2 : Nat) (Option.none : Option Jvm.ClassFile.FieldType), Jvm.Cond.code ({ cls := "java/lang/String", name := "<init>", desc := "([CIILjava/lang/Void;)V" } : Jvm.MethodName) jdk_42_method_149_code (6 : Nat) (Option.none : Option Jvm.ClassFile.FieldType), Jvm.Cond.code ({ cls := "java/lang/Object", name := "<init>", desc := "()V" } : Jvm.MethodName) object_method_1_code (1 : Nat) (Option.none : Option Jvm.ClassFile.FieldType), Jvm.Cond.code ({ cls := "java/lang/StringUTF16", name := "compress", desc := "([CII)[B" } : Jvm.MethodName) jdk_52_method_16_code (6 : Nat) (Option.some (Jvm.ClassFile.FieldType.array Jvm.ClassFile.FieldType.byte)), Jvm.Cond.code ({ cls := "java/lang/StringUTF16", name := "compress", desc := "([CI[BII)I" } : Jvm.MethodName) jdk_52_method_21_code (7 : Nat) (Option.some Jvm.ClassFile.FieldType.int), Jvm.Cond.code ({ cls := "java/lang/StringUTF16", name := "coderFromArrayLen", desc := "([BI)B" } : Jvm.MethodName) jdk_52_method_15_code (2 : Nat) (Option.some Jvm.ClassFile.FieldType.byte), Jvm.Cond.code ({ cls := "com/example/arvi/arvi/model/RecurringPurchaseDetails", name := "<init>", desc := "(JJJZIJILjava/lang/String;ILcom/example/arvi/arvi/model/Market;)V" } : Jvm.MethodName) prog_27_method_1_code (15 : Nat) (Option.none : Option Jvm.ClassFile.FieldType), Jvm.Cond.code ({ cls := "java/util/Objects", name := "requireNonNull", desc := "(Ljava/lang/Object;Ljava/lang/String;)Ljava/lang/Object;" } : Jvm.MethodName) jdk_31_method_11_code (2 : Nat) (Option.some (Jvm.ClassFile.FieldType.object "java/lang/Object")), Jvm.Cond.code ({ cls := "com/example/arvi/arvi/model/RecurringPurchaseDetails", name := "isEntitledAt", desc := "(J)Z" } : Jvm.MethodName) prog_27_method_12_code (3 : Nat) (Option.some Jvm.ClassFile.FieldType.boolean)]
set_option maxRecDepth 65536 in
theorem codes_eq : words1.filter isCode = codes1 := rfl
theorem w_codes : ∀ c ∈ words1.filter isCode, c.before args0 about1 = true := by
  rw [codes_eq]
  intro c hc
  simp only [codes1, List.mem_cons, List.not_mem_nil, or_false] at hc
  rcases hc with rfl | rfl | rfl | rfl | rfl | rfl | rfl | rfl | rfl | rfl
  · exact w_c0
  · exact w_c1
  · exact w_c2
  · exact w_c3
  · exact w_c4
  · exact w_c5
  · exact w_c6
  · exact w_c7
  · exact w_c8
  · exact w_c9
set_option maxRecDepth 65536 in
theorem w_t1 : (words1.take 24).all (fun c => isCode c || c.before args0 about1) = true := by decide +kernel
set_option maxRecDepth 65536 in
theorem w_t2 : ((words1.drop 24).take 24).all (fun c => isCode c || c.before args0 about1) = true := by decide +kernel
set_option maxRecDepth 65536 in
theorem w_t3 : (((words1.drop 24).drop 24).take 24).all (fun c => isCode c || c.before args0 about1) = true := by decide +kernel
set_option maxRecDepth 65536 in
theorem w_t4 : (((words1.drop 24).drop 24).drop 24).all (fun c => isCode c || c.before args0 about1) = true := by decide +kernel
theorem w_tables : (allAtoms (Jvm.Cond.code x code maxLocals ret :: tables_1)).before args0 about1 = true := by
  rw [allAtoms_all]
  show words1.all (fun c => c.before args0 about1) = true
  refine all_split ?_ w_codes
  rw [← List.take_append_drop 24 words1, List.all_append, w_t1, ← List.take_append_drop 24 (words1.drop 24), List.all_append, w_t2, ← List.take_append_drop 24 ((words1.drop 24).drop 24), List.all_append, w_t3, w_t4]
  rfl
set_option maxRecDepth 65536 in
theorem w_rest : rest_1_c.before args0 about1 = true := by decide +kernel
set_option maxRecDepth 65536 in
theorem w_case : (Jvm.Cond.and given_1 narrow_1).before args0 about1 = true := by decide +kernel
theorem w_applies : (headSpec (Jvm.Cond.code x code maxLocals ret :: tables_1) room_1).applies x e0.platform about1 = true :=
  (Spec.applies_iff w_frames).mpr ⟨w_running, w_runnable, w_alone, w_named, w_hears, w_ripe, w_room, w_tables⟩
theorem atStart : AtStart classFile x code maxLocals ret World_1 tables_1 room_1 Calls_1 rest_1 Pre_1 launch0 p0 e0 about1 theMethod args0 below0 :=
  ⟨lists_1, trivial, launch0.admits_env _ _ _, launch0.least_env, fairChoices_fair.cas, fairChoices_fair.clock, w_frames, w_args, w_heap, w_applies, trivial, w_rest, w_case⟩
end start1
theorem witness_1 : WitnessClaimed_1 := ⟨start1.p0, start1.e0, start1.about1, start1.theMethod, start1.args0, start1.below0, start1.atStart⟩
end Jvm.Pilot.@@N@@
