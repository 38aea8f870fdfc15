import JvmDerived
import JvmDerived.Pilot.@@N@@Statement
import JvmDerived.Pilot.@@N@@Code
set_option linter.unusedVariables false
set_option linter.unusedSimpArgs false
/- laws to paste: Road.backV (cut by pick.py; bodies as the Statement names them) -/
namespace Jvm.Pilot.@@N@@
namespace StrChars
open Jvm Sem ClassFile Op Lib Jvm.Stand Jvm.Free.XT Jvm.Free.ALB Jvm.Free.JM Jvm.Free
open Jvm.Lib.Cold (StaticIs)
/-- a char array whose places are chars -/
def Ch (a : Addr) (A : Cell) (U : State) : Prop := Arr .char a A U ∧ Typed .char A
theorem Ch.mv {a : Addr} {A : Cell} {U U' : State} (h : Ch a A U) (hal : U.vm.Alike U'.vm) (hh : U'.heap = U.heap) : Ch a A U' := ⟨h.1.mv hal hh, h.2⟩
theorem Ch.keep {a : Addr} {A : Cell} {U U' : State} (h : Ch a A U) (hal : U.vm.Alike U'.vm) (hk : U'.heap[a]? = some A) : Ch a A U' := ⟨h.1.keep hal hk, h.2⟩
/-- what place i of a char[]'s cell holds -/
def cv (A : Cell) (i : Nat) : Int32 := match A.slots[i]? with | some (.int x) => x | _ => 0
theorem Ch.get {a : Addr} {A : Cell} {U : State} (h : Ch a A U) {i : Nat} (hi : i < A.slots.size) : A.slots[i]? = some (.int (cv A i)) := by
  have e := Array.getElem?_eq_getElem hi
  have f := h.2 i _ e
  unfold cv; rw [e]
  generalize A.slots[i] = v at f
  cases v <;> simp [fits] at f ⊢
/-- the byte that i2b leaves of a char -/
def lo8 (x : Int32) : Int32 := x.toInt8.toInt32
theorem fits_lo8 (y : Int32) : fits .byte (.int (lo8 y)) = true := by
  have h1 := y.toInt8.le_toInt
  have h2 := y.toInt8.toInt_lt
  simp only [lo8, fits, Bool.and_eq_true, decide_eq_true_eq, Int32.le_iff_toInt_le, Int8.toInt_toInt32, show (-128 : Int32).toInt = -128 from by decide, show (127 : Int32).toInt = 127 from by decide]
  omega
/-- A' is A but that each place j of lo .. hi - 1 holds f j -/
def Laid (A A' : Cell) (lo hi : Nat) (f : Nat → Value) : Prop := A'.cls = A.cls ∧ A'.vm = A.vm ∧ A'.slots.size = A.slots.size ∧ ∀ i, A'.slots[i]? = if lo ≤ i ∧ i < hi then some (f i) else A.slots[i]?
theorem Laid.zero (A : Cell) (lo : Nat) (f : Nat → Value) : Laid A A lo (lo + 0) f := ⟨rfl, rfl, rfl, fun i => by rw [if_neg (by omega)]⟩
theorem Laid.step {A Ak : Cell} {lo k : Nat} {f : Nat → Value} {v : Value} (h : Laid A Ak lo k f) (hlo : lo ≤ k) (hk : k < Ak.slots.size) (hv : v = f k) : Laid A (Ak.setSlot k v) lo (k + 1) f := by
  refine ⟨h.1, h.2.1, by simpa [Cell.setSlot] using h.2.2.1, fun i => ?_⟩
  by_cases e : k = i
  · subst e; rw [Cell.slots_setSlot_self v hk, if_pos (by omega), hv]
  · rw [Cell.slots_setSlot_ne v e, h.2.2.2 i]
    by_cases q : lo ≤ i ∧ i < k
    · rw [if_pos q, if_pos (by omega)]
    · rw [if_neg q, if_neg (by omega)]
def U16 : String := "java/lang/StringUTF16"
namespace Cmp5
def yN : MethodName := ⟨"java/lang/StringUTF16", "compress", "([CI[BII)I"⟩
abbrev yB : ByteArray := jdk_52_method_21_code
theorem d0 : decode yB 0 = .ok (.iconst 0, 1) := by decide +kernel
theorem d1 : decode yB 1 = .ok (.istore 5, 2) := by decide +kernel
theorem d3 : decode yB 3 = .ok (.iload 5, 2) := by decide +kernel
theorem d5 : decode yB 5 = .ok (.iload 4, 2) := by decide +kernel
theorem d7 : decode yB 7 = .ok (.if_icmp (.ge) 37, 3) := by decide +kernel
theorem d10 : decode yB 10 = .ok (.aload_n 0, 1) := by decide +kernel
theorem d11 : decode yB 11 = .ok (.iload_n 1, 1) := by decide +kernel
theorem d12 : decode yB 12 = .ok (.caload, 1) := by decide +kernel
theorem d13 : decode yB 13 = .ok (.istore 6, 2) := by decide +kernel
theorem d15 : decode yB 15 = .ok (.iload 6, 2) := by decide +kernel
theorem d17 : decode yB 17 = .ok (.sipush 255, 3) := by decide +kernel
theorem d20 : decode yB 20 = .ok (.if_icmp (.le) 6, 3) := by decide +kernel
theorem d26 : decode yB 26 = .ok (.aload_n 2, 1) := by decide +kernel
theorem d27 : decode yB 27 = .ok (.iload_n 3, 1) := by decide +kernel
theorem d28 : decode yB 28 = .ok (.iload 6, 2) := by decide +kernel
theorem d30 : decode yB 30 = .ok (.i2b, 1) := by decide +kernel
theorem d31 : decode yB 31 = .ok (.bastore, 1) := by decide +kernel
theorem d32 : decode yB 32 = .ok (.iinc 1 1, 3) := by decide +kernel
theorem d35 : decode yB 35 = .ok (.iinc 3 1, 3) := by decide +kernel
theorem d38 : decode yB 38 = .ok (.iinc 5 1, 3) := by decide +kernel
theorem d41 : decode yB 41 = .ok (.goto (-38), 3) := by decide +kernel
theorem d44 : decode yB 44 = .ok (.iload 4, 2) := by decide +kernel
theorem d46 : decode yB 46 = .ok (.ireturn, 1) := by decide +kernel
def site : List Cond := []
def tab : Cond := tabOf yN yB 7 (some .int) site
def P (b : Addr) (A : Cell) (d : Addr) (B : Cell) (o q len : Nat) (args : Array Value) (s : State) : Prop := args = #[.ref b, .int (Int32.ofNat o), .ref d, .int (Int32.ofNat q), .int (Int32.ofNat len)] ∧ Ch b A s ∧ Arr .byte d B s ∧ b ≠ d ∧ o + len ≤ A.slots.size ∧ q + len ≤ B.slots.size ∧ ∀ i, i < len → ¬ 255 < cv A (o + i)
def E (b : Addr) (A : Cell) (d : Addr) (B : Cell) (o q len : Nat) (r : Option Value) (s u : State) : Prop := r = some (.int (Int32.ofNat len)) ∧ ∃ B', Put d B' s u ∧ Laid B B' q (q + len) (fun j => Value.int (lo8 (cv A (o + (j - q)))))
/-- no char of the range above 255: len; the places written hold each char's low byte -/
theorem law (l : Launch) (b : Addr) (A : Cell) (d : Addr) (B : Cell) (o q len : Nat) : Law l yN 5 5 0 0 yB 7 (some .int) site (P b A d B o q len) (E b A d B o q len) (copyLocs d q len) 0 0 := by
  refine Law.of_walk (plainFor_of_name (by decide +kernel)) (by decide +kernel) (by decide +kernel) (by decide) (fun _ _ h => by rw [h.1]; rfl) (fun _ U U' hal hh h => ⟨h.1, h.2.1.mv hal hh, h.2.2.1.mv hal hh, h.2.2.2⟩) (fun r U U' V V' h1 hal h2 h => ⟨h.1, h.2.elim fun B' q => ⟨B', q.1.mv h1 h2, q.2⟩⟩) ?_
  intro p e s m args below meth c s₁ X0 hexec hbytes hml hret hlk hnm hown hh0 W hP
  obtain ⟨rfl, hA, hB, hne, l1, l2, hp⟩ := hP
  have c1 : Steps p.tables e below (s₁.setTop (entryFrame m #[.ref b, .int (Int32.ofNat o), .ref d, .int (Int32.ofNat q), .int (Int32.ofNat len)] 7)) (s₁.setTop (mkF m 0 #[.val (.ref b), .val (.int (Int32.ofNat o)), .val (.ref d), .val (.int (Int32.ofNat q)), .val (.int (Int32.ofNat len)), .unset, .unset] [])) := entry rfl
  have hA0 := hA.1.mv X0.warmed.alike hh0
  have hB0 := hB.mv X0.warmed.alike hh0
  have a31 := hA.1.2.2.2
  have c2 : Steps p.tables e below (s₁.setTop (entryFrame m #[.ref b, .int (Int32.ofNat o), .ref d, .int (Int32.ofNat q), .int (Int32.ofNat len)] 7)) (s₁.setTop (mkF m 3 #[.val (.ref b), .val (.int (Int32.ofNat o)), .val (.ref d), .val (.int (Int32.ofNat q)), .val (.int (Int32.ofNat len)), .val (.int 0), .unset] [])) := c1.trans (by
    refine iconstV X0.here hexec rfl 0 (hb hbytes d0) (by decide) ?_
    refine XS.istore X0.here hexec rfl (hb hbytes d1) rfl rfl ?_
    exact Steps.refl _)
  have loop : ∀ (r i : Nat), i + r = len → ∀ (z : Slot), (z = .unset ∨ ∃ w, z = .val w ∧ w.category = 1) → ∀ (Tl : State) (Bk : Cell), Stand p l e { frames := 0, locals := 0, cells := 0, slots := 0 } s m #[.ref b, .int (Int32.ofNat o), .ref d, .int (Int32.ofNat q), .int (Int32.ofNat len)] below meth c Tl ([] ++ copyLocs d q i) 0 0 → Put d Bk s₁ Tl → Laid B Bk q (q + i) (fun j => Value.int (lo8 (cv A (o + (j - q))))) →
      Steps p.tables e below (s₁.setTop (entryFrame m #[.ref b, .int (Int32.ofNat o), .ref d, .int (Int32.ofNat q), .int (Int32.ofNat len)] 7)) (Tl.setTop (mkF m 3 #[.val (.ref b), .val (.int (Int32.ofNat (o + i))), .val (.ref d), .val (.int (Int32.ofNat (q + i))), .val (.int (Int32.ofNat len)), .val (.int (Int32.ofNat i)), z] [])) → ∃ (T' : State) (B' : Cell) (z' : Slot), Stand p l e { frames := 0, locals := 0, cells := 0, slots := 0 } s m #[.ref b, .int (Int32.ofNat o), .ref d, .int (Int32.ofNat q), .int (Int32.ofNat len)] below meth c T' ([] ++ copyLocs d q len) 0 0 ∧ Put d B' s₁ T' ∧ Laid B B' q (q + len) (fun j => Value.int (lo8 (cv A (o + (j - q))))) ∧
      Steps p.tables e below (s₁.setTop (entryFrame m #[.ref b, .int (Int32.ofNat o), .ref d, .int (Int32.ofNat q), .int (Int32.ofNat len)] 7)) (T'.setTop (mkF m 3 #[.val (.ref b), .val (.int (Int32.ofNat (o + len))), .val (.ref d), .val (.int (Int32.ofNat (q + len))), .val (.int (Int32.ofNat len)), .val (.int (Int32.ofNat len)), z'] [])) := by
    intro r
    induction r with
    | zero =>
      intro i hi z hz Tl Bk Xl pl fl cl
      have hil : i = len := by omega
      rw [hil] at Xl fl cl
      exact ⟨Tl, Bk, z, Xl, pl, fl, cl⟩
    | succ r ih =>
      intro i hi z hz Tl Bk Xl pl fl cl
      have all := X0.warmed.alike.symm.trans Xl.warmed.alike
      have hAl := hA0.keep all (pl.other hne hA0.1)
      have hBk := hB0.like all pl.1 fl.1 fl.2.1 fl.2.2.1
      have hlt : q + i < Bk.slots.size := by rw [fl.2.2.1]; omega
      have c3 : Steps p.tables e below (s₁.setTop (entryFrame m #[.ref b, .int (Int32.ofNat o), .ref d, .int (Int32.ofNat q), .int (Int32.ofNat len)] 7)) (Tl.setTop (mkF m 12 #[.val (.ref b), .val (.int (Int32.ofNat (o + i))), .val (.ref d), .val (.int (Int32.ofNat (q + i))), .val (.int (Int32.ofNat len)), .val (.int (Int32.ofNat i)), z] [.int (Int32.ofNat (o + i)), .ref b])) := cl.trans (by
        refine XS.iload Xl.here hexec rfl (hb hbytes d3) rfl ?_
        refine XS.iload Xl.here hexec rfl (hb hbytes d5) rfl ?_
        refine XS.icmpNo Xl.here hexec rfl (hb hbytes d7) rfl (ii_ge_f (lt32 (by omega) (by omega))) ?_
        refine XS.aloadN Xl.here hexec rfl (hb hbytes d10) rfl rfl ?_
        refine XS.iloadN Xl.here hexec rfl (hb hbytes d11) rfl ?_
        exact Steps.refl _)
      have c4 : Steps p.tables e below (s₁.setTop (entryFrame m #[.ref b, .int (Int32.ofNat o), .ref d, .int (Int32.ofNat q), .int (Int32.ofNat len)] 7)) (Tl.setTop (mkF m 13 #[.val (.ref b), .val (.int (Int32.ofNat (o + i))), .val (.ref d), .val (.int (Int32.ofNat (q + i))), .val (.int (Int32.ofNat len)), .val (.int (Int32.ofNat i)), z] [.int (cv A (o + i))])) := c3.trans (by
        refine Xl.aget hexec hAl rfl (hA.get (i := o + i) (by omega)) rfl rfl (hb hbytes d12) ?_
        exact Steps.refl _)
      have c5 : Steps p.tables e below (s₁.setTop (entryFrame m #[.ref b, .int (Int32.ofNat o), .ref d, .int (Int32.ofNat q), .int (Int32.ofNat len)] 7)) (Tl.setTop (mkF m 15 #[.val (.ref b), .val (.int (Int32.ofNat (o + i))), .val (.ref d), .val (.int (Int32.ofNat (q + i))), .val (.int (Int32.ofNat len)), .val (.int (Int32.ofNat i)), .val (.int (cv A (o + i)))] [])) := c4.trans (by
        refine XS.istoreS Xl.here hexec rfl (hb hbytes d13) rfl rfl hz ?_
        exact Steps.refl _)
      have c6 : Steps p.tables e below (s₁.setTop (entryFrame m #[.ref b, .int (Int32.ofNat o), .ref d, .int (Int32.ofNat q), .int (Int32.ofNat len)] 7)) (Tl.setTop (mkF m 31 #[.val (.ref b), .val (.int (Int32.ofNat (o + i))), .val (.ref d), .val (.int (Int32.ofNat (q + i))), .val (.int (Int32.ofNat len)), .val (.int (Int32.ofNat i)), .val (.int (cv A (o + i)))] [.int (lo8 (cv A (o + i))), .int (Int32.ofNat (q + i)), .ref d])) := c5.trans (by
        refine XS.iload Xl.here hexec rfl (hb hbytes d15) rfl ?_
        refine sipushV Xl.here hexec rfl 255 (hb hbytes d17) (by decide) ?_
        refine XS.icmpYes Xl.here hexec rfl (pc0 := 20) rfl (hb hbytes d20) rfl (ii_le_t (hp i (by omega))) (by decide) rfl ?_
        refine XS.aloadN Xl.here hexec rfl (hb hbytes d26) rfl rfl ?_
        refine XS.iloadN Xl.here hexec rfl (hb hbytes d27) rfl ?_
        refine XS.iload Xl.here hexec rfl (hb hbytes d28) rfl ?_
        refine i2b Xl.here hexec rfl (hb hbytes d30) rfl ?_
        exact Steps.refl _)
      obtain ⟨T7, X7, p7, st7⟩ := Xl.aput hexec hBk rfl hlt rfl (fits_lo8 (cv A (o + i))) (g := (mkF m 31 #[.val (.ref b), .val (.int (Int32.ofNat (o + i))), .val (.ref d), .val (.int (Int32.ofNat (q + i))), .val (.int (Int32.ofNat len)), .val (.int (Int32.ofNat i)), .val (.int (cv A (o + i)))] [.int (lo8 (cv A (o + i))), .int (Int32.ofNat (q + i)), .ref d])) rfl (rest := []) rfl (hb hbytes d31)
      have c8 : Steps p.tables e below (s₁.setTop (entryFrame m #[.ref b, .int (Int32.ofNat o), .ref d, .int (Int32.ofNat q), .int (Int32.ofNat len)] 7)) (T7.setTop (mkF m 32 #[.val (.ref b), .val (.int (Int32.ofNat (o + i))), .val (.ref d), .val (.int (Int32.ofNat (q + i))), .val (.int (Int32.ofNat len)), .val (.int (Int32.ofNat i)), .val (.int (cv A (o + i)))] [])) := c6.trans (st7 _ (Steps.refl _))
      have c9 : Steps p.tables e below (s₁.setTop (entryFrame m #[.ref b, .int (Int32.ofNat o), .ref d, .int (Int32.ofNat q), .int (Int32.ofNat len)] 7)) (T7.setTop (mkF m 3 #[.val (.ref b), .val (.int (Int32.ofNat (o + i) + 1)), .val (.ref d), .val (.int (Int32.ofNat (q + i) + 1)), .val (.int (Int32.ofNat len)), .val (.int (Int32.ofNat i + 1)), .val (.int (cv A (o + i)))] [])) := c8.trans (by
        refine iincV X7.here hexec rfl 1 (hb hbytes d32) (by decide) rfl rfl ?_
        refine iincV X7.here hexec rfl 1 (hb hbytes d35) (by decide) rfl rfl ?_
        refine iincV X7.here hexec rfl 1 (hb hbytes d38) (by decide) rfl rfl ?_
        refine XS.goto X7.here hexec rfl (pc0 := 41) rfl (hb hbytes d41) (by decide) rfl ?_
        exact Steps.refl _)
      have c10 : Steps p.tables e below (s₁.setTop (entryFrame m #[.ref b, .int (Int32.ofNat o), .ref d, .int (Int32.ofNat q), .int (Int32.ofNat len)] 7)) (T7.setTop (mkF m 3 #[.val (.ref b), .val (.int (Int32.ofNat (o + (i + 1)))), .val (.ref d), .val (.int (Int32.ofNat (q + (i + 1)))), .val (.int (Int32.ofNat len)), .val (.int (Int32.ofNat (i + 1))), .val (.int (cv A (o + i)))] [])) := by
        have := c9
        rw [succ32, succ32, succ32] at this
        exact this
      exact ih (i + 1) (by omega) _ (Or.inr ⟨_, rfl, rfl⟩) T7 _ (by rw [copyLocs_step, ← List.append_assoc]; exact X7) (pl.trans p7) (fl.step (by omega) hlt (by simp)) c10
  obtain ⟨T9, B9, z9, X9, p9, f9, g9⟩ := loop len 0 (by omega) .unset (Or.inl rfl) s₁ B (by simpa [copyLocs] using X0) ⟨hB0.1, fun _ _ => rfl, rfl⟩ (Laid.zero _ _ _) c2
  have c11 : Steps p.tables e below (s₁.setTop (entryFrame m #[.ref b, .int (Int32.ofNat o), .ref d, .int (Int32.ofNat q), .int (Int32.ofNat len)] 7)) (T9.setTop (mkF m 46 #[.val (.ref b), .val (.int (Int32.ofNat (o + len))), .val (.ref d), .val (.int (Int32.ofNat (q + len))), .val (.int (Int32.ofNat len)), .val (.int (Int32.ofNat len)), z9] [.int (Int32.ofNat len)])) := g9.trans (by
    refine XS.iload X9.here hexec rfl (hb hbytes d3) rfl ?_
    refine XS.iload X9.here hexec rfl (hb hbytes d5) rfl ?_
    refine XS.icmpYes X9.here hexec rfl (pc0 := 7) rfl (hb hbytes d7) rfl (ii_ge_t (nlt32 (by omega) (Nat.le_refl _))) (by decide) rfl ?_
    refine XS.iload X9.here hexec rfl (hb hbytes d44) rfl ?_
    exact Steps.refl _)
  exact ⟨T9, some (.int (Int32.ofNat len)), _, _, _, X9, by simp, rfl, rfl, (fun h => by cases h), ⟨rfl, B9, p9.from hh0, f9⟩, fun fs hl => c11.trans (X9.ireturnOut hexec hret rfl (Or.inl rfl) (hb hbytes d46) hl)⟩
end Cmp5
namespace Cmp3
def yN : MethodName := ⟨"java/lang/StringUTF16", "compress", "([CII)[B"⟩
abbrev yB : ByteArray := jdk_52_method_16_code
theorem d0 : decode yB 0 = .ok (.iload_n 2, 1) := by decide +kernel
theorem d1 : decode yB 1 = .ok (.newarray .byte, 2) := by decide +kernel
theorem d3 : decode yB 3 = .ok (.astore_n 3, 1) := by decide +kernel
theorem d4 : decode yB 4 = .ok (.aload_n 0, 1) := by decide +kernel
theorem d5 : decode yB 5 = .ok (.iload_n 1, 1) := by decide +kernel
theorem d6 : decode yB 6 = .ok (.aload_n 3, 1) := by decide +kernel
theorem d7 : decode yB 7 = .ok (.iconst 0, 1) := by decide +kernel
theorem d8 : decode yB 8 = .ok (.iload_n 2, 1) := by decide +kernel
theorem d9 : decode yB 9 = .ok (.invokestatic 115, 3) := by decide +kernel
theorem d12 : decode yB 12 = .ok (.istore 4, 2) := by decide +kernel
theorem d14 : decode yB 14 = .ok (.iload 4, 2) := by decide +kernel
theorem d16 : decode yB 16 = .ok (.iload_n 2, 1) := by decide +kernel
theorem d17 : decode yB 17 = .ok (.if_icmp (.eq) 40, 3) := by decide +kernel
theorem d57 : decode yB 57 = .ok (.aload_n 3, 1) := by decide +kernel
theorem d58 : decode yB 58 = .ok (.areturn, 1) := by decide +kernel
def site : List Cond := [.arrayClass .byte, Cmp5.tab] ++ staticW U16 115 Cmp5.yN
def tab : Cond := tabOf yN yB 6 (some (.array .byte)) site
def P (b : Addr) (A : Cell) (o len : Nat) (args : Array Value) (s : State) : Prop := args = #[.ref b, .int (Int32.ofNat o), .int (Int32.ofNat len)] ∧ Ch b A s ∧ o + len ≤ A.slots.size ∧ len ≤ 536870912 ∧ ∀ i, i < len → ¬ 255 < cv A (o + i)
def E (b : Addr) (A : Cell) (o len : Nat) (r : Option Value) (s u : State) : Prop := NewArr .byte "[B" len (fun j => .int (lo8 (cv A (o + j)))) r s u ∧ u.heap.size = s.heap.size + 1
/-- no char of the range above 255: a new byte[] of their low bytes -/
theorem law (l : Launch) (b : Addr) (A : Cell) (o len : Nat) : Law l yN 3 3 1 18 yB 6 (some (.array .byte)) site (P b A o len) (E b A o len) [] 1 len := by
  refine Law.of_walk (plainFor_of_name (by decide +kernel)) (by decide +kernel) (by decide +kernel) (by decide) (fun _ _ h => by rw [h.1]; rfl) (fun _ U U' hal hh h => ⟨h.1, h.2.1.mv hal hh, h.2.2⟩) (fun r U U' V V' h1 hal h2 h => ⟨NewArr.mv r U U' V V' h1 hal h2 h.1, by rw [h1, h2]; exact h.2⟩) ?_
  intro p e s m args below meth c s₁ X0 hexec hbytes hml hret hlk hnm hown hh0 W hP
  obtain ⟨rfl, hA, l1, l2, hp⟩ := hP
  have a31 := hA.1.2.2.2
  have c1 : Steps p.tables e below (s₁.setTop (entryFrame m #[.ref b, .int (Int32.ofNat o), .int (Int32.ofNat len)] 6)) (s₁.setTop (mkF m 0 #[.val (.ref b), .val (.int (Int32.ofNat o)), .val (.int (Int32.ofNat len)), .unset, .unset, .unset] [])) := entry rfl
  have c2 : Steps p.tables e below (s₁.setTop (entryFrame m #[.ref b, .int (Int32.ofNat o), .int (Int32.ofNat len)] 6)) (s₁.setTop (mkF m 1 #[.val (.ref b), .val (.int (Int32.ofNat o)), .val (.int (Int32.ofNat len)), .unset, .unset, .unset] [.int (Int32.ofNat len)])) := c1.trans (by
    refine XS.iloadN X0.here hexec rfl (hb hbytes d0) rfl ?_
    exact Steps.refl _)
  obtain ⟨T3, B3, X3, ba3, bs3, bv3, bh3, bf3, st3⟩ := X0.anew hexec (atype := .byte) (wk W (.arrayClass .byte)) rfl (by show len * 1 ≤ _; omega) (by omega) (g := (mkF m 1 #[.val (.ref b), .val (.int (Int32.ofNat o)), .val (.int (Int32.ofNat len)), .unset, .unset, .unset] [.int (Int32.ofNat len)])) rfl (hb hbytes d1) (rest := []) rfl (Nat.le_refl _) (by show 0 + len ≤ len; omega)
  rw [hh0] at ba3 st3
  have kp3 : XT.Kept s T3 := (XT.Kept.of_eq hh0).push bh3
  have hA3 := hA.keep X3.warmed.alike (kp3 _ _ hA.1.1)
  have hne : b ≠ s.heap.size := hA.1.ne
  have c4 : Steps p.tables e below (s₁.setTop (entryFrame m #[.ref b, .int (Int32.ofNat o), .int (Int32.ofNat len)] 6)) (T3.setTop (mkF m 3 #[.val (.ref b), .val (.int (Int32.ofNat o)), .val (.int (Int32.ofNat len)), .unset, .unset, .unset] [.ref s.heap.size])) := c2.trans (st3 _ (Steps.refl _))
  have c5 : Steps p.tables e below (s₁.setTop (entryFrame m #[.ref b, .int (Int32.ofNat o), .int (Int32.ofNat len)] 6)) (T3.setTop (mkF m 9 #[.val (.ref b), .val (.int (Int32.ofNat o)), .val (.int (Int32.ofNat len)), .val (.ref s.heap.size), .unset, .unset] [.int (Int32.ofNat len), .int 0, .ref s.heap.size, .int (Int32.ofNat o), .ref b])) := c4.trans (by
    refine XS.astoreN X3.here hexec rfl (hb hbytes d3) rfl rfl rfl ?_
    refine XS.aloadN X3.here hexec rfl (hb hbytes d4) rfl rfl ?_
    refine XS.iloadN X3.here hexec rfl (hb hbytes d5) rfl ?_
    refine XS.aloadN X3.here hexec rfl (hb hbytes d6) rfl rfl ?_
    refine iconstV X3.here hexec rfl 0 (hb hbytes d7) (by decide) ?_
    refine XS.iloadN X3.here hexec rfl (hb hbytes d8) rfl ?_
    exact Steps.refl _)
  obtain ⟨v6, T6, X6, E6, g6⟩ := X3.callS hexec (Cmp5.law l b A s.heap.size B3 o 0 len) hown (wks W (staticW U16 115 Cmp5.yN)) (wk W Cmp5.tab) (W := 0) (Nat.le_of_ble_eq_true rfl) (Nat.le_of_ble_eq_true rfl) (Nat.le_refl _) (by show 0 + len + 0 ≤ len; omega) (g := (mkF m 9 #[.val (.ref b), .val (.int (Int32.ofNat o)), .val (.int (Int32.ofNat len)), .val (.ref s.heap.size), .unset, .unset] [.int (Int32.ofNat len), .int (Int32.ofNat 0), .ref s.heap.size, .int (Int32.ofNat o), .ref b])) rfl (by rw [hml]; rfl) c5 (argsL := [.ref b, .int (Int32.ofNat o), .ref s.heap.size, .int (Int32.ofNat 0), .int (Int32.ofNat len)]) (rest := []) rfl rfl (by show 2 * 0 + 0 ≤ _; decide) (hb hbytes d9) (⟨rfl, hA3, ba3, hne, l1, by rw [bs3]; simp, hp⟩)
  obtain ⟨rfl, B6, p6, f6⟩ := E6
  have c7 : Steps p.tables e below (s₁.setTop (entryFrame m #[.ref b, .int (Int32.ofNat o), .int (Int32.ofNat len)] 6)) (T6.setTop (mkF m 12 #[.val (.ref b), .val (.int (Int32.ofNat o)), .val (.int (Int32.ofNat len)), .val (.ref s.heap.size), .unset, .unset] [.int (Int32.ofNat len)])) := g6
  have c8 : Steps p.tables e below (s₁.setTop (entryFrame m #[.ref b, .int (Int32.ofNat o), .int (Int32.ofNat len)] 6)) (T6.setTop (mkF m 58 #[.val (.ref b), .val (.int (Int32.ofNat o)), .val (.int (Int32.ofNat len)), .val (.ref s.heap.size), .val (.int (Int32.ofNat len)), .unset] [.ref s.heap.size])) := c7.trans (by
    refine XS.istore X6.here hexec rfl (hb hbytes d12) rfl rfl ?_
    refine XS.iload X6.here hexec rfl (hb hbytes d14) rfl ?_
    refine XS.iloadN X6.here hexec rfl (hb hbytes d16) rfl ?_
    refine XS.icmpYes X6.here hexec rfl (pc0 := 17) rfl (hb hbytes d17) rfl (ii_eq_t rfl) (by decide) rfl ?_
    refine XS.aloadN X6.here hexec rfl (hb hbytes d57) rfl rfl ?_
    exact Steps.refl _)
  have X8 := X6.wide (L' := []) (cells' := 1) (slots' := len) (fun x hx hlt => by
    simp only [List.nil_append, copyLocs, List.mem_map, List.mem_range] at hx
    obtain ⟨i, -, rfl⟩ := hx
    exact absurd hlt (Nat.lt_irrefl _)) (Nat.le_refl _) (by omega)
  exact ⟨T6, some (.ref s.heap.size), _, _, _, X8, rfl, rfl, rfl, (fun h => by cases h), ⟨⟨rfl, B6, ba3.like (X3.warmed.alike.symm.trans X6.warmed.alike) p6.1 f6.1 f6.2.1 f6.2.2.1, f6.2.1.trans bv3, by rw [X6.warmed.alike.findClass, f6.1]; exact bf3, by rw [f6.2.2.1, bs3]; simp, fun j hj => by rw [f6.2.2.2 j, if_pos (by omega)]; rfl, kp3.put p6 (Nat.le_refl _)⟩, by rw [p6.2.2, bh3, hh0]; simp⟩, fun fs hl => c8.trans (X8.areturnOut hexec rfl hret rfl (hb hbytes d58) hl)⟩
end Cmp3
namespace CodL
def yN : MethodName := ⟨"java/lang/StringUTF16", "coderFromArrayLen", "([BI)B"⟩
abbrev yB : ByteArray := jdk_52_method_15_code
theorem d0 : decode yB 0 = .ok (.iload_n 1, 1) := by decide +kernel
theorem d1 : decode yB 1 = .ok (.aload_n 0, 1) := by decide +kernel
theorem d2 : decode yB 2 = .ok (.arraylength, 1) := by decide +kernel
theorem d3 : decode yB 3 = .ok (.isub, 1) := by decide +kernel
theorem d4 : decode yB 4 = .ok (.bipush 31, 2) := by decide +kernel
theorem d6 : decode yB 6 = .ok (.iushr, 1) := by decide +kernel
theorem d7 : decode yB 7 = .ok (.i2b, 1) := by decide +kernel
theorem d8 : decode yB 8 = .ok (.ireturn, 1) := by decide +kernel
def site : List Cond := []
def tab : Cond := tabOf yN yB 2 (some .byte) site
def P (d : Addr) (B : Cell) (args : Array Value) (s : State) : Prop := args = #[.ref d, .int (Int32.ofNat B.slots.size)] ∧ Arr .byte d B s
def E (r : Option Value) (s u : State) : Prop := XT.PureE (some (.int 0)) r s u
/-- an array as long as the number of chars: LATIN1 -/
theorem law (l : Launch) (d : Addr) (B : Cell) : Law l yN 2 2 0 0 yB 2 (some .byte) site (P d B) E [] 0 0 := by
  refine Law.of_walk (plainFor_of_name (by decide +kernel)) (by decide +kernel) (by decide +kernel) (by decide) (fun _ _ h => by rw [h.1]; rfl) (fun _ U U' hal hh h => ⟨h.1, h.2.mv hal hh⟩) (fun r U U' V V' h1 hal h2 h => XT.PureE.mv r U U' V V' h1 hal h2 h) ?_
  intro p e s m args below meth c s₁ X0 hexec hbytes hml hret hlk hnm hown hh0 W hP
  obtain ⟨rfl, hB⟩ := hP
  have hB0 := hB.mv X0.warmed.alike hh0
  have c1 : Steps p.tables e below (s₁.setTop (entryFrame m #[.ref d, .int (Int32.ofNat B.slots.size)] 2)) (s₁.setTop (mkF m 0 #[.val (.ref d), .val (.int (Int32.ofNat B.slots.size))] [])) := entry rfl
  have c2 : Steps p.tables e below (s₁.setTop (entryFrame m #[.ref d, .int (Int32.ofNat B.slots.size)] 2)) (s₁.setTop (mkF m 2 #[.val (.ref d), .val (.int (Int32.ofNat B.slots.size))] [.ref d, .int (Int32.ofNat B.slots.size)])) := c1.trans (by
    refine XS.iloadN X0.here hexec rfl (hb hbytes d0) rfl ?_
    refine XS.aloadN X0.here hexec rfl (hb hbytes d1) rfl rfl ?_
    exact Steps.refl _)
  have c3 : Steps p.tables e below (s₁.setTop (entryFrame m #[.ref d, .int (Int32.ofNat B.slots.size)] 2)) (s₁.setTop (mkF m 8 #[.val (.ref d), .val (.int (Int32.ofNat B.slots.size))] [.int (lo8 (ushr (Int32.ofNat B.slots.size - Int32.ofNat B.slots.size) 31))])) := c2.trans (by
    refine X0.alen hexec hB0 rfl rfl (hb hbytes d2) ?_
    refine XS.isub X0.here hexec rfl (hb hbytes d3) rfl ?_
    refine bipushV X0.here hexec rfl 31 (hb hbytes d4) (by decide) ?_
    refine iushr X0.here hexec rfl (hb hbytes d6) rfl ?_
    refine i2b X0.here hexec rfl (hb hbytes d7) rfl ?_
    exact Steps.refl _)
  have e0 : lo8 (ushr (Int32.ofNat B.slots.size - Int32.ofNat B.slots.size) 31) = 0 := by rw [Int32.sub_self]; decide
  rw [e0] at c3
  exact ⟨s₁, some (.int 0), _, _, _, X0, rfl, rfl, rfl, (fun h => by cases h), ⟨rfl, hh0⟩, fun fs hl => c3.trans (X0.ireturnOut hexec hret rfl (Or.inr (Or.inr (Or.inl rfl))) (hb hbytes d8) hl)⟩
end CodL
/-- the String at a is Latin-1 over a new byte[] (the heap's one new cell): the low bytes of the len chars of A from o on; every cell but a is kept -/
def Got (a : Addr) (D : Cell) (fV fC : Field) (A : Cell) (o len : Nat) (r : Option Value) (s u : State) : Prop := r = none ∧ ∃ D' V : Cell, Blank "java/lang/String" a D' u ∧ Same D D' [fV.slot, fC.slot] ∧ D'.slots[fV.slot]? = some (.ref s.heap.size) ∧ D'.slots[fC.slot]? = some (.int 0) ∧ Arr .byte s.heap.size V u ∧ V.vm = .none ∧ u.vm.findClass "[B" = some V.cls ∧ V.slots.size = len ∧ (∀ j, j < len → V.slots[j]? = some (.int (lo8 (cv A (o + j))))) ∧ (∀ (y : Addr) (c : Cell), y ≠ a → s.heap[y]? = some c → u.heap[y]? = some c) ∧ u.heap.size = s.heap.size + 1
theorem Got.mv {a : Addr} {D A : Cell} {fV fC : Field} {o len : Nat} : ∀ r (U U' V V' : State), U'.heap = U.heap → V.vm.Alike V'.vm → V'.heap = V.heap → Got a D fV fC A o len r U V → Got a D fV fC A o len r U' V' :=
  fun r U U' V V' h1 hal h2 ⟨e0, D', X, a1, a2, a3, a4, a5, a6, a7, a8, a9, a10, a11⟩ => ⟨e0, D', X, a1.mv hal h2, a2, by rw [h1]; exact a3, a4, by rw [h1]; exact a5.mv hal h2, a6, by rw [hal.findClass]; exact a7, a8, a9, by rw [h1, h2]; exact a10, by rw [h1, h2]; exact a11⟩
namespace New4
def yN : MethodName := ⟨"java/lang/String", "<init>", "([CIILjava/lang/Void;)V"⟩
abbrev yB : ByteArray := jdk_42_method_149_code
theorem d0 : decode yB 0 = .ok (.aload_n 0, 1) := by decide +kernel
theorem d1 : decode yB 1 = .ok (.invokespecial 1, 3) := by decide +kernel
theorem d4 : decode yB 4 = .ok (.iload_n 3, 1) := by decide +kernel
theorem d5 : decode yB 5 = .ok (.ifCond (.ne) 22, 3) := by decide +kernel
theorem d27 : decode yB 27 = .ok (.getstatic 38, 3) := by decide +kernel
theorem d30 : decode yB 30 = .ok (.ifCond (.eq) 28, 3) := by decide +kernel
theorem d33 : decode yB 33 = .ok (.aload_n 1, 1) := by decide +kernel
theorem d34 : decode yB 34 = .ok (.iload_n 2, 1) := by decide +kernel
theorem d35 : decode yB 35 = .ok (.iload_n 3, 1) := by decide +kernel
theorem d36 : decode yB 36 = .ok (.invokestatic 177, 3) := by decide +kernel
theorem d39 : decode yB 39 = .ok (.astore 5, 2) := by decide +kernel
theorem d41 : decode yB 41 = .ok (.aload_n 0, 1) := by decide +kernel
theorem d42 : decode yB 42 = .ok (.aload 5, 2) := by decide +kernel
theorem d44 : decode yB 44 = .ok (.iload_n 3, 1) := by decide +kernel
theorem d45 : decode yB 45 = .ok (.invokestatic 47, 3) := by decide +kernel
theorem d48 : decode yB 48 = .ok (.putfield 15, 3) := by decide +kernel
theorem d51 : decode yB 51 = .ok (.aload_n 0, 1) := by decide +kernel
theorem d52 : decode yB 52 = .ok (.aload 5, 2) := by decide +kernel
theorem d54 : decode yB 54 = .ok (.putfield 9, 3) := by decide +kernel
theorem d57 : decode yB 57 = .ok (.return_, 1) := by decide +kernel
def site : List Cond := [.fieldLink "java/lang/String" 38 "java/lang/String" "COMPACT_STRINGS" "Z", Cmp3.tab, CodL.tab, .laysFinal "java/lang/String" "java/lang/String" "value" "[B", .fieldLink "java/lang/String" 9 "java/lang/String" "value" "[B", .laysFinal "java/lang/String" "java/lang/String" "coder" "B", .fieldLink "java/lang/String" 15 "java/lang/String" "coder" "B"] ++ objW "java/lang/String" 1 ++ staticW "java/lang/String" 177 Cmp3.yN ++ staticW "java/lang/String" 47 CodL.yN
def tab : Cond := tabOf yN yB 6 none site
def P (a : Addr) (D : Cell) (fV fC : Field) (b : Addr) (A : Cell) (z : Int32) (o len : Nat) (args : Array Value) (s : State) : Prop := args = #[.ref a, .ref b, .int (Int32.ofNat o), .int (Int32.ofNat len), .null] ∧ Blank "java/lang/String" a D s ∧ Found "java/lang/String" "value" "[B" fV s ∧ Found "java/lang/String" "coder" "B" fC s ∧ Ch b A s ∧ StaticIs s "java/lang/String" "COMPACT_STRINGS" "Z" (.int z) ∧ ¬ z = 0 ∧ 0 < len ∧ o + len ≤ A.slots.size ∧ len ≤ 536870912 ∧ ∀ i, i < len → ¬ 255 < cv A (o + i)
def E (a : Addr) (D : Cell) (fV fC : Field) (A : Cell) (o len : Nat) (r : Option Value) (s u : State) : Prop := Got a D fV fC A o len r s u
/-- len > 0, no char of the range above 255: a Latin-1 String of their low bytes -/
theorem law (l : Launch) (a : Addr) (D : Cell) (fV fC : Field) (b : Addr) (A : Cell) (z : Int32) (o len : Nat) : Law l yN 5 4 2 35 yB 6 none site (P a D fV fC b A z o len) (E a D fV fC A o len) [⟨a, fC.slot⟩, ⟨a, fV.slot⟩] 1 len := by
  refine Law.of_walk (plainFor_of_name (by decide +kernel)) (by decide +kernel) (by decide +kernel) (by decide) (fun _ _ h => by rw [h.1]; rfl) (fun _ U U' hal hh h => ⟨h.1, h.2.1.mv hal hh, h.2.2.1.al hal, h.2.2.2.1.al hal, h.2.2.2.2.1.mv hal hh, h.2.2.2.2.2.1.there hal hh, h.2.2.2.2.2.2⟩) (fun r U U' V V' h1 hal h2 h => Got.mv r U U' V V' h1 hal h2 h) ?_
  intro p e s m args below meth c s₁ X0 hexec hbytes hml hret hlk hnm hown hh0 W hP
  obtain ⟨rfl, hB, f1, f2, hA, s1, hz, l0, l1, l2, hp⟩ := hP
  have a31 := hA.1.2.2.2
  have c1 : Steps p.tables e below (s₁.setTop (entryFrame m #[.ref a, .ref b, .int (Int32.ofNat o), .int (Int32.ofNat len), .null] 6)) (s₁.setTop (mkF m 0 #[.val (.ref a), .val (.ref b), .val (.int (Int32.ofNat o)), .val (.int (Int32.ofNat len)), .val .null, .unset] [])) := entry rfl
  have c2 : Steps p.tables e below (s₁.setTop (entryFrame m #[.ref a, .ref b, .int (Int32.ofNat o), .int (Int32.ofNat len), .null] 6)) (s₁.setTop (mkF m 1 #[.val (.ref a), .val (.ref b), .val (.int (Int32.ofNat o)), .val (.int (Int32.ofNat len)), .val .null, .unset] [.ref a])) := c1.trans (by
    refine XS.aloadN X0.here hexec rfl (hb hbytes d0) rfl rfl ?_
    exact Steps.refl _)
  obtain ⟨T3, X3, q3, st3⟩ := X0.oinit hexec hown (wks W (objW "java/lang/String" 1)) (g := (mkF m 1 #[.val (.ref a), .val (.ref b), .val (.int (Int32.ofNat o)), .val (.int (Int32.ofNat len)), .val .null, .unset] [.ref a])) rfl (by rw [hml]; rfl) (rest := []) rfl (hb hbytes d1) (W := 0) (by show 2 * 0 + 0 ≤ _; decide) (Nat.le_of_ble_eq_true rfl) (Nat.le_of_ble_eq_true rfl)
  have hh3 := q3.trans hh0
  have c4 : Steps p.tables e below (s₁.setTop (entryFrame m #[.ref a, .ref b, .int (Int32.ofNat o), .int (Int32.ofNat len), .null] 6)) (T3.setTop (mkF m 27 #[.val (.ref a), .val (.ref b), .val (.int (Int32.ofNat o)), .val (.int (Int32.ofNat len)), .val .null, .unset] [])) := (c2.trans (st3 _ (Steps.refl _))).trans (by
    refine XS.iloadN X3.here hexec rfl (hb hbytes d4) rfl ?_
    refine XS.ifYes X3.here hexec rfl (pc0 := 5) rfl (hb hbytes d5) rfl (i0_ne_t (nz32 (by omega) l0)) (by decide) rfl ?_
    exact Steps.refl _)
  obtain ⟨T5, X5, q5, st5⟩ := X3.sget hexec hown (wk W (.fieldLink "java/lang/String" 38 "java/lang/String" "COMPACT_STRINGS" "Z")) s1 (fun _ _ h => by rw [hh3]; exact h) (g := (mkF m 27 #[.val (.ref a), .val (.ref b), .val (.int (Int32.ofNat o)), .val (.int (Int32.ofNat len)), .val .null, .unset] [])) rfl (hb hbytes d27)
  have hh5 := q5.trans hh3
  have c6 : Steps p.tables e below (s₁.setTop (entryFrame m #[.ref a, .ref b, .int (Int32.ofNat o), .int (Int32.ofNat len), .null] 6)) (T5.setTop (mkF m 30 #[.val (.ref a), .val (.ref b), .val (.int (Int32.ofNat o)), .val (.int (Int32.ofNat len)), .val .null, .unset] [.int z])) := c4.trans (st5 _ (Steps.refl _))
  have c7 : Steps p.tables e below (s₁.setTop (entryFrame m #[.ref a, .ref b, .int (Int32.ofNat o), .int (Int32.ofNat len), .null] 6)) (T5.setTop (mkF m 36 #[.val (.ref a), .val (.ref b), .val (.int (Int32.ofNat o)), .val (.int (Int32.ofNat len)), .val .null, .unset] [.int (Int32.ofNat len), .int (Int32.ofNat o), .ref b])) := c6.trans (by
    refine XS.ifNo X5.here hexec rfl (hb hbytes d30) rfl (i0_eq_f hz) ?_
    refine XS.aloadN X5.here hexec rfl (hb hbytes d33) rfl rfl ?_
    refine XS.iloadN X5.here hexec rfl (hb hbytes d34) rfl ?_
    refine XS.iloadN X5.here hexec rfl (hb hbytes d35) rfl ?_
    exact Steps.refl _)
  obtain ⟨v8, T8, X8, E8, g8⟩ := X5.callS hexec (Cmp3.law l b A o len) hown (wks W (staticW "java/lang/String" 177 Cmp3.yN)) (wk W Cmp3.tab) (W := 0) (Nat.le_of_ble_eq_true rfl) (Nat.le_of_ble_eq_true rfl) (Nat.le_refl _) (by show 0 + len ≤ len; omega) (g := (mkF m 36 #[.val (.ref a), .val (.ref b), .val (.int (Int32.ofNat o)), .val (.int (Int32.ofNat len)), .val .null, .unset] [.int (Int32.ofNat len), .int (Int32.ofNat o), .ref b])) rfl (by rw [hml]; rfl) c7 (argsL := [.ref b, .int (Int32.ofNat o), .int (Int32.ofNat len)]) (rest := []) rfl rfl (by show 2 * 0 + 0 ≤ _; decide) (hb hbytes d36) (⟨rfl, hA.mv X5.warmed.alike hh5, l1, l2, hp⟩)
  obtain ⟨e8, z8⟩ := E8
  obtain ⟨rfl, N, n1, n2, n3, n4, n5, n6⟩ := NewArr.mv _ T5 s _ _ hh5.symm (Vm.Alike.refl _) rfl e8
  rw [hh5] at z8
  have hB1 := hB.keep X8.warmed.alike (n6 _ _ hB.1)
  have hne : s.heap.size ≠ a := (Nat.ne_of_lt (Array.getElem?_eq_some_iff.mp hB.1).1).symm
  have c9 : Steps p.tables e below (s₁.setTop (entryFrame m #[.ref a, .ref b, .int (Int32.ofNat o), .int (Int32.ofNat len), .null] 6)) (T8.setTop (mkF m 39 #[.val (.ref a), .val (.ref b), .val (.int (Int32.ofNat o)), .val (.int (Int32.ofNat len)), .val .null, .unset] [.ref s.heap.size])) := g8
  have c10 : Steps p.tables e below (s₁.setTop (entryFrame m #[.ref a, .ref b, .int (Int32.ofNat o), .int (Int32.ofNat len), .null] 6)) (T8.setTop (mkF m 45 #[.val (.ref a), .val (.ref b), .val (.int (Int32.ofNat o)), .val (.int (Int32.ofNat len)), .val .null, .val (.ref s.heap.size)] [.int (Int32.ofNat N.slots.size), .ref s.heap.size, .ref a])) := by
    have hc : Steps p.tables e below (s₁.setTop (entryFrame m #[.ref a, .ref b, .int (Int32.ofNat o), .int (Int32.ofNat len), .null] 6)) (T8.setTop (mkF m 45 #[.val (.ref a), .val (.ref b), .val (.int (Int32.ofNat o)), .val (.int (Int32.ofNat len)), .val .null, .val (.ref s.heap.size)] [.int (Int32.ofNat len), .ref s.heap.size, .ref a])) := c9.trans (by
      refine XS.astore X8.here hexec rfl (hb hbytes d39) rfl rfl rfl ?_
      refine XS.aloadN X8.here hexec rfl (hb hbytes d41) rfl rfl ?_
      refine XS.aload X8.here hexec rfl (hb hbytes d42) rfl rfl ?_
      refine XS.iloadN X8.here hexec rfl (hb hbytes d44) rfl ?_
      exact Steps.refl _)
    rw [n4]; exact hc
  obtain ⟨v11, T11, X11, E11, g11⟩ := X8.callS hexec (CodL.law l s.heap.size N) hown (wks W (staticW "java/lang/String" 47 CodL.yN)) (wk W CodL.tab) (W := 1) (Nat.le_of_ble_eq_true rfl) (Nat.le_of_ble_eq_true rfl) (Nat.le_refl _) (by show 0 + len + 0 ≤ len; omega) (g := (mkF m 45 #[.val (.ref a), .val (.ref b), .val (.int (Int32.ofNat o)), .val (.int (Int32.ofNat len)), .val .null, .val (.ref s.heap.size)] [.int (Int32.ofNat N.slots.size), .ref s.heap.size, .ref a])) rfl (by rw [hml]; rfl) c10 (argsL := [.ref s.heap.size, .int (Int32.ofNat N.slots.size)]) (rest := [.ref a]) rfl rfl (by show 2 * 0 + (1 + 0) ≤ _; decide) (hb hbytes d45) (⟨rfl, n1⟩)
  obtain ⟨rfl, q11⟩ := E11
  have hB11 := hB1.mv (X8.warmed.alike.symm.trans X11.warmed.alike) q11
  have c12 : Steps p.tables e below (s₁.setTop (entryFrame m #[.ref a, .ref b, .int (Int32.ofNat o), .int (Int32.ofNat len), .null] 6)) (T11.setTop (mkF m 48 #[.val (.ref a), .val (.ref b), .val (.int (Int32.ofNat o)), .val (.int (Int32.ofNat len)), .val .null, .val (.ref s.heap.size)] [.int 0, .ref a])) := g11
  obtain ⟨T13, X13, p13, bl13, sl13, st13⟩ := X11.finit hexec hown (wk W (.fieldLink "java/lang/String" 15 "java/lang/String" "coder" "B")) (Or.inr ⟨_, (wk W (.laysFinal "java/lang/String" "java/lang/String" "coder" "B"))⟩) (Or.inl ⟨rfl, hnm⟩) f2 (Or.inl rfl) hB11 (t := .byte) (by decide +kernel) rfl (g := (mkF m 48 #[.val (.ref a), .val (.ref b), .val (.int (Int32.ofNat o)), .val (.int (Int32.ofNat len)), .val .null, .val (.ref s.heap.size)] [.int 0, .ref a])) rfl (rest := []) rfl (hb hbytes d48)
  have c14 : Steps p.tables e below (s₁.setTop (entryFrame m #[.ref a, .ref b, .int (Int32.ofNat o), .int (Int32.ofNat len), .null] 6)) (T13.setTop (mkF m 54 #[.val (.ref a), .val (.ref b), .val (.int (Int32.ofNat o)), .val (.int (Int32.ofNat len)), .val .null, .val (.ref s.heap.size)] [.ref s.heap.size, .ref a])) := (c12.trans (st13 _ (Steps.refl _))).trans (by
    refine XS.aloadN X13.here hexec rfl (hb hbytes d51) rfl rfl ?_
    refine XS.aload X13.here hexec rfl (hb hbytes d52) rfl rfl ?_
    exact Steps.refl _)
  obtain ⟨T15, X15, p15, bl15, sl15, st15⟩ := X13.finit hexec hown (wk W (.fieldLink "java/lang/String" 9 "java/lang/String" "value" "[B")) (Or.inr ⟨_, (wk W (.laysFinal "java/lang/String" "java/lang/String" "value" "[B"))⟩) (Or.inl ⟨rfl, hnm⟩) f1 (Or.inl rfl) bl13 (t := (.array .byte)) (by decide +kernel) rfl (g := (mkF m 54 #[.val (.ref a), .val (.ref b), .val (.int (Int32.ofNat o)), .val (.int (Int32.ofNat len)), .val .null, .val (.ref s.heap.size)] [.ref s.heap.size, .ref a])) rfl (rest := []) rfl (hb hbytes d54)
  have c16 : Steps p.tables e below (s₁.setTop (entryFrame m #[.ref a, .ref b, .int (Int32.ofNat o), .int (Int32.ofNat len), .null] 6)) (T15.setTop (mkF m 57 #[.val (.ref a), .val (.ref b), .val (.int (Int32.ofNat o)), .val (.int (Int32.ofNat len)), .val .null, .val (.ref s.heap.size)] [])) := c14.trans (st15 _ (Steps.refl _))
  have ap := apart (Or.inr ⟨_, (wk W (.laysFinal "java/lang/String" "java/lang/String" "value" "[B"))⟩) (Or.inr ⟨_, (wk W (.laysFinal "java/lang/String" "java/lang/String" "coder" "B"))⟩) f1 f2 (t₁ := .array .byte) (t₂ := .byte) (by decide +kernel) (by decide +kernel) (by decide)
  have al := X8.warmed.alike.symm.trans X15.warmed.alike
  have n7 : T11.heap[s.heap.size]? = some N := by rw [q11]; exact n1.1
  exact ⟨T15, none, _, _, _, X15, by simp, rfl, by omega, (fun _ => rfl), ⟨rfl, _, N, bl15, ((Same.refl D _).set _ (by simp)).set _ (by simp), sl15, (Cell.slots_setSlot_ne _ ap).trans sl13, n1.keep al (p15.other hne (p13.other hne n7)), n2, by rw [al.findClass]; exact n3, n4, n5, fun y c h1 h2 => p15.other h1 (p13.other h1 (by rw [q11]; exact n6 y c h2)), by rw [p15.2.2, p13.2.2, q11]; exact z8⟩, fun fs hl => c16.trans (X15.returnOut hexec hret (hb hbytes d57) hl)⟩
end New4
namespace New1
def yN : MethodName := ⟨"java/lang/String", "<init>", "([C)V"⟩
abbrev yB : ByteArray := jdk_42_method_3_code
theorem d0 : decode yB 0 = .ok (.aload_n 0, 1) := by decide +kernel
theorem d1 : decode yB 1 = .ok (.aload_n 1, 1) := by decide +kernel
theorem d2 : decode yB 2 = .ok (.iconst 0, 1) := by decide +kernel
theorem d3 : decode yB 3 = .ok (.aload_n 1, 1) := by decide +kernel
theorem d4 : decode yB 4 = .ok (.arraylength, 1) := by decide +kernel
theorem d5 : decode yB 5 = .ok (.aconst_null, 1) := by decide +kernel
theorem d6 : decode yB 6 = .ok (.invokespecial 27, 3) := by decide +kernel
theorem d9 : decode yB 9 = .ok (.return_, 1) := by decide +kernel
def site : List Cond := [New4.tab] ++ initW "java/lang/String" 27 New4.yN
def tab : Cond := tabOf yN yB 2 none site
def P (a : Addr) (D : Cell) (fV fC : Field) (b : Addr) (A : Cell) (z : Int32) (args : Array Value) (s : State) : Prop := args = #[.ref a, .ref b] ∧ Blank "java/lang/String" a D s ∧ Found "java/lang/String" "value" "[B" fV s ∧ Found "java/lang/String" "coder" "B" fC s ∧ Ch b A s ∧ StaticIs s "java/lang/String" "COMPACT_STRINGS" "Z" (.int z) ∧ ¬ z = 0 ∧ 0 < A.slots.size ∧ A.slots.size ≤ 536870912 ∧ ∀ i, i < A.slots.size → ¬ 255 < cv A i
def E (a : Addr) (D : Cell) (fV fC : Field) (A : Cell) (r : Option Value) (s u : State) : Prop := Got a D fV fC A 0 A.slots.size r s u
/-- new String(chars), not empty, no char above 255: a Latin-1 String of their low bytes -/
theorem law (l : Launch) (a : Addr) (D : Cell) (fV fC : Field) (b : Addr) (A : Cell) (z : Int32) : Law l yN 2 1 3 52 yB 2 none site (P a D fV fC b A z) (E a D fV fC A) [⟨a, fC.slot⟩, ⟨a, fV.slot⟩] 1 A.slots.size := by
  refine Law.of_walk (plainFor_of_name (by decide +kernel)) (by decide +kernel) (by decide +kernel) (by decide) (fun _ _ h => by rw [h.1]; rfl) (fun _ U U' hal hh h => ⟨h.1, h.2.1.mv hal hh, h.2.2.1.al hal, h.2.2.2.1.al hal, h.2.2.2.2.1.mv hal hh, h.2.2.2.2.2.1.there hal hh, h.2.2.2.2.2.2⟩) (fun r U U' V V' h1 hal h2 h => Got.mv r U U' V V' h1 hal h2 h) ?_
  intro p e s m args below meth c s₁ X0 hexec hbytes hml hret hlk hnm hown hh0 W hP
  obtain ⟨rfl, hB, f1, f2, hA, s1, hz, l0, l2, hp⟩ := hP
  have c1 : Steps p.tables e below (s₁.setTop (entryFrame m #[.ref a, .ref b] 2)) (s₁.setTop (mkF m 0 #[.val (.ref a), .val (.ref b)] [])) := entry rfl
  have c2 : Steps p.tables e below (s₁.setTop (entryFrame m #[.ref a, .ref b] 2)) (s₁.setTop (mkF m 6 #[.val (.ref a), .val (.ref b)] [.null, .int (Int32.ofNat A.slots.size), .int 0, .ref b, .ref a])) := c1.trans (by
    refine XS.aloadN X0.here hexec rfl (hb hbytes d0) rfl rfl ?_
    refine XS.aloadN X0.here hexec rfl (hb hbytes d1) rfl rfl ?_
    refine iconstV X0.here hexec rfl 0 (hb hbytes d2) (by decide) ?_
    refine XS.aloadN X0.here hexec rfl (hb hbytes d3) rfl rfl ?_
    refine X0.alen hexec (hA.1.mv X0.warmed.alike hh0) rfl rfl (hb hbytes d4) ?_
    refine XS.aconstNull X0.here hexec rfl (hb hbytes d5) ?_
    exact Steps.refl _)
  obtain ⟨v3, T3, X3, E3, g3⟩ := X0.callN hexec (New4.law l a D fV fC b A z 0 A.slots.size) rfl hown (wks W (initW "java/lang/String" 27 New4.yN)) (W New4.tab (by simp only [site, List.mem_cons, List.mem_append, true_or, or_true])) (W := 0) (Nat.le_of_ble_eq_true rfl) (Nat.le_of_ble_eq_true rfl) (Nat.le_refl _) (by show 0 + A.slots.size ≤ A.slots.size; omega) (g := (mkF m 6 #[.val (.ref a), .val (.ref b)] [.null, .int (Int32.ofNat A.slots.size), .int (Int32.ofNat 0), .ref b, .ref a])) rfl (by rw [hml]; rfl) c2 (argsL := [.ref b, .int (Int32.ofNat 0), .int (Int32.ofNat A.slots.size), .null]) (rest := []) rfl rfl (by show 2 * 0 + 0 ≤ _; decide) (hb hbytes d6) (⟨rfl, hB.mv X0.warmed.alike hh0, f1.al X0.warmed.alike, f2.al X0.warmed.alike, hA.mv X0.warmed.alike hh0, s1.there X0.warmed.alike hh0, hz, l0, by omega, l2, fun i hi => by rw [Nat.zero_add]; exact hp i hi⟩)
  have e0 := Got.mv _ s₁ s _ _ hh0.symm (Vm.Alike.refl _) rfl E3
  obtain rfl := e0.1
  have c4 : Steps p.tables e below (s₁.setTop (entryFrame m #[.ref a, .ref b] 2)) (T3.setTop (mkF m 9 #[.val (.ref a), .val (.ref b)] [])) := g3
  exact ⟨T3, none, _, _, _, X3, by simp, rfl, by omega, (fun _ => rfl), e0, fun fs hl => c4.trans (X3.returnOut hexec hret (hb hbytes d9) hl)⟩
theorem pays {l : Launch} {R : Room} {p : Program} {e : Env} {below : List Frame} {s : State} {sargs : Array Value} {len W : Nat} (a : Addr) (D : Cell) (fV fC : Field) (b : Addr) (A : Cell) (z : Int32) (htab : tab.before sargs s = true) (hfr : 4 ≤ R.frames) (hlo : W + 65 ≤ R.locals) :
    Back l R p e below s sargs yN len W (fun A₁ a₁ => A₁.cells + 1 ≤ R.cells ∧ A₁.slots + A.slots.size ≤ R.slots ∧ P a D fV fC b A z a₁ A₁.U) (fun A₁ _ v₁ B₁ => E a D fV fC A v₁ A₁.U B₁.U ∧ B₁.locs = A₁.locs ++ [⟨a, fC.slot⟩, ⟨a, fV.slot⟩] ∧ B₁.cells = A₁.cells + 1 ∧ B₁.slots = A₁.slots + A.slots.size) :=
  (law l a D fV fC b A z).pays htab hfr (by omega)
end New1
end StrChars
namespace StrChars.Road
open Jvm Sem ClassFile Op Lib Jvm.Stand Jvm.Free Jvm.Free.XT
open Jvm.Lib.Cold (StaticIs)
abbrev ST : String := "java/lang/String"
/-- every table word that New1's law asks, flat -/
abbrev words : List Jvm.Cond := [.code New1.yN New1.yB 2 none, .initialized ST, .methodLink ST 27 New4.yN, .instanceMethod New4.yN,
  .code New4.yN New4.yB 6 none, .fieldLink ST 38 ST "COMPACT_STRINGS" "Z", .laysFinal ST ST "value" "[B", .fieldLink ST 9 ST "value" "[B", .laysFinal ST ST "coder" "B", .fieldLink ST 15 ST "coder" "B",
  .methodLink ST 1 Lib.objectInit, .instanceMethod Lib.objectInit, .code Lib.objectInit ⟨#[0xb1]⟩ 1 none, .methodLink ST 177 Cmp3.yN, .static Cmp3.yN, .methodLink ST 47 CodL.yN, .static CodL.yN,
  .code Cmp3.yN Cmp3.yB 6 (some (.array .byte)), .initialized U16, .arrayClass .byte, .methodLink U16 115 Cmp5.yN, .static Cmp5.yN, .code Cmp5.yN Cmp5.yB 7 (some .int), .code CodL.yN CodL.yB 2 (some .byte)]
theorem tab_of {a : Array Value} {s : State} (h : ∀ w ∈ words, w.before a s = true) : New1.tab.before a s = true := by
  have h5 : Cmp5.tab.before a s = true := unparts (wk h (.code Cmp5.yN Cmp5.yB 7 (some .int))) (wks h (.initialized Cmp5.yN.cls :: Cmp5.site))
  have hc : CodL.tab.before a s = true := unparts (wk h (.code CodL.yN CodL.yB 2 (some .byte))) (wks h (.initialized CodL.yN.cls :: CodL.site))
  have q5 : ∀ w ∈ Cmp5.tab :: words, w.before a s = true := fun w hw => (List.mem_cons.mp hw).elim (fun e => e ▸ h5) (h w)
  have h3 : Cmp3.tab.before a s = true := unparts (wk q5 (.code Cmp3.yN Cmp3.yB 6 (some (.array .byte)))) (wks q5 (.initialized Cmp3.yN.cls :: Cmp3.site))
  have q3 : ∀ w ∈ Cmp3.tab :: CodL.tab :: words, w.before a s = true := fun w hw => (List.mem_cons.mp hw).elim (fun e => e ▸ h3) fun hw => (List.mem_cons.mp hw).elim (fun e => e ▸ hc) (h w)
  have h4 : New4.tab.before a s = true := unparts (wk q3 (.code New4.yN New4.yB 6 none)) (wks q3 (.initialized New4.yN.cls :: New4.site))
  have q4 : ∀ w ∈ New4.tab :: words, w.before a s = true := fun w hw => (List.mem_cons.mp hw).elim (fun e => e ▸ h4) (h w)
  exact unparts (wk q4 (.code New1.yN New1.yB 2 none)) (wks q4 (.initialized New1.yN.cls :: New1.site))
/-- the words ride from the start Z to the walk's own state -/
theorem moved {Z s : State} {a0 args : Array Value} (hZ : Z.Warmed39 s.vm) (hw : ∀ d ∈ words, d.before a0 Z = true) : ∀ d ∈ words, d.before args s = true := fun d hd => by
  have q := hw d hd
  have t : ∀ d ∈ words, d = .arrayClass .byte ∨ (d.onTables && d.keepsFace) = true := by decide +kernel
  rcases t d hd with rfl | t
  · exact RoadKit.mvA hZ q
  · exact RoadKit.mv hZ q t
/-- WHAT COMES BACK, over the tables of the start Z: h the heap at the call, h' behind it -/
def Q (Z : State) (x : Addr) (A : Cell) (h : Heap) (v : Option Value) (h' : Heap) (L : List Loc) : Prop := v = none ∧ (∀ y ∈ L, y.base = x) ∧ RoadKit.Keep h h' [x] ∧ h'.size = h.size + 1 ∧ RoadKit.Exa Z h' x ST ∧ RoadKit.Fld Z h' x ST "value" "[B" (.ref h.size) ∧ RoadKit.Fld Z h' x ST "coder" "B" (.int 0) ∧
  (∃ V : Cell, RoadKit.Arr Z h' h.size V .byte ∧ V.vm = .none ∧ Z.vm.findClass "[B" = some V.cls ∧ V.slots.size = A.slots.size ∧ ∀ j, j < A.slots.size → V.slots[j]? = some (.int (lo8 (cv A j)))) ∧
  ∀ (O n d : String) (w : Value), RoadKit.Fld Z h x O n d w → RoadKit.slotOf Z O n d ≠ RoadKit.slotOf Z ST "value" "[B" → RoadKit.slotOf Z O n d ≠ RoadKit.slotOf Z ST "coder" "B" → RoadKit.Fld Z h' x O n d w
/-- **new String(chars) AT A CALL, IN THE ROAD'S FORM**: for specialBack behind newO: x the fresh String, b the char[] with the cell A -/
theorem back {p : Program} {l : Launch} {e : Env} {R : Room} {s : State} {args : Array Value} {below : List Frame} {len W : Nat} {Z : State} {a0 : Array Value} {h : Heap} (hZ : Z.Warmed39 s.vm) (hw : ∀ d ∈ words, d.before a0 Z = true) {kI : Nat} (wi : (Jvm.Cond.instantiable ST kI).before a0 Z = true)
    {x b : Addr} {A : Cell} {z : Int32} {v0 c0 : Value} (E : RoadKit.Exa Z h x ST) (V : RoadKit.Fld Z h x ST "value" "[B" v0) (C : RoadKit.Fld Z h x ST "coder" "B" c0) (K : RoadKit.Arr Z h b A .char) (hty : Typed .char A) (S : RoadKit.Sta Z h ST "COMPACT_STRINGS" "Z" (.int z)) (hz : ¬ z = 0)
    (l0 : 0 < A.slots.size) (l2 : A.slots.size ≤ 536870912) (hp : ∀ i, i < A.slots.size → ¬ 255 < cv A i) (hfr : 4 ≤ R.frames) (hlo : W + 65 ≤ R.locals) :
    Back l R p e below s args New1.yN len W (fun P a => a = #[.ref x, .ref b] ∧ P.U.heap = h ∧ P.cells + 1 ≤ R.cells ∧ P.slots + A.slots.size ≤ R.slots)
      (fun P _ v B => ∃ L, Q Z x A h v B.U.heap L ∧ B.locs = P.locs ++ L ∧ B.cells = P.cells + 1 ∧ B.slots = P.slots + A.slots.size) := by
  intro m meth c P g ig mk a X hg hsize hdg hW hn hp'
  obtain ⟨rfl, rfl, r1, r2⟩ := hp'
  have al : Z.vm.Alike P.U.vm := hZ.alike.trans X.warmed.alike
  obtain ⟨D, cfV, kV, iV, fV, hD, gV, stV, knV, obV, asV, slV⟩ := id V
  obtain ⟨D', cfC, kC, iC, fC, hD', gC, stC, -, -, asC, slC⟩ := id C
  cases hD.symm.trans hD'
  obtain ⟨D2, kD, e1, e2, e3, e4, e5⟩ := id E
  cases hD.symm.trans e1
  obtain ⟨c2, k2, i1, i2, i3, -⟩ := Cond.instantiable_spec wi
  cases e2.symm.trans i1
  cases e3.symm.trans i2
  obtain ⟨kU, u1, u2⟩ := al.2.2 _ _ e3
  have hB : Blank ST x D P.U := ⟨hD, ⟨knV, fun q hq => by rw [hq] at obV; cases obV⟩, by rw [al.findClass]; exact e2, kU, u1, by rw [u2]; exact i3, by rw [u2]; exact e5 i3⟩
  have F1 : Found ST "value" "[B" fV P.U := ⟨SBG.found_only al ⟨cfV, kV, iV, gV⟩, stV⟩
  have F2 : Found ST "coder" "B" fC P.U := ⟨SBG.found_only al ⟨cfC, kC, iC, gC⟩, stC⟩
  have hA : Ch b A P.U := ⟨⟨K.1, State.isArrayOf_alike al K.2.1, K.2.2, by omega⟩, hty⟩
  have hS : StaticIs P.U ST "COMPACT_STRINGS" "Z" (.int z) := by
    obtain ⟨cfS, iS, kS, fS, st, cS, t1, t2, t3, t4, t5, t6, t7⟩ := S
    exact StaticIs.there (s := { Z with heap := P.U.heap }) ⟨cfS, iS, kS, fS, st, cS, t1, t2, t3, t4, t5, (fun q => by rw [q] at t6; cases t6), t7⟩ al rfl
  obtain ⟨v, B, X', ⟨⟨hv, E', V', q1, q2, q3, q4, q5, q6, q7, q8, q9, q10, q11⟩, hl, hc, hs⟩, st⟩ := New1.pays x D fV fC b A z (tab_of (moved hZ hw)) hfr hlo m meth c P g ig mk _ X hg hsize hdg hW hn ⟨r1, r2, rfl, hB, F1, F2, hA, hS, hz, l0, l2, hp⟩
  have al' : Z.vm.Alike B.U.vm := hZ.alike.trans X'.warmed.alike
  have hsz : E'.slots.size = D.slots.size := by
    obtain ⟨-, -, -, kB, w1, w2, w3⟩ := q1
    obtain ⟨kB', y1, y2⟩ := al'.2.2 _ _ e3
    rw [q2.2.1] at w1
    cases w1.symm.trans y1
    rw [w3, e5 i3, y2]
  refine ⟨v, B, X', ⟨_, ⟨hv, ?_, ⟨by omega, fun y cy hy hn' => q10 y cy (by simpa using hn') hy, fun y cy hy => ?_⟩, q11, ⟨E', _, q1.1, by rw [q2.2.1]; exact e2, by rw [q2.2.1]; exact e3, by rw [q2.1]; exact obV, fun _ => by rw [hsz]; exact e5 i3⟩,
    ⟨E', cfV, kV, iV, fV, q1.1, gV, stV, by rw [q2.1]; exact knV, by rw [q2.1]; exact obV, by rw [q2.2.1]; exact asV, q3⟩, ⟨E', cfC, kC, iC, fC, q1.1, gC, stC, by rw [q2.1]; exact knV, by rw [q2.1]; exact obV, by rw [q2.2.1]; exact asC, q4⟩,
    ⟨V', ⟨q5.1, State.isArrayOf_alike al'.symm q5.2.1, q5.2.2.1⟩, q6, by rw [← al'.findClass]; exact q7, q8, fun j hj => by have := q9 j hj; rwa [Nat.zero_add] at this⟩, fun O n d w F n1 n2 => ?_⟩, hl, hc, hs⟩, st⟩
  · intro y hy
    simp only [List.mem_cons, List.not_mem_nil, or_false] at hy
    rcases hy with rfl | rfl <;> rfl
  · by_cases q : y = x
    · subst q
      cases hD.symm.trans hy
      exact ⟨E', q1.1, q2.2.1, q2.1, hsz⟩
    · exact ⟨cy, q10 y cy q hy, rfl, rfl, rfl⟩
  · obtain ⟨D3, cf, k, i, f, g1, g2, g3, g4, g5, g6, g7⟩ := F
    cases hD.symm.trans g1
    simp only [RoadKit.slotOf, g2, gV, gC, Option.map_some, Option.getD_some] at n1 n2
    exact ⟨E', cf, k, i, f, q1.1, g2, g3, by rw [q2.1]; exact g4, by rw [q2.1]; exact g5, by rw [q2.2.1]; exact g6, by rw [q2.2.2 f.slot (by simp [n1, n2])]; exact g7⟩
end StrChars.Road
namespace StrChars.Road
open Jvm Sem ClassFile Op Lib Jvm.Stand Jvm.Free Jvm.Free.XT
/-- WHAT COMES BACK, the byte[] as a list of values -/
def QA (Z : State) (x : Addr) (zn : Int32) (cs : List Int32) (h : Heap) (v : Option Value) (h' : Heap) (L : List Loc) : Prop := v = none ∧ (∀ y ∈ L, y.base = x) ∧ RoadKit.Keep h h' [x] ∧ h'.size = h.size + 1 ∧ RoadKit.Exa Z h' x ST ∧ RoadKit.Fld Z h' x ST "value" "[B" (.ref h.size) ∧ RoadKit.Fld Z h' x ST "coder" "B" (.int 0) ∧
  (∃ kb, Z.vm.findClass "[B" = some kb ∧ RoadKit.Arv Z h' h.size kb .byte zn (cs.map fun c => .int (lo8 c)) (.int 0)) ∧
  ∀ (O n d : String) (w : Value), RoadKit.Fld Z h x O n d w → RoadKit.slotOf Z O n d ≠ RoadKit.slotOf Z ST "value" "[B" → RoadKit.slotOf Z O n d ≠ RoadKit.slotOf Z ST "coder" "B" → RoadKit.Fld Z h' x O n d w
/-- **new String(chars) AT A CALL, THE ARRAYS AS LISTS**: the char[] at b holds cs, not empty, no char above 255 -/
theorem backArv {p : Program} {l : Launch} {e : Env} {R : Room} {s : State} {args : Array Value} {below : List Frame} {len W : Nat} {Z : State} {a0 : Array Value} {h : Heap} (hZ : Z.Warmed39 s.vm) (hw : ∀ d ∈ words, d.before a0 Z = true) {kI : Nat} (wi : (Jvm.Cond.instantiable ST kI).before a0 Z = true)
    {x b : Addr} {k : ClassId} {zn z : Int32} {cs : List Int32} {dv v0 c0 : Value} (E : RoadKit.Exa Z h x ST) (V : RoadKit.Fld Z h x ST "value" "[B" v0) (C : RoadKit.Fld Z h x ST "coder" "B" c0) (K : RoadKit.Arv Z h b k .char zn (cs.map Value.int) dv) (S : RoadKit.Sta Z h ST "COMPACT_STRINGS" "Z" (.int z)) (hz : ¬ z = 0)
    (hlen : zn.toNatClampNeg = cs.length) (h0 : 0 < cs.length) (hbig : cs.length ≤ 536870912) (hall : ∀ c ∈ cs, ¬ 255 < c) (hfr : 4 ≤ R.frames) (hlo : W + 65 ≤ R.locals) :
    Back l R p e below s args New1.yN len W (fun P a => a = #[.ref x, .ref b] ∧ P.U.heap = h ∧ P.cells + 1 ≤ R.cells ∧ P.slots + cs.length ≤ R.slots)
      (fun P _ v B => ∃ L, QA Z x zn cs h v B.U.heap L ∧ B.locs = P.locs ++ L ∧ B.cells = P.cells + 1 ∧ B.slots = P.slots + cs.length) := by
  obtain ⟨A, K1, K2, K3, K4, K5, K6⟩ := K
  have e : A.slots.size = cs.length := K3.trans hlen
  have hat : ∀ (i : Nat) (hi : i < cs.length), A.slots[i]? = some (.int cs[i]) := fun i hi => by rw [K5 i (by omega)]; simp [List.getD_eq_getElem?_getD, hi]
  have hcv : ∀ (i : Nat) (hi : i < cs.length), cv A i = cs[i] := fun i hi => by unfold cv; rw [hat i hi]
  have hty : Typed .char A := fun i v hv => by
    have hi : i < A.slots.size := (Array.getElem?_eq_some_iff.mp hv).1
    have q := K5 i hi
    rw [hv] at q
    rw [Option.some.inj q]
    exact K6 i hi
  refine Back.mono (back hZ hw wi E V C K1 hty S hz (by omega) (by omega) (fun i hi => by rw [hcv i (by omega)]; exact hall _ (List.getElem_mem _)) hfr hlo) (fun P a hp => ⟨hp.1, hp.2.1, hp.2.2.1, by rw [e]; exact hp.2.2.2⟩) (fun P a v B hp hq => ?_)
  obtain ⟨L, ⟨q1, q2, q3, q4, q5, q6, q7, ⟨V', v1, v2, v3, v4, v5⟩, q9⟩, hl, hc, hs⟩ := hq
  refine ⟨L, ⟨q1, q2, q3, q4, q5, q6, q7, ⟨V'.cls, v3, V', v1, rfl, by rw [v4, e, hlen], K4, fun i hi => ?_, fun i hi => ?_⟩, q9⟩, hl, hc, by rw [hs, e]⟩
  · have hi' : i < cs.length := by omega
    rw [v5 i (by omega), hcv i hi']; simp [List.getD_eq_getElem?_getD, hi']
  · have hi' : i < cs.length := by omega
    simp only [List.getD_eq_getElem?_getD, List.getElem?_map, List.getElem?_eq_getElem hi', Option.map_some, Option.getD_some]
    exact fits_lo8 _
end StrChars.Road
namespace StrChars.Road
open Jvm Sem ClassFile Op Lib Jvm.Stand Jvm.Free Jvm.Free.XT
/-- WHAT COMES BACK, in the writer's own shape -/
def QV (Z : State) (x : Addr) (N : Int32) (bs : List Int32) (h : Heap) (n0 : Nat) (v : Option Value) (h' : Heap) (L : List Loc) : Prop := v = none ∧ RoadKit.Fr n0 L ∧ RoadKit.Keep h h' [x] ∧ RoadKit.Exa Z h' x ST ∧ RoadKit.Fld Z h' x ST "coder" "B" (.int 0) ∧
  ∃ (t : Addr) (kb : ClassId), n0 ≤ t ∧ h.size ≤ t ∧ ¬ t = x ∧ RoadKit.Fld Z h' x ST "value" "[B" (.ref t) ∧ RoadKit.Arv Z h' t kb .byte N (bs.map Value.int) (.int 0)
/-- **new String(chars) AT A CALL, FOR THE WRITER**: a char[] of n known ints, each 0 to 255 -/
theorem backV {p : Program} {l : Launch} {e : Env} {R : Room} {s : State} {args : Array Value} {below : List Frame} {len W : Nat} {Z : State} {a0 : Array Value} {h : Heap} (hZ : Z.Warmed39 s.vm) (hw : ∀ d ∈ words, d.before a0 Z = true) {kI : Nat} (wi : (Jvm.Cond.instantiable ST kI).before a0 Z = true)
    {x b : Addr} {kC : ClassId} {cs bs : List Int32} {d v0 c0 : Value} {z N : Int32} {n n0 : Nat} (hx0 : n0 ≤ x) (hh0 : n0 ≤ h.size) (E : RoadKit.Exa Z h x ST) (V : RoadKit.Fld Z h x ST "value" "[B" v0) (C : RoadKit.Fld Z h x ST "coder" "B" c0) (K : RoadKit.Arv Z h b kC .char N (cs.map Value.int) d) (S : RoadKit.Sta Z h ST "COMPACT_STRINGS" "Z" (.int z)) (hz : ¬ z = 0)
    (hn : cs.length = n) (hN : N = Int32.ofNat n) (l0 : 0 < n) (l2 : n ≤ 4000) (hp : ∀ c ∈ cs, ¬ c < 0 ∧ ¬ (255 : Int32) < c) (hb : bs = cs.map (fun c => c.toInt8.toInt32)) (hfr : 4 ≤ R.frames) (hlo : W + 65 ≤ R.locals) :
    Back l R p e below s args (⟨"java/lang/String", "<init>", "([C)V"⟩ : MethodName) len W (fun P a => a = #[.ref x, .ref b] ∧ P.U.heap = h ∧ P.cells + 1 ≤ R.cells ∧ P.slots + n ≤ R.slots)
      (fun P _ v B => ∃ L, QV Z x N bs h n0 v B.U.heap L ∧ B.locs = P.locs ++ L ∧ B.cells = P.cells + 1 ∧ B.slots = P.slots + n) := by
  subst hn hN hb
  refine Back.mono (backArv hZ hw wi E V C K S hz (n32 (by omega)) l0 (by omega) (fun c hc => (hp c hc).2) hfr hlo) (fun P a hp => hp) (fun P a v B hp hq => ?_)
  obtain ⟨L, ⟨q1, q2, q3, q4, q5, q6, q7, ⟨kb, v1, v2⟩, q9⟩, hl, hc, hs⟩ := hq
  exact ⟨L, ⟨q1, fun y hy => by rw [q2 y hy]; exact hx0, q3, q5, q7, h.size, kb, hh0, Nat.le_refl _, Nat.ne_of_gt E.lt, q6, by rw [List.map_map]; exact v2⟩, hl, hc, hs⟩
end StrChars.Road
end Jvm.Pilot.@@N@@
namespace Jvm.Pilot.@@N@@
open Jvm Jvm.ClassFile Sem Op Lib Jvm.Free Jvm.Stand Jvm.LawKit Jvm.RoadKit Bundle Jvm.Pilot.@@N@@.Jvm.D
/-- from T the run goes on to an end of which Qf says what it is -/
def Goes (tb : Tables) (e : Env) (below : List Frame) (Qf : Outcome → State → Prop) (T : State) : Prop := ∃ s₂ o, Steps tb e below T s₂ ∧ s₂.status = .running ∧ Ended s₂ below o ∧ Qf o s₂
theorem Goes.to {tb : Tables} {e : Env} {below : List Frame} {Qf : Outcome → State → Prop} {T T' : State} (k : ∀ t, Steps tb e below T' t → Steps tb e below T t) (h : Goes tb e below Qf T') : Goes tb e below Qf T := by
  obtain ⟨s, o, h1, h2⟩ := h; exact ⟨s, o, k s h1, h2⟩
theorem Goes.thru {tb : Tables} {e : Env} {below : List Frame} {Qf : Outcome → State → Prop} {T T' : State} (k : Steps tb e below T T') (h : Goes tb e below Qf T') : Goes tb e below Qf T := by
  obtain ⟨s, o, h1, h2⟩ := h; exact ⟨s, o, k.trans h1, h2⟩
theorem own_old {Z : State} {n0 : Nat} {h : Heap} (O : Old Z n0 h) : n0 ≤ h.size := O.1 ▸ O.2.1
theorem own_ext_keep {h h' : Heap} (K : Keep h h' []) : Ext h h' := ⟨K.1, fun a c q => K.2.1 a c q nin0⟩
theorem own_nsroot {Z : State} {a0 : Array Value} {O K : String} {n : Nat} (w : (Jvm.Cond.noSuperclass O).before a0 Z = true) (wk : (Jvm.Cond.instantiable K n).before a0 Z = true) (hn : O ≠ K) : NS Z O K := by
  obtain ⟨c, k, h1, h2, h3, -, -⟩ := Cond.noSuperclass_spec w
  obtain ⟨t, k2, g1, -⟩ := Cond.instantiable_spec wk
  have ne := ids_ne h1 g1 hn
  refine ⟨c, t, h1, g1, fun fuel => ?_⟩
  cases fuel with
  | zero => rfl
  | succ f => simp [Vm.isSubclassAux, ne, h2, h3]
theorem own_nsno {Z : State} {a0 : Array Value} {C S K : String} {n : Nat} (w : (Jvm.Cond.superclass C S).before a0 Z = true) (wk : (Jvm.Cond.instantiable K n).before a0 Z = true) (ns : NS Z C K) (hn : C ≠ K) : ∃ c t, Z.vm.findClass C = some c ∧ Z.vm.findClass K = some t ∧ Z.vm.assignable c t = false := by
  obtain ⟨c, t, h0, g0, n3⟩ := ns
  obtain ⟨p, k, kp, h1, h2, h3, h4, h5, -, h7⟩ := Cond.superclass_spec h0 w
  obtain ⟨t', k', g1, g2, g5, g7, -⟩ := Cond.instantiable_spec wk
  cases g0.symm.trans g1
  have ne := ids_ne h0 g0 hn
  refine ⟨c, t, h0, g0, ?_⟩
  show Z.vm.assignableAux (255 + 1) c t = false
  simp [Vm.assignableAux, ne, h2, g2, h5, g5, (Bool.or_eq_false_iff.mp g7).1, Vm.isSubclass, n3]
theorem own_selp {s : State} {args : Array Value} {y : MethodName} {n : Nat} (wi : (Jvm.Cond.instantiable y.cls n).before args s = true) (hp : (Jvm.Cond.privateMethod y).before args s = true) (hinst : (Jvm.Cond.instanceMethod y).before args s = true) (hy : y.cls ≠ "java/lang/invoke/MethodHandle" ∧ y.cls ≠ "java/lang/invoke/VarHandle") : (Jvm.Cond.selects y.cls y y).before args s = true := by
  obtain ⟨c, k, h1, h2, -, h4, -⟩ := Cond.instantiable_spec wi
  exact selects_self_of_private h1 h2 (Bool.or_eq_false_iff.mp h4).1 (Cond.privateMethod_at hp) hinst hy
theorem own_keep_ext {h h' : Heap} (E : Ext h h') : Keep h h' [] := (Keep.refl h []).ext E
theorem own_len {s : State} {args : Array Value} {t : Term} {a : Addr} {cl : Cell} {ty : FieldType} {k : Int32} (ht : t.eval args s none [] s = some (.ref a)) (A : Arr s s.heap a cl ty) (h : (Cond.eq (.length t) (.int k)).value args s none s [] = some true) : cl.slots.size < 2 ^ 31 ∧ cl.slots.size.toInt32 = k := by
  obtain ⟨x, y, e1, e2, -, k2⟩ := cmp_v (Or.inl h)
  obtain rfl : Value.int k = y := Option.some.inj e2
  obtain ⟨z, rfl⟩ := k2
  have q : (z = k) := gotT (P := z = k) (by simp [Cond.value, e1, e2]) h
  subst q
  have hA := A.fin (Vm.Alike.refl _)
  by_cases hl : cl.slots.size < 2 ^ 31
  · rw [len_f ht hA hl] at e1
    exact ⟨hl, by simpa using e1⟩
  · simp [Term.eval, ht, hA, hl] at e1
theorem own_stR {s : State} {args : Array Value} {t u : Term} {b : Addr} (h : (Cond.eq t u).value args s none s [] = some true) (hu : u.eval args s none [] s = some (.ref b)) : t.eval args s none [] s = some (.ref b) := by
  obtain ⟨x, y, e1, e2, k1, k2⟩ := cmp_v (Or.inl h)
  obtain rfl : y = Value.ref b := Option.some.inj (e2.symm.trans hu)
  have hx : x.isRef = true := by cases x <;> simp [Kin, Value.isRef] at k1 k2 ⊢
  have q : x = Value.ref b := gotT (eq_R e1 e2 hx rfl) h
  subst q; exact e1
theorem own_fldI {s : State} {args : Array Value} {t : Term} {a : Addr} {C n d : String} {k : Int32} (ht : t.eval args s none [] s = some (.ref a)) (h : (Cond.eq (.field t C n d) (.int k)).value args s none s [] = some true) : Fld s s.heap a C n d (.int k) := by
  obtain ⟨x, y, e1, e2, -, k2⟩ := cmp_v (Or.inl h)
  obtain rfl : Value.int k = y := Option.some.inj e2
  obtain ⟨z, rfl⟩ := k2
  have q : (z = k) := gotT (P := z = k) (by simp [Cond.value, e1, e2]) h
  subst q
  exact Fld.start (by rw [← fld_at ht]; exact e1)
theorem own_fldL {s : State} {args : Array Value} {t : Term} {a : Addr} {C n d : String} {k : Int64} (ht : t.eval args s none [] s = some (.ref a)) (h : (Cond.eq (.field t C n d) (.long k)).value args s none s [] = some true) : Fld s s.heap a C n d (.long k) := by
  obtain ⟨x, y, e1, e2, -, k2⟩ := cmp_v (Or.inl h)
  obtain rfl : Value.long k = y := Option.some.inj e2
  obtain ⟨z, rfl⟩ := k2
  have q : (z = k) := gotT (P := z = k) (by simp [Cond.value, e1, e2]) h
  subst q
  exact Fld.start (by rw [← fld_at ht]; exact e1)
theorem own_fldN {s : State} {args : Array Value} {t : Term} {a : Addr} {C n d : String} (ht : t.eval args s none [] s = some (.ref a)) (h : (Cond.eq (.field t C n d) .null).value args s none s [] = some true) : Fld s s.heap a C n d .null :=
  Fld.start (by rw [← fld_at ht]; exact null_v h)
theorem own_fldR {s : State} {args : Array Value} {t : Term} {a b : Addr} {C n d : String} (ht : t.eval args s none [] s = some (.ref a)) (h : (Term.field t C n d).eval args s none [] s = some (.ref b)) : Fld s s.heap a C n d (.ref b) :=
  Fld.start (by rw [← fld_at ht]; exact h)
theorem own_stI {s : State} {args : Array Value} {t : Term} {k : Int32} (h : (Cond.eq t (.int k)).value args s none s [] = some true) : t.eval args s none [] s = some (.int k) := by
  obtain ⟨x, y, e1, e2, -, k2⟩ := cmp_v (Or.inl h)
  obtain rfl : Value.int k = y := Option.some.inj e2
  obtain ⟨z, rfl⟩ := k2
  have q : (z = k) := gotT (P := z = k) (by simp [Cond.value, e1, e2]) h
  subst q; exact e1
theorem own_narc {f : Int32} (h : ¬ f < 0 ∧ ¬ (255 : Int32) < f) : nar .char f = f := by
  obtain ⟨h1, h2⟩ := h
  have e0 : (0 : Int32).toInt = 0 := rfl
  have e1 : (255 : Int32).toInt = 255 := rfl
  rw [Int32.lt_iff_toInt_lt] at h1 h2
  have q := c_i2c f
  apply Int32.toInt_inj.mp
  show f.toUInt32.toUInt16.toUInt32.toInt32.toInt = f.toInt
  omega
theorem own_i2c (x : Int32) : ¬ ((x &&& (255 : Int32)).toUInt32.toUInt16.toUInt32.toInt32) < 0 ∧ ¬ (255 : Int32) < ((x &&& (255 : Int32)).toUInt32.toUInt16.toUInt32.toInt32) := by
  have q := c_i2c (x &&& 255)
  have h := c_mask x 255 8 (by decide) (by decide)
  have e0 : (0 : Int32).toInt = 0 := rfl
  have e1 : (255 : Int32).toInt = 255 := rfl
  rw [Int32.lt_iff_toInt_lt, Int32.lt_iff_toInt_lt]
  omega
theorem own_b8 {f g : Int32} (hf : ¬ f < 0 ∧ ¬ (255 : Int32) < f) (hg : ¬ g < 0 ∧ ¬ (255 : Int32) < g) : f.toInt8.toInt32 = g.toInt8.toInt32 ↔ f = g := by
  obtain ⟨h1, h2⟩ := hf
  obtain ⟨h3, h4⟩ := hg
  have e0 : (0 : Int32).toInt = 0 := rfl
  have e1 : (255 : Int32).toInt = 255 := rfl
  rw [Int32.lt_iff_toInt_lt] at h1 h2 h3 h4
  have q := c_i2b f
  have q' := c_i2b g
  rw [← Int32.toInt_inj, ← Int32.toInt_inj]
  omega
theorem own_nz {s : State} {args : Array Value} {t : Term} {z : Int32} (ht : t.eval args s none [] s = some (.int z)) (h : (Jvm.Cond.not (.eq t (.int (0 : Int32)))).value args s none s [] = some true) : ¬ z = 0 := by
  have q := not_v h
  exact gotF (P := z = 0) (by simp [Cond.value, ht, Term.eval]) q
theorem own_i2c48 (y : Int32) : ¬ (((48 : Int32) + (y &&& (7 : Int32))).toUInt32.toUInt16.toUInt32.toInt32) < 0 ∧ ¬ (255 : Int32) < (((48 : Int32) + (y &&& (7 : Int32))).toUInt32.toUInt16.toUInt32.toInt32) := by
  have q := c_i2c ((48 : Int32) + (y &&& 7))
  have h := c_mask y 7 3 (by decide) (by decide)
  have h2 := c_iadd 48 (y &&& 7)
  have h3 := rng32 ((48 : Int32) + (y &&& 7))
  have e0 : (0 : Int32).toInt = 0 := rfl
  have e1 : (255 : Int32).toInt = 255 := rfl
  have e2 : (48 : Int32).toInt = 48 := rfl
  rw [Int32.lt_iff_toInt_lt, Int32.lt_iff_toInt_lt]
  omega
def Nar (Z : State) (w_Market_MKT_GLB : Addr) (w_Market_MKT_ONE : Addr) (z_cs : Int32) : Prop := (Sta Z Z.heap "com/example/arvi/arvi/model/Market" "MKT_GLB" "Lcom/example/arvi/arvi/model/Market;" (.ref w_Market_MKT_GLB)) ∧ (Exa Z Z.heap w_Market_MKT_GLB "com/example/arvi/arvi/model/Market") ∧ (Sta Z Z.heap "com/example/arvi/arvi/model/Market" "MKT_ONE" "Lcom/example/arvi/arvi/model/Market;" (.ref w_Market_MKT_ONE)) ∧ (Exa Z Z.heap w_Market_MKT_ONE "com/example/arvi/arvi/model/Market") ∧ (Sta Z Z.heap "java/lang/String" "COMPACT_STRINGS" "Z" (.int z_cs)) ∧ (¬ z_cs = 0)
theorem d1_0 : decode method_2_code 0 = .ok (.iload_n 0, 1) := by decide +kernel
theorem d1_1 : decode method_2_code 1 = .ok (.bipush 7, 2) := by decide +kernel
theorem d1_3 : decode method_2_code 3 = .ok (.iand, 1) := by decide +kernel
theorem d1_4 : decode method_2_code 4 = .ok (.istore_n 2, 1) := by decide +kernel
theorem d1_5 : decode method_2_code 5 = .ok (.iload_n 2, 1) := by decide +kernel
theorem d1_6 : decode method_2_code 6 = .ok (.ifCond .ne 5, 3) := by decide +kernel
theorem d1_9 : decode method_2_code 9 = .ok (.iconst 0, 1) := by decide +kernel
theorem d1_10 : decode method_2_code 10 = .ok (.ireturn, 1) := by decide +kernel
theorem d1_11 : decode method_2_code 11 = .ok (.iload_n 2, 1) := by decide +kernel
theorem d1_12 : decode method_2_code 12 = .ok (.iconst 1, 1) := by decide +kernel
theorem d1_13 : decode method_2_code 13 = .ok (.if_icmp .ne 5, 3) := by decide +kernel
theorem d1_16 : decode method_2_code 16 = .ok (.iconst 1, 1) := by decide +kernel
theorem d1_17 : decode method_2_code 17 = .ok (.ireturn, 1) := by decide +kernel
theorem d1_18 : decode method_2_code 18 = .ok (.iload_n 2, 1) := by decide +kernel
theorem d1_19 : decode method_2_code 19 = .ok (.iconst 2, 1) := by decide +kernel
theorem d1_20 : decode method_2_code 20 = .ok (.if_icmp .ne 5, 3) := by decide +kernel
theorem d1_23 : decode method_2_code 23 = .ok (.iconst 2, 1) := by decide +kernel
theorem d1_24 : decode method_2_code 24 = .ok (.ireturn, 1) := by decide +kernel
theorem d1_25 : decode method_2_code 25 = .ok (.iload_n 2, 1) := by decide +kernel
theorem d1_26 : decode method_2_code 26 = .ok (.iconst 3, 1) := by decide +kernel
theorem d1_27 : decode method_2_code 27 = .ok (.if_icmp .ne 5, 3) := by decide +kernel
theorem d1_30 : decode method_2_code 30 = .ok (.iconst (-1), 1) := by decide +kernel
theorem d1_31 : decode method_2_code 31 = .ok (.ireturn, 1) := by decide +kernel
theorem d1_32 : decode method_2_code 32 = .ok (.iload_n 2, 1) := by decide +kernel
theorem d1_33 : decode method_2_code 33 = .ok (.iconst 4, 1) := by decide +kernel
theorem d1_34 : decode method_2_code 34 = .ok (.if_icmp .ne 6, 3) := by decide +kernel
theorem d1_37 : decode method_2_code 37 = .ok (.ldc 9, 2) := by decide +kernel
theorem d1_39 : decode method_2_code 39 = .ok (.ireturn, 1) := by decide +kernel
theorem d1_40 : decode method_2_code 40 = .ok (.iload_n 2, 1) := by decide +kernel
theorem d1_41 : decode method_2_code 41 = .ok (.iconst 5, 1) := by decide +kernel
theorem d1_42 : decode method_2_code 42 = .ok (.if_icmp .ne 6, 3) := by decide +kernel
theorem d1_45 : decode method_2_code 45 = .ok (.ldc 10, 2) := by decide +kernel
theorem d1_47 : decode method_2_code 47 = .ok (.ireturn, 1) := by decide +kernel
theorem d1_48 : decode method_2_code 48 = .ok (.iload_n 1, 1) := by decide +kernel
theorem d1_49 : decode method_2_code 49 = .ok (.ireturn, 1) := by decide +kernel
theorem pn_1 : plainName "com/example/arvi/arvi/model/PurchaseDetailsIsConsumedPinLaw" = true := by first | (simp [plainName, overriddenIn]; done) | decide +kernel
theorem ef_rmP (m : MethodId) (x0 : Int32) (x1 : Int32) : entryFrame m #[(.int x0), (.int x1)] 3 = mkF m 0 #[.val (.int x0), .val (.int x1), .unset] [] := by first | (simp [entryFrame, mkF, argsToLocals, Value.category]; done) | rfl
def Q_rmP (Z : State) (p0 : Int32) (p1 : Int32) (w_Market_MKT_GLB : Addr) (w_Market_MKT_ONE : Addr) (z_cs : Int32) (h0 : Heap) (n0 : Nat) (v : Option Value) (h : Heap) (L : List Loc) : Prop := (∃ r, v = some (.int r)) ∧ Fr n0 L ∧ h = h0
set_option maxRecDepth 65536 in
set_option maxHeartbeats 40000000 in
theorem rmP (l : Launch) (Z : State) (a0 : Array Value) (hw : ∀ d ∈ tables_1, d.before a0 Z = true) (ws : List Jvm.Cond) (p0 : Int32) (p1 : Int32) (w_Market_MKT_GLB : Addr) (w_Market_MKT_ONE : Addr) (z_cs : Int32) (h0 : Heap) (n0 : Nat) (O0 : Old Z n0 h0) (NF : Nar Z w_Market_MKT_GLB w_Market_MKT_ONE z_cs) :
    MetFree l (⟨"com/example/arvi/arvi/model/PurchaseDetailsIsConsumedPinLaw", "pickState", "(II)I"⟩ : MethodName) (head1 (Jvm.Cond.code (⟨"com/example/arvi/arvi/model/PurchaseDetailsIsConsumedPinLaw", "pickState", "(II)I"⟩ : MethodName) method_2_code 3 (some .int) :: ws) ({ frames := 0, cells := 0, slots := 0, locals := 0 } : Room)) (fun a U => a = #[(.int p0), (.int p1)] ∧ Z.Warmed39 U.vm ∧ U.heap = h0) (fun _ _ _ _ _ => True) (fun _ U o U' => ∃ v L, o = .returned v ∧ Q_rmP Z p0 p1 w_Market_MKT_GLB w_Market_MKT_ONE z_cs h0 n0 v U'.heap L ∧ FrameEnd U o U' L ({ frames := 0, cells := 0, slots := 0, locals := 0 } : Room).cells ({ frames := 0, cells := 0, slots := 0, locals := 0 } : Room).slots) := by
  refine MetFree.of_bodySF (plainFor_of_name pn_1) hisR ?_
  intro p e s m args below meth c s₁ Bd hml0 hP hK
  obtain ⟨rfl, hZ, hh⟩ := hP
  have hx := Bd.exec
  have hby := Bd.bytes
  have hml : c.maxLocals = 3 := hml0
  have hown : s.vm.findClass "com/example/arvi/arvi/model/PurchaseDetailsIsConsumedPinLaw" = some m.cls := findClass_of_methodNamed Bd.named
  have hnm := (name_of_methodNamed Bd.named Bd.method).1
  have X0 : Stand p l e ({ frames := 0, cells := 0, slots := 0, locals := 0 } : Room) s m #[(.int p0), (.int p1)] below meth c s₁ [] 0 0 := Stand.of_body Bd
  have e0 : s₁.heap = h0 := by rw [← hh, Bd.state]; rfl
  have N0 := Fr.nil n0
  suffices G : ∀ (Qf : Outcome → State → Prop), Qf = (fun (_ : Array Value) (U : State) (o : Outcome) (U' : State) => ∃ v L, o = .returned v ∧ Q_rmP Z p0 p1 w_Market_MKT_GLB w_Market_MKT_ONE z_cs h0 n0 v U'.heap L ∧ FrameEnd U o U' L ({ frames := 0, cells := 0, slots := 0, locals := 0 } : Room).cells ({ frames := 0, cells := 0, slots := 0, locals := 0 } : Room).slots) #[] s → Goes p.tables e below Qf (s₁.setTop (mkF m 0 #[.val (.int p0), .val (.int p1), .unset] [])) by
    obtain ⟨s₂, o, g1, g2, g3, g4⟩ := G _ rfl
    exact ⟨s₂, o, castTop (ef_rmP m _ _) g1, g2, g3, g4⟩
  intro Qf hQf
  obtain ⟨S_w_Market_MKT_GLB, E_w_Market_MKT_GLB, S_w_Market_MKT_ONE, E_w_Market_MKT_ONE, S_cs, nz_cs⟩ := id NF
  refine Goes.to (T' := s₁.setTop (mkF m 1 #[.val (.int p0), .val (.int p1), .unset] [(.int p0)])) (fun t k => XS.iloadN X0.here hx rfl (hb hby d1_0) rfl k) ?_
  refine Goes.to (T' := s₁.setTop (mkF m 3 #[.val (.int p0), .val (.int p1), .unset] [(.int (7 : Int32)), (.int p0)])) (fun t k => XS.bipush X0.here hx rfl (hb hby d1_1) k) ?_
  refine Goes.to (T' := s₁.setTop (mkF m 4 #[.val (.int p0), .val (.int p1), .unset] [(.int (p0 &&& (7 : Int32)))])) (fun t k => XS.iand X0.here hx rfl (hb hby d1_3) rfl k) ?_
  refine Goes.to (T' := s₁.setTop (mkF m 5 #[.val (.int p0), .val (.int p1), .val (.int (p0 &&& (7 : Int32)))] [])) (fun t k => XS.istoreN X0.here hx rfl (hb hby d1_4) rfl (l' := #[.val (.int p0), .val (.int p1), .val (.int (p0 &&& (7 : Int32)))]) rfl k) ?_
  refine Goes.to (T' := s₁.setTop (mkF m 6 #[.val (.int p0), .val (.int p1), .val (.int (p0 &&& (7 : Int32)))] [(.int (p0 &&& (7 : Int32)))])) (fun t k => XS.iloadN X0.here hx rfl (hb hby d1_5) rfl k) ?_
  rcases Decidable.em ((p0 &&& (7 : Int32)) = (0 : Int32)) with hc6_1 | hc6_1
  · skip
    refine Goes.to (T' := s₁.setTop (mkF m 9 #[.val (.int p0), .val (.int p1), .val (.int (p0 &&& (7 : Int32)))] [])) (fun t k => XS.ifNo X0.here hx rfl (hb hby d1_6) rfl ((if0 _ _).trans (teq hc6_1).2) k) ?_
    refine Goes.to (T' := s₁.setTop (mkF m 10 #[.val (.int p0), .val (.int p1), .val (.int (p0 &&& (7 : Int32)))] [(.int (0 : Int32))])) (fun t k => XS.iconst X0.here hx rfl (hb hby d1_9) k) ?_
    obtain ⟨fs, hrL, hrun, hended, hW, hsame⟩ := X0.leave (v := some (.int (0 : Int32))) (fun h => by rw [Bd.returns] at h; cases h)
    subst hQf
    refine ⟨_, _, retOut X0 hx Bd.returns rfl (Or.inl ⟨rfl, Or.inl rfl, _, rfl⟩) (hb hby d1_10) hrL, hrun, hended, _, _, rfl, ?_, ⟨_, rfl⟩, hW, hsame.mono (by decide) (by decide)⟩
    show (fun (v : Option Value) (h : Heap) (L : List Loc) => (∃ r, v = some (.int r)) ∧ Fr n0 L ∧ h = h0) (some (.int (0 : Int32))) s₁.heap _
    rw [e0]
    exact ⟨⟨_, rfl⟩, N0, rfl⟩
  · skip
    refine Goes.to (T' := s₁.setTop (mkF m 11 #[.val (.int p0), .val (.int p1), .val (.int (p0 &&& (7 : Int32)))] [])) (fun t k => XS.ifYes X0.here hx rfl (pc0 := 6) (pc' := 11) rfl (hb hby d1_6) rfl ((if0 _ _).trans (feq hc6_1).2) (by decide) (by decide) k) ?_
    refine Goes.to (T' := s₁.setTop (mkF m 12 #[.val (.int p0), .val (.int p1), .val (.int (p0 &&& (7 : Int32)))] [(.int (p0 &&& (7 : Int32)))])) (fun t k => XS.iloadN X0.here hx rfl (hb hby d1_11) rfl k) ?_
    refine Goes.to (T' := s₁.setTop (mkF m 13 #[.val (.int p0), .val (.int p1), .val (.int (p0 &&& (7 : Int32)))] [(.int (1 : Int32)), (.int (p0 &&& (7 : Int32)))])) (fun t k => XS.iconst X0.here hx rfl (hb hby d1_12) k) ?_
    rcases Decidable.em ((p0 &&& (7 : Int32)) = (1 : Int32)) with hc13_2 | hc13_2
    · skip
      refine Goes.to (T' := s₁.setTop (mkF m 16 #[.val (.int p0), .val (.int p1), .val (.int (p0 &&& (7 : Int32)))] [])) (fun t k => XS.icmpNo X0.here hx rfl (hb hby d1_13) rfl (teq hc13_2).2 k) ?_
      refine Goes.to (T' := s₁.setTop (mkF m 17 #[.val (.int p0), .val (.int p1), .val (.int (p0 &&& (7 : Int32)))] [(.int (1 : Int32))])) (fun t k => XS.iconst X0.here hx rfl (hb hby d1_16) k) ?_
      obtain ⟨fs, hrL, hrun, hended, hW, hsame⟩ := X0.leave (v := some (.int (1 : Int32))) (fun h => by rw [Bd.returns] at h; cases h)
      subst hQf
      refine ⟨_, _, retOut X0 hx Bd.returns rfl (Or.inl ⟨rfl, Or.inl rfl, _, rfl⟩) (hb hby d1_17) hrL, hrun, hended, _, _, rfl, ?_, ⟨_, rfl⟩, hW, hsame.mono (by decide) (by decide)⟩
      show (fun (v : Option Value) (h : Heap) (L : List Loc) => (∃ r, v = some (.int r)) ∧ Fr n0 L ∧ h = h0) (some (.int (1 : Int32))) s₁.heap _
      rw [e0]
      exact ⟨⟨_, rfl⟩, N0, rfl⟩
    · skip
      refine Goes.to (T' := s₁.setTop (mkF m 18 #[.val (.int p0), .val (.int p1), .val (.int (p0 &&& (7 : Int32)))] [])) (fun t k => XS.icmpYes X0.here hx rfl (pc0 := 13) (pc' := 18) rfl (hb hby d1_13) rfl (feq hc13_2).2 (by decide) (by decide) k) ?_
      refine Goes.to (T' := s₁.setTop (mkF m 19 #[.val (.int p0), .val (.int p1), .val (.int (p0 &&& (7 : Int32)))] [(.int (p0 &&& (7 : Int32)))])) (fun t k => XS.iloadN X0.here hx rfl (hb hby d1_18) rfl k) ?_
      refine Goes.to (T' := s₁.setTop (mkF m 20 #[.val (.int p0), .val (.int p1), .val (.int (p0 &&& (7 : Int32)))] [(.int (2 : Int32)), (.int (p0 &&& (7 : Int32)))])) (fun t k => XS.iconst X0.here hx rfl (hb hby d1_19) k) ?_
      rcases Decidable.em ((p0 &&& (7 : Int32)) = (2 : Int32)) with hc20_3 | hc20_3
      · skip
        refine Goes.to (T' := s₁.setTop (mkF m 23 #[.val (.int p0), .val (.int p1), .val (.int (p0 &&& (7 : Int32)))] [])) (fun t k => XS.icmpNo X0.here hx rfl (hb hby d1_20) rfl (teq hc20_3).2 k) ?_
        refine Goes.to (T' := s₁.setTop (mkF m 24 #[.val (.int p0), .val (.int p1), .val (.int (p0 &&& (7 : Int32)))] [(.int (2 : Int32))])) (fun t k => XS.iconst X0.here hx rfl (hb hby d1_23) k) ?_
        obtain ⟨fs, hrL, hrun, hended, hW, hsame⟩ := X0.leave (v := some (.int (2 : Int32))) (fun h => by rw [Bd.returns] at h; cases h)
        subst hQf
        refine ⟨_, _, retOut X0 hx Bd.returns rfl (Or.inl ⟨rfl, Or.inl rfl, _, rfl⟩) (hb hby d1_24) hrL, hrun, hended, _, _, rfl, ?_, ⟨_, rfl⟩, hW, hsame.mono (by decide) (by decide)⟩
        show (fun (v : Option Value) (h : Heap) (L : List Loc) => (∃ r, v = some (.int r)) ∧ Fr n0 L ∧ h = h0) (some (.int (2 : Int32))) s₁.heap _
        rw [e0]
        exact ⟨⟨_, rfl⟩, N0, rfl⟩
      · skip
        refine Goes.to (T' := s₁.setTop (mkF m 25 #[.val (.int p0), .val (.int p1), .val (.int (p0 &&& (7 : Int32)))] [])) (fun t k => XS.icmpYes X0.here hx rfl (pc0 := 20) (pc' := 25) rfl (hb hby d1_20) rfl (feq hc20_3).2 (by decide) (by decide) k) ?_
        refine Goes.to (T' := s₁.setTop (mkF m 26 #[.val (.int p0), .val (.int p1), .val (.int (p0 &&& (7 : Int32)))] [(.int (p0 &&& (7 : Int32)))])) (fun t k => XS.iloadN X0.here hx rfl (hb hby d1_25) rfl k) ?_
        refine Goes.to (T' := s₁.setTop (mkF m 27 #[.val (.int p0), .val (.int p1), .val (.int (p0 &&& (7 : Int32)))] [(.int (3 : Int32)), (.int (p0 &&& (7 : Int32)))])) (fun t k => XS.iconst X0.here hx rfl (hb hby d1_26) k) ?_
        rcases Decidable.em ((p0 &&& (7 : Int32)) = (3 : Int32)) with hc27_4 | hc27_4
        · skip
          refine Goes.to (T' := s₁.setTop (mkF m 30 #[.val (.int p0), .val (.int p1), .val (.int (p0 &&& (7 : Int32)))] [])) (fun t k => XS.icmpNo X0.here hx rfl (hb hby d1_27) rfl (teq hc27_4).2 k) ?_
          refine Goes.to (T' := s₁.setTop (mkF m 31 #[.val (.int p0), .val (.int p1), .val (.int (p0 &&& (7 : Int32)))] [(.int (-1 : Int32))])) (fun t k => XS.iconst X0.here hx rfl (hb hby d1_30) k) ?_
          obtain ⟨fs, hrL, hrun, hended, hW, hsame⟩ := X0.leave (v := some (.int (-1 : Int32))) (fun h => by rw [Bd.returns] at h; cases h)
          subst hQf
          refine ⟨_, _, retOut X0 hx Bd.returns rfl (Or.inl ⟨rfl, Or.inl rfl, _, rfl⟩) (hb hby d1_31) hrL, hrun, hended, _, _, rfl, ?_, ⟨_, rfl⟩, hW, hsame.mono (by decide) (by decide)⟩
          show (fun (v : Option Value) (h : Heap) (L : List Loc) => (∃ r, v = some (.int r)) ∧ Fr n0 L ∧ h = h0) (some (.int (-1 : Int32))) s₁.heap _
          rw [e0]
          exact ⟨⟨_, rfl⟩, N0, rfl⟩
        · skip
          refine Goes.to (T' := s₁.setTop (mkF m 32 #[.val (.int p0), .val (.int p1), .val (.int (p0 &&& (7 : Int32)))] [])) (fun t k => XS.icmpYes X0.here hx rfl (pc0 := 27) (pc' := 32) rfl (hb hby d1_27) rfl (feq hc27_4).2 (by decide) (by decide) k) ?_
          refine Goes.to (T' := s₁.setTop (mkF m 33 #[.val (.int p0), .val (.int p1), .val (.int (p0 &&& (7 : Int32)))] [(.int (p0 &&& (7 : Int32)))])) (fun t k => XS.iloadN X0.here hx rfl (hb hby d1_32) rfl k) ?_
          refine Goes.to (T' := s₁.setTop (mkF m 34 #[.val (.int p0), .val (.int p1), .val (.int (p0 &&& (7 : Int32)))] [(.int (4 : Int32)), (.int (p0 &&& (7 : Int32)))])) (fun t k => XS.iconst X0.here hx rfl (hb hby d1_33) k) ?_
          rcases Decidable.em ((p0 &&& (7 : Int32)) = (4 : Int32)) with hc34_5 | hc34_5
          · skip
            refine Goes.to (T' := s₁.setTop (mkF m 37 #[.val (.int p0), .val (.int p1), .val (.int (p0 &&& (7 : Int32)))] [])) (fun t k => XS.icmpNo X0.here hx rfl (hb hby d1_34) rfl (teq hc34_5).2 k) ?_
            refine Goes.to (T' := s₁.setTop (mkF m 39 #[.val (.int p0), .val (.int p1), .val (.int (p0 &&& (7 : Int32)))] [(.int (-2147483648 : Int32))])) (X0.ldcInt hx hown (mvT hZ (hw _ (List.mem_of_getElem? (i := 90) rfl))) (g := (mkF m 37 #[.val (.int p0), .val (.int p1), .val (.int (p0 &&& (7 : Int32)))] [])) rfl (hb hby d1_37)) ?_
            obtain ⟨fs, hrL, hrun, hended, hW, hsame⟩ := X0.leave (v := some (.int (-2147483648 : Int32))) (fun h => by rw [Bd.returns] at h; cases h)
            subst hQf
            refine ⟨_, _, retOut X0 hx Bd.returns rfl (Or.inl ⟨rfl, Or.inl rfl, _, rfl⟩) (hb hby d1_39) hrL, hrun, hended, _, _, rfl, ?_, ⟨_, rfl⟩, hW, hsame.mono (by decide) (by decide)⟩
            show (fun (v : Option Value) (h : Heap) (L : List Loc) => (∃ r, v = some (.int r)) ∧ Fr n0 L ∧ h = h0) (some (.int (-2147483648 : Int32))) s₁.heap _
            rw [e0]
            exact ⟨⟨_, rfl⟩, N0, rfl⟩
          · skip
            refine Goes.to (T' := s₁.setTop (mkF m 40 #[.val (.int p0), .val (.int p1), .val (.int (p0 &&& (7 : Int32)))] [])) (fun t k => XS.icmpYes X0.here hx rfl (pc0 := 34) (pc' := 40) rfl (hb hby d1_34) rfl (feq hc34_5).2 (by decide) (by decide) k) ?_
            refine Goes.to (T' := s₁.setTop (mkF m 41 #[.val (.int p0), .val (.int p1), .val (.int (p0 &&& (7 : Int32)))] [(.int (p0 &&& (7 : Int32)))])) (fun t k => XS.iloadN X0.here hx rfl (hb hby d1_40) rfl k) ?_
            refine Goes.to (T' := s₁.setTop (mkF m 42 #[.val (.int p0), .val (.int p1), .val (.int (p0 &&& (7 : Int32)))] [(.int (5 : Int32)), (.int (p0 &&& (7 : Int32)))])) (fun t k => XS.iconst X0.here hx rfl (hb hby d1_41) k) ?_
            rcases Decidable.em ((p0 &&& (7 : Int32)) = (5 : Int32)) with hc42_6 | hc42_6
            · skip
              refine Goes.to (T' := s₁.setTop (mkF m 45 #[.val (.int p0), .val (.int p1), .val (.int (p0 &&& (7 : Int32)))] [])) (fun t k => XS.icmpNo X0.here hx rfl (hb hby d1_42) rfl (teq hc42_6).2 k) ?_
              refine Goes.to (T' := s₁.setTop (mkF m 47 #[.val (.int p0), .val (.int p1), .val (.int (p0 &&& (7 : Int32)))] [(.int (2147483647 : Int32))])) (X0.ldcInt hx hown (mvT hZ (hw _ (List.mem_of_getElem? (i := 81) rfl))) (g := (mkF m 45 #[.val (.int p0), .val (.int p1), .val (.int (p0 &&& (7 : Int32)))] [])) rfl (hb hby d1_45)) ?_
              obtain ⟨fs, hrL, hrun, hended, hW, hsame⟩ := X0.leave (v := some (.int (2147483647 : Int32))) (fun h => by rw [Bd.returns] at h; cases h)
              subst hQf
              refine ⟨_, _, retOut X0 hx Bd.returns rfl (Or.inl ⟨rfl, Or.inl rfl, _, rfl⟩) (hb hby d1_47) hrL, hrun, hended, _, _, rfl, ?_, ⟨_, rfl⟩, hW, hsame.mono (by decide) (by decide)⟩
              show (fun (v : Option Value) (h : Heap) (L : List Loc) => (∃ r, v = some (.int r)) ∧ Fr n0 L ∧ h = h0) (some (.int (2147483647 : Int32))) s₁.heap _
              rw [e0]
              exact ⟨⟨_, rfl⟩, N0, rfl⟩
            · skip
              refine Goes.to (T' := s₁.setTop (mkF m 48 #[.val (.int p0), .val (.int p1), .val (.int (p0 &&& (7 : Int32)))] [])) (fun t k => XS.icmpYes X0.here hx rfl (pc0 := 42) (pc' := 48) rfl (hb hby d1_42) rfl (feq hc42_6).2 (by decide) (by decide) k) ?_
              refine Goes.to (T' := s₁.setTop (mkF m 49 #[.val (.int p0), .val (.int p1), .val (.int (p0 &&& (7 : Int32)))] [(.int p1)])) (fun t k => XS.iloadN X0.here hx rfl (hb hby d1_48) rfl k) ?_
              obtain ⟨fs, hrL, hrun, hended, hW, hsame⟩ := X0.leave (v := some (.int p1)) (fun h => by rw [Bd.returns] at h; cases h)
              subst hQf
              refine ⟨_, _, retOut X0 hx Bd.returns rfl (Or.inl ⟨rfl, Or.inl rfl, _, rfl⟩) (hb hby d1_49) hrL, hrun, hended, _, _, rfl, ?_, ⟨_, rfl⟩, hW, hsame.mono (by decide) (by decide)⟩
              show (fun (v : Option Value) (h : Heap) (L : List Loc) => (∃ r, v = some (.int r)) ∧ Fr n0 L ∧ h = h0) (some (.int p1)) s₁.heap _
              rw [e0]
              exact ⟨⟨_, rfl⟩, N0, rfl⟩
theorem d9_0 : decode jdk_31_method_11_code 0 = .ok (.aload_n 0, 1) := by decide +kernel
theorem d9_1 : decode jdk_31_method_11_code 1 = .ok (.ifnonnull 12, 3) := by decide +kernel
theorem d9_13 : decode jdk_31_method_11_code 13 = .ok (.aload_n 0, 1) := by decide +kernel
theorem d9_14 : decode jdk_31_method_11_code 14 = .ok (.areturn, 1) := by decide +kernel
theorem pn_9 : plainName "java/util/Objects" = true := by first | (simp [plainName, overriddenIn]; done) | decide +kernel
theorem ef_rmQ (m : MethodId) (x0 : Addr) (x1 : Addr) : entryFrame m #[(.ref x0), (.ref x1)] 2 = mkF m 0 #[.val (.ref x0), .val (.ref x1)] [] := by first | (simp [entryFrame, mkF, argsToLocals, Value.category]; done) | rfl
def Q_rmQ (Z : State) (xa : Addr) (xm : Addr) (w_Market_MKT_GLB : Addr) (w_Market_MKT_ONE : Addr) (z_cs : Int32) (h0 : Heap) (n0 : Nat) (v : Option Value) (h : Heap) (L : List Loc) : Prop := v = some (.ref xa) ∧ Fr n0 L ∧ h = h0
set_option maxRecDepth 65536 in
set_option maxHeartbeats 40000000 in
theorem rmQ (l : Launch) (Z : State) (a0 : Array Value) (hw : ∀ d ∈ tables_1, d.before a0 Z = true) (ws : List Jvm.Cond) (xa : Addr) (xm : Addr) (w_Market_MKT_GLB : Addr) (w_Market_MKT_ONE : Addr) (z_cs : Int32) (h0 : Heap) (n0 : Nat) (O0 : Old Z n0 h0) (NF : Nar Z w_Market_MKT_GLB w_Market_MKT_ONE z_cs) :
    MetFree l (⟨"java/util/Objects", "requireNonNull", "(Ljava/lang/Object;Ljava/lang/String;)Ljava/lang/Object;"⟩ : MethodName) (head1 (Jvm.Cond.code (⟨"java/util/Objects", "requireNonNull", "(Ljava/lang/Object;Ljava/lang/String;)Ljava/lang/Object;"⟩ : MethodName) jdk_31_method_11_code 2 (some (.object "java/lang/Object")) :: ws) ({ frames := 0, cells := 0, slots := 0, locals := 0 } : Room)) (fun a U => a = #[(.ref xa), (.ref xm)] ∧ Z.Warmed39 U.vm ∧ U.heap = h0) (fun _ _ _ _ _ => True) (fun _ U o U' => ∃ v L, o = .returned v ∧ Q_rmQ Z xa xm w_Market_MKT_GLB w_Market_MKT_ONE z_cs h0 n0 v U'.heap L ∧ FrameEnd U o U' L ({ frames := 0, cells := 0, slots := 0, locals := 0 } : Room).cells ({ frames := 0, cells := 0, slots := 0, locals := 0 } : Room).slots) := by
  refine MetFree.of_bodySF (plainFor_of_name pn_9) hisR ?_
  intro p e s m args below meth c s₁ Bd hml0 hP hK
  obtain ⟨rfl, hZ, hh⟩ := hP
  have hx := Bd.exec
  have hby := Bd.bytes
  have hml : c.maxLocals = 2 := hml0
  have hown : s.vm.findClass "java/util/Objects" = some m.cls := findClass_of_methodNamed Bd.named
  have hnm := (name_of_methodNamed Bd.named Bd.method).1
  have X0 : Stand p l e ({ frames := 0, cells := 0, slots := 0, locals := 0 } : Room) s m #[(.ref xa), (.ref xm)] below meth c s₁ [] 0 0 := Stand.of_body Bd
  have e0 : s₁.heap = h0 := by rw [← hh, Bd.state]; rfl
  have N0 := Fr.nil n0
  suffices G : ∀ (Qf : Outcome → State → Prop), Qf = (fun (_ : Array Value) (U : State) (o : Outcome) (U' : State) => ∃ v L, o = .returned v ∧ Q_rmQ Z xa xm w_Market_MKT_GLB w_Market_MKT_ONE z_cs h0 n0 v U'.heap L ∧ FrameEnd U o U' L ({ frames := 0, cells := 0, slots := 0, locals := 0 } : Room).cells ({ frames := 0, cells := 0, slots := 0, locals := 0 } : Room).slots) #[] s → Goes p.tables e below Qf (s₁.setTop (mkF m 0 #[.val (.ref xa), .val (.ref xm)] [])) by
    obtain ⟨s₂, o, g1, g2, g3, g4⟩ := G _ rfl
    exact ⟨s₂, o, castTop (ef_rmQ m _ _) g1, g2, g3, g4⟩
  intro Qf hQf
  obtain ⟨S_w_Market_MKT_GLB, E_w_Market_MKT_GLB, S_w_Market_MKT_ONE, E_w_Market_MKT_ONE, S_cs, nz_cs⟩ := id NF
  refine Goes.to (T' := s₁.setTop (mkF m 1 #[.val (.ref xa), .val (.ref xm)] [(.ref xa)])) (fun t k => XS.aloadN X0.here hx rfl (hb hby d9_0) rfl rfl k) ?_
  refine Goes.to (T' := s₁.setTop (mkF m 13 #[.val (.ref xa), .val (.ref xm)] [])) (fun t k => XS.ifnonnullYes X0.here hx rfl (pc0 := 1) (pc' := 13) rfl (hb hby d9_1) rfl (by decide) (by decide) k) ?_
  refine Goes.to (T' := s₁.setTop (mkF m 14 #[.val (.ref xa), .val (.ref xm)] [(.ref xa)])) (fun t k => XS.aloadN X0.here hx rfl (hb hby d9_13) rfl rfl k) ?_
  obtain ⟨fs, hrL, hrun, hended, hW, hsame⟩ := X0.leave (v := some (.ref xa)) (fun h => by rw [Bd.returns] at h; cases h)
  subst hQf
  refine ⟨_, _, retOut X0 hx Bd.returns rfl (Or.inr (Or.inr (Or.inr (Or.inr ⟨rfl, rfl, rfl⟩)))) (hb hby d9_14) hrL, hrun, hended, _, _, rfl, ?_, ⟨_, rfl⟩, hW, hsame.mono (by decide) (by decide)⟩
  show (fun (v : Option Value) (h : Heap) (L : List Loc) => v = some (.ref xa) ∧ Fr n0 L ∧ h = h0) (some (.ref xa)) s₁.heap _
  rw [e0]
  exact ⟨rfl, N0, rfl⟩
theorem pd_41 : parseMethodDescriptor "(Ljava/lang/Object;Ljava/lang/String;)Ljava/lang/Object;" = some ⟨[(.object "java/lang/Object"), (.object "java/lang/String")], some (.object "java/lang/Object")⟩ := by decide +kernel
theorem d8_0 : decode prog_24_method_1_code 0 = .ok (.aload_n 0, 1) := by decide +kernel
theorem d8_1 : decode prog_24_method_1_code 1 = .ok (.invokespecial 1, 3) := by decide +kernel
theorem d8_4 : decode prog_24_method_1_code 4 = .ok (.aload_n 0, 1) := by decide +kernel
theorem d8_5 : decode prog_24_method_1_code 5 = .ok (.iload_n 1, 1) := by decide +kernel
theorem d8_6 : decode prog_24_method_1_code 6 = .ok (.putfield 7, 3) := by decide +kernel
theorem d8_9 : decode prog_24_method_1_code 9 = .ok (.aload_n 0, 1) := by decide +kernel
theorem d8_10 : decode prog_24_method_1_code 10 = .ok (.aload_n 2, 1) := by decide +kernel
theorem d8_11 : decode prog_24_method_1_code 11 = .ok (.putfield 13, 3) := by decide +kernel
theorem d8_14 : decode prog_24_method_1_code 14 = .ok (.aload_n 0, 1) := by decide +kernel
theorem d8_15 : decode prog_24_method_1_code 15 = .ok (.iload_n 3, 1) := by decide +kernel
theorem d8_16 : decode prog_24_method_1_code 16 = .ok (.putfield 17, 3) := by decide +kernel
theorem d8_19 : decode prog_24_method_1_code 19 = .ok (.aload_n 0, 1) := by decide +kernel
theorem d8_20 : decode prog_24_method_1_code 20 = .ok (.lload 4, 2) := by decide +kernel
theorem d8_22 : decode prog_24_method_1_code 22 = .ok (.putfield 20, 3) := by decide +kernel
theorem d8_25 : decode prog_24_method_1_code 25 = .ok (.aload_n 0, 1) := by decide +kernel
theorem d8_26 : decode prog_24_method_1_code 26 = .ok (.aload 6, 2) := by decide +kernel
theorem d8_28 : decode prog_24_method_1_code 28 = .ok (.ldc 24, 2) := by decide +kernel
theorem d8_30 : decode prog_24_method_1_code 30 = .ok (.invokestatic 26, 3) := by decide +kernel
theorem d8_33 : decode prog_24_method_1_code 33 = .ok (.checkcast 32, 3) := by decide +kernel
theorem d8_36 : decode prog_24_method_1_code 36 = .ok (.putfield 34, 3) := by decide +kernel
theorem d8_39 : decode prog_24_method_1_code 39 = .ok (.aload_n 0, 1) := by decide +kernel
theorem d8_40 : decode prog_24_method_1_code 40 = .ok (.iload 7, 2) := by decide +kernel
theorem d8_42 : decode prog_24_method_1_code 42 = .ok (.putfield 36, 3) := by decide +kernel
theorem d8_45 : decode prog_24_method_1_code 45 = .ok (.aload_n 0, 1) := by decide +kernel
theorem d8_46 : decode prog_24_method_1_code 46 = .ok (.iload 8, 2) := by decide +kernel
theorem d8_48 : decode prog_24_method_1_code 48 = .ok (.putfield 39, 3) := by decide +kernel
theorem d8_51 : decode prog_24_method_1_code 51 = .ok (.aload_n 0, 1) := by decide +kernel
theorem d8_52 : decode prog_24_method_1_code 52 = .ok (.aload 9, 2) := by decide +kernel
theorem d8_54 : decode prog_24_method_1_code 54 = .ok (.ldc 42, 2) := by decide +kernel
theorem d8_56 : decode prog_24_method_1_code 56 = .ok (.invokestatic 26, 3) := by decide +kernel
theorem d8_59 : decode prog_24_method_1_code 59 = .ok (.checkcast 44, 3) := by decide +kernel
theorem d8_62 : decode prog_24_method_1_code 62 = .ok (.putfield 46, 3) := by decide +kernel
theorem d8_65 : decode prog_24_method_1_code 65 = .ok (.return_, 1) := by decide +kernel
theorem pn_8 : plainName "com/example/arvi/arvi/model/PurchaseDetails" = true := by first | (simp [plainName, overriddenIn]; done) | decide +kernel
theorem ef_rmI0 (m : MethodId) (x0 : Addr) (x1 : Int32) (x3 : Int32) (x4 : Int64) (x5 : Addr) (x6 : Int32) (x7 : Int32) (x8 : Addr) : entryFrame m #[(.ref x0), (.int x1), .null, (.int x3), (.long x4), (.ref x5), (.int x6), (.int x7), (.ref x8)] 10 = mkF m 0 #[.val (.ref x0), .val (.int x1), .val .null, .val (.int x3), .val (.long x4), .second, .val (.ref x5), .val (.int x6), .val (.int x7), .val (.ref x8)] [] := by first | (simp [entryFrame, mkF, argsToLocals, Value.category]; done) | rfl
def Q_rmI0 (Z : State) (xa : Addr) (p1 : Int32) (p3 : Int32) (q4 : Int64) (xs : Addr) (p6 : Int32) (p7 : Int32) (xk : Addr) (w_Market_MKT_GLB : Addr) (w_Market_MKT_ONE : Addr) (z_cs : Int32) (h0 : Heap) (n0 : Nat) (v : Option Value) (h : Heap) (L : List Loc) : Prop := v = none ∧ Fr n0 L ∧ Keep h0 h [xa] ∧ Fld Z h xa "com/example/arvi/arvi/model/PurchaseDetails" "consumptionState" "I" (.int p1) ∧ Fld Z h xa "com/example/arvi/arvi/model/PurchaseDetails" "acknowledgeState" "I" (.int p6)
set_option maxRecDepth 65536 in
set_option maxHeartbeats 40000000 in
theorem rmI0 (l : Launch) (Z : State) (a0 : Array Value) (hw : ∀ d ∈ tables_1, d.before a0 Z = true) (ws : List Jvm.Cond) (xa : Addr) (p1 : Int32) (p3 : Int32) (q4 : Int64) (xs : Addr) (p6 : Int32) (p7 : Int32) (xk : Addr) (w_Market_MKT_GLB : Addr) (w_Market_MKT_ONE : Addr) (z_cs : Int32) (h0 : Heap) (n0 : Nat) (O0 : Old Z n0 h0) (NF : Nar Z w_Market_MKT_GLB w_Market_MKT_ONE z_cs) (E_xa : Exa Z h0 xa "com/example/arvi/arvi/model/PurchaseDetails") (F_consumptionState_xa : Fld Z h0 xa "com/example/arvi/arvi/model/PurchaseDetails" "consumptionState" "I" (.int (0 : Int32))) (F_developerPayload_xa : Fld Z h0 xa "com/example/arvi/arvi/model/PurchaseDetails" "developerPayload" "Ljava/lang/String;" .null) (F_purchaseState_xa : Fld Z h0 xa "com/example/arvi/arvi/model/PurchaseDetails" "purchaseState" "I" (.int (0 : Int32))) (F_purchaseTime_xa : Fld Z h0 xa "com/example/arvi/arvi/model/PurchaseDetails" "purchaseTime" "J" (.long (0 : Int64))) (F_purchaseId_xa : Fld Z h0 xa "com/example/arvi/arvi/model/PurchaseDetails" "purchaseId" "Ljava/lang/String;" .null) (F_acknowledgeState_xa : Fld Z h0 xa "com/example/arvi/arvi/model/PurchaseDetails" "acknowledgeState" "I" (.int (0 : Int32))) (F_quantity_xa : Fld Z h0 xa "com/example/arvi/arvi/model/PurchaseDetails" "quantity" "I" (.int (0 : Int32))) (F_market_xa : Fld Z h0 xa "com/example/arvi/arvi/model/PurchaseDetails" "market" "Lcom/example/arvi/arvi/model/Market;" .null) (E_xs : Exa Z h0 xs "java/lang/String") (E_xk : Exa Z h0 xk "com/example/arvi/arvi/model/Market") (g_xa : n0 ≤ xa) (ne_xs_xa : xs ≠ xa) (ne_xk_xa : xk ≠ xa) :
    MetFree l (⟨"com/example/arvi/arvi/model/PurchaseDetails", "<init>", "(ILjava/lang/String;IJLjava/lang/String;IILcom/example/arvi/arvi/model/Market;)V"⟩ : MethodName) (head1 (Jvm.Cond.code (⟨"com/example/arvi/arvi/model/PurchaseDetails", "<init>", "(ILjava/lang/String;IJLjava/lang/String;IILcom/example/arvi/arvi/model/Market;)V"⟩ : MethodName) prog_24_method_1_code 10 none :: ws) ({ frames := 1, cells := 4, slots := 72, locals := 40 } : Room)) (fun a U => a = #[(.ref xa), (.int p1), .null, (.int p3), (.long q4), (.ref xs), (.int p6), (.int p7), (.ref xk)] ∧ Z.Warmed39 U.vm ∧ U.heap = h0) (fun _ _ _ _ _ => True) (fun _ U o U' => ∃ v L, o = .returned v ∧ Q_rmI0 Z xa p1 p3 q4 xs p6 p7 xk w_Market_MKT_GLB w_Market_MKT_ONE z_cs h0 n0 v U'.heap L ∧ ReturnedEndW U o U' L ({ frames := 1, cells := 4, slots := 72, locals := 40 } : Room).cells ({ frames := 1, cells := 4, slots := 72, locals := 40 } : Room).slots) := by
  refine MetFree.of_bodySF (plainFor_of_name pn_8) hisR ?_
  intro p e s m args below meth c s₁ Bd hml0 hP hK
  obtain ⟨rfl, hZ, hh⟩ := hP
  have hx := Bd.exec
  have hby := Bd.bytes
  have hml : c.maxLocals = 10 := hml0
  have hown : s.vm.findClass "com/example/arvi/arvi/model/PurchaseDetails" = some m.cls := findClass_of_methodNamed Bd.named
  have hnm := (name_of_methodNamed Bd.named Bd.method).1
  have X0 : Stand p l e ({ frames := 1, cells := 4, slots := 72, locals := 40 } : Room) (s.setVm s.vm) m #[(.ref xa), (.int p1), .null, (.int p3), (.long q4), (.ref xs), (.int p6), (.int p7), (.ref xk)] below meth c s₁ [] 0 0 := Stand.of_body Bd
  have e0 : s₁.heap = h0 := by rw [← hh, Bd.state]; rfl
  have N0 := Fr.nil n0
  have hZ : Z.Warmed39 (s.setVm s.vm).vm := hZ
  have hown : (s.setVm s.vm).vm.findClass "com/example/arvi/arvi/model/PurchaseDetails" = some m.cls := hown
  have hS : s.Since s.vm h0.size := (State.WarmedH.refl s).since _
  have hk : h0.size ≤ h0.size := Nat.le_refl _
  have own_strw : ∀ a ∈ Bundle.stringAtoms, a.before a0 Z = true := fun d hd => hw d ((by decide +kernel : ∀ d ∈ Bundle.stringAtoms, d ∈ tables_1) d hd)
  have K0 := Keep.refl h0 [xa]
  suffices G : ∀ (Qf : Outcome → State → Prop), Qf = (fun (_ : Array Value) (U : State) (o : Outcome) (U' : State) => ∃ v L, o = .returned v ∧ Q_rmI0 Z xa p1 p3 q4 xs p6 p7 xk w_Market_MKT_GLB w_Market_MKT_ONE z_cs h0 n0 v U'.heap L ∧ ReturnedEndW U o U' L ({ frames := 1, cells := 4, slots := 72, locals := 40 } : Room).cells ({ frames := 1, cells := 4, slots := 72, locals := 40 } : Room).slots) #[] s → Goes p.tables e below Qf (s₁.setTop (mkF m 0 #[.val (.ref xa), .val (.int p1), .val .null, .val (.int p3), .val (.long q4), .second, .val (.ref xs), .val (.int p6), .val (.int p7), .val (.ref xk)] [])) by
    obtain ⟨s₂, o, g1, g2, g3, g4⟩ := G _ rfl
    exact ⟨s₂, o, castTop (ef_rmI0 m _ _ _ _ _ _ _ _) g1, g2, g3, g4⟩
  intro Qf hQf
  obtain ⟨S_w_Market_MKT_GLB, E_w_Market_MKT_GLB, S_w_Market_MKT_ONE, E_w_Market_MKT_ONE, S_cs, nz_cs⟩ := id NF
  refine Goes.to (T' := s₁.setTop (mkF m 1 #[.val (.ref xa), .val (.int p1), .val .null, .val (.int p3), .val (.long q4), .second, .val (.ref xs), .val (.int p6), .val (.int p7), .val (.ref xk)] [(.ref xa)])) (fun t k => XS.aloadN X0.here hx rfl (hb hby d8_0) rfl rfl k) ?_
  obtain ⟨T1, X1, e1, st1⟩ := initO X0 hx hZ hown (hw _ (List.mem_of_getElem? (i := 43) rfl)) (hw _ (List.mem_of_getElem? (i := 19) rfl)) (hw _ (List.mem_of_getElem? (i := 20) rfl)) e0 (g := (mkF m 1 #[.val (.ref xa), .val (.int p1), .val .null, .val (.int p3), .val (.long q4), .second, .val (.ref xs), .val (.int p6), .val (.int p7), .val (.ref xk)] [(.ref xa)])) rfl (by rw [hml]; rfl) rfl (hb hby d8_1) (by decide) (W := 0) (by show 2 * 0 + _ ≤ _; exact Nat.le_of_eq rfl) (by decide)
  refine Goes.to (T' := T1.setTop (mkF m 4 #[.val (.ref xa), .val (.int p1), .val .null, .val (.int p3), .val (.long q4), .second, .val (.ref xs), .val (.int p6), .val (.int p7), .val (.ref xk)] [])) st1 ?_
  refine Goes.to (T' := T1.setTop (mkF m 5 #[.val (.ref xa), .val (.int p1), .val .null, .val (.int p3), .val (.long q4), .second, .val (.ref xs), .val (.int p6), .val (.int p7), .val (.ref xk)] [(.ref xa)])) (fun t k => XS.aloadN X1.here hx rfl (hb hby d8_4) rfl rfl k) ?_
  refine Goes.to (T' := T1.setTop (mkF m 6 #[.val (.ref xa), .val (.int p1), .val .null, .val (.int p3), .val (.long q4), .second, .val (.ref xs), .val (.int p6), .val (.int p7), .val (.ref xk)] [(.int p1), (.ref xa)])) (fun t k => XS.iloadN X1.here hx rfl (hb hby d8_5) rfl k) ?_
  obtain ⟨T2, h2, X2, e2, W2, st2⟩ := putF X1 hx hZ hown (host := "") (Or.inl (hw _ (List.mem_of_getElem? (i := 44) rfl))) Via.refl e1 F_consumptionState_xa E_xa (Or.inr ⟨(hw _ (List.mem_of_getElem? (i := 45) rfl)), rfl, hnm⟩) (hw _ (List.mem_of_getElem? (i := 38) rfl)) (ty := .int) (by decide) rfl rfl (g := (mkF m 6 #[.val (.ref xa), .val (.int p1), .val .null, .val (.int p3), .val (.long q4), .second, .val (.ref xs), .val (.int p6), .val (.int p7), .val (.ref xk)] [(.int p1), (.ref xa)])) rfl rfl (hb hby d8_6)
  have F_consumptionState_xa := F_consumptionState_xa.same W2
  have E_xa := E_xa.wr W2
  have F_developerPayload_xa := F_developerPayload_xa.other W2 (Or.inr (slot_ne (Or.inr (hw _ (List.mem_of_getElem? (i := 47) rfl))) (Or.inr (hw _ (List.mem_of_getElem? (i := 45) rfl))) (by decide) (t := (.object "java/lang/String")) (t' := .int) (by decide) (by decide)))
  have F_purchaseState_xa := F_purchaseState_xa.other W2 (Or.inr (slot_ne (Or.inr (hw _ (List.mem_of_getElem? (i := 49) rfl))) (Or.inr (hw _ (List.mem_of_getElem? (i := 45) rfl))) (by decide) (t := .int) (t' := .int) (by decide) (by decide)))
  have F_purchaseTime_xa := F_purchaseTime_xa.other W2 (Or.inr (slot_ne (Or.inr (hw _ (List.mem_of_getElem? (i := 51) rfl))) (Or.inr (hw _ (List.mem_of_getElem? (i := 45) rfl))) (by decide) (t := .long) (t' := .int) (by decide) (by decide)))
  have F_purchaseId_xa := F_purchaseId_xa.other W2 (Or.inr (slot_ne (Or.inr (hw _ (List.mem_of_getElem? (i := 61) rfl))) (Or.inr (hw _ (List.mem_of_getElem? (i := 45) rfl))) (by decide) (t := (.object "java/lang/String")) (t' := .int) (by decide) (by decide)))
  have F_acknowledgeState_xa := F_acknowledgeState_xa.other W2 (Or.inr (slot_ne (Or.inr (hw _ (List.mem_of_getElem? (i := 63) rfl))) (Or.inr (hw _ (List.mem_of_getElem? (i := 45) rfl))) (by decide) (t := .int) (t' := .int) (by decide) (by decide)))
  have F_quantity_xa := F_quantity_xa.other W2 (Or.inr (slot_ne (Or.inr (hw _ (List.mem_of_getElem? (i := 65) rfl))) (Or.inr (hw _ (List.mem_of_getElem? (i := 45) rfl))) (by decide) (t := .int) (t' := .int) (by decide) (by decide)))
  have F_market_xa := F_market_xa.other W2 (Or.inr (slot_ne (Or.inr (hw _ (List.mem_of_getElem? (i := 70) rfl))) (Or.inr (hw _ (List.mem_of_getElem? (i := 45) rfl))) (by decide) (t := (.object "com/example/arvi/arvi/model/Market")) (t' := .int) (by decide) (by decide)))
  have E_xs := E_xs.wr W2
  have E_xk := E_xk.wr W2
  have O0 := O0.wr W2 g_xa
  have hk := Nat.le_trans hk (Keep.of_wr W2).1
  have K0 := K0.wr W2 (Or.inl (List.mem_of_getElem? (i := 0) rfl))
  have N2 := Fr.snoc X2 N0 g_xa
  refine Goes.to (T' := T2.setTop (mkF m 9 #[.val (.ref xa), .val (.int p1), .val .null, .val (.int p3), .val (.long q4), .second, .val (.ref xs), .val (.int p6), .val (.int p7), .val (.ref xk)] [])) st2 ?_
  refine Goes.to (T' := T2.setTop (mkF m 10 #[.val (.ref xa), .val (.int p1), .val .null, .val (.int p3), .val (.long q4), .second, .val (.ref xs), .val (.int p6), .val (.int p7), .val (.ref xk)] [(.ref xa)])) (fun t k => XS.aloadN X2.here hx rfl (hb hby d8_9) rfl rfl k) ?_
  refine Goes.to (T' := T2.setTop (mkF m 11 #[.val (.ref xa), .val (.int p1), .val .null, .val (.int p3), .val (.long q4), .second, .val (.ref xs), .val (.int p6), .val (.int p7), .val (.ref xk)] [.null, (.ref xa)])) (fun t k => XS.aloadN X2.here hx rfl (hb hby d8_10) rfl rfl k) ?_
  obtain ⟨T3, h3, X3, e3, W3, st3⟩ := putF X2 hx hZ hown (host := "") (Or.inl (hw _ (List.mem_of_getElem? (i := 46) rfl))) Via.refl e2 F_developerPayload_xa E_xa (Or.inr ⟨(hw _ (List.mem_of_getElem? (i := 47) rfl)), rfl, hnm⟩) (hw _ (List.mem_of_getElem? (i := 38) rfl)) (ty := (.object "java/lang/String")) (by decide) rfl rfl (g := (mkF m 11 #[.val (.ref xa), .val (.int p1), .val .null, .val (.int p3), .val (.long q4), .second, .val (.ref xs), .val (.int p6), .val (.int p7), .val (.ref xk)] [.null, (.ref xa)])) rfl rfl (hb hby d8_11)
  have F_developerPayload_xa := F_developerPayload_xa.same W3
  have E_xa := E_xa.wr W3
  have F_consumptionState_xa := F_consumptionState_xa.other W3 (Or.inr (slot_ne (Or.inr (hw _ (List.mem_of_getElem? (i := 45) rfl))) (Or.inr (hw _ (List.mem_of_getElem? (i := 47) rfl))) (by decide) (t := .int) (t' := (.object "java/lang/String")) (by decide) (by decide)))
  have F_purchaseState_xa := F_purchaseState_xa.other W3 (Or.inr (slot_ne (Or.inr (hw _ (List.mem_of_getElem? (i := 49) rfl))) (Or.inr (hw _ (List.mem_of_getElem? (i := 47) rfl))) (by decide) (t := .int) (t' := (.object "java/lang/String")) (by decide) (by decide)))
  have F_purchaseTime_xa := F_purchaseTime_xa.other W3 (Or.inr (slot_ne (Or.inr (hw _ (List.mem_of_getElem? (i := 51) rfl))) (Or.inr (hw _ (List.mem_of_getElem? (i := 47) rfl))) (by decide) (t := .long) (t' := (.object "java/lang/String")) (by decide) (by decide)))
  have F_purchaseId_xa := F_purchaseId_xa.other W3 (Or.inr (slot_ne (Or.inr (hw _ (List.mem_of_getElem? (i := 61) rfl))) (Or.inr (hw _ (List.mem_of_getElem? (i := 47) rfl))) (by decide) (t := (.object "java/lang/String")) (t' := (.object "java/lang/String")) (by decide) (by decide)))
  have F_acknowledgeState_xa := F_acknowledgeState_xa.other W3 (Or.inr (slot_ne (Or.inr (hw _ (List.mem_of_getElem? (i := 63) rfl))) (Or.inr (hw _ (List.mem_of_getElem? (i := 47) rfl))) (by decide) (t := .int) (t' := (.object "java/lang/String")) (by decide) (by decide)))
  have F_quantity_xa := F_quantity_xa.other W3 (Or.inr (slot_ne (Or.inr (hw _ (List.mem_of_getElem? (i := 65) rfl))) (Or.inr (hw _ (List.mem_of_getElem? (i := 47) rfl))) (by decide) (t := .int) (t' := (.object "java/lang/String")) (by decide) (by decide)))
  have F_market_xa := F_market_xa.other W3 (Or.inr (slot_ne (Or.inr (hw _ (List.mem_of_getElem? (i := 70) rfl))) (Or.inr (hw _ (List.mem_of_getElem? (i := 47) rfl))) (by decide) (t := (.object "com/example/arvi/arvi/model/Market")) (t' := (.object "java/lang/String")) (by decide) (by decide)))
  have E_xs := E_xs.wr W3
  have E_xk := E_xk.wr W3
  have O0 := O0.wr W3 g_xa
  have hk := Nat.le_trans hk (Keep.of_wr W3).1
  have K0 := K0.wr W3 (Or.inl (List.mem_of_getElem? (i := 0) rfl))
  have N3 := Fr.snoc X3 N2 g_xa
  refine Goes.to (T' := T3.setTop (mkF m 14 #[.val (.ref xa), .val (.int p1), .val .null, .val (.int p3), .val (.long q4), .second, .val (.ref xs), .val (.int p6), .val (.int p7), .val (.ref xk)] [])) st3 ?_
  refine Goes.to (T' := T3.setTop (mkF m 15 #[.val (.ref xa), .val (.int p1), .val .null, .val (.int p3), .val (.long q4), .second, .val (.ref xs), .val (.int p6), .val (.int p7), .val (.ref xk)] [(.ref xa)])) (fun t k => XS.aloadN X3.here hx rfl (hb hby d8_14) rfl rfl k) ?_
  refine Goes.to (T' := T3.setTop (mkF m 16 #[.val (.ref xa), .val (.int p1), .val .null, .val (.int p3), .val (.long q4), .second, .val (.ref xs), .val (.int p6), .val (.int p7), .val (.ref xk)] [(.int p3), (.ref xa)])) (fun t k => XS.iloadN X3.here hx rfl (hb hby d8_15) rfl k) ?_
  obtain ⟨T4, h4, X4, e4, W4, st4⟩ := putF X3 hx hZ hown (host := "") (Or.inl (hw _ (List.mem_of_getElem? (i := 48) rfl))) Via.refl e3 F_purchaseState_xa E_xa (Or.inr ⟨(hw _ (List.mem_of_getElem? (i := 49) rfl)), rfl, hnm⟩) (hw _ (List.mem_of_getElem? (i := 38) rfl)) (ty := .int) (by decide) rfl rfl (g := (mkF m 16 #[.val (.ref xa), .val (.int p1), .val .null, .val (.int p3), .val (.long q4), .second, .val (.ref xs), .val (.int p6), .val (.int p7), .val (.ref xk)] [(.int p3), (.ref xa)])) rfl rfl (hb hby d8_16)
  have F_purchaseState_xa := F_purchaseState_xa.same W4
  have E_xa := E_xa.wr W4
  have F_consumptionState_xa := F_consumptionState_xa.other W4 (Or.inr (slot_ne (Or.inr (hw _ (List.mem_of_getElem? (i := 45) rfl))) (Or.inr (hw _ (List.mem_of_getElem? (i := 49) rfl))) (by decide) (t := .int) (t' := .int) (by decide) (by decide)))
  have F_developerPayload_xa := F_developerPayload_xa.other W4 (Or.inr (slot_ne (Or.inr (hw _ (List.mem_of_getElem? (i := 47) rfl))) (Or.inr (hw _ (List.mem_of_getElem? (i := 49) rfl))) (by decide) (t := (.object "java/lang/String")) (t' := .int) (by decide) (by decide)))
  have F_purchaseTime_xa := F_purchaseTime_xa.other W4 (Or.inr (slot_ne (Or.inr (hw _ (List.mem_of_getElem? (i := 51) rfl))) (Or.inr (hw _ (List.mem_of_getElem? (i := 49) rfl))) (by decide) (t := .long) (t' := .int) (by decide) (by decide)))
  have F_purchaseId_xa := F_purchaseId_xa.other W4 (Or.inr (slot_ne (Or.inr (hw _ (List.mem_of_getElem? (i := 61) rfl))) (Or.inr (hw _ (List.mem_of_getElem? (i := 49) rfl))) (by decide) (t := (.object "java/lang/String")) (t' := .int) (by decide) (by decide)))
  have F_acknowledgeState_xa := F_acknowledgeState_xa.other W4 (Or.inr (slot_ne (Or.inr (hw _ (List.mem_of_getElem? (i := 63) rfl))) (Or.inr (hw _ (List.mem_of_getElem? (i := 49) rfl))) (by decide) (t := .int) (t' := .int) (by decide) (by decide)))
  have F_quantity_xa := F_quantity_xa.other W4 (Or.inr (slot_ne (Or.inr (hw _ (List.mem_of_getElem? (i := 65) rfl))) (Or.inr (hw _ (List.mem_of_getElem? (i := 49) rfl))) (by decide) (t := .int) (t' := .int) (by decide) (by decide)))
  have F_market_xa := F_market_xa.other W4 (Or.inr (slot_ne (Or.inr (hw _ (List.mem_of_getElem? (i := 70) rfl))) (Or.inr (hw _ (List.mem_of_getElem? (i := 49) rfl))) (by decide) (t := (.object "com/example/arvi/arvi/model/Market")) (t' := .int) (by decide) (by decide)))
  have E_xs := E_xs.wr W4
  have E_xk := E_xk.wr W4
  have O0 := O0.wr W4 g_xa
  have hk := Nat.le_trans hk (Keep.of_wr W4).1
  have K0 := K0.wr W4 (Or.inl (List.mem_of_getElem? (i := 0) rfl))
  have N4 := Fr.snoc X4 N3 g_xa
  refine Goes.to (T' := T4.setTop (mkF m 19 #[.val (.ref xa), .val (.int p1), .val .null, .val (.int p3), .val (.long q4), .second, .val (.ref xs), .val (.int p6), .val (.int p7), .val (.ref xk)] [])) st4 ?_
  refine Goes.to (T' := T4.setTop (mkF m 20 #[.val (.ref xa), .val (.int p1), .val .null, .val (.int p3), .val (.long q4), .second, .val (.ref xs), .val (.int p6), .val (.int p7), .val (.ref xk)] [(.ref xa)])) (fun t k => XS.aloadN X4.here hx rfl (hb hby d8_19) rfl rfl k) ?_
  refine Goes.to (T' := T4.setTop (mkF m 22 #[.val (.ref xa), .val (.int p1), .val .null, .val (.int p3), .val (.long q4), .second, .val (.ref xs), .val (.int p6), .val (.int p7), .val (.ref xk)] [(.long q4), (.ref xa)])) (fun t k => XS.lload X4.here hx rfl (hb hby d8_20) rfl k) ?_
  obtain ⟨T5, h5, X5, e5, W5, st5⟩ := putF X4 hx hZ hown (host := "") (Or.inl (hw _ (List.mem_of_getElem? (i := 50) rfl))) Via.refl e4 F_purchaseTime_xa E_xa (Or.inr ⟨(hw _ (List.mem_of_getElem? (i := 51) rfl)), rfl, hnm⟩) (hw _ (List.mem_of_getElem? (i := 38) rfl)) (ty := .long) (by decide) rfl rfl (g := (mkF m 22 #[.val (.ref xa), .val (.int p1), .val .null, .val (.int p3), .val (.long q4), .second, .val (.ref xs), .val (.int p6), .val (.int p7), .val (.ref xk)] [(.long q4), (.ref xa)])) rfl rfl (hb hby d8_22)
  have F_purchaseTime_xa := F_purchaseTime_xa.same W5
  have E_xa := E_xa.wr W5
  have F_consumptionState_xa := F_consumptionState_xa.other W5 (Or.inr (slot_ne (Or.inr (hw _ (List.mem_of_getElem? (i := 45) rfl))) (Or.inr (hw _ (List.mem_of_getElem? (i := 51) rfl))) (by decide) (t := .int) (t' := .long) (by decide) (by decide)))
  have F_developerPayload_xa := F_developerPayload_xa.other W5 (Or.inr (slot_ne (Or.inr (hw _ (List.mem_of_getElem? (i := 47) rfl))) (Or.inr (hw _ (List.mem_of_getElem? (i := 51) rfl))) (by decide) (t := (.object "java/lang/String")) (t' := .long) (by decide) (by decide)))
  have F_purchaseState_xa := F_purchaseState_xa.other W5 (Or.inr (slot_ne (Or.inr (hw _ (List.mem_of_getElem? (i := 49) rfl))) (Or.inr (hw _ (List.mem_of_getElem? (i := 51) rfl))) (by decide) (t := .int) (t' := .long) (by decide) (by decide)))
  have F_purchaseId_xa := F_purchaseId_xa.other W5 (Or.inr (slot_ne (Or.inr (hw _ (List.mem_of_getElem? (i := 61) rfl))) (Or.inr (hw _ (List.mem_of_getElem? (i := 51) rfl))) (by decide) (t := (.object "java/lang/String")) (t' := .long) (by decide) (by decide)))
  have F_acknowledgeState_xa := F_acknowledgeState_xa.other W5 (Or.inr (slot_ne (Or.inr (hw _ (List.mem_of_getElem? (i := 63) rfl))) (Or.inr (hw _ (List.mem_of_getElem? (i := 51) rfl))) (by decide) (t := .int) (t' := .long) (by decide) (by decide)))
  have F_quantity_xa := F_quantity_xa.other W5 (Or.inr (slot_ne (Or.inr (hw _ (List.mem_of_getElem? (i := 65) rfl))) (Or.inr (hw _ (List.mem_of_getElem? (i := 51) rfl))) (by decide) (t := .int) (t' := .long) (by decide) (by decide)))
  have F_market_xa := F_market_xa.other W5 (Or.inr (slot_ne (Or.inr (hw _ (List.mem_of_getElem? (i := 70) rfl))) (Or.inr (hw _ (List.mem_of_getElem? (i := 51) rfl))) (by decide) (t := (.object "com/example/arvi/arvi/model/Market")) (t' := .long) (by decide) (by decide)))
  have E_xs := E_xs.wr W5
  have E_xk := E_xk.wr W5
  have O0 := O0.wr W5 g_xa
  have hk := Nat.le_trans hk (Keep.of_wr W5).1
  have K0 := K0.wr W5 (Or.inl (List.mem_of_getElem? (i := 0) rfl))
  have N5 := Fr.snoc X5 N4 g_xa
  refine Goes.to (T' := T5.setTop (mkF m 25 #[.val (.ref xa), .val (.int p1), .val .null, .val (.int p3), .val (.long q4), .second, .val (.ref xs), .val (.int p6), .val (.int p7), .val (.ref xk)] [])) st5 ?_
  refine Goes.to (T' := T5.setTop (mkF m 26 #[.val (.ref xa), .val (.int p1), .val .null, .val (.int p3), .val (.long q4), .second, .val (.ref xs), .val (.int p6), .val (.int p7), .val (.ref xk)] [(.ref xa)])) (fun t k => XS.aloadN X5.here hx rfl (hb hby d8_25) rfl rfl k) ?_
  refine Goes.to (T' := T5.setTop (mkF m 28 #[.val (.ref xa), .val (.int p1), .val .null, .val (.int p3), .val (.long q4), .second, .val (.ref xs), .val (.int p6), .val (.int p7), .val (.ref xk)] [(.ref xs), (.ref xa)])) (fun t k => XS.aload X5.here hx rfl (hb hby d8_26) rfl rfl k) ?_
  obtain ⟨b6, T6, h6, kS6, X6, e6, E6, hS, hk, hZ, hown, st6⟩ := ldcS X5 hx hZ hown (hw _ (List.mem_of_getElem? (i := 52) rfl)) own_strw e5 hS hk (g := (mkF m 28 #[.val (.ref xa), .val (.int p1), .val .null, .val (.int p3), .val (.long q4), .second, .val (.ref xs), .val (.int p6), .val (.int p7), .val (.ref xk)] [(.ref xs), (.ref xa)])) rfl (hb hby d8_28) (n := 40) (by decide) (by decide) (by decide) (by decide)
  have E_xa := E_xa.ext E6
  have F_consumptionState_xa := F_consumptionState_xa.ext E6
  have F_developerPayload_xa := F_developerPayload_xa.ext E6
  have F_purchaseState_xa := F_purchaseState_xa.ext E6
  have F_purchaseTime_xa := F_purchaseTime_xa.ext E6
  have F_purchaseId_xa := F_purchaseId_xa.ext E6
  have F_acknowledgeState_xa := F_acknowledgeState_xa.ext E6
  have F_quantity_xa := F_quantity_xa.ext E6
  have F_market_xa := F_market_xa.ext E6
  have E_xs := E_xs.ext E6
  have E_xk := E_xk.ext E6
  have O0 := O0.ext E6
  have K0 := K0.ext E6
  refine Goes.to (T' := T6.setTop (mkF m 30 #[.val (.ref xa), .val (.int p1), .val .null, .val (.int p3), .val (.long q4), .second, .val (.ref xs), .val (.int p6), .val (.int p7), .val (.ref xk)] [(.ref b6), (.ref xs), (.ref xa)])) st6 ?_
  obtain ⟨_, _, ⟨T7, L7, k7, n7⟩, -, X7, ⟨Lc7, hQ7, l7, y7, z7⟩, st7⟩ := Jvm.LawKit.callS X6 hx (y := (⟨"java/util/Objects", "requireNonNull", "(Ljava/lang/Object;Ljava/lang/String;)Ljava/lang/Object;"⟩ : MethodName)) hown (mvT hZ (hw _ (List.mem_of_getElem? (i := 55) rfl))) (mvT hZ (hw _ (List.mem_of_getElem? (i := 56) rfl))) (mvT hZ (hw _ (List.mem_of_getElem? (i := 57) rfl))) (mvT hZ (hw _ (List.mem_of_getElem? (i := 58) rfl))) (by decide) (backOf (W := 1) (rmQ l Z a0 hw [] xs b6 w_Market_MKT_GLB w_Market_MKT_ONE z_cs  h6 n0 O0 NF ) hZ (hw _ (List.mem_of_getElem? (i := 58) rfl)) (hw _ (List.mem_of_getElem? (i := 57) rfl)) (by decide) (by decide)) (g := (mkF m 30 #[.val (.ref xa), .val (.int p1), .val .null, .val (.int p3), .val (.long q4), .second, .val (.ref xs), .val (.int p6), .val (.int p7), .val (.ref xk)] [(.ref b6), (.ref xs), (.ref xa)])) rfl (by rw [hml]; rfl) (argsL := [(.ref xs), (.ref b6)]) (rest := [(.ref xa)]) (lenOf pd_41 rfl) rfl (by show 2 * 0 + _ ≤ _; exact Nat.le_of_eq rfl) (hb hby d8_30) (fun _ _ => ⟨rfl, e6, (by decide : 2 + 0 ≤ _), (by decide : 44 + 0 ≤ _)⟩)
  dsimp only [Pt.U, Pt.locs, Pt.cells, Pt.slots] at X7 l7 y7 z7 st7 hQ7
  subst l7 y7 z7
  obtain ⟨rfl, Nq7, e7⟩ := hQ7
  have N7 := Fr.app N5 Nq7
  refine Goes.to (T' := T7.setTop (mkF m 33 #[.val (.ref xa), .val (.int p1), .val .null, .val (.int p3), .val (.long q4), .second, .val (.ref xs), .val (.int p6), .val (.int p7), .val (.ref xk)] [(.ref xs), (.ref xa)])) st7 ?_
  obtain ⟨T8, X8, e8, st8⟩ := castY X7 hx hZ hown (hw _ (List.mem_of_getElem? (i := 59) rfl)) e7 (Ins.self E_xs) (g := (mkF m 33 #[.val (.ref xa), .val (.int p1), .val .null, .val (.int p3), .val (.long q4), .second, .val (.ref xs), .val (.int p6), .val (.int p7), .val (.ref xk)] [(.ref xs), (.ref xa)])) rfl rfl (hb hby d8_33)
  refine Goes.to (T' := T8.setTop (mkF m 36 #[.val (.ref xa), .val (.int p1), .val .null, .val (.int p3), .val (.long q4), .second, .val (.ref xs), .val (.int p6), .val (.int p7), .val (.ref xk)] [(.ref xs), (.ref xa)])) st8 ?_
  obtain ⟨T9, h9, X9, e9, W9, st9⟩ := putF X8 hx hZ hown (host := "") (Or.inl (hw _ (List.mem_of_getElem? (i := 60) rfl))) Via.refl e8 F_purchaseId_xa E_xa (Or.inr ⟨(hw _ (List.mem_of_getElem? (i := 61) rfl)), rfl, hnm⟩) (hw _ (List.mem_of_getElem? (i := 38) rfl)) (ty := (.object "java/lang/String")) (by decide) rfl rfl (g := (mkF m 36 #[.val (.ref xa), .val (.int p1), .val .null, .val (.int p3), .val (.long q4), .second, .val (.ref xs), .val (.int p6), .val (.int p7), .val (.ref xk)] [(.ref xs), (.ref xa)])) rfl rfl (hb hby d8_36)
  have F_purchaseId_xa := F_purchaseId_xa.same W9
  have E_xa := E_xa.wr W9
  have F_consumptionState_xa := F_consumptionState_xa.other W9 (Or.inr (slot_ne (Or.inr (hw _ (List.mem_of_getElem? (i := 45) rfl))) (Or.inr (hw _ (List.mem_of_getElem? (i := 61) rfl))) (by decide) (t := .int) (t' := (.object "java/lang/String")) (by decide) (by decide)))
  have F_developerPayload_xa := F_developerPayload_xa.other W9 (Or.inr (slot_ne (Or.inr (hw _ (List.mem_of_getElem? (i := 47) rfl))) (Or.inr (hw _ (List.mem_of_getElem? (i := 61) rfl))) (by decide) (t := (.object "java/lang/String")) (t' := (.object "java/lang/String")) (by decide) (by decide)))
  have F_purchaseState_xa := F_purchaseState_xa.other W9 (Or.inr (slot_ne (Or.inr (hw _ (List.mem_of_getElem? (i := 49) rfl))) (Or.inr (hw _ (List.mem_of_getElem? (i := 61) rfl))) (by decide) (t := .int) (t' := (.object "java/lang/String")) (by decide) (by decide)))
  have F_purchaseTime_xa := F_purchaseTime_xa.other W9 (Or.inr (slot_ne (Or.inr (hw _ (List.mem_of_getElem? (i := 51) rfl))) (Or.inr (hw _ (List.mem_of_getElem? (i := 61) rfl))) (by decide) (t := .long) (t' := (.object "java/lang/String")) (by decide) (by decide)))
  have F_acknowledgeState_xa := F_acknowledgeState_xa.other W9 (Or.inr (slot_ne (Or.inr (hw _ (List.mem_of_getElem? (i := 63) rfl))) (Or.inr (hw _ (List.mem_of_getElem? (i := 61) rfl))) (by decide) (t := .int) (t' := (.object "java/lang/String")) (by decide) (by decide)))
  have F_quantity_xa := F_quantity_xa.other W9 (Or.inr (slot_ne (Or.inr (hw _ (List.mem_of_getElem? (i := 65) rfl))) (Or.inr (hw _ (List.mem_of_getElem? (i := 61) rfl))) (by decide) (t := .int) (t' := (.object "java/lang/String")) (by decide) (by decide)))
  have F_market_xa := F_market_xa.other W9 (Or.inr (slot_ne (Or.inr (hw _ (List.mem_of_getElem? (i := 70) rfl))) (Or.inr (hw _ (List.mem_of_getElem? (i := 61) rfl))) (by decide) (t := (.object "com/example/arvi/arvi/model/Market")) (t' := (.object "java/lang/String")) (by decide) (by decide)))
  have E_xs := E_xs.wr W9
  have E_xk := E_xk.wr W9
  have O0 := O0.wr W9 g_xa
  have hk := Nat.le_trans hk (Keep.of_wr W9).1
  have K0 := K0.wr W9 (Or.inl (List.mem_of_getElem? (i := 0) rfl))
  have N9 := Fr.snoc X9 N7 g_xa
  refine Goes.to (T' := T9.setTop (mkF m 39 #[.val (.ref xa), .val (.int p1), .val .null, .val (.int p3), .val (.long q4), .second, .val (.ref xs), .val (.int p6), .val (.int p7), .val (.ref xk)] [])) st9 ?_
  refine Goes.to (T' := T9.setTop (mkF m 40 #[.val (.ref xa), .val (.int p1), .val .null, .val (.int p3), .val (.long q4), .second, .val (.ref xs), .val (.int p6), .val (.int p7), .val (.ref xk)] [(.ref xa)])) (fun t k => XS.aloadN X9.here hx rfl (hb hby d8_39) rfl rfl k) ?_
  refine Goes.to (T' := T9.setTop (mkF m 42 #[.val (.ref xa), .val (.int p1), .val .null, .val (.int p3), .val (.long q4), .second, .val (.ref xs), .val (.int p6), .val (.int p7), .val (.ref xk)] [(.int p6), (.ref xa)])) (fun t k => XS.iload X9.here hx rfl (hb hby d8_40) rfl k) ?_
  obtain ⟨T10, h10, X10, e10, W10, st10⟩ := putF X9 hx hZ hown (host := "") (Or.inl (hw _ (List.mem_of_getElem? (i := 62) rfl))) Via.refl e9 F_acknowledgeState_xa E_xa (Or.inr ⟨(hw _ (List.mem_of_getElem? (i := 63) rfl)), rfl, hnm⟩) (hw _ (List.mem_of_getElem? (i := 38) rfl)) (ty := .int) (by decide) rfl rfl (g := (mkF m 42 #[.val (.ref xa), .val (.int p1), .val .null, .val (.int p3), .val (.long q4), .second, .val (.ref xs), .val (.int p6), .val (.int p7), .val (.ref xk)] [(.int p6), (.ref xa)])) rfl rfl (hb hby d8_42)
  have F_acknowledgeState_xa := F_acknowledgeState_xa.same W10
  have E_xa := E_xa.wr W10
  have F_consumptionState_xa := F_consumptionState_xa.other W10 (Or.inr (slot_ne (Or.inr (hw _ (List.mem_of_getElem? (i := 45) rfl))) (Or.inr (hw _ (List.mem_of_getElem? (i := 63) rfl))) (by decide) (t := .int) (t' := .int) (by decide) (by decide)))
  have F_developerPayload_xa := F_developerPayload_xa.other W10 (Or.inr (slot_ne (Or.inr (hw _ (List.mem_of_getElem? (i := 47) rfl))) (Or.inr (hw _ (List.mem_of_getElem? (i := 63) rfl))) (by decide) (t := (.object "java/lang/String")) (t' := .int) (by decide) (by decide)))
  have F_purchaseState_xa := F_purchaseState_xa.other W10 (Or.inr (slot_ne (Or.inr (hw _ (List.mem_of_getElem? (i := 49) rfl))) (Or.inr (hw _ (List.mem_of_getElem? (i := 63) rfl))) (by decide) (t := .int) (t' := .int) (by decide) (by decide)))
  have F_purchaseTime_xa := F_purchaseTime_xa.other W10 (Or.inr (slot_ne (Or.inr (hw _ (List.mem_of_getElem? (i := 51) rfl))) (Or.inr (hw _ (List.mem_of_getElem? (i := 63) rfl))) (by decide) (t := .long) (t' := .int) (by decide) (by decide)))
  have F_purchaseId_xa := F_purchaseId_xa.other W10 (Or.inr (slot_ne (Or.inr (hw _ (List.mem_of_getElem? (i := 61) rfl))) (Or.inr (hw _ (List.mem_of_getElem? (i := 63) rfl))) (by decide) (t := (.object "java/lang/String")) (t' := .int) (by decide) (by decide)))
  have F_quantity_xa := F_quantity_xa.other W10 (Or.inr (slot_ne (Or.inr (hw _ (List.mem_of_getElem? (i := 65) rfl))) (Or.inr (hw _ (List.mem_of_getElem? (i := 63) rfl))) (by decide) (t := .int) (t' := .int) (by decide) (by decide)))
  have F_market_xa := F_market_xa.other W10 (Or.inr (slot_ne (Or.inr (hw _ (List.mem_of_getElem? (i := 70) rfl))) (Or.inr (hw _ (List.mem_of_getElem? (i := 63) rfl))) (by decide) (t := (.object "com/example/arvi/arvi/model/Market")) (t' := .int) (by decide) (by decide)))
  have E_xs := E_xs.wr W10
  have E_xk := E_xk.wr W10
  have O0 := O0.wr W10 g_xa
  have hk := Nat.le_trans hk (Keep.of_wr W10).1
  have K0 := K0.wr W10 (Or.inl (List.mem_of_getElem? (i := 0) rfl))
  have N10 := Fr.snoc X10 N9 g_xa
  refine Goes.to (T' := T10.setTop (mkF m 45 #[.val (.ref xa), .val (.int p1), .val .null, .val (.int p3), .val (.long q4), .second, .val (.ref xs), .val (.int p6), .val (.int p7), .val (.ref xk)] [])) st10 ?_
  refine Goes.to (T' := T10.setTop (mkF m 46 #[.val (.ref xa), .val (.int p1), .val .null, .val (.int p3), .val (.long q4), .second, .val (.ref xs), .val (.int p6), .val (.int p7), .val (.ref xk)] [(.ref xa)])) (fun t k => XS.aloadN X10.here hx rfl (hb hby d8_45) rfl rfl k) ?_
  refine Goes.to (T' := T10.setTop (mkF m 48 #[.val (.ref xa), .val (.int p1), .val .null, .val (.int p3), .val (.long q4), .second, .val (.ref xs), .val (.int p6), .val (.int p7), .val (.ref xk)] [(.int p7), (.ref xa)])) (fun t k => XS.iload X10.here hx rfl (hb hby d8_46) rfl k) ?_
  obtain ⟨T11, h11, X11, e11, W11, st11⟩ := putF X10 hx hZ hown (host := "") (Or.inl (hw _ (List.mem_of_getElem? (i := 64) rfl))) Via.refl e10 F_quantity_xa E_xa (Or.inr ⟨(hw _ (List.mem_of_getElem? (i := 65) rfl)), rfl, hnm⟩) (hw _ (List.mem_of_getElem? (i := 38) rfl)) (ty := .int) (by decide) rfl rfl (g := (mkF m 48 #[.val (.ref xa), .val (.int p1), .val .null, .val (.int p3), .val (.long q4), .second, .val (.ref xs), .val (.int p6), .val (.int p7), .val (.ref xk)] [(.int p7), (.ref xa)])) rfl rfl (hb hby d8_48)
  have F_quantity_xa := F_quantity_xa.same W11
  have E_xa := E_xa.wr W11
  have F_consumptionState_xa := F_consumptionState_xa.other W11 (Or.inr (slot_ne (Or.inr (hw _ (List.mem_of_getElem? (i := 45) rfl))) (Or.inr (hw _ (List.mem_of_getElem? (i := 65) rfl))) (by decide) (t := .int) (t' := .int) (by decide) (by decide)))
  have F_developerPayload_xa := F_developerPayload_xa.other W11 (Or.inr (slot_ne (Or.inr (hw _ (List.mem_of_getElem? (i := 47) rfl))) (Or.inr (hw _ (List.mem_of_getElem? (i := 65) rfl))) (by decide) (t := (.object "java/lang/String")) (t' := .int) (by decide) (by decide)))
  have F_purchaseState_xa := F_purchaseState_xa.other W11 (Or.inr (slot_ne (Or.inr (hw _ (List.mem_of_getElem? (i := 49) rfl))) (Or.inr (hw _ (List.mem_of_getElem? (i := 65) rfl))) (by decide) (t := .int) (t' := .int) (by decide) (by decide)))
  have F_purchaseTime_xa := F_purchaseTime_xa.other W11 (Or.inr (slot_ne (Or.inr (hw _ (List.mem_of_getElem? (i := 51) rfl))) (Or.inr (hw _ (List.mem_of_getElem? (i := 65) rfl))) (by decide) (t := .long) (t' := .int) (by decide) (by decide)))
  have F_purchaseId_xa := F_purchaseId_xa.other W11 (Or.inr (slot_ne (Or.inr (hw _ (List.mem_of_getElem? (i := 61) rfl))) (Or.inr (hw _ (List.mem_of_getElem? (i := 65) rfl))) (by decide) (t := (.object "java/lang/String")) (t' := .int) (by decide) (by decide)))
  have F_acknowledgeState_xa := F_acknowledgeState_xa.other W11 (Or.inr (slot_ne (Or.inr (hw _ (List.mem_of_getElem? (i := 63) rfl))) (Or.inr (hw _ (List.mem_of_getElem? (i := 65) rfl))) (by decide) (t := .int) (t' := .int) (by decide) (by decide)))
  have F_market_xa := F_market_xa.other W11 (Or.inr (slot_ne (Or.inr (hw _ (List.mem_of_getElem? (i := 70) rfl))) (Or.inr (hw _ (List.mem_of_getElem? (i := 65) rfl))) (by decide) (t := (.object "com/example/arvi/arvi/model/Market")) (t' := .int) (by decide) (by decide)))
  have E_xs := E_xs.wr W11
  have E_xk := E_xk.wr W11
  have O0 := O0.wr W11 g_xa
  have hk := Nat.le_trans hk (Keep.of_wr W11).1
  have K0 := K0.wr W11 (Or.inl (List.mem_of_getElem? (i := 0) rfl))
  have N11 := Fr.snoc X11 N10 g_xa
  refine Goes.to (T' := T11.setTop (mkF m 51 #[.val (.ref xa), .val (.int p1), .val .null, .val (.int p3), .val (.long q4), .second, .val (.ref xs), .val (.int p6), .val (.int p7), .val (.ref xk)] [])) st11 ?_
  refine Goes.to (T' := T11.setTop (mkF m 52 #[.val (.ref xa), .val (.int p1), .val .null, .val (.int p3), .val (.long q4), .second, .val (.ref xs), .val (.int p6), .val (.int p7), .val (.ref xk)] [(.ref xa)])) (fun t k => XS.aloadN X11.here hx rfl (hb hby d8_51) rfl rfl k) ?_
  refine Goes.to (T' := T11.setTop (mkF m 54 #[.val (.ref xa), .val (.int p1), .val .null, .val (.int p3), .val (.long q4), .second, .val (.ref xs), .val (.int p6), .val (.int p7), .val (.ref xk)] [(.ref xk), (.ref xa)])) (fun t k => XS.aload X11.here hx rfl (hb hby d8_52) rfl rfl k) ?_
  obtain ⟨b12, T12, h12, kS12, X12, e12, E12, hS, hk, hZ, hown, st12⟩ := ldcS X11 hx hZ hown (hw _ (List.mem_of_getElem? (i := 66) rfl)) own_strw e11 hS hk (g := (mkF m 54 #[.val (.ref xa), .val (.int p1), .val .null, .val (.int p3), .val (.long q4), .second, .val (.ref xs), .val (.int p6), .val (.int p7), .val (.ref xk)] [(.ref xk), (.ref xa)])) rfl (hb hby d8_54) (n := 24) (by decide) (by decide) (by decide) (by decide)
  have E_xa := E_xa.ext E12
  have F_consumptionState_xa := F_consumptionState_xa.ext E12
  have F_developerPayload_xa := F_developerPayload_xa.ext E12
  have F_purchaseState_xa := F_purchaseState_xa.ext E12
  have F_purchaseTime_xa := F_purchaseTime_xa.ext E12
  have F_purchaseId_xa := F_purchaseId_xa.ext E12
  have F_acknowledgeState_xa := F_acknowledgeState_xa.ext E12
  have F_quantity_xa := F_quantity_xa.ext E12
  have F_market_xa := F_market_xa.ext E12
  have E_xs := E_xs.ext E12
  have E_xk := E_xk.ext E12
  have O0 := O0.ext E12
  have K0 := K0.ext E12
  refine Goes.to (T' := T12.setTop (mkF m 56 #[.val (.ref xa), .val (.int p1), .val .null, .val (.int p3), .val (.long q4), .second, .val (.ref xs), .val (.int p6), .val (.int p7), .val (.ref xk)] [(.ref b12), (.ref xk), (.ref xa)])) st12 ?_
  obtain ⟨_, _, ⟨T13, L13, k13, n13⟩, -, X13, ⟨Lc13, hQ13, l13, y13, z13⟩, st13⟩ := Jvm.LawKit.callS X12 hx (y := (⟨"java/util/Objects", "requireNonNull", "(Ljava/lang/Object;Ljava/lang/String;)Ljava/lang/Object;"⟩ : MethodName)) hown (mvT hZ (hw _ (List.mem_of_getElem? (i := 55) rfl))) (mvT hZ (hw _ (List.mem_of_getElem? (i := 56) rfl))) (mvT hZ (hw _ (List.mem_of_getElem? (i := 57) rfl))) (mvT hZ (hw _ (List.mem_of_getElem? (i := 58) rfl))) (by decide) (backOf (W := 1) (rmQ l Z a0 hw [] xk b12 w_Market_MKT_GLB w_Market_MKT_ONE z_cs  h12 n0 O0 NF ) hZ (hw _ (List.mem_of_getElem? (i := 58) rfl)) (hw _ (List.mem_of_getElem? (i := 57) rfl)) (by decide) (by decide)) (g := (mkF m 56 #[.val (.ref xa), .val (.int p1), .val .null, .val (.int p3), .val (.long q4), .second, .val (.ref xs), .val (.int p6), .val (.int p7), .val (.ref xk)] [(.ref b12), (.ref xk), (.ref xa)])) rfl (by rw [hml]; rfl) (argsL := [(.ref xk), (.ref b12)]) (rest := [(.ref xa)]) (lenOf pd_41 rfl) rfl (by show 2 * 0 + _ ≤ _; exact Nat.le_of_eq rfl) (hb hby d8_56) (fun _ _ => ⟨rfl, e12, (by decide : 4 + 0 ≤ _), (by decide : 72 + 0 ≤ _)⟩)
  dsimp only [Pt.U, Pt.locs, Pt.cells, Pt.slots] at X13 l13 y13 z13 st13 hQ13
  subst l13 y13 z13
  obtain ⟨rfl, Nq13, e13⟩ := hQ13
  have N13 := Fr.app N11 Nq13
  refine Goes.to (T' := T13.setTop (mkF m 59 #[.val (.ref xa), .val (.int p1), .val .null, .val (.int p3), .val (.long q4), .second, .val (.ref xs), .val (.int p6), .val (.int p7), .val (.ref xk)] [(.ref xk), (.ref xa)])) st13 ?_
  obtain ⟨T14, X14, e14, st14⟩ := castY X13 hx hZ hown (hw _ (List.mem_of_getElem? (i := 67) rfl)) e13 (Ins.self E_xk) (g := (mkF m 59 #[.val (.ref xa), .val (.int p1), .val .null, .val (.int p3), .val (.long q4), .second, .val (.ref xs), .val (.int p6), .val (.int p7), .val (.ref xk)] [(.ref xk), (.ref xa)])) rfl rfl (hb hby d8_59)
  refine Goes.to (T' := T14.setTop (mkF m 62 #[.val (.ref xa), .val (.int p1), .val .null, .val (.int p3), .val (.long q4), .second, .val (.ref xs), .val (.int p6), .val (.int p7), .val (.ref xk)] [(.ref xk), (.ref xa)])) st14 ?_
  obtain ⟨T15, h15, X15, e15, W15, st15⟩ := putF X14 hx hZ hown (host := "") (Or.inl (hw _ (List.mem_of_getElem? (i := 69) rfl))) Via.refl e14 F_market_xa E_xa (Or.inr ⟨(hw _ (List.mem_of_getElem? (i := 70) rfl)), rfl, hnm⟩) (hw _ (List.mem_of_getElem? (i := 38) rfl)) (ty := (.object "com/example/arvi/arvi/model/Market")) (by decide) rfl rfl (g := (mkF m 62 #[.val (.ref xa), .val (.int p1), .val .null, .val (.int p3), .val (.long q4), .second, .val (.ref xs), .val (.int p6), .val (.int p7), .val (.ref xk)] [(.ref xk), (.ref xa)])) rfl rfl (hb hby d8_62)
  have F_market_xa := F_market_xa.same W15
  have E_xa := E_xa.wr W15
  have F_consumptionState_xa := F_consumptionState_xa.other W15 (Or.inr (slot_ne (Or.inr (hw _ (List.mem_of_getElem? (i := 45) rfl))) (Or.inr (hw _ (List.mem_of_getElem? (i := 70) rfl))) (by decide) (t := .int) (t' := (.object "com/example/arvi/arvi/model/Market")) (by decide) (by decide)))
  have F_developerPayload_xa := F_developerPayload_xa.other W15 (Or.inr (slot_ne (Or.inr (hw _ (List.mem_of_getElem? (i := 47) rfl))) (Or.inr (hw _ (List.mem_of_getElem? (i := 70) rfl))) (by decide) (t := (.object "java/lang/String")) (t' := (.object "com/example/arvi/arvi/model/Market")) (by decide) (by decide)))
  have F_purchaseState_xa := F_purchaseState_xa.other W15 (Or.inr (slot_ne (Or.inr (hw _ (List.mem_of_getElem? (i := 49) rfl))) (Or.inr (hw _ (List.mem_of_getElem? (i := 70) rfl))) (by decide) (t := .int) (t' := (.object "com/example/arvi/arvi/model/Market")) (by decide) (by decide)))
  have F_purchaseTime_xa := F_purchaseTime_xa.other W15 (Or.inr (slot_ne (Or.inr (hw _ (List.mem_of_getElem? (i := 51) rfl))) (Or.inr (hw _ (List.mem_of_getElem? (i := 70) rfl))) (by decide) (t := .long) (t' := (.object "com/example/arvi/arvi/model/Market")) (by decide) (by decide)))
  have F_purchaseId_xa := F_purchaseId_xa.other W15 (Or.inr (slot_ne (Or.inr (hw _ (List.mem_of_getElem? (i := 61) rfl))) (Or.inr (hw _ (List.mem_of_getElem? (i := 70) rfl))) (by decide) (t := (.object "java/lang/String")) (t' := (.object "com/example/arvi/arvi/model/Market")) (by decide) (by decide)))
  have F_acknowledgeState_xa := F_acknowledgeState_xa.other W15 (Or.inr (slot_ne (Or.inr (hw _ (List.mem_of_getElem? (i := 63) rfl))) (Or.inr (hw _ (List.mem_of_getElem? (i := 70) rfl))) (by decide) (t := .int) (t' := (.object "com/example/arvi/arvi/model/Market")) (by decide) (by decide)))
  have F_quantity_xa := F_quantity_xa.other W15 (Or.inr (slot_ne (Or.inr (hw _ (List.mem_of_getElem? (i := 65) rfl))) (Or.inr (hw _ (List.mem_of_getElem? (i := 70) rfl))) (by decide) (t := .int) (t' := (.object "com/example/arvi/arvi/model/Market")) (by decide) (by decide)))
  have E_xs := E_xs.wr W15
  have E_xk := E_xk.wr W15
  have O0 := O0.wr W15 g_xa
  have hk := Nat.le_trans hk (Keep.of_wr W15).1
  have K0 := K0.wr W15 (Or.inl (List.mem_of_getElem? (i := 0) rfl))
  have N15 := Fr.snoc X15 N13 g_xa
  refine Goes.to (T' := T15.setTop (mkF m 65 #[.val (.ref xa), .val (.int p1), .val .null, .val (.int p3), .val (.long q4), .second, .val (.ref xs), .val (.int p6), .val (.int p7), .val (.ref xk)] [])) st15 ?_
  obtain ⟨fs, hrL, hrun, hended, hRW⟩ := X15.leaveW hS (by rw [e15]; exact hk) (v := none) (fun _ => rfl)
  subst hQf
  refine ⟨_, _, X15.returnOut hx Bd.returns (hb hby d8_65) hrL, hrun, hended, _, _, rfl, ?_, hRW.1, hRW.2.1, hRW.2.2.1, hRW.2.2.2.mono (by decide) (by decide)⟩
  show (fun (v : Option Value) (h : Heap) (L : List Loc) => v = none ∧ Fr n0 L ∧ Keep h0 h [xa] ∧ Fld Z h xa "com/example/arvi/arvi/model/PurchaseDetails" "consumptionState" "I" (.int p1) ∧ Fld Z h xa "com/example/arvi/arvi/model/PurchaseDetails" "acknowledgeState" "I" (.int p6)) (none) T15.heap _
  rw [e15]
  exact ⟨rfl, N15, K0, F_consumptionState_xa, F_acknowledgeState_xa⟩
theorem ef_rmI1 (m : MethodId) (x0 : Addr) (x1 : Int32) (x2 : Addr) (x3 : Int32) (x4 : Int64) (x5 : Addr) (x6 : Int32) (x7 : Int32) (x8 : Addr) : entryFrame m #[(.ref x0), (.int x1), (.ref x2), (.int x3), (.long x4), (.ref x5), (.int x6), (.int x7), (.ref x8)] 10 = mkF m 0 #[.val (.ref x0), .val (.int x1), .val (.ref x2), .val (.int x3), .val (.long x4), .second, .val (.ref x5), .val (.int x6), .val (.int x7), .val (.ref x8)] [] := by first | (simp [entryFrame, mkF, argsToLocals, Value.category]; done) | rfl
def Q_rmI1 (Z : State) (xa : Addr) (p1 : Int32) (xp : Addr) (p3 : Int32) (q4 : Int64) (xs : Addr) (p6 : Int32) (p7 : Int32) (xk : Addr) (w_Market_MKT_GLB : Addr) (w_Market_MKT_ONE : Addr) (z_cs : Int32) (h0 : Heap) (n0 : Nat) (v : Option Value) (h : Heap) (L : List Loc) : Prop := v = none ∧ Fr n0 L ∧ Keep h0 h [xa] ∧ Fld Z h xa "com/example/arvi/arvi/model/PurchaseDetails" "consumptionState" "I" (.int p1) ∧ Fld Z h xa "com/example/arvi/arvi/model/PurchaseDetails" "acknowledgeState" "I" (.int p6)
set_option maxRecDepth 65536 in
set_option maxHeartbeats 40000000 in
theorem rmI1 (l : Launch) (Z : State) (a0 : Array Value) (hw : ∀ d ∈ tables_1, d.before a0 Z = true) (ws : List Jvm.Cond) (xa : Addr) (p1 : Int32) (xp : Addr) (p3 : Int32) (q4 : Int64) (xs : Addr) (p6 : Int32) (p7 : Int32) (xk : Addr) (w_Market_MKT_GLB : Addr) (w_Market_MKT_ONE : Addr) (z_cs : Int32) (h0 : Heap) (n0 : Nat) (O0 : Old Z n0 h0) (NF : Nar Z w_Market_MKT_GLB w_Market_MKT_ONE z_cs) (E_xa : Exa Z h0 xa "com/example/arvi/arvi/model/PurchaseDetails") (F_consumptionState_xa : Fld Z h0 xa "com/example/arvi/arvi/model/PurchaseDetails" "consumptionState" "I" (.int (0 : Int32))) (F_developerPayload_xa : Fld Z h0 xa "com/example/arvi/arvi/model/PurchaseDetails" "developerPayload" "Ljava/lang/String;" .null) (F_purchaseState_xa : Fld Z h0 xa "com/example/arvi/arvi/model/PurchaseDetails" "purchaseState" "I" (.int (0 : Int32))) (F_purchaseTime_xa : Fld Z h0 xa "com/example/arvi/arvi/model/PurchaseDetails" "purchaseTime" "J" (.long (0 : Int64))) (F_purchaseId_xa : Fld Z h0 xa "com/example/arvi/arvi/model/PurchaseDetails" "purchaseId" "Ljava/lang/String;" .null) (F_acknowledgeState_xa : Fld Z h0 xa "com/example/arvi/arvi/model/PurchaseDetails" "acknowledgeState" "I" (.int (0 : Int32))) (F_quantity_xa : Fld Z h0 xa "com/example/arvi/arvi/model/PurchaseDetails" "quantity" "I" (.int (0 : Int32))) (F_market_xa : Fld Z h0 xa "com/example/arvi/arvi/model/PurchaseDetails" "market" "Lcom/example/arvi/arvi/model/Market;" .null) (E_xs : Exa Z h0 xs "java/lang/String") (E_xk : Exa Z h0 xk "com/example/arvi/arvi/model/Market") (g_xa : n0 ≤ xa) (ne_xs_xa : xs ≠ xa) (ne_xk_xa : xk ≠ xa) :
    MetFree l (⟨"com/example/arvi/arvi/model/PurchaseDetails", "<init>", "(ILjava/lang/String;IJLjava/lang/String;IILcom/example/arvi/arvi/model/Market;)V"⟩ : MethodName) (head1 (Jvm.Cond.code (⟨"com/example/arvi/arvi/model/PurchaseDetails", "<init>", "(ILjava/lang/String;IJLjava/lang/String;IILcom/example/arvi/arvi/model/Market;)V"⟩ : MethodName) prog_24_method_1_code 10 none :: ws) ({ frames := 1, cells := 4, slots := 72, locals := 40 } : Room)) (fun a U => a = #[(.ref xa), (.int p1), (.ref xp), (.int p3), (.long q4), (.ref xs), (.int p6), (.int p7), (.ref xk)] ∧ Z.Warmed39 U.vm ∧ U.heap = h0) (fun _ _ _ _ _ => True) (fun _ U o U' => ∃ v L, o = .returned v ∧ Q_rmI1 Z xa p1 xp p3 q4 xs p6 p7 xk w_Market_MKT_GLB w_Market_MKT_ONE z_cs h0 n0 v U'.heap L ∧ ReturnedEndW U o U' L ({ frames := 1, cells := 4, slots := 72, locals := 40 } : Room).cells ({ frames := 1, cells := 4, slots := 72, locals := 40 } : Room).slots) := by
  refine MetFree.of_bodySF (plainFor_of_name pn_8) hisR ?_
  intro p e s m args below meth c s₁ Bd hml0 hP hK
  obtain ⟨rfl, hZ, hh⟩ := hP
  have hx := Bd.exec
  have hby := Bd.bytes
  have hml : c.maxLocals = 10 := hml0
  have hown : s.vm.findClass "com/example/arvi/arvi/model/PurchaseDetails" = some m.cls := findClass_of_methodNamed Bd.named
  have hnm := (name_of_methodNamed Bd.named Bd.method).1
  have X0 : Stand p l e ({ frames := 1, cells := 4, slots := 72, locals := 40 } : Room) (s.setVm s.vm) m #[(.ref xa), (.int p1), (.ref xp), (.int p3), (.long q4), (.ref xs), (.int p6), (.int p7), (.ref xk)] below meth c s₁ [] 0 0 := Stand.of_body Bd
  have e0 : s₁.heap = h0 := by rw [← hh, Bd.state]; rfl
  have N0 := Fr.nil n0
  have hZ : Z.Warmed39 (s.setVm s.vm).vm := hZ
  have hown : (s.setVm s.vm).vm.findClass "com/example/arvi/arvi/model/PurchaseDetails" = some m.cls := hown
  have hS : s.Since s.vm h0.size := (State.WarmedH.refl s).since _
  have hk : h0.size ≤ h0.size := Nat.le_refl _
  have own_strw : ∀ a ∈ Bundle.stringAtoms, a.before a0 Z = true := fun d hd => hw d ((by decide +kernel : ∀ d ∈ Bundle.stringAtoms, d ∈ tables_1) d hd)
  have K0 := Keep.refl h0 [xa]
  suffices G : ∀ (Qf : Outcome → State → Prop), Qf = (fun (_ : Array Value) (U : State) (o : Outcome) (U' : State) => ∃ v L, o = .returned v ∧ Q_rmI1 Z xa p1 xp p3 q4 xs p6 p7 xk w_Market_MKT_GLB w_Market_MKT_ONE z_cs h0 n0 v U'.heap L ∧ ReturnedEndW U o U' L ({ frames := 1, cells := 4, slots := 72, locals := 40 } : Room).cells ({ frames := 1, cells := 4, slots := 72, locals := 40 } : Room).slots) #[] s → Goes p.tables e below Qf (s₁.setTop (mkF m 0 #[.val (.ref xa), .val (.int p1), .val (.ref xp), .val (.int p3), .val (.long q4), .second, .val (.ref xs), .val (.int p6), .val (.int p7), .val (.ref xk)] [])) by
    obtain ⟨s₂, o, g1, g2, g3, g4⟩ := G _ rfl
    exact ⟨s₂, o, castTop (ef_rmI1 m _ _ _ _ _ _ _ _ _) g1, g2, g3, g4⟩
  intro Qf hQf
  obtain ⟨S_w_Market_MKT_GLB, E_w_Market_MKT_GLB, S_w_Market_MKT_ONE, E_w_Market_MKT_ONE, S_cs, nz_cs⟩ := id NF
  refine Goes.to (T' := s₁.setTop (mkF m 1 #[.val (.ref xa), .val (.int p1), .val (.ref xp), .val (.int p3), .val (.long q4), .second, .val (.ref xs), .val (.int p6), .val (.int p7), .val (.ref xk)] [(.ref xa)])) (fun t k => XS.aloadN X0.here hx rfl (hb hby d8_0) rfl rfl k) ?_
  obtain ⟨T1, X1, e1, st1⟩ := initO X0 hx hZ hown (hw _ (List.mem_of_getElem? (i := 43) rfl)) (hw _ (List.mem_of_getElem? (i := 19) rfl)) (hw _ (List.mem_of_getElem? (i := 20) rfl)) e0 (g := (mkF m 1 #[.val (.ref xa), .val (.int p1), .val (.ref xp), .val (.int p3), .val (.long q4), .second, .val (.ref xs), .val (.int p6), .val (.int p7), .val (.ref xk)] [(.ref xa)])) rfl (by rw [hml]; rfl) rfl (hb hby d8_1) (by decide) (W := 0) (by show 2 * 0 + _ ≤ _; exact Nat.le_of_eq rfl) (by decide)
  refine Goes.to (T' := T1.setTop (mkF m 4 #[.val (.ref xa), .val (.int p1), .val (.ref xp), .val (.int p3), .val (.long q4), .second, .val (.ref xs), .val (.int p6), .val (.int p7), .val (.ref xk)] [])) st1 ?_
  refine Goes.to (T' := T1.setTop (mkF m 5 #[.val (.ref xa), .val (.int p1), .val (.ref xp), .val (.int p3), .val (.long q4), .second, .val (.ref xs), .val (.int p6), .val (.int p7), .val (.ref xk)] [(.ref xa)])) (fun t k => XS.aloadN X1.here hx rfl (hb hby d8_4) rfl rfl k) ?_
  refine Goes.to (T' := T1.setTop (mkF m 6 #[.val (.ref xa), .val (.int p1), .val (.ref xp), .val (.int p3), .val (.long q4), .second, .val (.ref xs), .val (.int p6), .val (.int p7), .val (.ref xk)] [(.int p1), (.ref xa)])) (fun t k => XS.iloadN X1.here hx rfl (hb hby d8_5) rfl k) ?_
  obtain ⟨T2, h2, X2, e2, W2, st2⟩ := putF X1 hx hZ hown (host := "") (Or.inl (hw _ (List.mem_of_getElem? (i := 44) rfl))) Via.refl e1 F_consumptionState_xa E_xa (Or.inr ⟨(hw _ (List.mem_of_getElem? (i := 45) rfl)), rfl, hnm⟩) (hw _ (List.mem_of_getElem? (i := 38) rfl)) (ty := .int) (by decide) rfl rfl (g := (mkF m 6 #[.val (.ref xa), .val (.int p1), .val (.ref xp), .val (.int p3), .val (.long q4), .second, .val (.ref xs), .val (.int p6), .val (.int p7), .val (.ref xk)] [(.int p1), (.ref xa)])) rfl rfl (hb hby d8_6)
  have F_consumptionState_xa := F_consumptionState_xa.same W2
  have E_xa := E_xa.wr W2
  have F_developerPayload_xa := F_developerPayload_xa.other W2 (Or.inr (slot_ne (Or.inr (hw _ (List.mem_of_getElem? (i := 47) rfl))) (Or.inr (hw _ (List.mem_of_getElem? (i := 45) rfl))) (by decide) (t := (.object "java/lang/String")) (t' := .int) (by decide) (by decide)))
  have F_purchaseState_xa := F_purchaseState_xa.other W2 (Or.inr (slot_ne (Or.inr (hw _ (List.mem_of_getElem? (i := 49) rfl))) (Or.inr (hw _ (List.mem_of_getElem? (i := 45) rfl))) (by decide) (t := .int) (t' := .int) (by decide) (by decide)))
  have F_purchaseTime_xa := F_purchaseTime_xa.other W2 (Or.inr (slot_ne (Or.inr (hw _ (List.mem_of_getElem? (i := 51) rfl))) (Or.inr (hw _ (List.mem_of_getElem? (i := 45) rfl))) (by decide) (t := .long) (t' := .int) (by decide) (by decide)))
  have F_purchaseId_xa := F_purchaseId_xa.other W2 (Or.inr (slot_ne (Or.inr (hw _ (List.mem_of_getElem? (i := 61) rfl))) (Or.inr (hw _ (List.mem_of_getElem? (i := 45) rfl))) (by decide) (t := (.object "java/lang/String")) (t' := .int) (by decide) (by decide)))
  have F_acknowledgeState_xa := F_acknowledgeState_xa.other W2 (Or.inr (slot_ne (Or.inr (hw _ (List.mem_of_getElem? (i := 63) rfl))) (Or.inr (hw _ (List.mem_of_getElem? (i := 45) rfl))) (by decide) (t := .int) (t' := .int) (by decide) (by decide)))
  have F_quantity_xa := F_quantity_xa.other W2 (Or.inr (slot_ne (Or.inr (hw _ (List.mem_of_getElem? (i := 65) rfl))) (Or.inr (hw _ (List.mem_of_getElem? (i := 45) rfl))) (by decide) (t := .int) (t' := .int) (by decide) (by decide)))
  have F_market_xa := F_market_xa.other W2 (Or.inr (slot_ne (Or.inr (hw _ (List.mem_of_getElem? (i := 70) rfl))) (Or.inr (hw _ (List.mem_of_getElem? (i := 45) rfl))) (by decide) (t := (.object "com/example/arvi/arvi/model/Market")) (t' := .int) (by decide) (by decide)))
  have E_xs := E_xs.wr W2
  have E_xk := E_xk.wr W2
  have O0 := O0.wr W2 g_xa
  have hk := Nat.le_trans hk (Keep.of_wr W2).1
  have K0 := K0.wr W2 (Or.inl (List.mem_of_getElem? (i := 0) rfl))
  have N2 := Fr.snoc X2 N0 g_xa
  refine Goes.to (T' := T2.setTop (mkF m 9 #[.val (.ref xa), .val (.int p1), .val (.ref xp), .val (.int p3), .val (.long q4), .second, .val (.ref xs), .val (.int p6), .val (.int p7), .val (.ref xk)] [])) st2 ?_
  refine Goes.to (T' := T2.setTop (mkF m 10 #[.val (.ref xa), .val (.int p1), .val (.ref xp), .val (.int p3), .val (.long q4), .second, .val (.ref xs), .val (.int p6), .val (.int p7), .val (.ref xk)] [(.ref xa)])) (fun t k => XS.aloadN X2.here hx rfl (hb hby d8_9) rfl rfl k) ?_
  refine Goes.to (T' := T2.setTop (mkF m 11 #[.val (.ref xa), .val (.int p1), .val (.ref xp), .val (.int p3), .val (.long q4), .second, .val (.ref xs), .val (.int p6), .val (.int p7), .val (.ref xk)] [(.ref xp), (.ref xa)])) (fun t k => XS.aloadN X2.here hx rfl (hb hby d8_10) rfl rfl k) ?_
  obtain ⟨T3, h3, X3, e3, W3, st3⟩ := putF X2 hx hZ hown (host := "") (Or.inl (hw _ (List.mem_of_getElem? (i := 46) rfl))) Via.refl e2 F_developerPayload_xa E_xa (Or.inr ⟨(hw _ (List.mem_of_getElem? (i := 47) rfl)), rfl, hnm⟩) (hw _ (List.mem_of_getElem? (i := 38) rfl)) (ty := (.object "java/lang/String")) (by decide) rfl rfl (g := (mkF m 11 #[.val (.ref xa), .val (.int p1), .val (.ref xp), .val (.int p3), .val (.long q4), .second, .val (.ref xs), .val (.int p6), .val (.int p7), .val (.ref xk)] [(.ref xp), (.ref xa)])) rfl rfl (hb hby d8_11)
  have F_developerPayload_xa := F_developerPayload_xa.same W3
  have E_xa := E_xa.wr W3
  have F_consumptionState_xa := F_consumptionState_xa.other W3 (Or.inr (slot_ne (Or.inr (hw _ (List.mem_of_getElem? (i := 45) rfl))) (Or.inr (hw _ (List.mem_of_getElem? (i := 47) rfl))) (by decide) (t := .int) (t' := (.object "java/lang/String")) (by decide) (by decide)))
  have F_purchaseState_xa := F_purchaseState_xa.other W3 (Or.inr (slot_ne (Or.inr (hw _ (List.mem_of_getElem? (i := 49) rfl))) (Or.inr (hw _ (List.mem_of_getElem? (i := 47) rfl))) (by decide) (t := .int) (t' := (.object "java/lang/String")) (by decide) (by decide)))
  have F_purchaseTime_xa := F_purchaseTime_xa.other W3 (Or.inr (slot_ne (Or.inr (hw _ (List.mem_of_getElem? (i := 51) rfl))) (Or.inr (hw _ (List.mem_of_getElem? (i := 47) rfl))) (by decide) (t := .long) (t' := (.object "java/lang/String")) (by decide) (by decide)))
  have F_purchaseId_xa := F_purchaseId_xa.other W3 (Or.inr (slot_ne (Or.inr (hw _ (List.mem_of_getElem? (i := 61) rfl))) (Or.inr (hw _ (List.mem_of_getElem? (i := 47) rfl))) (by decide) (t := (.object "java/lang/String")) (t' := (.object "java/lang/String")) (by decide) (by decide)))
  have F_acknowledgeState_xa := F_acknowledgeState_xa.other W3 (Or.inr (slot_ne (Or.inr (hw _ (List.mem_of_getElem? (i := 63) rfl))) (Or.inr (hw _ (List.mem_of_getElem? (i := 47) rfl))) (by decide) (t := .int) (t' := (.object "java/lang/String")) (by decide) (by decide)))
  have F_quantity_xa := F_quantity_xa.other W3 (Or.inr (slot_ne (Or.inr (hw _ (List.mem_of_getElem? (i := 65) rfl))) (Or.inr (hw _ (List.mem_of_getElem? (i := 47) rfl))) (by decide) (t := .int) (t' := (.object "java/lang/String")) (by decide) (by decide)))
  have F_market_xa := F_market_xa.other W3 (Or.inr (slot_ne (Or.inr (hw _ (List.mem_of_getElem? (i := 70) rfl))) (Or.inr (hw _ (List.mem_of_getElem? (i := 47) rfl))) (by decide) (t := (.object "com/example/arvi/arvi/model/Market")) (t' := (.object "java/lang/String")) (by decide) (by decide)))
  have E_xs := E_xs.wr W3
  have E_xk := E_xk.wr W3
  have O0 := O0.wr W3 g_xa
  have hk := Nat.le_trans hk (Keep.of_wr W3).1
  have K0 := K0.wr W3 (Or.inl (List.mem_of_getElem? (i := 0) rfl))
  have N3 := Fr.snoc X3 N2 g_xa
  refine Goes.to (T' := T3.setTop (mkF m 14 #[.val (.ref xa), .val (.int p1), .val (.ref xp), .val (.int p3), .val (.long q4), .second, .val (.ref xs), .val (.int p6), .val (.int p7), .val (.ref xk)] [])) st3 ?_
  refine Goes.to (T' := T3.setTop (mkF m 15 #[.val (.ref xa), .val (.int p1), .val (.ref xp), .val (.int p3), .val (.long q4), .second, .val (.ref xs), .val (.int p6), .val (.int p7), .val (.ref xk)] [(.ref xa)])) (fun t k => XS.aloadN X3.here hx rfl (hb hby d8_14) rfl rfl k) ?_
  refine Goes.to (T' := T3.setTop (mkF m 16 #[.val (.ref xa), .val (.int p1), .val (.ref xp), .val (.int p3), .val (.long q4), .second, .val (.ref xs), .val (.int p6), .val (.int p7), .val (.ref xk)] [(.int p3), (.ref xa)])) (fun t k => XS.iloadN X3.here hx rfl (hb hby d8_15) rfl k) ?_
  obtain ⟨T4, h4, X4, e4, W4, st4⟩ := putF X3 hx hZ hown (host := "") (Or.inl (hw _ (List.mem_of_getElem? (i := 48) rfl))) Via.refl e3 F_purchaseState_xa E_xa (Or.inr ⟨(hw _ (List.mem_of_getElem? (i := 49) rfl)), rfl, hnm⟩) (hw _ (List.mem_of_getElem? (i := 38) rfl)) (ty := .int) (by decide) rfl rfl (g := (mkF m 16 #[.val (.ref xa), .val (.int p1), .val (.ref xp), .val (.int p3), .val (.long q4), .second, .val (.ref xs), .val (.int p6), .val (.int p7), .val (.ref xk)] [(.int p3), (.ref xa)])) rfl rfl (hb hby d8_16)
  have F_purchaseState_xa := F_purchaseState_xa.same W4
  have E_xa := E_xa.wr W4
  have F_consumptionState_xa := F_consumptionState_xa.other W4 (Or.inr (slot_ne (Or.inr (hw _ (List.mem_of_getElem? (i := 45) rfl))) (Or.inr (hw _ (List.mem_of_getElem? (i := 49) rfl))) (by decide) (t := .int) (t' := .int) (by decide) (by decide)))
  have F_developerPayload_xa := F_developerPayload_xa.other W4 (Or.inr (slot_ne (Or.inr (hw _ (List.mem_of_getElem? (i := 47) rfl))) (Or.inr (hw _ (List.mem_of_getElem? (i := 49) rfl))) (by decide) (t := (.object "java/lang/String")) (t' := .int) (by decide) (by decide)))
  have F_purchaseTime_xa := F_purchaseTime_xa.other W4 (Or.inr (slot_ne (Or.inr (hw _ (List.mem_of_getElem? (i := 51) rfl))) (Or.inr (hw _ (List.mem_of_getElem? (i := 49) rfl))) (by decide) (t := .long) (t' := .int) (by decide) (by decide)))
  have F_purchaseId_xa := F_purchaseId_xa.other W4 (Or.inr (slot_ne (Or.inr (hw _ (List.mem_of_getElem? (i := 61) rfl))) (Or.inr (hw _ (List.mem_of_getElem? (i := 49) rfl))) (by decide) (t := (.object "java/lang/String")) (t' := .int) (by decide) (by decide)))
  have F_acknowledgeState_xa := F_acknowledgeState_xa.other W4 (Or.inr (slot_ne (Or.inr (hw _ (List.mem_of_getElem? (i := 63) rfl))) (Or.inr (hw _ (List.mem_of_getElem? (i := 49) rfl))) (by decide) (t := .int) (t' := .int) (by decide) (by decide)))
  have F_quantity_xa := F_quantity_xa.other W4 (Or.inr (slot_ne (Or.inr (hw _ (List.mem_of_getElem? (i := 65) rfl))) (Or.inr (hw _ (List.mem_of_getElem? (i := 49) rfl))) (by decide) (t := .int) (t' := .int) (by decide) (by decide)))
  have F_market_xa := F_market_xa.other W4 (Or.inr (slot_ne (Or.inr (hw _ (List.mem_of_getElem? (i := 70) rfl))) (Or.inr (hw _ (List.mem_of_getElem? (i := 49) rfl))) (by decide) (t := (.object "com/example/arvi/arvi/model/Market")) (t' := .int) (by decide) (by decide)))
  have E_xs := E_xs.wr W4
  have E_xk := E_xk.wr W4
  have O0 := O0.wr W4 g_xa
  have hk := Nat.le_trans hk (Keep.of_wr W4).1
  have K0 := K0.wr W4 (Or.inl (List.mem_of_getElem? (i := 0) rfl))
  have N4 := Fr.snoc X4 N3 g_xa
  refine Goes.to (T' := T4.setTop (mkF m 19 #[.val (.ref xa), .val (.int p1), .val (.ref xp), .val (.int p3), .val (.long q4), .second, .val (.ref xs), .val (.int p6), .val (.int p7), .val (.ref xk)] [])) st4 ?_
  refine Goes.to (T' := T4.setTop (mkF m 20 #[.val (.ref xa), .val (.int p1), .val (.ref xp), .val (.int p3), .val (.long q4), .second, .val (.ref xs), .val (.int p6), .val (.int p7), .val (.ref xk)] [(.ref xa)])) (fun t k => XS.aloadN X4.here hx rfl (hb hby d8_19) rfl rfl k) ?_
  refine Goes.to (T' := T4.setTop (mkF m 22 #[.val (.ref xa), .val (.int p1), .val (.ref xp), .val (.int p3), .val (.long q4), .second, .val (.ref xs), .val (.int p6), .val (.int p7), .val (.ref xk)] [(.long q4), (.ref xa)])) (fun t k => XS.lload X4.here hx rfl (hb hby d8_20) rfl k) ?_
  obtain ⟨T5, h5, X5, e5, W5, st5⟩ := putF X4 hx hZ hown (host := "") (Or.inl (hw _ (List.mem_of_getElem? (i := 50) rfl))) Via.refl e4 F_purchaseTime_xa E_xa (Or.inr ⟨(hw _ (List.mem_of_getElem? (i := 51) rfl)), rfl, hnm⟩) (hw _ (List.mem_of_getElem? (i := 38) rfl)) (ty := .long) (by decide) rfl rfl (g := (mkF m 22 #[.val (.ref xa), .val (.int p1), .val (.ref xp), .val (.int p3), .val (.long q4), .second, .val (.ref xs), .val (.int p6), .val (.int p7), .val (.ref xk)] [(.long q4), (.ref xa)])) rfl rfl (hb hby d8_22)
  have F_purchaseTime_xa := F_purchaseTime_xa.same W5
  have E_xa := E_xa.wr W5
  have F_consumptionState_xa := F_consumptionState_xa.other W5 (Or.inr (slot_ne (Or.inr (hw _ (List.mem_of_getElem? (i := 45) rfl))) (Or.inr (hw _ (List.mem_of_getElem? (i := 51) rfl))) (by decide) (t := .int) (t' := .long) (by decide) (by decide)))
  have F_developerPayload_xa := F_developerPayload_xa.other W5 (Or.inr (slot_ne (Or.inr (hw _ (List.mem_of_getElem? (i := 47) rfl))) (Or.inr (hw _ (List.mem_of_getElem? (i := 51) rfl))) (by decide) (t := (.object "java/lang/String")) (t' := .long) (by decide) (by decide)))
  have F_purchaseState_xa := F_purchaseState_xa.other W5 (Or.inr (slot_ne (Or.inr (hw _ (List.mem_of_getElem? (i := 49) rfl))) (Or.inr (hw _ (List.mem_of_getElem? (i := 51) rfl))) (by decide) (t := .int) (t' := .long) (by decide) (by decide)))
  have F_purchaseId_xa := F_purchaseId_xa.other W5 (Or.inr (slot_ne (Or.inr (hw _ (List.mem_of_getElem? (i := 61) rfl))) (Or.inr (hw _ (List.mem_of_getElem? (i := 51) rfl))) (by decide) (t := (.object "java/lang/String")) (t' := .long) (by decide) (by decide)))
  have F_acknowledgeState_xa := F_acknowledgeState_xa.other W5 (Or.inr (slot_ne (Or.inr (hw _ (List.mem_of_getElem? (i := 63) rfl))) (Or.inr (hw _ (List.mem_of_getElem? (i := 51) rfl))) (by decide) (t := .int) (t' := .long) (by decide) (by decide)))
  have F_quantity_xa := F_quantity_xa.other W5 (Or.inr (slot_ne (Or.inr (hw _ (List.mem_of_getElem? (i := 65) rfl))) (Or.inr (hw _ (List.mem_of_getElem? (i := 51) rfl))) (by decide) (t := .int) (t' := .long) (by decide) (by decide)))
  have F_market_xa := F_market_xa.other W5 (Or.inr (slot_ne (Or.inr (hw _ (List.mem_of_getElem? (i := 70) rfl))) (Or.inr (hw _ (List.mem_of_getElem? (i := 51) rfl))) (by decide) (t := (.object "com/example/arvi/arvi/model/Market")) (t' := .long) (by decide) (by decide)))
  have E_xs := E_xs.wr W5
  have E_xk := E_xk.wr W5
  have O0 := O0.wr W5 g_xa
  have hk := Nat.le_trans hk (Keep.of_wr W5).1
  have K0 := K0.wr W5 (Or.inl (List.mem_of_getElem? (i := 0) rfl))
  have N5 := Fr.snoc X5 N4 g_xa
  refine Goes.to (T' := T5.setTop (mkF m 25 #[.val (.ref xa), .val (.int p1), .val (.ref xp), .val (.int p3), .val (.long q4), .second, .val (.ref xs), .val (.int p6), .val (.int p7), .val (.ref xk)] [])) st5 ?_
  refine Goes.to (T' := T5.setTop (mkF m 26 #[.val (.ref xa), .val (.int p1), .val (.ref xp), .val (.int p3), .val (.long q4), .second, .val (.ref xs), .val (.int p6), .val (.int p7), .val (.ref xk)] [(.ref xa)])) (fun t k => XS.aloadN X5.here hx rfl (hb hby d8_25) rfl rfl k) ?_
  refine Goes.to (T' := T5.setTop (mkF m 28 #[.val (.ref xa), .val (.int p1), .val (.ref xp), .val (.int p3), .val (.long q4), .second, .val (.ref xs), .val (.int p6), .val (.int p7), .val (.ref xk)] [(.ref xs), (.ref xa)])) (fun t k => XS.aload X5.here hx rfl (hb hby d8_26) rfl rfl k) ?_
  obtain ⟨b6, T6, h6, kS6, X6, e6, E6, hS, hk, hZ, hown, st6⟩ := ldcS X5 hx hZ hown (hw _ (List.mem_of_getElem? (i := 52) rfl)) own_strw e5 hS hk (g := (mkF m 28 #[.val (.ref xa), .val (.int p1), .val (.ref xp), .val (.int p3), .val (.long q4), .second, .val (.ref xs), .val (.int p6), .val (.int p7), .val (.ref xk)] [(.ref xs), (.ref xa)])) rfl (hb hby d8_28) (n := 40) (by decide) (by decide) (by decide) (by decide)
  have E_xa := E_xa.ext E6
  have F_consumptionState_xa := F_consumptionState_xa.ext E6
  have F_developerPayload_xa := F_developerPayload_xa.ext E6
  have F_purchaseState_xa := F_purchaseState_xa.ext E6
  have F_purchaseTime_xa := F_purchaseTime_xa.ext E6
  have F_purchaseId_xa := F_purchaseId_xa.ext E6
  have F_acknowledgeState_xa := F_acknowledgeState_xa.ext E6
  have F_quantity_xa := F_quantity_xa.ext E6
  have F_market_xa := F_market_xa.ext E6
  have E_xs := E_xs.ext E6
  have E_xk := E_xk.ext E6
  have O0 := O0.ext E6
  have K0 := K0.ext E6
  refine Goes.to (T' := T6.setTop (mkF m 30 #[.val (.ref xa), .val (.int p1), .val (.ref xp), .val (.int p3), .val (.long q4), .second, .val (.ref xs), .val (.int p6), .val (.int p7), .val (.ref xk)] [(.ref b6), (.ref xs), (.ref xa)])) st6 ?_
  obtain ⟨_, _, ⟨T7, L7, k7, n7⟩, -, X7, ⟨Lc7, hQ7, l7, y7, z7⟩, st7⟩ := Jvm.LawKit.callS X6 hx (y := (⟨"java/util/Objects", "requireNonNull", "(Ljava/lang/Object;Ljava/lang/String;)Ljava/lang/Object;"⟩ : MethodName)) hown (mvT hZ (hw _ (List.mem_of_getElem? (i := 55) rfl))) (mvT hZ (hw _ (List.mem_of_getElem? (i := 56) rfl))) (mvT hZ (hw _ (List.mem_of_getElem? (i := 57) rfl))) (mvT hZ (hw _ (List.mem_of_getElem? (i := 58) rfl))) (by decide) (backOf (W := 1) (rmQ l Z a0 hw [] xs b6 w_Market_MKT_GLB w_Market_MKT_ONE z_cs  h6 n0 O0 NF ) hZ (hw _ (List.mem_of_getElem? (i := 58) rfl)) (hw _ (List.mem_of_getElem? (i := 57) rfl)) (by decide) (by decide)) (g := (mkF m 30 #[.val (.ref xa), .val (.int p1), .val (.ref xp), .val (.int p3), .val (.long q4), .second, .val (.ref xs), .val (.int p6), .val (.int p7), .val (.ref xk)] [(.ref b6), (.ref xs), (.ref xa)])) rfl (by rw [hml]; rfl) (argsL := [(.ref xs), (.ref b6)]) (rest := [(.ref xa)]) (lenOf pd_41 rfl) rfl (by show 2 * 0 + _ ≤ _; exact Nat.le_of_eq rfl) (hb hby d8_30) (fun _ _ => ⟨rfl, e6, (by decide : 2 + 0 ≤ _), (by decide : 44 + 0 ≤ _)⟩)
  dsimp only [Pt.U, Pt.locs, Pt.cells, Pt.slots] at X7 l7 y7 z7 st7 hQ7
  subst l7 y7 z7
  obtain ⟨rfl, Nq7, e7⟩ := hQ7
  have N7 := Fr.app N5 Nq7
  refine Goes.to (T' := T7.setTop (mkF m 33 #[.val (.ref xa), .val (.int p1), .val (.ref xp), .val (.int p3), .val (.long q4), .second, .val (.ref xs), .val (.int p6), .val (.int p7), .val (.ref xk)] [(.ref xs), (.ref xa)])) st7 ?_
  obtain ⟨T8, X8, e8, st8⟩ := castY X7 hx hZ hown (hw _ (List.mem_of_getElem? (i := 59) rfl)) e7 (Ins.self E_xs) (g := (mkF m 33 #[.val (.ref xa), .val (.int p1), .val (.ref xp), .val (.int p3), .val (.long q4), .second, .val (.ref xs), .val (.int p6), .val (.int p7), .val (.ref xk)] [(.ref xs), (.ref xa)])) rfl rfl (hb hby d8_33)
  refine Goes.to (T' := T8.setTop (mkF m 36 #[.val (.ref xa), .val (.int p1), .val (.ref xp), .val (.int p3), .val (.long q4), .second, .val (.ref xs), .val (.int p6), .val (.int p7), .val (.ref xk)] [(.ref xs), (.ref xa)])) st8 ?_
  obtain ⟨T9, h9, X9, e9, W9, st9⟩ := putF X8 hx hZ hown (host := "") (Or.inl (hw _ (List.mem_of_getElem? (i := 60) rfl))) Via.refl e8 F_purchaseId_xa E_xa (Or.inr ⟨(hw _ (List.mem_of_getElem? (i := 61) rfl)), rfl, hnm⟩) (hw _ (List.mem_of_getElem? (i := 38) rfl)) (ty := (.object "java/lang/String")) (by decide) rfl rfl (g := (mkF m 36 #[.val (.ref xa), .val (.int p1), .val (.ref xp), .val (.int p3), .val (.long q4), .second, .val (.ref xs), .val (.int p6), .val (.int p7), .val (.ref xk)] [(.ref xs), (.ref xa)])) rfl rfl (hb hby d8_36)
  have F_purchaseId_xa := F_purchaseId_xa.same W9
  have E_xa := E_xa.wr W9
  have F_consumptionState_xa := F_consumptionState_xa.other W9 (Or.inr (slot_ne (Or.inr (hw _ (List.mem_of_getElem? (i := 45) rfl))) (Or.inr (hw _ (List.mem_of_getElem? (i := 61) rfl))) (by decide) (t := .int) (t' := (.object "java/lang/String")) (by decide) (by decide)))
  have F_developerPayload_xa := F_developerPayload_xa.other W9 (Or.inr (slot_ne (Or.inr (hw _ (List.mem_of_getElem? (i := 47) rfl))) (Or.inr (hw _ (List.mem_of_getElem? (i := 61) rfl))) (by decide) (t := (.object "java/lang/String")) (t' := (.object "java/lang/String")) (by decide) (by decide)))
  have F_purchaseState_xa := F_purchaseState_xa.other W9 (Or.inr (slot_ne (Or.inr (hw _ (List.mem_of_getElem? (i := 49) rfl))) (Or.inr (hw _ (List.mem_of_getElem? (i := 61) rfl))) (by decide) (t := .int) (t' := (.object "java/lang/String")) (by decide) (by decide)))
  have F_purchaseTime_xa := F_purchaseTime_xa.other W9 (Or.inr (slot_ne (Or.inr (hw _ (List.mem_of_getElem? (i := 51) rfl))) (Or.inr (hw _ (List.mem_of_getElem? (i := 61) rfl))) (by decide) (t := .long) (t' := (.object "java/lang/String")) (by decide) (by decide)))
  have F_acknowledgeState_xa := F_acknowledgeState_xa.other W9 (Or.inr (slot_ne (Or.inr (hw _ (List.mem_of_getElem? (i := 63) rfl))) (Or.inr (hw _ (List.mem_of_getElem? (i := 61) rfl))) (by decide) (t := .int) (t' := (.object "java/lang/String")) (by decide) (by decide)))
  have F_quantity_xa := F_quantity_xa.other W9 (Or.inr (slot_ne (Or.inr (hw _ (List.mem_of_getElem? (i := 65) rfl))) (Or.inr (hw _ (List.mem_of_getElem? (i := 61) rfl))) (by decide) (t := .int) (t' := (.object "java/lang/String")) (by decide) (by decide)))
  have F_market_xa := F_market_xa.other W9 (Or.inr (slot_ne (Or.inr (hw _ (List.mem_of_getElem? (i := 70) rfl))) (Or.inr (hw _ (List.mem_of_getElem? (i := 61) rfl))) (by decide) (t := (.object "com/example/arvi/arvi/model/Market")) (t' := (.object "java/lang/String")) (by decide) (by decide)))
  have E_xs := E_xs.wr W9
  have E_xk := E_xk.wr W9
  have O0 := O0.wr W9 g_xa
  have hk := Nat.le_trans hk (Keep.of_wr W9).1
  have K0 := K0.wr W9 (Or.inl (List.mem_of_getElem? (i := 0) rfl))
  have N9 := Fr.snoc X9 N7 g_xa
  refine Goes.to (T' := T9.setTop (mkF m 39 #[.val (.ref xa), .val (.int p1), .val (.ref xp), .val (.int p3), .val (.long q4), .second, .val (.ref xs), .val (.int p6), .val (.int p7), .val (.ref xk)] [])) st9 ?_
  refine Goes.to (T' := T9.setTop (mkF m 40 #[.val (.ref xa), .val (.int p1), .val (.ref xp), .val (.int p3), .val (.long q4), .second, .val (.ref xs), .val (.int p6), .val (.int p7), .val (.ref xk)] [(.ref xa)])) (fun t k => XS.aloadN X9.here hx rfl (hb hby d8_39) rfl rfl k) ?_
  refine Goes.to (T' := T9.setTop (mkF m 42 #[.val (.ref xa), .val (.int p1), .val (.ref xp), .val (.int p3), .val (.long q4), .second, .val (.ref xs), .val (.int p6), .val (.int p7), .val (.ref xk)] [(.int p6), (.ref xa)])) (fun t k => XS.iload X9.here hx rfl (hb hby d8_40) rfl k) ?_
  obtain ⟨T10, h10, X10, e10, W10, st10⟩ := putF X9 hx hZ hown (host := "") (Or.inl (hw _ (List.mem_of_getElem? (i := 62) rfl))) Via.refl e9 F_acknowledgeState_xa E_xa (Or.inr ⟨(hw _ (List.mem_of_getElem? (i := 63) rfl)), rfl, hnm⟩) (hw _ (List.mem_of_getElem? (i := 38) rfl)) (ty := .int) (by decide) rfl rfl (g := (mkF m 42 #[.val (.ref xa), .val (.int p1), .val (.ref xp), .val (.int p3), .val (.long q4), .second, .val (.ref xs), .val (.int p6), .val (.int p7), .val (.ref xk)] [(.int p6), (.ref xa)])) rfl rfl (hb hby d8_42)
  have F_acknowledgeState_xa := F_acknowledgeState_xa.same W10
  have E_xa := E_xa.wr W10
  have F_consumptionState_xa := F_consumptionState_xa.other W10 (Or.inr (slot_ne (Or.inr (hw _ (List.mem_of_getElem? (i := 45) rfl))) (Or.inr (hw _ (List.mem_of_getElem? (i := 63) rfl))) (by decide) (t := .int) (t' := .int) (by decide) (by decide)))
  have F_developerPayload_xa := F_developerPayload_xa.other W10 (Or.inr (slot_ne (Or.inr (hw _ (List.mem_of_getElem? (i := 47) rfl))) (Or.inr (hw _ (List.mem_of_getElem? (i := 63) rfl))) (by decide) (t := (.object "java/lang/String")) (t' := .int) (by decide) (by decide)))
  have F_purchaseState_xa := F_purchaseState_xa.other W10 (Or.inr (slot_ne (Or.inr (hw _ (List.mem_of_getElem? (i := 49) rfl))) (Or.inr (hw _ (List.mem_of_getElem? (i := 63) rfl))) (by decide) (t := .int) (t' := .int) (by decide) (by decide)))
  have F_purchaseTime_xa := F_purchaseTime_xa.other W10 (Or.inr (slot_ne (Or.inr (hw _ (List.mem_of_getElem? (i := 51) rfl))) (Or.inr (hw _ (List.mem_of_getElem? (i := 63) rfl))) (by decide) (t := .long) (t' := .int) (by decide) (by decide)))
  have F_purchaseId_xa := F_purchaseId_xa.other W10 (Or.inr (slot_ne (Or.inr (hw _ (List.mem_of_getElem? (i := 61) rfl))) (Or.inr (hw _ (List.mem_of_getElem? (i := 63) rfl))) (by decide) (t := (.object "java/lang/String")) (t' := .int) (by decide) (by decide)))
  have F_quantity_xa := F_quantity_xa.other W10 (Or.inr (slot_ne (Or.inr (hw _ (List.mem_of_getElem? (i := 65) rfl))) (Or.inr (hw _ (List.mem_of_getElem? (i := 63) rfl))) (by decide) (t := .int) (t' := .int) (by decide) (by decide)))
  have F_market_xa := F_market_xa.other W10 (Or.inr (slot_ne (Or.inr (hw _ (List.mem_of_getElem? (i := 70) rfl))) (Or.inr (hw _ (List.mem_of_getElem? (i := 63) rfl))) (by decide) (t := (.object "com/example/arvi/arvi/model/Market")) (t' := .int) (by decide) (by decide)))
  have E_xs := E_xs.wr W10
  have E_xk := E_xk.wr W10
  have O0 := O0.wr W10 g_xa
  have hk := Nat.le_trans hk (Keep.of_wr W10).1
  have K0 := K0.wr W10 (Or.inl (List.mem_of_getElem? (i := 0) rfl))
  have N10 := Fr.snoc X10 N9 g_xa
  refine Goes.to (T' := T10.setTop (mkF m 45 #[.val (.ref xa), .val (.int p1), .val (.ref xp), .val (.int p3), .val (.long q4), .second, .val (.ref xs), .val (.int p6), .val (.int p7), .val (.ref xk)] [])) st10 ?_
  refine Goes.to (T' := T10.setTop (mkF m 46 #[.val (.ref xa), .val (.int p1), .val (.ref xp), .val (.int p3), .val (.long q4), .second, .val (.ref xs), .val (.int p6), .val (.int p7), .val (.ref xk)] [(.ref xa)])) (fun t k => XS.aloadN X10.here hx rfl (hb hby d8_45) rfl rfl k) ?_
  refine Goes.to (T' := T10.setTop (mkF m 48 #[.val (.ref xa), .val (.int p1), .val (.ref xp), .val (.int p3), .val (.long q4), .second, .val (.ref xs), .val (.int p6), .val (.int p7), .val (.ref xk)] [(.int p7), (.ref xa)])) (fun t k => XS.iload X10.here hx rfl (hb hby d8_46) rfl k) ?_
  obtain ⟨T11, h11, X11, e11, W11, st11⟩ := putF X10 hx hZ hown (host := "") (Or.inl (hw _ (List.mem_of_getElem? (i := 64) rfl))) Via.refl e10 F_quantity_xa E_xa (Or.inr ⟨(hw _ (List.mem_of_getElem? (i := 65) rfl)), rfl, hnm⟩) (hw _ (List.mem_of_getElem? (i := 38) rfl)) (ty := .int) (by decide) rfl rfl (g := (mkF m 48 #[.val (.ref xa), .val (.int p1), .val (.ref xp), .val (.int p3), .val (.long q4), .second, .val (.ref xs), .val (.int p6), .val (.int p7), .val (.ref xk)] [(.int p7), (.ref xa)])) rfl rfl (hb hby d8_48)
  have F_quantity_xa := F_quantity_xa.same W11
  have E_xa := E_xa.wr W11
  have F_consumptionState_xa := F_consumptionState_xa.other W11 (Or.inr (slot_ne (Or.inr (hw _ (List.mem_of_getElem? (i := 45) rfl))) (Or.inr (hw _ (List.mem_of_getElem? (i := 65) rfl))) (by decide) (t := .int) (t' := .int) (by decide) (by decide)))
  have F_developerPayload_xa := F_developerPayload_xa.other W11 (Or.inr (slot_ne (Or.inr (hw _ (List.mem_of_getElem? (i := 47) rfl))) (Or.inr (hw _ (List.mem_of_getElem? (i := 65) rfl))) (by decide) (t := (.object "java/lang/String")) (t' := .int) (by decide) (by decide)))
  have F_purchaseState_xa := F_purchaseState_xa.other W11 (Or.inr (slot_ne (Or.inr (hw _ (List.mem_of_getElem? (i := 49) rfl))) (Or.inr (hw _ (List.mem_of_getElem? (i := 65) rfl))) (by decide) (t := .int) (t' := .int) (by decide) (by decide)))
  have F_purchaseTime_xa := F_purchaseTime_xa.other W11 (Or.inr (slot_ne (Or.inr (hw _ (List.mem_of_getElem? (i := 51) rfl))) (Or.inr (hw _ (List.mem_of_getElem? (i := 65) rfl))) (by decide) (t := .long) (t' := .int) (by decide) (by decide)))
  have F_purchaseId_xa := F_purchaseId_xa.other W11 (Or.inr (slot_ne (Or.inr (hw _ (List.mem_of_getElem? (i := 61) rfl))) (Or.inr (hw _ (List.mem_of_getElem? (i := 65) rfl))) (by decide) (t := (.object "java/lang/String")) (t' := .int) (by decide) (by decide)))
  have F_acknowledgeState_xa := F_acknowledgeState_xa.other W11 (Or.inr (slot_ne (Or.inr (hw _ (List.mem_of_getElem? (i := 63) rfl))) (Or.inr (hw _ (List.mem_of_getElem? (i := 65) rfl))) (by decide) (t := .int) (t' := .int) (by decide) (by decide)))
  have F_market_xa := F_market_xa.other W11 (Or.inr (slot_ne (Or.inr (hw _ (List.mem_of_getElem? (i := 70) rfl))) (Or.inr (hw _ (List.mem_of_getElem? (i := 65) rfl))) (by decide) (t := (.object "com/example/arvi/arvi/model/Market")) (t' := .int) (by decide) (by decide)))
  have E_xs := E_xs.wr W11
  have E_xk := E_xk.wr W11
  have O0 := O0.wr W11 g_xa
  have hk := Nat.le_trans hk (Keep.of_wr W11).1
  have K0 := K0.wr W11 (Or.inl (List.mem_of_getElem? (i := 0) rfl))
  have N11 := Fr.snoc X11 N10 g_xa
  refine Goes.to (T' := T11.setTop (mkF m 51 #[.val (.ref xa), .val (.int p1), .val (.ref xp), .val (.int p3), .val (.long q4), .second, .val (.ref xs), .val (.int p6), .val (.int p7), .val (.ref xk)] [])) st11 ?_
  refine Goes.to (T' := T11.setTop (mkF m 52 #[.val (.ref xa), .val (.int p1), .val (.ref xp), .val (.int p3), .val (.long q4), .second, .val (.ref xs), .val (.int p6), .val (.int p7), .val (.ref xk)] [(.ref xa)])) (fun t k => XS.aloadN X11.here hx rfl (hb hby d8_51) rfl rfl k) ?_
  refine Goes.to (T' := T11.setTop (mkF m 54 #[.val (.ref xa), .val (.int p1), .val (.ref xp), .val (.int p3), .val (.long q4), .second, .val (.ref xs), .val (.int p6), .val (.int p7), .val (.ref xk)] [(.ref xk), (.ref xa)])) (fun t k => XS.aload X11.here hx rfl (hb hby d8_52) rfl rfl k) ?_
  obtain ⟨b12, T12, h12, kS12, X12, e12, E12, hS, hk, hZ, hown, st12⟩ := ldcS X11 hx hZ hown (hw _ (List.mem_of_getElem? (i := 66) rfl)) own_strw e11 hS hk (g := (mkF m 54 #[.val (.ref xa), .val (.int p1), .val (.ref xp), .val (.int p3), .val (.long q4), .second, .val (.ref xs), .val (.int p6), .val (.int p7), .val (.ref xk)] [(.ref xk), (.ref xa)])) rfl (hb hby d8_54) (n := 24) (by decide) (by decide) (by decide) (by decide)
  have E_xa := E_xa.ext E12
  have F_consumptionState_xa := F_consumptionState_xa.ext E12
  have F_developerPayload_xa := F_developerPayload_xa.ext E12
  have F_purchaseState_xa := F_purchaseState_xa.ext E12
  have F_purchaseTime_xa := F_purchaseTime_xa.ext E12
  have F_purchaseId_xa := F_purchaseId_xa.ext E12
  have F_acknowledgeState_xa := F_acknowledgeState_xa.ext E12
  have F_quantity_xa := F_quantity_xa.ext E12
  have F_market_xa := F_market_xa.ext E12
  have E_xs := E_xs.ext E12
  have E_xk := E_xk.ext E12
  have O0 := O0.ext E12
  have K0 := K0.ext E12
  refine Goes.to (T' := T12.setTop (mkF m 56 #[.val (.ref xa), .val (.int p1), .val (.ref xp), .val (.int p3), .val (.long q4), .second, .val (.ref xs), .val (.int p6), .val (.int p7), .val (.ref xk)] [(.ref b12), (.ref xk), (.ref xa)])) st12 ?_
  obtain ⟨_, _, ⟨T13, L13, k13, n13⟩, -, X13, ⟨Lc13, hQ13, l13, y13, z13⟩, st13⟩ := Jvm.LawKit.callS X12 hx (y := (⟨"java/util/Objects", "requireNonNull", "(Ljava/lang/Object;Ljava/lang/String;)Ljava/lang/Object;"⟩ : MethodName)) hown (mvT hZ (hw _ (List.mem_of_getElem? (i := 55) rfl))) (mvT hZ (hw _ (List.mem_of_getElem? (i := 56) rfl))) (mvT hZ (hw _ (List.mem_of_getElem? (i := 57) rfl))) (mvT hZ (hw _ (List.mem_of_getElem? (i := 58) rfl))) (by decide) (backOf (W := 1) (rmQ l Z a0 hw [] xk b12 w_Market_MKT_GLB w_Market_MKT_ONE z_cs  h12 n0 O0 NF ) hZ (hw _ (List.mem_of_getElem? (i := 58) rfl)) (hw _ (List.mem_of_getElem? (i := 57) rfl)) (by decide) (by decide)) (g := (mkF m 56 #[.val (.ref xa), .val (.int p1), .val (.ref xp), .val (.int p3), .val (.long q4), .second, .val (.ref xs), .val (.int p6), .val (.int p7), .val (.ref xk)] [(.ref b12), (.ref xk), (.ref xa)])) rfl (by rw [hml]; rfl) (argsL := [(.ref xk), (.ref b12)]) (rest := [(.ref xa)]) (lenOf pd_41 rfl) rfl (by show 2 * 0 + _ ≤ _; exact Nat.le_of_eq rfl) (hb hby d8_56) (fun _ _ => ⟨rfl, e12, (by decide : 4 + 0 ≤ _), (by decide : 72 + 0 ≤ _)⟩)
  dsimp only [Pt.U, Pt.locs, Pt.cells, Pt.slots] at X13 l13 y13 z13 st13 hQ13
  subst l13 y13 z13
  obtain ⟨rfl, Nq13, e13⟩ := hQ13
  have N13 := Fr.app N11 Nq13
  refine Goes.to (T' := T13.setTop (mkF m 59 #[.val (.ref xa), .val (.int p1), .val (.ref xp), .val (.int p3), .val (.long q4), .second, .val (.ref xs), .val (.int p6), .val (.int p7), .val (.ref xk)] [(.ref xk), (.ref xa)])) st13 ?_
  obtain ⟨T14, X14, e14, st14⟩ := castY X13 hx hZ hown (hw _ (List.mem_of_getElem? (i := 67) rfl)) e13 (Ins.self E_xk) (g := (mkF m 59 #[.val (.ref xa), .val (.int p1), .val (.ref xp), .val (.int p3), .val (.long q4), .second, .val (.ref xs), .val (.int p6), .val (.int p7), .val (.ref xk)] [(.ref xk), (.ref xa)])) rfl rfl (hb hby d8_59)
  refine Goes.to (T' := T14.setTop (mkF m 62 #[.val (.ref xa), .val (.int p1), .val (.ref xp), .val (.int p3), .val (.long q4), .second, .val (.ref xs), .val (.int p6), .val (.int p7), .val (.ref xk)] [(.ref xk), (.ref xa)])) st14 ?_
  obtain ⟨T15, h15, X15, e15, W15, st15⟩ := putF X14 hx hZ hown (host := "") (Or.inl (hw _ (List.mem_of_getElem? (i := 69) rfl))) Via.refl e14 F_market_xa E_xa (Or.inr ⟨(hw _ (List.mem_of_getElem? (i := 70) rfl)), rfl, hnm⟩) (hw _ (List.mem_of_getElem? (i := 38) rfl)) (ty := (.object "com/example/arvi/arvi/model/Market")) (by decide) rfl rfl (g := (mkF m 62 #[.val (.ref xa), .val (.int p1), .val (.ref xp), .val (.int p3), .val (.long q4), .second, .val (.ref xs), .val (.int p6), .val (.int p7), .val (.ref xk)] [(.ref xk), (.ref xa)])) rfl rfl (hb hby d8_62)
  have F_market_xa := F_market_xa.same W15
  have E_xa := E_xa.wr W15
  have F_consumptionState_xa := F_consumptionState_xa.other W15 (Or.inr (slot_ne (Or.inr (hw _ (List.mem_of_getElem? (i := 45) rfl))) (Or.inr (hw _ (List.mem_of_getElem? (i := 70) rfl))) (by decide) (t := .int) (t' := (.object "com/example/arvi/arvi/model/Market")) (by decide) (by decide)))
  have F_developerPayload_xa := F_developerPayload_xa.other W15 (Or.inr (slot_ne (Or.inr (hw _ (List.mem_of_getElem? (i := 47) rfl))) (Or.inr (hw _ (List.mem_of_getElem? (i := 70) rfl))) (by decide) (t := (.object "java/lang/String")) (t' := (.object "com/example/arvi/arvi/model/Market")) (by decide) (by decide)))
  have F_purchaseState_xa := F_purchaseState_xa.other W15 (Or.inr (slot_ne (Or.inr (hw _ (List.mem_of_getElem? (i := 49) rfl))) (Or.inr (hw _ (List.mem_of_getElem? (i := 70) rfl))) (by decide) (t := .int) (t' := (.object "com/example/arvi/arvi/model/Market")) (by decide) (by decide)))
  have F_purchaseTime_xa := F_purchaseTime_xa.other W15 (Or.inr (slot_ne (Or.inr (hw _ (List.mem_of_getElem? (i := 51) rfl))) (Or.inr (hw _ (List.mem_of_getElem? (i := 70) rfl))) (by decide) (t := .long) (t' := (.object "com/example/arvi/arvi/model/Market")) (by decide) (by decide)))
  have F_purchaseId_xa := F_purchaseId_xa.other W15 (Or.inr (slot_ne (Or.inr (hw _ (List.mem_of_getElem? (i := 61) rfl))) (Or.inr (hw _ (List.mem_of_getElem? (i := 70) rfl))) (by decide) (t := (.object "java/lang/String")) (t' := (.object "com/example/arvi/arvi/model/Market")) (by decide) (by decide)))
  have F_acknowledgeState_xa := F_acknowledgeState_xa.other W15 (Or.inr (slot_ne (Or.inr (hw _ (List.mem_of_getElem? (i := 63) rfl))) (Or.inr (hw _ (List.mem_of_getElem? (i := 70) rfl))) (by decide) (t := .int) (t' := (.object "com/example/arvi/arvi/model/Market")) (by decide) (by decide)))
  have F_quantity_xa := F_quantity_xa.other W15 (Or.inr (slot_ne (Or.inr (hw _ (List.mem_of_getElem? (i := 65) rfl))) (Or.inr (hw _ (List.mem_of_getElem? (i := 70) rfl))) (by decide) (t := .int) (t' := (.object "com/example/arvi/arvi/model/Market")) (by decide) (by decide)))
  have E_xs := E_xs.wr W15
  have E_xk := E_xk.wr W15
  have O0 := O0.wr W15 g_xa
  have hk := Nat.le_trans hk (Keep.of_wr W15).1
  have K0 := K0.wr W15 (Or.inl (List.mem_of_getElem? (i := 0) rfl))
  have N15 := Fr.snoc X15 N13 g_xa
  refine Goes.to (T' := T15.setTop (mkF m 65 #[.val (.ref xa), .val (.int p1), .val (.ref xp), .val (.int p3), .val (.long q4), .second, .val (.ref xs), .val (.int p6), .val (.int p7), .val (.ref xk)] [])) st15 ?_
  obtain ⟨fs, hrL, hrun, hended, hRW⟩ := X15.leaveW hS (by rw [e15]; exact hk) (v := none) (fun _ => rfl)
  subst hQf
  refine ⟨_, _, X15.returnOut hx Bd.returns (hb hby d8_65) hrL, hrun, hended, _, _, rfl, ?_, hRW.1, hRW.2.1, hRW.2.2.1, hRW.2.2.2.mono (by decide) (by decide)⟩
  show (fun (v : Option Value) (h : Heap) (L : List Loc) => v = none ∧ Fr n0 L ∧ Keep h0 h [xa] ∧ Fld Z h xa "com/example/arvi/arvi/model/PurchaseDetails" "consumptionState" "I" (.int p1) ∧ Fld Z h xa "com/example/arvi/arvi/model/PurchaseDetails" "acknowledgeState" "I" (.int p6)) (none) T15.heap _
  rw [e15]
  exact ⟨rfl, N15, K0, F_consumptionState_xa, F_acknowledgeState_xa⟩
theorem d10_0 : decode prog_24_method_10_code 0 = .ok (.aload_n 0, 1) := by decide +kernel
theorem d10_1 : decode prog_24_method_10_code 1 = .ok (.getfield 7, 3) := by decide +kernel
theorem d10_4 : decode prog_24_method_10_code 4 = .ok (.iconst 1, 1) := by decide +kernel
theorem d10_5 : decode prog_24_method_10_code 5 = .ok (.if_icmp .ne 7, 3) := by decide +kernel
theorem d10_8 : decode prog_24_method_10_code 8 = .ok (.iconst 1, 1) := by decide +kernel
theorem d10_9 : decode prog_24_method_10_code 9 = .ok (.goto 4, 3) := by decide +kernel
theorem d10_12 : decode prog_24_method_10_code 12 = .ok (.iconst 0, 1) := by decide +kernel
theorem d10_13 : decode prog_24_method_10_code 13 = .ok (.ireturn, 1) := by decide +kernel
theorem pn_10 : plainName "com/example/arvi/arvi/model/PurchaseDetails" = true := by first | (simp [plainName, overriddenIn]; done) | decide +kernel
theorem ef_rmC (m : MethodId) (x0 : Addr) : entryFrame m #[(.ref x0)] 1 = mkF m 0 #[.val (.ref x0)] [] := by first | (simp [entryFrame, mkF, argsToLocals, Value.category]; done) | rfl
def Q_rmC (Z : State) (xa : Addr) (w_Market_MKT_GLB : Addr) (w_Market_MKT_ONE : Addr) (z_cs : Int32) (pc : Int32) (r : Int32) (h0 : Heap) (n0 : Nat) (v : Option Value) (h : Heap) (L : List Loc) : Prop := v = some (.int r) ∧ Fr n0 L ∧ h = h0
set_option maxRecDepth 65536 in
set_option maxHeartbeats 40000000 in
theorem rmC (l : Launch) (Z : State) (a0 : Array Value) (hw : ∀ d ∈ tables_1, d.before a0 Z = true) (ws : List Jvm.Cond) (xa : Addr) (w_Market_MKT_GLB : Addr) (w_Market_MKT_ONE : Addr) (z_cs : Int32) (pc : Int32) (r : Int32) (h0 : Heap) (n0 : Nat) (O0 : Old Z n0 h0) (NF : Nar Z w_Market_MKT_GLB w_Market_MKT_ONE z_cs) (F_consumptionState_xa : Fld Z h0 xa "com/example/arvi/arvi/model/PurchaseDetails" "consumptionState" "I" (.int pc)) (hr : r = if pc = 1 then 1 else 0) :
    MetFree l (⟨"com/example/arvi/arvi/model/PurchaseDetails", "isConsumed", "()Z"⟩ : MethodName) (head1 (Jvm.Cond.code (⟨"com/example/arvi/arvi/model/PurchaseDetails", "isConsumed", "()Z"⟩ : MethodName) prog_24_method_10_code 1 (some .boolean) :: ws) ({ frames := 0, cells := 0, slots := 0, locals := 0 } : Room)) (fun a U => a = #[(.ref xa)] ∧ Z.Warmed39 U.vm ∧ U.heap = h0) (fun _ _ _ _ _ => True) (fun _ U o U' => ∃ v L, o = .returned v ∧ Q_rmC Z xa w_Market_MKT_GLB w_Market_MKT_ONE z_cs pc r h0 n0 v U'.heap L ∧ FrameEnd U o U' L ({ frames := 0, cells := 0, slots := 0, locals := 0 } : Room).cells ({ frames := 0, cells := 0, slots := 0, locals := 0 } : Room).slots) := by
  refine MetFree.of_bodySF (plainFor_of_name pn_10) hisR ?_
  intro p e s m args below meth c s₁ Bd hml0 hP hK
  obtain ⟨rfl, hZ, hh⟩ := hP
  have hx := Bd.exec
  have hby := Bd.bytes
  have hml : c.maxLocals = 1 := hml0
  have hown : s.vm.findClass "com/example/arvi/arvi/model/PurchaseDetails" = some m.cls := findClass_of_methodNamed Bd.named
  have hnm := (name_of_methodNamed Bd.named Bd.method).1
  have X0 : Stand p l e ({ frames := 0, cells := 0, slots := 0, locals := 0 } : Room) s m #[(.ref xa)] below meth c s₁ [] 0 0 := Stand.of_body Bd
  have e0 : s₁.heap = h0 := by rw [← hh, Bd.state]; rfl
  have N0 := Fr.nil n0
  suffices G : ∀ (Qf : Outcome → State → Prop), Qf = (fun (_ : Array Value) (U : State) (o : Outcome) (U' : State) => ∃ v L, o = .returned v ∧ Q_rmC Z xa w_Market_MKT_GLB w_Market_MKT_ONE z_cs pc r h0 n0 v U'.heap L ∧ FrameEnd U o U' L ({ frames := 0, cells := 0, slots := 0, locals := 0 } : Room).cells ({ frames := 0, cells := 0, slots := 0, locals := 0 } : Room).slots) #[] s → Goes p.tables e below Qf (s₁.setTop (mkF m 0 #[.val (.ref xa)] [])) by
    obtain ⟨s₂, o, g1, g2, g3, g4⟩ := G _ rfl
    exact ⟨s₂, o, castTop (ef_rmC m _) g1, g2, g3, g4⟩
  intro Qf hQf
  obtain ⟨S_w_Market_MKT_GLB, E_w_Market_MKT_GLB, S_w_Market_MKT_ONE, E_w_Market_MKT_ONE, S_cs, nz_cs⟩ := id NF
  refine Goes.to (T' := s₁.setTop (mkF m 1 #[.val (.ref xa)] [(.ref xa)])) (fun t k => XS.aloadN X0.here hx rfl (hb hby d10_0) rfl rfl k) ?_
  obtain ⟨T1, X1, e1, st1⟩ := getF X0 hx hZ hown (host := "") (Or.inl (hw _ (List.mem_of_getElem? (i := 44) rfl))) Via.refl e0 F_consumptionState_xa (g := (mkF m 1 #[.val (.ref xa)] [(.ref xa)])) rfl rfl (hb hby d10_1)
  refine Goes.to (T' := T1.setTop (mkF m 4 #[.val (.ref xa)] [(.int pc)])) st1 ?_
  refine Goes.to (T' := T1.setTop (mkF m 5 #[.val (.ref xa)] [(.int (1 : Int32)), (.int pc)])) (fun t k => XS.iconst X1.here hx rfl (hb hby d10_4) k) ?_
  rcases Decidable.em (pc = (1 : Int32)) with hc5_2 | hc5_2
  · skip
    refine Goes.to (T' := T1.setTop (mkF m 8 #[.val (.ref xa)] [])) (fun t k => XS.icmpNo X1.here hx rfl (hb hby d10_5) rfl (teq hc5_2).2 k) ?_
    refine Goes.to (T' := T1.setTop (mkF m 9 #[.val (.ref xa)] [(.int (1 : Int32))])) (fun t k => XS.iconst X1.here hx rfl (hb hby d10_8) k) ?_
    refine Goes.to (T' := T1.setTop (mkF m 13 #[.val (.ref xa)] [(.int (1 : Int32))])) (fun t k => XS.goto X1.here hx rfl (pc0 := 9) (pc' := 13) rfl (hb hby d10_9) (by decide) (by decide) k) ?_
    obtain ⟨fs, hrL, hrun, hended, hW, hsame⟩ := X1.leave (v := some (.int (1 : Int32))) (fun h => by rw [Bd.returns] at h; cases h)
    subst hQf
    refine ⟨_, _, retN X1 hx (t := .boolean) Bd.returns (by simp) (hb hby d10_13) hrL, hrun, hended, _, _, rfl, ?_, ⟨_, rfl⟩, hW, hsame.mono (by decide) (by decide)⟩
    show (fun (v : Option Value) (h : Heap) (L : List Loc) => v = some (.int r) ∧ Fr n0 L ∧ h = h0) (some (.int (1 : Int32))) T1.heap _
    rw [e1]
    have hv : ((1 : Int32) : Int32) = r := by rw [hr]; first | (simp [hc5_2]; done) | ((repeat' split) <;> first | rfl | contradiction | simp_all)
    exact ⟨by rw [hv], N0, rfl⟩
  · skip
    refine Goes.to (T' := T1.setTop (mkF m 12 #[.val (.ref xa)] [])) (fun t k => XS.icmpYes X1.here hx rfl (pc0 := 5) (pc' := 12) rfl (hb hby d10_5) rfl (feq hc5_2).2 (by decide) (by decide) k) ?_
    refine Goes.to (T' := T1.setTop (mkF m 13 #[.val (.ref xa)] [(.int (0 : Int32))])) (fun t k => XS.iconst X1.here hx rfl (hb hby d10_12) k) ?_
    obtain ⟨fs, hrL, hrun, hended, hW, hsame⟩ := X1.leave (v := some (.int (0 : Int32))) (fun h => by rw [Bd.returns] at h; cases h)
    subst hQf
    refine ⟨_, _, retN X1 hx (t := .boolean) Bd.returns (by simp) (hb hby d10_13) hrL, hrun, hended, _, _, rfl, ?_, ⟨_, rfl⟩, hW, hsame.mono (by decide) (by decide)⟩
    show (fun (v : Option Value) (h : Heap) (L : List Loc) => v = some (.int r) ∧ Fr n0 L ∧ h = h0) (some (.int (0 : Int32))) T1.heap _
    rw [e1]
    have hv : ((0 : Int32) : Int32) = r := by rw [hr]; first | (simp [hc5_2]; done) | ((repeat' split) <;> first | rfl | contradiction | simp_all)
    exact ⟨by rw [hv], N0, rfl⟩
theorem d11_0 : decode prog_24_method_2_code 0 = .ok (.aload_n 0, 1) := by decide +kernel
theorem d11_1 : decode prog_24_method_2_code 1 = .ok (.getfield 7, 3) := by decide +kernel
theorem d11_4 : decode prog_24_method_2_code 4 = .ok (.ireturn, 1) := by decide +kernel
theorem pn_11 : plainName "com/example/arvi/arvi/model/PurchaseDetails" = true := by first | (simp [plainName, overriddenIn]; done) | decide +kernel
theorem ef_rmS (m : MethodId) (x0 : Addr) : entryFrame m #[(.ref x0)] 1 = mkF m 0 #[.val (.ref x0)] [] := by first | (simp [entryFrame, mkF, argsToLocals, Value.category]; done) | rfl
def Q_rmS (Z : State) (xa : Addr) (w_Market_MKT_GLB : Addr) (w_Market_MKT_ONE : Addr) (z_cs : Int32) (pc : Int32) (h0 : Heap) (n0 : Nat) (v : Option Value) (h : Heap) (L : List Loc) : Prop := v = some (.int pc) ∧ Fr n0 L ∧ h = h0
set_option maxRecDepth 65536 in
set_option maxHeartbeats 40000000 in
theorem rmS (l : Launch) (Z : State) (a0 : Array Value) (hw : ∀ d ∈ tables_1, d.before a0 Z = true) (ws : List Jvm.Cond) (xa : Addr) (w_Market_MKT_GLB : Addr) (w_Market_MKT_ONE : Addr) (z_cs : Int32) (pc : Int32) (h0 : Heap) (n0 : Nat) (O0 : Old Z n0 h0) (NF : Nar Z w_Market_MKT_GLB w_Market_MKT_ONE z_cs) (F_consumptionState_xa : Fld Z h0 xa "com/example/arvi/arvi/model/PurchaseDetails" "consumptionState" "I" (.int pc)) :
    MetFree l (⟨"com/example/arvi/arvi/model/PurchaseDetails", "consumptionState", "()I"⟩ : MethodName) (head1 (Jvm.Cond.code (⟨"com/example/arvi/arvi/model/PurchaseDetails", "consumptionState", "()I"⟩ : MethodName) prog_24_method_2_code 1 (some .int) :: ws) ({ frames := 0, cells := 0, slots := 0, locals := 0 } : Room)) (fun a U => a = #[(.ref xa)] ∧ Z.Warmed39 U.vm ∧ U.heap = h0) (fun _ _ _ _ _ => True) (fun _ U o U' => ∃ v L, o = .returned v ∧ Q_rmS Z xa w_Market_MKT_GLB w_Market_MKT_ONE z_cs pc h0 n0 v U'.heap L ∧ FrameEnd U o U' L ({ frames := 0, cells := 0, slots := 0, locals := 0 } : Room).cells ({ frames := 0, cells := 0, slots := 0, locals := 0 } : Room).slots) := by
  refine MetFree.of_bodySF (plainFor_of_name pn_11) hisR ?_
  intro p e s m args below meth c s₁ Bd hml0 hP hK
  obtain ⟨rfl, hZ, hh⟩ := hP
  have hx := Bd.exec
  have hby := Bd.bytes
  have hml : c.maxLocals = 1 := hml0
  have hown : s.vm.findClass "com/example/arvi/arvi/model/PurchaseDetails" = some m.cls := findClass_of_methodNamed Bd.named
  have hnm := (name_of_methodNamed Bd.named Bd.method).1
  have X0 : Stand p l e ({ frames := 0, cells := 0, slots := 0, locals := 0 } : Room) s m #[(.ref xa)] below meth c s₁ [] 0 0 := Stand.of_body Bd
  have e0 : s₁.heap = h0 := by rw [← hh, Bd.state]; rfl
  have N0 := Fr.nil n0
  suffices G : ∀ (Qf : Outcome → State → Prop), Qf = (fun (_ : Array Value) (U : State) (o : Outcome) (U' : State) => ∃ v L, o = .returned v ∧ Q_rmS Z xa w_Market_MKT_GLB w_Market_MKT_ONE z_cs pc h0 n0 v U'.heap L ∧ FrameEnd U o U' L ({ frames := 0, cells := 0, slots := 0, locals := 0 } : Room).cells ({ frames := 0, cells := 0, slots := 0, locals := 0 } : Room).slots) #[] s → Goes p.tables e below Qf (s₁.setTop (mkF m 0 #[.val (.ref xa)] [])) by
    obtain ⟨s₂, o, g1, g2, g3, g4⟩ := G _ rfl
    exact ⟨s₂, o, castTop (ef_rmS m _) g1, g2, g3, g4⟩
  intro Qf hQf
  obtain ⟨S_w_Market_MKT_GLB, E_w_Market_MKT_GLB, S_w_Market_MKT_ONE, E_w_Market_MKT_ONE, S_cs, nz_cs⟩ := id NF
  refine Goes.to (T' := s₁.setTop (mkF m 1 #[.val (.ref xa)] [(.ref xa)])) (fun t k => XS.aloadN X0.here hx rfl (hb hby d11_0) rfl rfl k) ?_
  obtain ⟨T1, X1, e1, st1⟩ := getF X0 hx hZ hown (host := "") (Or.inl (hw _ (List.mem_of_getElem? (i := 44) rfl))) Via.refl e0 F_consumptionState_xa (g := (mkF m 1 #[.val (.ref xa)] [(.ref xa)])) rfl rfl (hb hby d11_1)
  refine Goes.to (T' := T1.setTop (mkF m 4 #[.val (.ref xa)] [(.int pc)])) st1 ?_
  obtain ⟨fs, hrL, hrun, hended, hW, hsame⟩ := X1.leave (v := some (.int pc)) (fun h => by rw [Bd.returns] at h; cases h)
  subst hQf
  refine ⟨_, _, retOut X1 hx Bd.returns rfl (Or.inl ⟨rfl, Or.inl rfl, _, rfl⟩) (hb hby d11_4) hrL, hrun, hended, _, _, rfl, ?_, ⟨_, rfl⟩, hW, hsame.mono (by decide) (by decide)⟩
  show (fun (v : Option Value) (h : Heap) (L : List Loc) => v = some (.int pc) ∧ Fr n0 L ∧ h = h0) (some (.int pc)) T1.heap _
  rw [e1]
  exact ⟨rfl, N0, rfl⟩
theorem pd_89 : parseMethodDescriptor "()Z" = some ⟨[], some .boolean⟩ := by decide +kernel
theorem d12_0 : decode prog_24_method_11_code 0 = .ok (.aload_n 0, 1) := by decide +kernel
theorem d12_1 : decode prog_24_method_11_code 1 = .ok (.getfield 36, 3) := by decide +kernel
theorem d12_4 : decode prog_24_method_11_code 4 = .ok (.iconst 1, 1) := by decide +kernel
theorem d12_5 : decode prog_24_method_11_code 5 = .ok (.if_icmp .eq 10, 3) := by decide +kernel
theorem d12_8 : decode prog_24_method_11_code 8 = .ok (.aload_n 0, 1) := by decide +kernel
theorem d12_9 : decode prog_24_method_11_code 9 = .ok (.invokevirtual 49, 3) := by decide +kernel
theorem d12_12 : decode prog_24_method_11_code 12 = .ok (.ifCond .eq 7, 3) := by decide +kernel
theorem d12_15 : decode prog_24_method_11_code 15 = .ok (.iconst 1, 1) := by decide +kernel
theorem d12_16 : decode prog_24_method_11_code 16 = .ok (.goto 4, 3) := by decide +kernel
theorem d12_20 : decode prog_24_method_11_code 20 = .ok (.ireturn, 1) := by decide +kernel
theorem pn_12 : plainName "com/example/arvi/arvi/model/PurchaseDetails" = true := by first | (simp [plainName, overriddenIn]; done) | decide +kernel
theorem ef_rmA (m : MethodId) (x0 : Addr) : entryFrame m #[(.ref x0)] 1 = mkF m 0 #[.val (.ref x0)] [] := by first | (simp [entryFrame, mkF, argsToLocals, Value.category]; done) | rfl
def Q_rmA (Z : State) (xa : Addr) (w_Market_MKT_GLB : Addr) (w_Market_MKT_ONE : Addr) (z_cs : Int32) (pk : Int32) (h0 : Heap) (n0 : Nat) (v : Option Value) (h : Heap) (L : List Loc) : Prop := v = some (.int 1) ∧ Fr n0 L ∧ h = h0
set_option maxRecDepth 65536 in
set_option maxHeartbeats 40000000 in
theorem rmA (l : Launch) (Z : State) (a0 : Array Value) (hw : ∀ d ∈ tables_1, d.before a0 Z = true) (ws : List Jvm.Cond) (xa : Addr) (w_Market_MKT_GLB : Addr) (w_Market_MKT_ONE : Addr) (z_cs : Int32) (pk : Int32) (h0 : Heap) (n0 : Nat) (O0 : Old Z n0 h0) (NF : Nar Z w_Market_MKT_GLB w_Market_MKT_ONE z_cs) (E_xa : Exa Z h0 xa "com/example/arvi/arvi/model/PurchaseDetails") (F_consumptionState_xa : Fld Z h0 xa "com/example/arvi/arvi/model/PurchaseDetails" "consumptionState" "I" (.int (1 : Int32))) (F_acknowledgeState_xa : Fld Z h0 xa "com/example/arvi/arvi/model/PurchaseDetails" "acknowledgeState" "I" (.int pk)) :
    MetFree l (⟨"com/example/arvi/arvi/model/PurchaseDetails", "isAcknowledged", "()Z"⟩ : MethodName) (head1 (Jvm.Cond.code (⟨"com/example/arvi/arvi/model/PurchaseDetails", "isAcknowledged", "()Z"⟩ : MethodName) prog_24_method_11_code 1 (some .boolean) :: ws) ({ frames := 1, cells := 0, slots := 0, locals := 14 } : Room)) (fun a U => a = #[(.ref xa)] ∧ Z.Warmed39 U.vm ∧ U.heap = h0) (fun _ _ _ _ _ => True) (fun _ U o U' => ∃ v L, o = .returned v ∧ Q_rmA Z xa w_Market_MKT_GLB w_Market_MKT_ONE z_cs pk h0 n0 v U'.heap L ∧ FrameEnd U o U' L ({ frames := 1, cells := 0, slots := 0, locals := 14 } : Room).cells ({ frames := 1, cells := 0, slots := 0, locals := 14 } : Room).slots) := by
  refine MetFree.of_bodySF (plainFor_of_name pn_12) hisR ?_
  intro p e s m args below meth c s₁ Bd hml0 hP hK
  obtain ⟨rfl, hZ, hh⟩ := hP
  have hx := Bd.exec
  have hby := Bd.bytes
  have hml : c.maxLocals = 1 := hml0
  have hown : s.vm.findClass "com/example/arvi/arvi/model/PurchaseDetails" = some m.cls := findClass_of_methodNamed Bd.named
  have hnm := (name_of_methodNamed Bd.named Bd.method).1
  have X0 : Stand p l e ({ frames := 1, cells := 0, slots := 0, locals := 14 } : Room) s m #[(.ref xa)] below meth c s₁ [] 0 0 := Stand.of_body Bd
  have e0 : s₁.heap = h0 := by rw [← hh, Bd.state]; rfl
  have N0 := Fr.nil n0
  suffices G : ∀ (Qf : Outcome → State → Prop), Qf = (fun (_ : Array Value) (U : State) (o : Outcome) (U' : State) => ∃ v L, o = .returned v ∧ Q_rmA Z xa w_Market_MKT_GLB w_Market_MKT_ONE z_cs pk h0 n0 v U'.heap L ∧ FrameEnd U o U' L ({ frames := 1, cells := 0, slots := 0, locals := 14 } : Room).cells ({ frames := 1, cells := 0, slots := 0, locals := 14 } : Room).slots) #[] s → Goes p.tables e below Qf (s₁.setTop (mkF m 0 #[.val (.ref xa)] [])) by
    obtain ⟨s₂, o, g1, g2, g3, g4⟩ := G _ rfl
    exact ⟨s₂, o, castTop (ef_rmA m _) g1, g2, g3, g4⟩
  intro Qf hQf
  obtain ⟨S_w_Market_MKT_GLB, E_w_Market_MKT_GLB, S_w_Market_MKT_ONE, E_w_Market_MKT_ONE, S_cs, nz_cs⟩ := id NF
  refine Goes.to (T' := s₁.setTop (mkF m 1 #[.val (.ref xa)] [(.ref xa)])) (fun t k => XS.aloadN X0.here hx rfl (hb hby d12_0) rfl rfl k) ?_
  obtain ⟨T1, X1, e1, st1⟩ := getF X0 hx hZ hown (host := "") (Or.inl (hw _ (List.mem_of_getElem? (i := 62) rfl))) Via.refl e0 F_acknowledgeState_xa (g := (mkF m 1 #[.val (.ref xa)] [(.ref xa)])) rfl rfl (hb hby d12_1)
  refine Goes.to (T' := T1.setTop (mkF m 4 #[.val (.ref xa)] [(.int pk)])) st1 ?_
  refine Goes.to (T' := T1.setTop (mkF m 5 #[.val (.ref xa)] [(.int (1 : Int32)), (.int pk)])) (fun t k => XS.iconst X1.here hx rfl (hb hby d12_4) k) ?_
  rcases Decidable.em (pk = (1 : Int32)) with hc5_2 | hc5_2
  · skip
    refine Goes.to (T' := T1.setTop (mkF m 15 #[.val (.ref xa)] [])) (fun t k => XS.icmpYes X1.here hx rfl (pc0 := 5) (pc' := 15) rfl (hb hby d12_5) rfl (teq hc5_2).1 (by decide) (by decide) k) ?_
    refine Goes.to (T' := T1.setTop (mkF m 16 #[.val (.ref xa)] [(.int (1 : Int32))])) (fun t k => XS.iconst X1.here hx rfl (hb hby d12_15) k) ?_
    refine Goes.to (T' := T1.setTop (mkF m 20 #[.val (.ref xa)] [(.int (1 : Int32))])) (fun t k => XS.goto X1.here hx rfl (pc0 := 16) (pc' := 20) rfl (hb hby d12_16) (by decide) (by decide) k) ?_
    obtain ⟨fs, hrL, hrun, hended, hW, hsame⟩ := X1.leave (v := some (.int (1 : Int32))) (fun h => by rw [Bd.returns] at h; cases h)
    subst hQf
    refine ⟨_, _, retN X1 hx (t := .boolean) Bd.returns (by simp) (hb hby d12_20) hrL, hrun, hended, _, _, rfl, ?_, ⟨_, rfl⟩, hW, hsame.mono (by decide) (by decide)⟩
    show (fun (v : Option Value) (h : Heap) (L : List Loc) => v = some (.int 1) ∧ Fr n0 L ∧ h = h0) (some (.int (1 : Int32))) T1.heap _
    rw [e1]
    exact ⟨rfl, N0, rfl⟩
  · skip
    refine Goes.to (T' := T1.setTop (mkF m 8 #[.val (.ref xa)] [])) (fun t k => XS.icmpNo X1.here hx rfl (hb hby d12_5) rfl (feq hc5_2).1 k) ?_
    refine Goes.to (T' := T1.setTop (mkF m 9 #[.val (.ref xa)] [(.ref xa)])) (fun t k => XS.aloadN X1.here hx rfl (hb hby d12_8) rfl rfl k) ?_
    obtain ⟨cq3, kq3, q3a, q3b, q3c⟩ := isOf hZ e1 E_xa
    obtain ⟨_, _, ⟨T3, L3, k3, n3⟩, -, X3, ⟨Lc3, hQ3, l3, y3, z3⟩, st3⟩ := X1.virtualBack hx (y := (⟨"com/example/arvi/arvi/model/PurchaseDetails", "isConsumed", "()Z"⟩ : MethodName)) (z := (⟨"com/example/arvi/arvi/model/PurchaseDetails", "isConsumed", "()Z"⟩ : MethodName)) hown (mvT hZ (hw _ (List.mem_of_getElem? (i := 87) rfl))) (mvT hZ (hw _ (List.mem_of_getElem? (i := 72) rfl))) (notFace_of_selects (args := #[]) (mvT hZ (hw _ (List.mem_of_getElem? (i := 74) rfl)))) (mvT hZ (hw _ (List.mem_of_getElem? (i := 74) rfl))) (mvT hZ (hw _ (List.mem_of_getElem? (i := 73) rfl))) (by decide) (backOf (W := 0) (rmC l Z a0 hw [] xa w_Market_MKT_GLB w_Market_MKT_ONE z_cs (1 : Int32) (1 : Int32) h0 n0 O0 NF F_consumptionState_xa (by simp)) hZ (hw _ (List.mem_of_getElem? (i := 75) rfl)) (hw _ (List.mem_of_getElem? (i := 39) rfl)) (by decide) (by decide)) q3a q3c (g := (mkF m 9 #[.val (.ref xa)] [(.ref xa)])) rfl (by rw [hml]; rfl) (Steps.refl _) (argsL := []) (rest := []) (lenOf pd_89 rfl) rfl (by show 2 * 0 + _ ≤ _; exact Nat.le_of_eq rfl) (hb hby d12_9) (fun _ _ => ⟨rfl, e1, (by decide : 0 + 0 ≤ _), (by decide : 0 + 0 ≤ _)⟩)
    dsimp only [Pt.U, Pt.locs, Pt.cells, Pt.slots] at X3 l3 y3 z3 st3 hQ3
    subst l3 y3 z3
    obtain ⟨rfl, Nq3, e3⟩ := hQ3
    have N3 := Fr.app N0 Nq3
    refine Goes.thru (T' := T3.setTop (mkF m 12 #[.val (.ref xa)] [(.int (1 : Int32))])) st3 ?_
    refine Goes.to (T' := T3.setTop (mkF m 15 #[.val (.ref xa)] [])) (fun t k => XS.ifNo X3.here hx rfl (hb hby d12_12) rfl ((if0 _ _).trans (feq (by decide)).1) k) ?_
    refine Goes.to (T' := T3.setTop (mkF m 16 #[.val (.ref xa)] [(.int (1 : Int32))])) (fun t k => XS.iconst X3.here hx rfl (hb hby d12_15) k) ?_
    refine Goes.to (T' := T3.setTop (mkF m 20 #[.val (.ref xa)] [(.int (1 : Int32))])) (fun t k => XS.goto X3.here hx rfl (pc0 := 16) (pc' := 20) rfl (hb hby d12_16) (by decide) (by decide) k) ?_
    obtain ⟨fs, hrL, hrun, hended, hW, hsame⟩ := X3.leave (v := some (.int (1 : Int32))) (fun h => by rw [Bd.returns] at h; cases h)
    subst hQf
    refine ⟨_, _, retN X3 hx (t := .boolean) Bd.returns (by simp) (hb hby d12_20) hrL, hrun, hended, _, _, rfl, ?_, ⟨_, rfl⟩, hW, hsame.mono (by decide) (by decide)⟩
    show (fun (v : Option Value) (h : Heap) (L : List Loc) => v = some (.int 1) ∧ Fr n0 L ∧ h = h0) (some (.int (1 : Int32))) T3.heap _
    rw [e3]
    exact ⟨rfl, N3, rfl⟩
theorem pd_101 : parseMethodDescriptor "(II)I" = some ⟨[.int, .int], some .int⟩ := by decide +kernel
theorem pd_102 : parseMethodDescriptor "([C)V" = some ⟨[(.array .char)], none⟩ := by decide +kernel
theorem pd_103 : parseMethodDescriptor "(ILjava/lang/String;IJLjava/lang/String;IILcom/example/arvi/arvi/model/Market;)V" = some ⟨[.int, (.object "java/lang/String"), .int, .long, (.object "java/lang/String"), .int, .int, (.object "com/example/arvi/arvi/model/Market")], none⟩ := by decide +kernel
theorem pd_104 : parseMethodDescriptor "()I" = some ⟨[], some .int⟩ := by decide +kernel
theorem pn_0 : plainName "com/example/arvi/arvi/model/PurchaseDetailsIsConsumedPinLaw" = true := by first | (simp [plainName, overriddenIn]; done) | decide +kernel
theorem ef_rm0 (m : MethodId) (x0 : Int32) (x1 : Int32) (x2 : Int32) (x3 : Int64) (x4 : Int32) (x5 : Int32) : entryFrame m #[(.int x0), (.int x1), (.int x2), (.long x3), (.int x4), (.int x5)] maxLocals = mkF m 0 #[.val (.int x0), .val (.int x1), .val (.int x2), .val (.long x3), .second, .val (.int x4), .val (.int x5), .unset, .unset, .unset, .unset, .unset, .unset, .unset, .unset, .unset, .unset] [] := by first | (simp [entryFrame, mkF, argsToLocals, Value.category, maxLocals]; done) | rfl
def Q_rm0 (Z : State) (p0 : Int32) (p1 : Int32) (p2 : Int32) (q3 : Int64) (p4 : Int32) (p5 : Int32) (w_Market_MKT_GLB : Addr) (w_Market_MKT_ONE : Addr) (z_cs : Int32) (h0 : Heap) (n0 : Nat) (v : Option Value) (h : Heap) (L : List Loc) : Prop := v = some (.int 1) ∧ Fr n0 L
set_option maxRecDepth 65536 in
set_option maxHeartbeats 40000000 in
theorem rm0 (l : Launch) (Z : State) (a0 : Array Value) (hw : ∀ d ∈ tables_1, d.before a0 Z = true) (ws : List Jvm.Cond) (p0 : Int32) (p1 : Int32) (p2 : Int32) (q3 : Int64) (p4 : Int32) (p5 : Int32) (w_Market_MKT_GLB : Addr) (w_Market_MKT_ONE : Addr) (z_cs : Int32) (h0 : Heap) (n0 : Nat) (O0 : Old Z n0 h0) (NF : Nar Z w_Market_MKT_GLB w_Market_MKT_ONE z_cs) :
    MetFree l x (head1 (Jvm.Cond.code x code maxLocals ret :: ws) room_1) (fun a U => a = #[(.int p0), (.int p1), (.int p2), (.long q3), (.int p4), (.int p5)] ∧ Z.Warmed39 U.vm ∧ U.heap = h0) (fun _ _ _ _ _ => True) (fun _ U o U' => ∃ v L, o = .returned v ∧ Q_rm0 Z p0 p1 p2 q3 p4 p5 w_Market_MKT_GLB w_Market_MKT_ONE z_cs h0 n0 v U'.heap L ∧ ReturnedEndW U o U' L room_1.cells room_1.slots) := by
  refine MetFree.of_bodySF (plainFor_of_name pn_0) hisR ?_
  intro p e s m args below meth c s₁ Bd hml0 hP hK
  obtain ⟨rfl, hZ, hh⟩ := hP
  have hx := Bd.exec
  have hby := Bd.bytes
  have hml : c.maxLocals = 17 := hml0
  have hown : s.vm.findClass "com/example/arvi/arvi/model/PurchaseDetailsIsConsumedPinLaw" = some m.cls := findClass_of_methodNamed Bd.named
  have hnm := (name_of_methodNamed Bd.named Bd.method).1
  have X0 : Stand p l e room_1 (s.setVm s.vm) m #[(.int p0), (.int p1), (.int p2), (.long q3), (.int p4), (.int p5)] below meth c s₁ [] 0 0 := Stand.of_body Bd
  have e0 : s₁.heap = h0 := by rw [← hh, Bd.state]; rfl
  have N0 := Fr.nil n0
  have hZ : Z.Warmed39 (s.setVm s.vm).vm := hZ
  have hown : (s.setVm s.vm).vm.findClass "com/example/arvi/arvi/model/PurchaseDetailsIsConsumedPinLaw" = some m.cls := hown
  have hS : s.Since s.vm h0.size := (State.WarmedH.refl s).since _
  have hk : h0.size ≤ h0.size := Nat.le_refl _
  have own_strw : ∀ a ∈ Bundle.stringAtoms, a.before a0 Z = true := fun d hd => hw d ((by decide +kernel : ∀ d ∈ Bundle.stringAtoms, d ∈ tables_1) d hd)
  suffices G : ∀ (Qf : Outcome → State → Prop), Qf = (fun (_ : Array Value) (U : State) (o : Outcome) (U' : State) => ∃ v L, o = .returned v ∧ Q_rm0 Z p0 p1 p2 q3 p4 p5 w_Market_MKT_GLB w_Market_MKT_ONE z_cs h0 n0 v U'.heap L ∧ ReturnedEndW U o U' L room_1.cells room_1.slots) #[] s → Goes p.tables e below Qf (s₁.setTop (mkF m 0 #[.val (.int p0), .val (.int p1), .val (.int p2), .val (.long q3), .second, .val (.int p4), .val (.int p5), .unset, .unset, .unset, .unset, .unset, .unset, .unset, .unset, .unset, .unset] [])) by
    obtain ⟨s₂, o, g1, g2, g3, g4⟩ := G _ rfl
    exact ⟨s₂, o, castTop (ef_rm0 m _ _ _ _ _ _) g1, g2, g3, g4⟩
  intro Qf hQf
  obtain ⟨S_w_Market_MKT_GLB, E_w_Market_MKT_GLB, S_w_Market_MKT_ONE, E_w_Market_MKT_ONE, S_cs, nz_cs⟩ := id NF
  refine Goes.to (T' := s₁.setTop (mkF m 1 #[.val (.int p0), .val (.int p1), .val (.int p2), .val (.long q3), .second, .val (.int p4), .val (.int p5), .unset, .unset, .unset, .unset, .unset, .unset, .unset, .unset, .unset, .unset] [(.int p1)])) (fun t k => XS.iloadN X0.here hx rfl (hb hby at_0) rfl k) ?_
  refine Goes.to (T' := s₁.setTop (mkF m 2 #[.val (.int p0), .val (.int p1), .val (.int p2), .val (.long q3), .second, .val (.int p4), .val (.int p5), .unset, .unset, .unset, .unset, .unset, .unset, .unset, .unset, .unset, .unset] [(.int p0), (.int p1)])) (fun t k => XS.iloadN X0.here hx rfl (hb hby at_1) rfl k) ?_
  obtain ⟨_, _, ⟨T1, L1, k1, n1⟩, -, X1, ⟨Lc1, hQ1, l1, y1, z1⟩, st1⟩ := Jvm.LawKit.callS X0 hx (y := (⟨"com/example/arvi/arvi/model/PurchaseDetailsIsConsumedPinLaw", "pickState", "(II)I"⟩ : MethodName)) hown (mvT hZ (hw _ (List.mem_of_getElem? (i := 0) rfl))) (mvT hZ (hw _ (List.mem_of_getElem? (i := 1) rfl))) (mvT hZ (hw _ (List.mem_of_getElem? (i := 2) rfl))) (mvT hZ (hw _ (List.mem_of_getElem? (i := 3) rfl))) (by decide) (backOf (W := 0) (rmP l Z a0 hw [] p1 p0 w_Market_MKT_GLB w_Market_MKT_ONE z_cs  h0 n0 O0 NF ) hZ (hw _ (List.mem_of_getElem? (i := 3) rfl)) (hw _ (List.mem_of_getElem? (i := 2) rfl)) (by decide) (by decide)) (g := (mkF m 2 #[.val (.int p0), .val (.int p1), .val (.int p2), .val (.long q3), .second, .val (.int p4), .val (.int p5), .unset, .unset, .unset, .unset, .unset, .unset, .unset, .unset, .unset, .unset] [(.int p0), (.int p1)])) rfl (by rw [hml]; rfl) (argsL := [(.int p1), (.int p0)]) (rest := []) (lenOf pd_101 rfl) rfl (by show 2 * 0 + _ ≤ _; exact Nat.le_of_eq rfl) (hb hby at_2) (fun _ _ => ⟨rfl, e0, (by decide : 0 + 0 ≤ _), (by decide : 0 + 0 ≤ _)⟩)
  dsimp only [Pt.U, Pt.locs, Pt.cells, Pt.slots] at X1 l1 y1 z1 st1 hQ1
  subst l1 y1 z1
  obtain ⟨⟨cs, rfl⟩, Nq1, e1⟩ := hQ1
  have N1 := Fr.app N0 Nq1
  refine Goes.to (T' := T1.setTop (mkF m 5 #[.val (.int p0), .val (.int p1), .val (.int p2), .val (.long q3), .second, .val (.int p4), .val (.int p5), .unset, .unset, .unset, .unset, .unset, .unset, .unset, .unset, .unset, .unset] [(.int cs)])) st1 ?_
  refine Goes.to (T' := T1.setTop (mkF m 7 #[.val (.int p0), .val (.int p1), .val (.int p2), .val (.long q3), .second, .val (.int p4), .val (.int p5), .val (.int cs), .unset, .unset, .unset, .unset, .unset, .unset, .unset, .unset, .unset] [])) (fun t k => XS.istore X1.here hx rfl (hb hby at_5) rfl (l' := #[.val (.int p0), .val (.int p1), .val (.int p2), .val (.long q3), .second, .val (.int p4), .val (.int p5), .val (.int cs), .unset, .unset, .unset, .unset, .unset, .unset, .unset, .unset, .unset]) rfl k) ?_
  have J25 : ∀ (TJ2 : State) (locsJ2 : List Loc) (mk : Addr) (XJ2 : Stand p l e room_1 (s.setVm s.vm) m #[(.int p0), (.int p1), (.int p2), (.long q3), (.int p4), (.int p5)] below meth c TJ2 locsJ2 0 0) (eJ2 : TJ2.heap = h0) (NJ2 : Fr n0 locsJ2) (E_mk : Exa Z Z.heap mk "com/example/arvi/arvi/model/Market"), Goes p.tables e below Qf (TJ2.setTop (mkF m 25 #[.val (.int p0), .val (.int p1), .val (.int p2), .val (.long q3), .second, .val (.int p4), .val (.int p5), .val (.int cs), .val (.ref mk), .unset, .unset, .unset, .unset, .unset, .unset, .unset, .unset] [])) := by
    intro TJ2 locsJ2 mk XJ2 eJ2 NJ2 E_mk
    refine Goes.to (T' := TJ2.setTop (mkF m 26 #[.val (.int p0), .val (.int p1), .val (.int p2), .val (.long q3), .second, .val (.int p4), .val (.int p5), .val (.int cs), .val (.ref mk), .unset, .unset, .unset, .unset, .unset, .unset, .unset, .unset] [(.int (1 : Int32))])) (fun t k => XS.iconst XJ2.here hx rfl (hb hby at_25) k) ?_
    obtain ⟨T3, h3, k3, X3, e3, E3, A3, st3⟩ := newP XJ2 hx hZ (hw _ (List.mem_of_getElem? (i := 7) rfl)) eJ2 (g := (mkF m 26 #[.val (.int p0), .val (.int p1), .val (.int p2), .val (.long q3), .second, .val (.int p4), .val (.int p5), .val (.int cs), .val (.ref mk), .unset, .unset, .unset, .unset, .unset, .unset, .unset, .unset] [(.int (1 : Int32))])) rfl (hb hby at_26) rfl (by decide) (cap := 1) (by decide) (by decide) (by decide) (by decide)
    obtain ⟨b3, g3⟩ : ∃ z, z = h0.size := ⟨_, rfl⟩
    rw [← g3] at A3 st3
    have g_b3 : n0 ≤ b3 := Nat.le_trans (own_old O0) (Nat.le_of_eq g3.symm)
    have O0 := O0.ext E3
    have hk := Nat.le_trans hk E3.1
    have V_b3 : Arv Z h3 b3 k3 .char (1 : Int32) [(.int (0 : Int32))] (.int (0 : Int32)) := (Arv.new A3 (by decide)).pad (pad_rep [] (.int (0 : Int32)) 1)
    refine Goes.to (T' := T3.setTop (mkF m 28 #[.val (.int p0), .val (.int p1), .val (.int p2), .val (.long q3), .second, .val (.int p4), .val (.int p5), .val (.int cs), .val (.ref mk), .unset, .unset, .unset, .unset, .unset, .unset, .unset, .unset] [(.ref b3)])) st3 ?_
    refine Goes.to (T' := T3.setTop (mkF m 30 #[.val (.int p0), .val (.int p1), .val (.int p2), .val (.long q3), .second, .val (.int p4), .val (.int p5), .val (.int cs), .val (.ref mk), .val (.ref b3), .unset, .unset, .unset, .unset, .unset, .unset, .unset] [])) (fun t k => XS.astore X3.here hx rfl (hb hby at_28) rfl rfl (l' := #[.val (.int p0), .val (.int p1), .val (.int p2), .val (.long q3), .second, .val (.int p4), .val (.int p5), .val (.int cs), .val (.ref mk), .val (.ref b3), .unset, .unset, .unset, .unset, .unset, .unset, .unset]) rfl k) ?_
    refine Goes.to (T' := T3.setTop (mkF m 32 #[.val (.int p0), .val (.int p1), .val (.int p2), .val (.long q3), .second, .val (.int p4), .val (.int p5), .val (.int cs), .val (.ref mk), .val (.ref b3), .unset, .unset, .unset, .unset, .unset, .unset, .unset] [(.ref b3)])) (fun t k => XS.aload X3.here hx rfl (hb hby at_30) rfl rfl k) ?_
    refine Goes.to (T' := T3.setTop (mkF m 33 #[.val (.int p0), .val (.int p1), .val (.int p2), .val (.long q3), .second, .val (.int p4), .val (.int p5), .val (.int cs), .val (.ref mk), .val (.ref b3), .unset, .unset, .unset, .unset, .unset, .unset, .unset] [(.int (0 : Int32)), (.ref b3)])) (fun t k => XS.iconst X3.here hx rfl (hb hby at_32) k) ?_
    refine Goes.to (T' := T3.setTop (mkF m 35 #[.val (.int p0), .val (.int p1), .val (.int p2), .val (.long q3), .second, .val (.int p4), .val (.int p5), .val (.int cs), .val (.ref mk), .val (.ref b3), .unset, .unset, .unset, .unset, .unset, .unset, .unset] [(.int p5), (.int (0 : Int32)), (.ref b3)])) (fun t k => XS.iload X3.here hx rfl (hb hby at_33) rfl k) ?_
    refine Goes.to (T' := T3.setTop (mkF m 37 #[.val (.int p0), .val (.int p1), .val (.int p2), .val (.long q3), .second, .val (.int p4), .val (.int p5), .val (.int cs), .val (.ref mk), .val (.ref b3), .unset, .unset, .unset, .unset, .unset, .unset, .unset] [(.int (8 : Int32)), (.int p5), (.int (0 : Int32)), (.ref b3)])) (fun t k => XS.bipush X3.here hx rfl (hb hby at_35) k) ?_
    refine Goes.to (T' := T3.setTop (mkF m 38 #[.val (.int p0), .val (.int p1), .val (.int p2), .val (.long q3), .second, .val (.int p4), .val (.int p5), .val (.int cs), .val (.ref mk), .val (.ref b3), .unset, .unset, .unset, .unset, .unset, .unset, .unset] [(.int ((p5.toUInt32 >>> ((8 : Int32) &&& 31).toUInt32).toInt32)), (.int (0 : Int32)), (.ref b3)])) (fun t k => XS.iushr X3.here hx rfl (hb hby at_37) rfl k) ?_
    refine Goes.to (T' := T3.setTop (mkF m 41 #[.val (.int p0), .val (.int p1), .val (.int p2), .val (.long q3), .second, .val (.int p4), .val (.int p5), .val (.int cs), .val (.ref mk), .val (.ref b3), .unset, .unset, .unset, .unset, .unset, .unset, .unset] [(.int (255 : Int32)), (.int ((p5.toUInt32 >>> ((8 : Int32) &&& 31).toUInt32).toInt32)), (.int (0 : Int32)), (.ref b3)])) (fun t k => XS.sipush X3.here hx rfl (hb hby at_38) k) ?_
    refine Goes.to (T' := T3.setTop (mkF m 42 #[.val (.int p0), .val (.int p1), .val (.int p2), .val (.long q3), .second, .val (.int p4), .val (.int p5), .val (.int cs), .val (.ref mk), .val (.ref b3), .unset, .unset, .unset, .unset, .unset, .unset, .unset] [(.int (((p5.toUInt32 >>> ((8 : Int32) &&& 31).toUInt32).toInt32) &&& (255 : Int32))), (.int (0 : Int32)), (.ref b3)])) (fun t k => XS.iand X3.here hx rfl (hb hby at_41) rfl k) ?_
    refine Goes.to (T' := T3.setTop (mkF m 43 #[.val (.int p0), .val (.int p1), .val (.int p2), .val (.long q3), .second, .val (.int p4), .val (.int p5), .val (.int cs), .val (.ref mk), .val (.ref b3), .unset, .unset, .unset, .unset, .unset, .unset, .unset] [(.int ((((p5.toUInt32 >>> ((8 : Int32) &&& 31).toUInt32).toInt32) &&& (255 : Int32)).toUInt32.toUInt16.toUInt32.toInt32)), (.int (0 : Int32)), (.ref b3)])) (fun t k => XS.i2c X3.here hx rfl (hb hby at_42) rfl k) ?_
    obtain ⟨c0, hc0⟩ : ∃ z : Int32, z = ((((p5.toUInt32 >>> ((8 : Int32) &&& 31).toUInt32).toInt32) &&& (255 : Int32)).toUInt32.toUInt16.toUInt32.toInt32) := ⟨_, rfl⟩
    rw [← hc0]
    have h_c0 : ¬ c0 < 0 ∧ ¬ (255 : Int32) < c0 := hc0 ▸ own_i2c _
    obtain ⟨cl4, Ar4, q4, S4, Ng4, H4, G4⟩ := V_b3
    have hin4 : ¬ ((0 : Int32) < 0 ∨ cl4.slots.size ≤ ((0 : Int32)).toNatClampNeg) := inb_of S4 ⟨by decide, by decide⟩
    obtain ⟨T5, h5, X5, e5, W5, st5⟩ := stC X3 hx hZ e3 Ar4 (j := (0 : Int32)) hin4 (g := (mkF m 43 #[.val (.int p0), .val (.int p1), .val (.int p2), .val (.long q3), .second, .val (.int p4), .val (.int p5), .val (.int cs), .val (.ref mk), .val (.ref b3), .unset, .unset, .unset, .unset, .unset, .unset, .unset] [(.int c0), (.int (0 : Int32)), (.ref b3)])) rfl rfl (hb hby at_43)
    have V_b3 : Arv Z h5 b3 k3 .char (1 : Int32) [(.int (nar .char c0))] (.int (0 : Int32)) := Arv.set Ar4 q4 S4 Ng4 H4 G4 (fits_nar_char _) W5 0 rfl (Nat.le_of_ble_eq_true rfl)
    have O0 := O0.wr W5 g_b3
    have hk := Nat.le_trans hk (Keep.of_wr W5).1
    have N5 := Fr.snoc X5 NJ2 g_b3
    refine Goes.to (T' := T5.setTop (mkF m 44 #[.val (.int p0), .val (.int p1), .val (.int p2), .val (.long q3), .second, .val (.int p4), .val (.int p5), .val (.int cs), .val (.ref mk), .val (.ref b3), .unset, .unset, .unset, .unset, .unset, .unset, .unset] [])) st5 ?_
    rw [own_narc h_c0] at V_b3
    refine Goes.to (T' := T5.setTop (mkF m 46 #[.val (.int p0), .val (.int p1), .val (.int p2), .val (.long q3), .second, .val (.int p4), .val (.int p5), .val (.int cs), .val (.ref mk), .val (.ref b3), .unset, .unset, .unset, .unset, .unset, .unset, .unset] [(.int p5)])) (fun t k => XS.iload X5.here hx rfl (hb hby at_44) rfl k) ?_
    refine Goes.to (T' := T5.setTop (mkF m 47 #[.val (.int p0), .val (.int p1), .val (.int p2), .val (.long q3), .second, .val (.int p4), .val (.int p5), .val (.int cs), .val (.ref mk), .val (.ref b3), .unset, .unset, .unset, .unset, .unset, .unset, .unset] [(.int (2 : Int32)), (.int p5)])) (fun t k => XS.iconst X5.here hx rfl (hb hby at_46) k) ?_
    refine Goes.to (T' := T5.setTop (mkF m 48 #[.val (.int p0), .val (.int p1), .val (.int p2), .val (.long q3), .second, .val (.int p4), .val (.int p5), .val (.int cs), .val (.ref mk), .val (.ref b3), .unset, .unset, .unset, .unset, .unset, .unset, .unset] [(.int (p5 &&& (2 : Int32)))])) (fun t k => XS.iand X5.here hx rfl (hb hby at_47) rfl k) ?_
    rcases Decidable.em ((p5 &&& (2 : Int32)) = (0 : Int32)) with hc48_6 | hc48_6
    · skip
      refine Goes.to (T' := T5.setTop (mkF m 55 #[.val (.int p0), .val (.int p1), .val (.int p2), .val (.long q3), .second, .val (.int p4), .val (.int p5), .val (.int cs), .val (.ref mk), .val (.ref b3), .unset, .unset, .unset, .unset, .unset, .unset, .unset] [])) (fun t k => XS.ifYes X5.here hx rfl (pc0 := 48) (pc' := 55) rfl (hb hby at_48) rfl ((if0 _ _).trans (teq hc48_6).1) (by decide) (by decide) k) ?_
      obtain ⟨T7, h7, X7, e7, E7, A7, D7, -, st7⟩ := newO X5 hx hZ hown (hw _ (List.mem_of_getElem? (i := 8) rfl)) (hw _ (List.mem_of_getElem? (i := 9) rfl)) (hw _ (List.mem_of_getElem? (i := 10) rfl)) e5 (g := (mkF m 55 #[.val (.int p0), .val (.int p1), .val (.int p2), .val (.long q3), .second, .val (.int p4), .val (.int p5), .val (.int cs), .val (.ref mk), .val (.ref b3), .unset, .unset, .unset, .unset, .unset, .unset, .unset] [])) rfl (hb hby at_55) (by decide) (by decide)
      obtain ⟨b7, g7⟩ : ∃ z, z = h5.size := ⟨_, rfl⟩
      rw [← g7] at A7 D7 st7
      have g_b7 : n0 ≤ b7 := Nat.le_trans (own_old O0) (Nat.le_of_eq g7.symm)
      have ne_b3_b7 : b3 ≠ b7 := Nat.ne_of_lt (Nat.lt_of_lt_of_le V_b3.lt (Nat.le_of_eq g7.symm))
      have ne_b7_b3 := Ne.symm ne_b3_b7
      have V_b3 := V_b3.ext E7
      have O0 := O0.ext E7
      have hk := Nat.le_trans hk E7.1
      have E_b7 := A7
      have F_coder_b7 : Fld Z h7 b7 "java/lang/String" "coder" "B" (.int (0 : Int32)) := D7 (Or.inr (hw _ (List.mem_of_getElem? (i := 34) rfl))) (ty := .byte) (by decide)
      have F_value_b7 : Fld Z h7 b7 "java/lang/String" "value" "[B" .null := D7 (Or.inr (hw _ (List.mem_of_getElem? (i := 36) rfl))) (ty := (.array .byte)) (by decide)
      refine Goes.to (T' := T7.setTop (mkF m 58 #[.val (.int p0), .val (.int p1), .val (.int p2), .val (.long q3), .second, .val (.int p4), .val (.int p5), .val (.int cs), .val (.ref mk), .val (.ref b3), .unset, .unset, .unset, .unset, .unset, .unset, .unset] [(.ref b7)])) st7 ?_
      refine Goes.to (T' := T7.setTop (mkF m 59 #[.val (.int p0), .val (.int p1), .val (.int p2), .val (.long q3), .second, .val (.int p4), .val (.int p5), .val (.int cs), .val (.ref mk), .val (.ref b3), .unset, .unset, .unset, .unset, .unset, .unset, .unset] [(.ref b7), (.ref b7)])) (fun t k => XS.dup X7.here hx rfl (hb hby at_58) rfl rfl k) ?_
      refine Goes.to (T' := T7.setTop (mkF m 61 #[.val (.int p0), .val (.int p1), .val (.int p2), .val (.long q3), .second, .val (.int p4), .val (.int p5), .val (.int cs), .val (.ref mk), .val (.ref b3), .unset, .unset, .unset, .unset, .unset, .unset, .unset] [(.ref b3), (.ref b7), (.ref b7)])) (fun t k => XS.aload X7.here hx rfl (hb hby at_59) rfl rfl k) ?_
      have hws : ∀ d ∈ StrChars.Road.words, d.before a0 Z = true := fun d hd => hw d ((by decide +kernel : ∀ d ∈ StrChars.Road.words, d ∈ tables_1) d hd)
      have hlat : ∀ c ∈ [c0], ¬ c < 0 ∧ ¬ (255 : Int32) < c := by
        intro c hc
        simp only [List.mem_cons, List.not_mem_nil, or_false] at hc
        rcases hc with rfl
        · exact h_c0
      obtain ⟨_, _, ⟨T8, L8, k8, n8⟩, -, X8, ⟨Lc8, hQ8, l8, y8, z8⟩, st8⟩ := X7.specialBack hx (y := (⟨"java/lang/String", "<init>", "([C)V"⟩ : MethodName)) rfl hown (mvT hZ (hw _ (List.mem_of_getElem? (i := 11) rfl))) (mvT hZ (hw _ (List.mem_of_getElem? (i := 12) rfl))) (mvT hZ (hw _ (List.mem_of_getElem? (i := 13) rfl))) (by decide) (StrChars.Road.backV (W := 1) hZ hws (kI := 4) (hw _ (List.mem_of_getElem? (i := 9) rfl)) (cs := [c0]) (bs := [c0.toInt8.toInt32]) (n := 1) g_b7 (own_old O0) E_b7 F_value_b7 F_coder_b7 V_b3 (S_cs.ext O0.2) nz_cs rfl rfl (by decide) (by decide) hlat rfl (by decide) (by decide)) (g := (mkF m 61 #[.val (.int p0), .val (.int p1), .val (.int p2), .val (.long q3), .second, .val (.int p4), .val (.int p5), .val (.int cs), .val (.ref mk), .val (.ref b3), .unset, .unset, .unset, .unset, .unset, .unset, .unset] [(.ref b3), (.ref b7), (.ref b7)])) rfl (by rw [hml]; rfl) (Steps.refl _) (a := b7) (argsL := [(.ref b3)]) (rest := [(.ref b7)]) (lenOf pd_102 rfl) rfl (by show 2 * 0 + _ ≤ _; exact Nat.le_of_eq rfl) (hb hby at_61) (fun _ _ => ⟨rfl, e7, (by decide : 2 + 1 ≤ _), (by decide : 5 + 1 ≤ _)⟩)
      dsimp only [Pt.U, Pt.locs, Pt.cells, Pt.slots] at X8 l8 y8 z8 st8 hQ8
      subst l8 y8 z8
      obtain ⟨rfl, Nq8, K8, -, Fc8, t8, kb8, gt8, szt8, net8, Fv8, Av8⟩ := hQ8
      have N8 := Fr.app N5 Nq8
      have g_t8 : n0 ≤ t8 := gt8
      have ne_b3_t8 : b3 ≠ t8 := Nat.ne_of_lt (Nat.lt_of_lt_of_le V_b3.lt szt8)
      have ne_t8_b3 := Ne.symm ne_b3_t8
      have ne_b7_t8 : b7 ≠ t8 := Nat.ne_of_lt (Nat.lt_of_lt_of_le E_b7.lt szt8)
      have ne_t8_b7 := Ne.symm ne_b7_t8
      have V_b3 := V_b3.keep K8 (ninS (ne_b3_b7) nin0)
      have E_b7 := E_b7.keep K8
      have O0 := O0.keep K8 (allS g_b7 all0)
      have hk := Nat.le_trans hk K8.1
      have F_coder_b7 := Fc8
      have F_value_b7 := Fv8
      have V_t8 : Arv Z T8.heap t8 kb8 .byte (1 : Int32) [(.int c0.toInt8.toInt32)] (.int (0 : Int32)) := Av8
      refine Goes.thru (T' := T8.setTop (mkF m 64 #[.val (.int p0), .val (.int p1), .val (.int p2), .val (.long q3), .second, .val (.int p4), .val (.int p5), .val (.int cs), .val (.ref mk), .val (.ref b3), .unset, .unset, .unset, .unset, .unset, .unset, .unset] [(.ref b7)])) st8 ?_
      refine Goes.to (T' := T8.setTop (mkF m 66 #[.val (.int p0), .val (.int p1), .val (.int p2), .val (.long q3), .second, .val (.int p4), .val (.int p5), .val (.int cs), .val (.ref mk), .val (.ref b3), .val (.ref b7), .unset, .unset, .unset, .unset, .unset, .unset] [])) (fun t k => XS.astore X8.here hx rfl (hb hby at_64) rfl rfl (l' := #[.val (.int p0), .val (.int p1), .val (.int p2), .val (.long q3), .second, .val (.int p4), .val (.int p5), .val (.int cs), .val (.ref mk), .val (.ref b3), .val (.ref b7), .unset, .unset, .unset, .unset, .unset, .unset]) rfl k) ?_
      refine Goes.to (T' := T8.setTop (mkF m 67 #[.val (.int p0), .val (.int p1), .val (.int p2), .val (.long q3), .second, .val (.int p4), .val (.int p5), .val (.int cs), .val (.ref mk), .val (.ref b3), .val (.ref b7), .unset, .unset, .unset, .unset, .unset, .unset] [(.int (1 : Int32))])) (fun t k => XS.iconst X8.here hx rfl (hb hby at_66) k) ?_
      obtain ⟨T9, h9, k9, X9, e9, E9, A9, st9⟩ := newP X8 hx hZ (hw _ (List.mem_of_getElem? (i := 7) rfl)) rfl (g := (mkF m 67 #[.val (.int p0), .val (.int p1), .val (.int p2), .val (.long q3), .second, .val (.int p4), .val (.int p5), .val (.int cs), .val (.ref mk), .val (.ref b3), .val (.ref b7), .unset, .unset, .unset, .unset, .unset, .unset] [(.int (1 : Int32))])) rfl (hb hby at_67) rfl (by decide) (cap := 1) (by decide) (by decide) (by decide) (by decide)
      obtain ⟨b9, g9⟩ : ∃ z, z = T8.heap.size := ⟨_, rfl⟩
      rw [← g9] at A9 st9
      have g_b9 : n0 ≤ b9 := Nat.le_trans (own_old O0) (Nat.le_of_eq g9.symm)
      have ne_b3_b9 : b3 ≠ b9 := Nat.ne_of_lt (Nat.lt_of_lt_of_le V_b3.lt (Nat.le_of_eq g9.symm))
      have ne_b9_b3 := Ne.symm ne_b3_b9
      have ne_b7_b9 : b7 ≠ b9 := Nat.ne_of_lt (Nat.lt_of_lt_of_le E_b7.lt (Nat.le_of_eq g9.symm))
      have ne_b9_b7 := Ne.symm ne_b7_b9
      have ne_t8_b9 : t8 ≠ b9 := Nat.ne_of_lt (Nat.lt_of_lt_of_le V_t8.lt (Nat.le_of_eq g9.symm))
      have ne_b9_t8 := Ne.symm ne_t8_b9
      have V_b3 := V_b3.ext E9
      have E_b7 := E_b7.ext E9
      have F_coder_b7 := F_coder_b7.ext E9
      have F_value_b7 := F_value_b7.ext E9
      have V_t8 := V_t8.ext E9
      have O0 := O0.ext E9
      have hk := Nat.le_trans hk E9.1
      have V_b9 : Arv Z h9 b9 k9 .char (1 : Int32) [(.int (0 : Int32))] (.int (0 : Int32)) := (Arv.new A9 (by decide)).pad (pad_rep [] (.int (0 : Int32)) 1)
      refine Goes.to (T' := T9.setTop (mkF m 69 #[.val (.int p0), .val (.int p1), .val (.int p2), .val (.long q3), .second, .val (.int p4), .val (.int p5), .val (.int cs), .val (.ref mk), .val (.ref b3), .val (.ref b7), .unset, .unset, .unset, .unset, .unset, .unset] [(.ref b9)])) st9 ?_
      refine Goes.to (T' := T9.setTop (mkF m 71 #[.val (.int p0), .val (.int p1), .val (.int p2), .val (.long q3), .second, .val (.int p4), .val (.int p5), .val (.int cs), .val (.ref mk), .val (.ref b3), .val (.ref b7), .val (.ref b9), .unset, .unset, .unset, .unset, .unset] [])) (fun t k => XS.astore X9.here hx rfl (hb hby at_69) rfl rfl (l' := #[.val (.int p0), .val (.int p1), .val (.int p2), .val (.long q3), .second, .val (.int p4), .val (.int p5), .val (.int cs), .val (.ref mk), .val (.ref b3), .val (.ref b7), .val (.ref b9), .unset, .unset, .unset, .unset, .unset]) rfl k) ?_
      refine Goes.to (T' := T9.setTop (mkF m 73 #[.val (.int p0), .val (.int p1), .val (.int p2), .val (.long q3), .second, .val (.int p4), .val (.int p5), .val (.int cs), .val (.ref mk), .val (.ref b3), .val (.ref b7), .val (.ref b9), .unset, .unset, .unset, .unset, .unset] [(.ref b9)])) (fun t k => XS.aload X9.here hx rfl (hb hby at_71) rfl rfl k) ?_
      refine Goes.to (T' := T9.setTop (mkF m 74 #[.val (.int p0), .val (.int p1), .val (.int p2), .val (.long q3), .second, .val (.int p4), .val (.int p5), .val (.int cs), .val (.ref mk), .val (.ref b3), .val (.ref b7), .val (.ref b9), .unset, .unset, .unset, .unset, .unset] [(.int (0 : Int32)), (.ref b9)])) (fun t k => XS.iconst X9.here hx rfl (hb hby at_73) k) ?_
      refine Goes.to (T' := T9.setTop (mkF m 76 #[.val (.int p0), .val (.int p1), .val (.int p2), .val (.long q3), .second, .val (.int p4), .val (.int p5), .val (.int cs), .val (.ref mk), .val (.ref b3), .val (.ref b7), .val (.ref b9), .unset, .unset, .unset, .unset, .unset] [(.int (48 : Int32)), (.int (0 : Int32)), (.ref b9)])) (fun t k => XS.bipush X9.here hx rfl (hb hby at_74) k) ?_
      refine Goes.to (T' := T9.setTop (mkF m 78 #[.val (.int p0), .val (.int p1), .val (.int p2), .val (.long q3), .second, .val (.int p4), .val (.int p5), .val (.int cs), .val (.ref mk), .val (.ref b3), .val (.ref b7), .val (.ref b9), .unset, .unset, .unset, .unset, .unset] [(.int p5), (.int (48 : Int32)), (.int (0 : Int32)), (.ref b9)])) (fun t k => XS.iload X9.here hx rfl (hb hby at_76) rfl k) ?_
      refine Goes.to (T' := T9.setTop (mkF m 80 #[.val (.int p0), .val (.int p1), .val (.int p2), .val (.long q3), .second, .val (.int p4), .val (.int p5), .val (.int cs), .val (.ref mk), .val (.ref b3), .val (.ref b7), .val (.ref b9), .unset, .unset, .unset, .unset, .unset] [(.int (16 : Int32)), (.int p5), (.int (48 : Int32)), (.int (0 : Int32)), (.ref b9)])) (fun t k => XS.bipush X9.here hx rfl (hb hby at_78) k) ?_
      refine Goes.to (T' := T9.setTop (mkF m 81 #[.val (.int p0), .val (.int p1), .val (.int p2), .val (.long q3), .second, .val (.int p4), .val (.int p5), .val (.int cs), .val (.ref mk), .val (.ref b3), .val (.ref b7), .val (.ref b9), .unset, .unset, .unset, .unset, .unset] [(.int ((p5.toUInt32 >>> ((16 : Int32) &&& 31).toUInt32).toInt32)), (.int (48 : Int32)), (.int (0 : Int32)), (.ref b9)])) (fun t k => XS.iushr X9.here hx rfl (hb hby at_80) rfl k) ?_
      refine Goes.to (T' := T9.setTop (mkF m 83 #[.val (.int p0), .val (.int p1), .val (.int p2), .val (.long q3), .second, .val (.int p4), .val (.int p5), .val (.int cs), .val (.ref mk), .val (.ref b3), .val (.ref b7), .val (.ref b9), .unset, .unset, .unset, .unset, .unset] [(.int (7 : Int32)), (.int ((p5.toUInt32 >>> ((16 : Int32) &&& 31).toUInt32).toInt32)), (.int (48 : Int32)), (.int (0 : Int32)), (.ref b9)])) (fun t k => XS.bipush X9.here hx rfl (hb hby at_81) k) ?_
      refine Goes.to (T' := T9.setTop (mkF m 84 #[.val (.int p0), .val (.int p1), .val (.int p2), .val (.long q3), .second, .val (.int p4), .val (.int p5), .val (.int cs), .val (.ref mk), .val (.ref b3), .val (.ref b7), .val (.ref b9), .unset, .unset, .unset, .unset, .unset] [(.int (((p5.toUInt32 >>> ((16 : Int32) &&& 31).toUInt32).toInt32) &&& (7 : Int32))), (.int (48 : Int32)), (.int (0 : Int32)), (.ref b9)])) (fun t k => XS.iand X9.here hx rfl (hb hby at_83) rfl k) ?_
      refine Goes.to (T' := T9.setTop (mkF m 85 #[.val (.int p0), .val (.int p1), .val (.int p2), .val (.long q3), .second, .val (.int p4), .val (.int p5), .val (.int cs), .val (.ref mk), .val (.ref b3), .val (.ref b7), .val (.ref b9), .unset, .unset, .unset, .unset, .unset] [(.int ((48 : Int32) + (((p5.toUInt32 >>> ((16 : Int32) &&& 31).toUInt32).toInt32) &&& (7 : Int32)))), (.int (0 : Int32)), (.ref b9)])) (fun t k => XS.iadd X9.here hx rfl (hb hby at_84) rfl k) ?_
      refine Goes.to (T' := T9.setTop (mkF m 86 #[.val (.int p0), .val (.int p1), .val (.int p2), .val (.long q3), .second, .val (.int p4), .val (.int p5), .val (.int cs), .val (.ref mk), .val (.ref b3), .val (.ref b7), .val (.ref b9), .unset, .unset, .unset, .unset, .unset] [(.int (((48 : Int32) + (((p5.toUInt32 >>> ((16 : Int32) &&& 31).toUInt32).toInt32) &&& (7 : Int32))).toUInt32.toUInt16.toUInt32.toInt32)), (.int (0 : Int32)), (.ref b9)])) (fun t k => XS.i2c X9.here hx rfl (hb hby at_85) rfl k) ?_
      obtain ⟨c1, hc1⟩ : ∃ z : Int32, z = (((48 : Int32) + (((p5.toUInt32 >>> ((16 : Int32) &&& 31).toUInt32).toInt32) &&& (7 : Int32))).toUInt32.toUInt16.toUInt32.toInt32) := ⟨_, rfl⟩
      rw [← hc1]
      have h_c1 : ¬ c1 < 0 ∧ ¬ (255 : Int32) < c1 := hc1 ▸ own_i2c48 _
      obtain ⟨cl10, Ar10, q10, S10, Ng10, H10, G10⟩ := V_b9
      have hin10 : ¬ ((0 : Int32) < 0 ∨ cl10.slots.size ≤ ((0 : Int32)).toNatClampNeg) := inb_of S10 ⟨by decide, by decide⟩
      obtain ⟨T11, h11, X11, e11, W11, st11⟩ := stC X9 hx hZ e9 Ar10 (j := (0 : Int32)) hin10 (g := (mkF m 86 #[.val (.int p0), .val (.int p1), .val (.int p2), .val (.long q3), .second, .val (.int p4), .val (.int p5), .val (.int cs), .val (.ref mk), .val (.ref b3), .val (.ref b7), .val (.ref b9), .unset, .unset, .unset, .unset, .unset] [(.int c1), (.int (0 : Int32)), (.ref b9)])) rfl rfl (hb hby at_86)
      have V_b9 : Arv Z h11 b9 k9 .char (1 : Int32) [(.int (nar .char c1))] (.int (0 : Int32)) := Arv.set Ar10 q10 S10 Ng10 H10 G10 (fits_nar_char _) W11 0 rfl (Nat.le_of_ble_eq_true rfl)
      have V_b3 := V_b3.other W11 (ne_b3_b9)
      have E_b7 := E_b7.wr W11
      have F_coder_b7 := F_coder_b7.other W11 (Or.inl (ne_b7_b9))
      have F_value_b7 := F_value_b7.other W11 (Or.inl (ne_b7_b9))
      have V_t8 := V_t8.other W11 (ne_t8_b9)
      have O0 := O0.wr W11 g_b9
      have hk := Nat.le_trans hk (Keep.of_wr W11).1
      have N11 := Fr.snoc X11 N8 g_b9
      refine Goes.to (T' := T11.setTop (mkF m 87 #[.val (.int p0), .val (.int p1), .val (.int p2), .val (.long q3), .second, .val (.int p4), .val (.int p5), .val (.int cs), .val (.ref mk), .val (.ref b3), .val (.ref b7), .val (.ref b9), .unset, .unset, .unset, .unset, .unset] [])) st11 ?_
      rw [own_narc h_c1] at V_b9
      obtain ⟨T12, h12, X12, e12, E12, A12, D12, -, st12⟩ := newO X11 hx hZ hown (hw _ (List.mem_of_getElem? (i := 8) rfl)) (hw _ (List.mem_of_getElem? (i := 9) rfl)) (hw _ (List.mem_of_getElem? (i := 10) rfl)) e11 (g := (mkF m 87 #[.val (.int p0), .val (.int p1), .val (.int p2), .val (.long q3), .second, .val (.int p4), .val (.int p5), .val (.int cs), .val (.ref mk), .val (.ref b3), .val (.ref b7), .val (.ref b9), .unset, .unset, .unset, .unset, .unset] [])) rfl (hb hby at_87) (by decide) (by decide)
      obtain ⟨b12, g12⟩ : ∃ z, z = h11.size := ⟨_, rfl⟩
      rw [← g12] at A12 D12 st12
      have g_b12 : n0 ≤ b12 := Nat.le_trans (own_old O0) (Nat.le_of_eq g12.symm)
      have ne_b3_b12 : b3 ≠ b12 := Nat.ne_of_lt (Nat.lt_of_lt_of_le V_b3.lt (Nat.le_of_eq g12.symm))
      have ne_b12_b3 := Ne.symm ne_b3_b12
      have ne_b7_b12 : b7 ≠ b12 := Nat.ne_of_lt (Nat.lt_of_lt_of_le E_b7.lt (Nat.le_of_eq g12.symm))
      have ne_b12_b7 := Ne.symm ne_b7_b12
      have ne_t8_b12 : t8 ≠ b12 := Nat.ne_of_lt (Nat.lt_of_lt_of_le V_t8.lt (Nat.le_of_eq g12.symm))
      have ne_b12_t8 := Ne.symm ne_t8_b12
      have ne_b9_b12 : b9 ≠ b12 := Nat.ne_of_lt (Nat.lt_of_lt_of_le V_b9.lt (Nat.le_of_eq g12.symm))
      have ne_b12_b9 := Ne.symm ne_b9_b12
      have V_b3 := V_b3.ext E12
      have E_b7 := E_b7.ext E12
      have F_coder_b7 := F_coder_b7.ext E12
      have F_value_b7 := F_value_b7.ext E12
      have V_t8 := V_t8.ext E12
      have V_b9 := V_b9.ext E12
      have O0 := O0.ext E12
      have hk := Nat.le_trans hk E12.1
      have E_b12 := A12
      have F_coder_b12 : Fld Z h12 b12 "java/lang/String" "coder" "B" (.int (0 : Int32)) := D12 (Or.inr (hw _ (List.mem_of_getElem? (i := 34) rfl))) (ty := .byte) (by decide)
      have F_value_b12 : Fld Z h12 b12 "java/lang/String" "value" "[B" .null := D12 (Or.inr (hw _ (List.mem_of_getElem? (i := 36) rfl))) (ty := (.array .byte)) (by decide)
      refine Goes.to (T' := T12.setTop (mkF m 90 #[.val (.int p0), .val (.int p1), .val (.int p2), .val (.long q3), .second, .val (.int p4), .val (.int p5), .val (.int cs), .val (.ref mk), .val (.ref b3), .val (.ref b7), .val (.ref b9), .unset, .unset, .unset, .unset, .unset] [(.ref b12)])) st12 ?_
      refine Goes.to (T' := T12.setTop (mkF m 91 #[.val (.int p0), .val (.int p1), .val (.int p2), .val (.long q3), .second, .val (.int p4), .val (.int p5), .val (.int cs), .val (.ref mk), .val (.ref b3), .val (.ref b7), .val (.ref b9), .unset, .unset, .unset, .unset, .unset] [(.ref b12), (.ref b12)])) (fun t k => XS.dup X12.here hx rfl (hb hby at_90) rfl rfl k) ?_
      refine Goes.to (T' := T12.setTop (mkF m 93 #[.val (.int p0), .val (.int p1), .val (.int p2), .val (.long q3), .second, .val (.int p4), .val (.int p5), .val (.int cs), .val (.ref mk), .val (.ref b3), .val (.ref b7), .val (.ref b9), .unset, .unset, .unset, .unset, .unset] [(.ref b9), (.ref b12), (.ref b12)])) (fun t k => XS.aload X12.here hx rfl (hb hby at_91) rfl rfl k) ?_
      have hws : ∀ d ∈ StrChars.Road.words, d.before a0 Z = true := fun d hd => hw d ((by decide +kernel : ∀ d ∈ StrChars.Road.words, d ∈ tables_1) d hd)
      have hlat : ∀ c ∈ [c1], ¬ c < 0 ∧ ¬ (255 : Int32) < c := by
        intro c hc
        simp only [List.mem_cons, List.not_mem_nil, or_false] at hc
        rcases hc with rfl
        · exact h_c1
      obtain ⟨_, _, ⟨T13, L13, k13, n13⟩, -, X13, ⟨Lc13, hQ13, l13, y13, z13⟩, st13⟩ := X12.specialBack hx (y := (⟨"java/lang/String", "<init>", "([C)V"⟩ : MethodName)) rfl hown (mvT hZ (hw _ (List.mem_of_getElem? (i := 11) rfl))) (mvT hZ (hw _ (List.mem_of_getElem? (i := 12) rfl))) (mvT hZ (hw _ (List.mem_of_getElem? (i := 13) rfl))) (by decide) (StrChars.Road.backV (W := 1) hZ hws (kI := 4) (hw _ (List.mem_of_getElem? (i := 9) rfl)) (cs := [c1]) (bs := [c1.toInt8.toInt32]) (n := 1) g_b12 (own_old O0) E_b12 F_value_b12 F_coder_b12 V_b9 (S_cs.ext O0.2) nz_cs rfl rfl (by decide) (by decide) hlat rfl (by decide) (by decide)) (g := (mkF m 93 #[.val (.int p0), .val (.int p1), .val (.int p2), .val (.long q3), .second, .val (.int p4), .val (.int p5), .val (.int cs), .val (.ref mk), .val (.ref b3), .val (.ref b7), .val (.ref b9), .unset, .unset, .unset, .unset, .unset] [(.ref b9), (.ref b12), (.ref b12)])) rfl (by rw [hml]; rfl) (Steps.refl _) (a := b12) (argsL := [(.ref b9)]) (rest := [(.ref b12)]) (lenOf pd_102 rfl) rfl (by show 2 * 0 + _ ≤ _; exact Nat.le_of_eq rfl) (hb hby at_93) (fun _ _ => ⟨rfl, e12, (by decide : 5 + 1 ≤ _), (by decide : 11 + 1 ≤ _)⟩)
      dsimp only [Pt.U, Pt.locs, Pt.cells, Pt.slots] at X13 l13 y13 z13 st13 hQ13
      subst l13 y13 z13
      obtain ⟨rfl, Nq13, K13, -, Fc13, t13, kb13, gt13, szt13, net13, Fv13, Av13⟩ := hQ13
      have N13 := Fr.app N11 Nq13
      have g_t13 : n0 ≤ t13 := gt13
      have ne_b3_t13 : b3 ≠ t13 := Nat.ne_of_lt (Nat.lt_of_lt_of_le V_b3.lt szt13)
      have ne_t13_b3 := Ne.symm ne_b3_t13
      have ne_b7_t13 : b7 ≠ t13 := Nat.ne_of_lt (Nat.lt_of_lt_of_le E_b7.lt szt13)
      have ne_t13_b7 := Ne.symm ne_b7_t13
      have ne_t8_t13 : t8 ≠ t13 := Nat.ne_of_lt (Nat.lt_of_lt_of_le V_t8.lt szt13)
      have ne_t13_t8 := Ne.symm ne_t8_t13
      have ne_b9_t13 : b9 ≠ t13 := Nat.ne_of_lt (Nat.lt_of_lt_of_le V_b9.lt szt13)
      have ne_t13_b9 := Ne.symm ne_b9_t13
      have ne_b12_t13 : b12 ≠ t13 := Nat.ne_of_lt (Nat.lt_of_lt_of_le E_b12.lt szt13)
      have ne_t13_b12 := Ne.symm ne_b12_t13
      have V_b3 := V_b3.keep K13 (ninS (ne_b3_b12) nin0)
      have E_b7 := E_b7.keep K13
      have F_coder_b7 := F_coder_b7.keep K13 (ninS (ne_b7_b12) nin0)
      have F_value_b7 := F_value_b7.keep K13 (ninS (ne_b7_b12) nin0)
      have V_t8 := V_t8.keep K13 (ninS (ne_t8_b12) nin0)
      have V_b9 := V_b9.keep K13 (ninS (ne_b9_b12) nin0)
      have E_b12 := E_b12.keep K13
      have O0 := O0.keep K13 (allS g_b12 all0)
      have hk := Nat.le_trans hk K13.1
      have F_coder_b12 := Fc13
      have F_value_b12 := Fv13
      have V_t13 : Arv Z T13.heap t13 kb13 .byte (1 : Int32) [(.int c1.toInt8.toInt32)] (.int (0 : Int32)) := Av13
      refine Goes.thru (T' := T13.setTop (mkF m 96 #[.val (.int p0), .val (.int p1), .val (.int p2), .val (.long q3), .second, .val (.int p4), .val (.int p5), .val (.int cs), .val (.ref mk), .val (.ref b3), .val (.ref b7), .val (.ref b9), .unset, .unset, .unset, .unset, .unset] [(.ref b12)])) st13 ?_
      refine Goes.to (T' := T13.setTop (mkF m 98 #[.val (.int p0), .val (.int p1), .val (.int p2), .val (.long q3), .second, .val (.int p4), .val (.int p5), .val (.int cs), .val (.ref mk), .val (.ref b3), .val (.ref b7), .val (.ref b9), .val (.ref b12), .unset, .unset, .unset, .unset] [])) (fun t k => XS.astore X13.here hx rfl (hb hby at_96) rfl rfl (l' := #[.val (.int p0), .val (.int p1), .val (.int p2), .val (.long q3), .second, .val (.int p4), .val (.int p5), .val (.int cs), .val (.ref mk), .val (.ref b3), .val (.ref b7), .val (.ref b9), .val (.ref b12), .unset, .unset, .unset, .unset]) rfl k) ?_
      refine Goes.to (T' := T13.setTop (mkF m 100 #[.val (.int p0), .val (.int p1), .val (.int p2), .val (.long q3), .second, .val (.int p4), .val (.int p5), .val (.int cs), .val (.ref mk), .val (.ref b3), .val (.ref b7), .val (.ref b9), .val (.ref b12), .unset, .unset, .unset, .unset] [(.int p5)])) (fun t k => XS.iload X13.here hx rfl (hb hby at_98) rfl k) ?_
      refine Goes.to (T' := T13.setTop (mkF m 102 #[.val (.int p0), .val (.int p1), .val (.int p2), .val (.long q3), .second, .val (.int p4), .val (.int p5), .val (.int cs), .val (.ref mk), .val (.ref b3), .val (.ref b7), .val (.ref b9), .val (.ref b12), .unset, .unset, .unset, .unset] [(.int (20 : Int32)), (.int p5)])) (fun t k => XS.bipush X13.here hx rfl (hb hby at_100) k) ?_
      refine Goes.to (T' := T13.setTop (mkF m 103 #[.val (.int p0), .val (.int p1), .val (.int p2), .val (.long q3), .second, .val (.int p4), .val (.int p5), .val (.int cs), .val (.ref mk), .val (.ref b3), .val (.ref b7), .val (.ref b9), .val (.ref b12), .unset, .unset, .unset, .unset] [(.int ((p5.toUInt32 >>> ((20 : Int32) &&& 31).toUInt32).toInt32))])) (fun t k => XS.iushr X13.here hx rfl (hb hby at_102) rfl k) ?_
      refine Goes.to (T' := T13.setTop (mkF m 104 #[.val (.int p0), .val (.int p1), .val (.int p2), .val (.long q3), .second, .val (.int p4), .val (.int p5), .val (.int cs), .val (.ref mk), .val (.ref b3), .val (.ref b7), .val (.ref b9), .val (.ref b12), .unset, .unset, .unset, .unset] [(.int (3 : Int32)), (.int ((p5.toUInt32 >>> ((20 : Int32) &&& 31).toUInt32).toInt32))])) (fun t k => XS.iconst X13.here hx rfl (hb hby at_103) k) ?_
      refine Goes.to (T' := T13.setTop (mkF m 105 #[.val (.int p0), .val (.int p1), .val (.int p2), .val (.long q3), .second, .val (.int p4), .val (.int p5), .val (.int cs), .val (.ref mk), .val (.ref b3), .val (.ref b7), .val (.ref b9), .val (.ref b12), .unset, .unset, .unset, .unset] [(.int (((p5.toUInt32 >>> ((20 : Int32) &&& 31).toUInt32).toInt32) &&& (3 : Int32)))])) (fun t k => XS.iand X13.here hx rfl (hb hby at_104) rfl k) ?_
      refine Goes.to (T' := T13.setTop (mkF m 107 #[.val (.int p0), .val (.int p1), .val (.int p2), .val (.long q3), .second, .val (.int p4), .val (.int p5), .val (.int cs), .val (.ref mk), .val (.ref b3), .val (.ref b7), .val (.ref b9), .val (.ref b12), .val (.int (((p5.toUInt32 >>> ((20 : Int32) &&& 31).toUInt32).toInt32) &&& (3 : Int32))), .unset, .unset, .unset] [])) (fun t k => XS.istore X13.here hx rfl (hb hby at_105) rfl (l' := #[.val (.int p0), .val (.int p1), .val (.int p2), .val (.long q3), .second, .val (.int p4), .val (.int p5), .val (.int cs), .val (.ref mk), .val (.ref b3), .val (.ref b7), .val (.ref b9), .val (.ref b12), .val (.int (((p5.toUInt32 >>> ((20 : Int32) &&& 31).toUInt32).toInt32) &&& (3 : Int32))), .unset, .unset, .unset]) rfl k) ?_
      obtain ⟨T14, h14, X14, e14, E14, A14, D14, -, st14⟩ := newO X13 hx hZ hown (hw _ (List.mem_of_getElem? (i := 37) rfl)) (hw _ (List.mem_of_getElem? (i := 38) rfl)) (hw _ (List.mem_of_getElem? (i := 39) rfl)) rfl (g := (mkF m 107 #[.val (.int p0), .val (.int p1), .val (.int p2), .val (.long q3), .second, .val (.int p4), .val (.int p5), .val (.int cs), .val (.ref mk), .val (.ref b3), .val (.ref b7), .val (.ref b9), .val (.ref b12), .val (.int (((p5.toUInt32 >>> ((20 : Int32) &&& 31).toUInt32).toInt32) &&& (3 : Int32))), .unset, .unset, .unset] [])) rfl (hb hby at_107) (by decide) (by decide)
      obtain ⟨b14, g14⟩ : ∃ z, z = T13.heap.size := ⟨_, rfl⟩
      rw [← g14] at A14 D14 st14
      have g_b14 : n0 ≤ b14 := Nat.le_trans (own_old O0) (Nat.le_of_eq g14.symm)
      have ne_b3_b14 : b3 ≠ b14 := Nat.ne_of_lt (Nat.lt_of_lt_of_le V_b3.lt (Nat.le_of_eq g14.symm))
      have ne_b14_b3 := Ne.symm ne_b3_b14
      have ne_b7_b14 : b7 ≠ b14 := Nat.ne_of_lt (Nat.lt_of_lt_of_le E_b7.lt (Nat.le_of_eq g14.symm))
      have ne_b14_b7 := Ne.symm ne_b7_b14
      have ne_t8_b14 : t8 ≠ b14 := Nat.ne_of_lt (Nat.lt_of_lt_of_le V_t8.lt (Nat.le_of_eq g14.symm))
      have ne_b14_t8 := Ne.symm ne_t8_b14
      have ne_b9_b14 : b9 ≠ b14 := Nat.ne_of_lt (Nat.lt_of_lt_of_le V_b9.lt (Nat.le_of_eq g14.symm))
      have ne_b14_b9 := Ne.symm ne_b9_b14
      have ne_b12_b14 : b12 ≠ b14 := Nat.ne_of_lt (Nat.lt_of_lt_of_le E_b12.lt (Nat.le_of_eq g14.symm))
      have ne_b14_b12 := Ne.symm ne_b12_b14
      have ne_t13_b14 : t13 ≠ b14 := Nat.ne_of_lt (Nat.lt_of_lt_of_le V_t13.lt (Nat.le_of_eq g14.symm))
      have ne_b14_t13 := Ne.symm ne_t13_b14
      have V_b3 := V_b3.ext E14
      have E_b7 := E_b7.ext E14
      have F_coder_b7 := F_coder_b7.ext E14
      have F_value_b7 := F_value_b7.ext E14
      have V_t8 := V_t8.ext E14
      have V_b9 := V_b9.ext E14
      have E_b12 := E_b12.ext E14
      have F_coder_b12 := F_coder_b12.ext E14
      have F_value_b12 := F_value_b12.ext E14
      have V_t13 := V_t13.ext E14
      have O0 := O0.ext E14
      have hk := Nat.le_trans hk E14.1
      have E_b14 := A14
      have F_consumptionState_b14 : Fld Z h14 b14 "com/example/arvi/arvi/model/PurchaseDetails" "consumptionState" "I" (.int (0 : Int32)) := D14 (Or.inr (hw _ (List.mem_of_getElem? (i := 45) rfl))) (ty := .int) (by decide)
      have F_developerPayload_b14 : Fld Z h14 b14 "com/example/arvi/arvi/model/PurchaseDetails" "developerPayload" "Ljava/lang/String;" .null := D14 (Or.inr (hw _ (List.mem_of_getElem? (i := 47) rfl))) (ty := (.object "java/lang/String")) (by decide)
      have F_purchaseState_b14 : Fld Z h14 b14 "com/example/arvi/arvi/model/PurchaseDetails" "purchaseState" "I" (.int (0 : Int32)) := D14 (Or.inr (hw _ (List.mem_of_getElem? (i := 49) rfl))) (ty := .int) (by decide)
      have F_purchaseTime_b14 : Fld Z h14 b14 "com/example/arvi/arvi/model/PurchaseDetails" "purchaseTime" "J" (.long (0 : Int64)) := D14 (Or.inr (hw _ (List.mem_of_getElem? (i := 51) rfl))) (ty := .long) (by decide)
      have F_purchaseId_b14 : Fld Z h14 b14 "com/example/arvi/arvi/model/PurchaseDetails" "purchaseId" "Ljava/lang/String;" .null := D14 (Or.inr (hw _ (List.mem_of_getElem? (i := 61) rfl))) (ty := (.object "java/lang/String")) (by decide)
      have F_acknowledgeState_b14 : Fld Z h14 b14 "com/example/arvi/arvi/model/PurchaseDetails" "acknowledgeState" "I" (.int (0 : Int32)) := D14 (Or.inr (hw _ (List.mem_of_getElem? (i := 63) rfl))) (ty := .int) (by decide)
      have F_quantity_b14 : Fld Z h14 b14 "com/example/arvi/arvi/model/PurchaseDetails" "quantity" "I" (.int (0 : Int32)) := D14 (Or.inr (hw _ (List.mem_of_getElem? (i := 65) rfl))) (ty := .int) (by decide)
      have F_market_b14 : Fld Z h14 b14 "com/example/arvi/arvi/model/PurchaseDetails" "market" "Lcom/example/arvi/arvi/model/Market;" .null := D14 (Or.inr (hw _ (List.mem_of_getElem? (i := 70) rfl))) (ty := (.object "com/example/arvi/arvi/model/Market")) (by decide)
      refine Goes.to (T' := T14.setTop (mkF m 110 #[.val (.int p0), .val (.int p1), .val (.int p2), .val (.long q3), .second, .val (.int p4), .val (.int p5), .val (.int cs), .val (.ref mk), .val (.ref b3), .val (.ref b7), .val (.ref b9), .val (.ref b12), .val (.int (((p5.toUInt32 >>> ((20 : Int32) &&& 31).toUInt32).toInt32) &&& (3 : Int32))), .unset, .unset, .unset] [(.ref b14)])) st14 ?_
      refine Goes.to (T' := T14.setTop (mkF m 111 #[.val (.int p0), .val (.int p1), .val (.int p2), .val (.long q3), .second, .val (.int p4), .val (.int p5), .val (.int cs), .val (.ref mk), .val (.ref b3), .val (.ref b7), .val (.ref b9), .val (.ref b12), .val (.int (((p5.toUInt32 >>> ((20 : Int32) &&& 31).toUInt32).toInt32) &&& (3 : Int32))), .unset, .unset, .unset] [(.ref b14), (.ref b14)])) (fun t k => XS.dup X14.here hx rfl (hb hby at_110) rfl rfl k) ?_
      refine Goes.to (T' := T14.setTop (mkF m 113 #[.val (.int p0), .val (.int p1), .val (.int p2), .val (.long q3), .second, .val (.int p4), .val (.int p5), .val (.int cs), .val (.ref mk), .val (.ref b3), .val (.ref b7), .val (.ref b9), .val (.ref b12), .val (.int (((p5.toUInt32 >>> ((20 : Int32) &&& 31).toUInt32).toInt32) &&& (3 : Int32))), .unset, .unset, .unset] [(.int cs), (.ref b14), (.ref b14)])) (fun t k => XS.iload X14.here hx rfl (hb hby at_111) rfl k) ?_
      refine Goes.to (T' := T14.setTop (mkF m 115 #[.val (.int p0), .val (.int p1), .val (.int p2), .val (.long q3), .second, .val (.int p4), .val (.int p5), .val (.int cs), .val (.ref mk), .val (.ref b3), .val (.ref b7), .val (.ref b9), .val (.ref b12), .val (.int (((p5.toUInt32 >>> ((20 : Int32) &&& 31).toUInt32).toInt32) &&& (3 : Int32))), .unset, .unset, .unset] [(.ref b7), (.int cs), (.ref b14), (.ref b14)])) (fun t k => XS.aload X14.here hx rfl (hb hby at_113) rfl rfl k) ?_
      refine Goes.to (T' := T14.setTop (mkF m 117 #[.val (.int p0), .val (.int p1), .val (.int p2), .val (.long q3), .second, .val (.int p4), .val (.int p5), .val (.int cs), .val (.ref mk), .val (.ref b3), .val (.ref b7), .val (.ref b9), .val (.ref b12), .val (.int (((p5.toUInt32 >>> ((20 : Int32) &&& 31).toUInt32).toInt32) &&& (3 : Int32))), .unset, .unset, .unset] [(.int (((p5.toUInt32 >>> ((20 : Int32) &&& 31).toUInt32).toInt32) &&& (3 : Int32))), (.ref b7), (.int cs), (.ref b14), (.ref b14)])) (fun t k => XS.iload X14.here hx rfl (hb hby at_115) rfl k) ?_
      refine Goes.to (T' := T14.setTop (mkF m 118 #[.val (.int p0), .val (.int p1), .val (.int p2), .val (.long q3), .second, .val (.int p4), .val (.int p5), .val (.int cs), .val (.ref mk), .val (.ref b3), .val (.ref b7), .val (.ref b9), .val (.ref b12), .val (.int (((p5.toUInt32 >>> ((20 : Int32) &&& 31).toUInt32).toInt32) &&& (3 : Int32))), .unset, .unset, .unset] [(.long q3), (.int (((p5.toUInt32 >>> ((20 : Int32) &&& 31).toUInt32).toInt32) &&& (3 : Int32))), (.ref b7), (.int cs), (.ref b14), (.ref b14)])) (fun t k => XS.lloadN X14.here hx rfl (hb hby at_117) rfl k) ?_
      refine Goes.to (T' := T14.setTop (mkF m 120 #[.val (.int p0), .val (.int p1), .val (.int p2), .val (.long q3), .second, .val (.int p4), .val (.int p5), .val (.int cs), .val (.ref mk), .val (.ref b3), .val (.ref b7), .val (.ref b9), .val (.ref b12), .val (.int (((p5.toUInt32 >>> ((20 : Int32) &&& 31).toUInt32).toInt32) &&& (3 : Int32))), .unset, .unset, .unset] [(.ref b12), (.long q3), (.int (((p5.toUInt32 >>> ((20 : Int32) &&& 31).toUInt32).toInt32) &&& (3 : Int32))), (.ref b7), (.int cs), (.ref b14), (.ref b14)])) (fun t k => XS.aload X14.here hx rfl (hb hby at_118) rfl rfl k) ?_
      refine Goes.to (T' := T14.setTop (mkF m 121 #[.val (.int p0), .val (.int p1), .val (.int p2), .val (.long q3), .second, .val (.int p4), .val (.int p5), .val (.int cs), .val (.ref mk), .val (.ref b3), .val (.ref b7), .val (.ref b9), .val (.ref b12), .val (.int (((p5.toUInt32 >>> ((20 : Int32) &&& 31).toUInt32).toInt32) &&& (3 : Int32))), .unset, .unset, .unset] [(.int p2), (.ref b12), (.long q3), (.int (((p5.toUInt32 >>> ((20 : Int32) &&& 31).toUInt32).toInt32) &&& (3 : Int32))), (.ref b7), (.int cs), (.ref b14), (.ref b14)])) (fun t k => XS.iloadN X14.here hx rfl (hb hby at_120) rfl k) ?_
      refine Goes.to (T' := T14.setTop (mkF m 123 #[.val (.int p0), .val (.int p1), .val (.int p2), .val (.long q3), .second, .val (.int p4), .val (.int p5), .val (.int cs), .val (.ref mk), .val (.ref b3), .val (.ref b7), .val (.ref b9), .val (.ref b12), .val (.int (((p5.toUInt32 >>> ((20 : Int32) &&& 31).toUInt32).toInt32) &&& (3 : Int32))), .unset, .unset, .unset] [(.int p4), (.int p2), (.ref b12), (.long q3), (.int (((p5.toUInt32 >>> ((20 : Int32) &&& 31).toUInt32).toInt32) &&& (3 : Int32))), (.ref b7), (.int cs), (.ref b14), (.ref b14)])) (fun t k => XS.iload X14.here hx rfl (hb hby at_121) rfl k) ?_
      refine Goes.to (T' := T14.setTop (mkF m 125 #[.val (.int p0), .val (.int p1), .val (.int p2), .val (.long q3), .second, .val (.int p4), .val (.int p5), .val (.int cs), .val (.ref mk), .val (.ref b3), .val (.ref b7), .val (.ref b9), .val (.ref b12), .val (.int (((p5.toUInt32 >>> ((20 : Int32) &&& 31).toUInt32).toInt32) &&& (3 : Int32))), .unset, .unset, .unset] [(.ref mk), (.int p4), (.int p2), (.ref b12), (.long q3), (.int (((p5.toUInt32 >>> ((20 : Int32) &&& 31).toUInt32).toInt32) &&& (3 : Int32))), (.ref b7), (.int cs), (.ref b14), (.ref b14)])) (fun t k => XS.aload X14.here hx rfl (hb hby at_123) rfl rfl k) ?_
      obtain ⟨_, _, ⟨T15, L15, k15, n15⟩, -, X15, hS15, hg15, ⟨Lc15, hQ15, l15, y15, z15⟩, st15⟩ := X14.specialBackS hx (y := (⟨"com/example/arvi/arvi/model/PurchaseDetails", "<init>", "(ILjava/lang/String;IJLjava/lang/String;IILcom/example/arvi/arvi/model/Market;)V"⟩ : MethodName)) rfl hown (mvT hZ (hw _ (List.mem_of_getElem? (i := 40) rfl))) (mvT hZ (hw _ (List.mem_of_getElem? (i := 41) rfl))) (mvT hZ (hw _ (List.mem_of_getElem? (i := 42) rfl))) (by decide) (backOfS (W := 1) (rmI1 l Z a0 hw [] b14 cs b7 (((p5.toUInt32 >>> ((20 : Int32) &&& 31).toUInt32).toInt32) &&& (3 : Int32)) q3 b12 p2 p4 mk w_Market_MKT_GLB w_Market_MKT_ONE z_cs  h14 n0 O0 NF E_b14 F_consumptionState_b14 F_developerPayload_b14 F_purchaseState_b14 F_purchaseTime_b14 F_purchaseId_b14 F_acknowledgeState_b14 F_quantity_b14 F_market_b14 E_b12 (E_mk.ext O0.2) g_b14 ne_b12_b14 (O0.ne E_mk.lt g_b14)) hZ (hw _ (List.mem_of_getElem? (i := 42) rfl)) (hw _ (List.mem_of_getElem? (i := 39) rfl)) (by decide) (by decide)) (g := (mkF m 125 #[.val (.int p0), .val (.int p1), .val (.int p2), .val (.long q3), .second, .val (.int p4), .val (.int p5), .val (.int cs), .val (.ref mk), .val (.ref b3), .val (.ref b7), .val (.ref b9), .val (.ref b12), .val (.int (((p5.toUInt32 >>> ((20 : Int32) &&& 31).toUInt32).toInt32) &&& (3 : Int32))), .unset, .unset, .unset] [(.ref mk), (.int p4), (.int p2), (.ref b12), (.long q3), (.int (((p5.toUInt32 >>> ((20 : Int32) &&& 31).toUInt32).toInt32) &&& (3 : Int32))), (.ref b7), (.int cs), (.ref b14), (.ref b14)])) rfl (by rw [hml]; rfl) (Steps.refl _) (a := b14) (argsL := [(.int cs), (.ref b7), (.int (((p5.toUInt32 >>> ((20 : Int32) &&& 31).toUInt32).toInt32) &&& (3 : Int32))), (.long q3), (.ref b12), (.int p2), (.int p4), (.ref mk)]) (rest := [(.ref b14)]) (lenOf pd_103 rfl) rfl (by show 2 * 0 + _ ≤ _; exact Nat.le_of_eq rfl) (hb hby at_125) (fun _ _ => ⟨rfl, e14, (by decide : 7 + 4 ≤ _), (by decide : 20 + 72 ≤ _)⟩)
      dsimp only [Pt.U, Pt.locs, Pt.cells, Pt.slots] at X15 l15 y15 z15 st15 hQ15 hS15 hg15
      subst l15 y15 z15
      obtain ⟨rfl, Nq15, K15, Fc15, Fa15⟩ := hQ15
      have N15 := Fr.app N13 Nq15
      have hS := hS.trans hS15 (Nat.le_trans hk (by rw [← e14]; exact hg15))
      have hk : T15.heap.size ≤ T15.heap.size := Nat.le_refl _
      have hZ : Z.Warmed39 (s.setVm T15.vm).vm := State.Warmed39.trans (t := (s.setVm s.vm)) hZ hS15.1
      have hown : (s.setVm T15.vm).vm.findClass "com/example/arvi/arvi/model/PurchaseDetailsIsConsumedPinLaw" = some m.cls := by rw [show (s.setVm T15.vm).vm = T15.vm from rfl, hS15.1.alike.findClass]; exact hown
      have V_b3 := V_b3.keep K15 (ninS (ne_b3_b14) nin0)
      have E_b7 := E_b7.keep K15
      have F_coder_b7 := F_coder_b7.keep K15 (ninS (ne_b7_b14) nin0)
      have F_value_b7 := F_value_b7.keep K15 (ninS (ne_b7_b14) nin0)
      have V_t8 := V_t8.keep K15 (ninS (ne_t8_b14) nin0)
      have V_b9 := V_b9.keep K15 (ninS (ne_b9_b14) nin0)
      have E_b12 := E_b12.keep K15
      have F_coder_b12 := F_coder_b12.keep K15 (ninS (ne_b12_b14) nin0)
      have F_value_b12 := F_value_b12.keep K15 (ninS (ne_b12_b14) nin0)
      have V_t13 := V_t13.keep K15 (ninS (ne_t13_b14) nin0)
      have E_b14 := E_b14.keep K15
      have O0 := O0.keep K15 (allS g_b14 all0)
      have F_consumptionState_b14 := Fc15
      have F_acknowledgeState_b14 := Fa15
      refine Goes.thru (T' := T15.setTop (mkF m 128 #[.val (.int p0), .val (.int p1), .val (.int p2), .val (.long q3), .second, .val (.int p4), .val (.int p5), .val (.int cs), .val (.ref mk), .val (.ref b3), .val (.ref b7), .val (.ref b9), .val (.ref b12), .val (.int (((p5.toUInt32 >>> ((20 : Int32) &&& 31).toUInt32).toInt32) &&& (3 : Int32))), .unset, .unset, .unset] [(.ref b14)])) st15 ?_
      refine Goes.to (T' := T15.setTop (mkF m 130 #[.val (.int p0), .val (.int p1), .val (.int p2), .val (.long q3), .second, .val (.int p4), .val (.int p5), .val (.int cs), .val (.ref mk), .val (.ref b3), .val (.ref b7), .val (.ref b9), .val (.ref b12), .val (.int (((p5.toUInt32 >>> ((20 : Int32) &&& 31).toUInt32).toInt32) &&& (3 : Int32))), .val (.ref b14), .unset, .unset] [])) (fun t k => XS.astore X15.here hx rfl (hb hby at_128) rfl rfl (l' := #[.val (.int p0), .val (.int p1), .val (.int p2), .val (.long q3), .second, .val (.int p4), .val (.int p5), .val (.int cs), .val (.ref mk), .val (.ref b3), .val (.ref b7), .val (.ref b9), .val (.ref b12), .val (.int (((p5.toUInt32 >>> ((20 : Int32) &&& 31).toUInt32).toInt32) &&& (3 : Int32))), .val (.ref b14), .unset, .unset]) rfl k) ?_
      rcases Decidable.em (cs = (1 : Int32)) with hk16 | hk16
      · skip
        refine Goes.to (T' := T15.setTop (mkF m 132 #[.val (.int p0), .val (.int p1), .val (.int p2), .val (.long q3), .second, .val (.int p4), .val (.int p5), .val (.int cs), .val (.ref mk), .val (.ref b3), .val (.ref b7), .val (.ref b9), .val (.ref b12), .val (.int (((p5.toUInt32 >>> ((20 : Int32) &&& 31).toUInt32).toInt32) &&& (3 : Int32))), .val (.ref b14), .unset, .unset] [(.ref b14)])) (fun t k => XS.aload X15.here hx rfl (hb hby at_130) rfl rfl k) ?_
        obtain ⟨cq17, kq17, q17a, q17b, q17c⟩ := isOf hZ rfl E_b14
        obtain ⟨_, _, ⟨T17, L17, k17, n17⟩, -, X17, ⟨Lc17, hQ17, l17, y17, z17⟩, st17⟩ := X15.virtualBack hx (y := (⟨"com/example/arvi/arvi/model/PurchaseDetails", "isConsumed", "()Z"⟩ : MethodName)) (z := (⟨"com/example/arvi/arvi/model/PurchaseDetails", "isConsumed", "()Z"⟩ : MethodName)) hown (mvT hZ (hw _ (List.mem_of_getElem? (i := 71) rfl))) (mvT hZ (hw _ (List.mem_of_getElem? (i := 72) rfl))) (notFace_of_selects (args := #[]) (mvT hZ (hw _ (List.mem_of_getElem? (i := 74) rfl)))) (mvT hZ (hw _ (List.mem_of_getElem? (i := 74) rfl))) (mvT hZ (hw _ (List.mem_of_getElem? (i := 73) rfl))) (by decide) (backOf (W := 0) (rmC l Z a0 hw [] b14 w_Market_MKT_GLB w_Market_MKT_ONE z_cs cs (1 : Int32) T15.heap n0 O0 NF F_consumptionState_b14 (by first | (simp [hk16]; done) | ((repeat' split) <;> first | rfl | contradiction | simp_all))) hZ (hw _ (List.mem_of_getElem? (i := 75) rfl)) (hw _ (List.mem_of_getElem? (i := 39) rfl)) (by decide) (by decide)) q17a q17c (g := (mkF m 132 #[.val (.int p0), .val (.int p1), .val (.int p2), .val (.long q3), .second, .val (.int p4), .val (.int p5), .val (.int cs), .val (.ref mk), .val (.ref b3), .val (.ref b7), .val (.ref b9), .val (.ref b12), .val (.int (((p5.toUInt32 >>> ((20 : Int32) &&& 31).toUInt32).toInt32) &&& (3 : Int32))), .val (.ref b14), .unset, .unset] [(.ref b14)])) rfl (by rw [hml]; rfl) (Steps.refl _) (argsL := []) (rest := []) (lenOf pd_89 rfl) rfl (by show 2 * 0 + _ ≤ _; exact Nat.le_of_eq rfl) (hb hby at_132) (fun _ _ => ⟨rfl, rfl, (by decide : 11 + 0 ≤ _), (by decide : 92 + 0 ≤ _)⟩)
        dsimp only [Pt.U, Pt.locs, Pt.cells, Pt.slots] at X17 l17 y17 z17 st17 hQ17
        subst l17 y17 z17
        obtain ⟨rfl, Nq17, e17⟩ := hQ17
        have N17 := Fr.app N15 Nq17
        refine Goes.thru (T' := T17.setTop (mkF m 135 #[.val (.int p0), .val (.int p1), .val (.int p2), .val (.long q3), .second, .val (.int p4), .val (.int p5), .val (.int cs), .val (.ref mk), .val (.ref b3), .val (.ref b7), .val (.ref b9), .val (.ref b12), .val (.int (((p5.toUInt32 >>> ((20 : Int32) &&& 31).toUInt32).toInt32) &&& (3 : Int32))), .val (.ref b14), .unset, .unset] [(.int (1 : Int32))])) st17 ?_
        refine Goes.to (T' := T17.setTop (mkF m 137 #[.val (.int p0), .val (.int p1), .val (.int p2), .val (.long q3), .second, .val (.int p4), .val (.int p5), .val (.int cs), .val (.ref mk), .val (.ref b3), .val (.ref b7), .val (.ref b9), .val (.ref b12), .val (.int (((p5.toUInt32 >>> ((20 : Int32) &&& 31).toUInt32).toInt32) &&& (3 : Int32))), .val (.ref b14), .val (.int (1 : Int32)), .unset] [])) (fun t k => XS.istore X17.here hx rfl (hb hby at_135) rfl (l' := #[.val (.int p0), .val (.int p1), .val (.int p2), .val (.long q3), .second, .val (.int p4), .val (.int p5), .val (.int cs), .val (.ref mk), .val (.ref b3), .val (.ref b7), .val (.ref b9), .val (.ref b12), .val (.int (((p5.toUInt32 >>> ((20 : Int32) &&& 31).toUInt32).toInt32) &&& (3 : Int32))), .val (.ref b14), .val (.int (1 : Int32)), .unset]) rfl k) ?_
        refine Goes.to (T' := T17.setTop (mkF m 139 #[.val (.int p0), .val (.int p1), .val (.int p2), .val (.long q3), .second, .val (.int p4), .val (.int p5), .val (.int cs), .val (.ref mk), .val (.ref b3), .val (.ref b7), .val (.ref b9), .val (.ref b12), .val (.int (((p5.toUInt32 >>> ((20 : Int32) &&& 31).toUInt32).toInt32) &&& (3 : Int32))), .val (.ref b14), .val (.int (1 : Int32)), .unset] [(.int cs)])) (fun t k => XS.iload X17.here hx rfl (hb hby at_137) rfl k) ?_
        refine Goes.to (T' := T17.setTop (mkF m 140 #[.val (.int p0), .val (.int p1), .val (.int p2), .val (.long q3), .second, .val (.int p4), .val (.int p5), .val (.int cs), .val (.ref mk), .val (.ref b3), .val (.ref b7), .val (.ref b9), .val (.ref b12), .val (.int (((p5.toUInt32 >>> ((20 : Int32) &&& 31).toUInt32).toInt32) &&& (3 : Int32))), .val (.ref b14), .val (.int (1 : Int32)), .unset] [(.int (1 : Int32)), (.int cs)])) (fun t k => XS.iconst X17.here hx rfl (hb hby at_139) k) ?_
        refine Goes.to (T' := T17.setTop (mkF m 143 #[.val (.int p0), .val (.int p1), .val (.int p2), .val (.long q3), .second, .val (.int p4), .val (.int p5), .val (.int cs), .val (.ref mk), .val (.ref b3), .val (.ref b7), .val (.ref b9), .val (.ref b12), .val (.int (((p5.toUInt32 >>> ((20 : Int32) &&& 31).toUInt32).toInt32) &&& (3 : Int32))), .val (.ref b14), .val (.int (1 : Int32)), .unset] [])) (fun t k => XS.icmpNo X17.here hx rfl (hb hby at_140) rfl (teq hk16).2 k) ?_
        refine Goes.to (T' := T17.setTop (mkF m 144 #[.val (.int p0), .val (.int p1), .val (.int p2), .val (.long q3), .second, .val (.int p4), .val (.int p5), .val (.int cs), .val (.ref mk), .val (.ref b3), .val (.ref b7), .val (.ref b9), .val (.ref b12), .val (.int (((p5.toUInt32 >>> ((20 : Int32) &&& 31).toUInt32).toInt32) &&& (3 : Int32))), .val (.ref b14), .val (.int (1 : Int32)), .unset] [(.int (1 : Int32))])) (fun t k => XS.iconst X17.here hx rfl (hb hby at_143) k) ?_
        refine Goes.to (T' := T17.setTop (mkF m 148 #[.val (.int p0), .val (.int p1), .val (.int p2), .val (.long q3), .second, .val (.int p4), .val (.int p5), .val (.int cs), .val (.ref mk), .val (.ref b3), .val (.ref b7), .val (.ref b9), .val (.ref b12), .val (.int (((p5.toUInt32 >>> ((20 : Int32) &&& 31).toUInt32).toInt32) &&& (3 : Int32))), .val (.ref b14), .val (.int (1 : Int32)), .unset] [(.int (1 : Int32))])) (fun t k => XS.goto X17.here hx rfl (pc0 := 144) (pc' := 148) rfl (hb hby at_144) (by decide) (by decide) k) ?_
        refine Goes.to (T' := T17.setTop (mkF m 150 #[.val (.int p0), .val (.int p1), .val (.int p2), .val (.long q3), .second, .val (.int p4), .val (.int p5), .val (.int cs), .val (.ref mk), .val (.ref b3), .val (.ref b7), .val (.ref b9), .val (.ref b12), .val (.int (((p5.toUInt32 >>> ((20 : Int32) &&& 31).toUInt32).toInt32) &&& (3 : Int32))), .val (.ref b14), .val (.int (1 : Int32)), .val (.int (1 : Int32))] [])) (fun t k => XS.istore X17.here hx rfl (hb hby at_148) rfl (l' := #[.val (.int p0), .val (.int p1), .val (.int p2), .val (.long q3), .second, .val (.int p4), .val (.int p5), .val (.int cs), .val (.ref mk), .val (.ref b3), .val (.ref b7), .val (.ref b9), .val (.ref b12), .val (.int (((p5.toUInt32 >>> ((20 : Int32) &&& 31).toUInt32).toInt32) &&& (3 : Int32))), .val (.ref b14), .val (.int (1 : Int32)), .val (.int (1 : Int32))]) rfl k) ?_
        refine Goes.to (T' := T17.setTop (mkF m 152 #[.val (.int p0), .val (.int p1), .val (.int p2), .val (.long q3), .second, .val (.int p4), .val (.int p5), .val (.int cs), .val (.ref mk), .val (.ref b3), .val (.ref b7), .val (.ref b9), .val (.ref b12), .val (.int (((p5.toUInt32 >>> ((20 : Int32) &&& 31).toUInt32).toInt32) &&& (3 : Int32))), .val (.ref b14), .val (.int (1 : Int32)), .val (.int (1 : Int32))] [(.int (1 : Int32))])) (fun t k => XS.iload X17.here hx rfl (hb hby at_150) rfl k) ?_
        refine Goes.to (T' := T17.setTop (mkF m 154 #[.val (.int p0), .val (.int p1), .val (.int p2), .val (.long q3), .second, .val (.int p4), .val (.int p5), .val (.int cs), .val (.ref mk), .val (.ref b3), .val (.ref b7), .val (.ref b9), .val (.ref b12), .val (.int (((p5.toUInt32 >>> ((20 : Int32) &&& 31).toUInt32).toInt32) &&& (3 : Int32))), .val (.ref b14), .val (.int (1 : Int32)), .val (.int (1 : Int32))] [(.int (1 : Int32)), (.int (1 : Int32))])) (fun t k => XS.iload X17.here hx rfl (hb hby at_152) rfl k) ?_
        refine Goes.to (T' := T17.setTop (mkF m 159 #[.val (.int p0), .val (.int p1), .val (.int p2), .val (.long q3), .second, .val (.int p4), .val (.int p5), .val (.int cs), .val (.ref mk), .val (.ref b3), .val (.ref b7), .val (.ref b9), .val (.ref b12), .val (.int (((p5.toUInt32 >>> ((20 : Int32) &&& 31).toUInt32).toInt32) &&& (3 : Int32))), .val (.ref b14), .val (.int (1 : Int32)), .val (.int (1 : Int32))] [])) (fun t k => XS.icmpYes X17.here hx rfl (pc0 := 154) (pc' := 159) rfl (hb hby at_154) rfl (teq (by decide)).1 (by decide) (by decide) k) ?_
        refine Goes.to (T' := T17.setTop (mkF m 161 #[.val (.int p0), .val (.int p1), .val (.int p2), .val (.long q3), .second, .val (.int p4), .val (.int p5), .val (.int cs), .val (.ref mk), .val (.ref b3), .val (.ref b7), .val (.ref b9), .val (.ref b12), .val (.int (((p5.toUInt32 >>> ((20 : Int32) &&& 31).toUInt32).toInt32) &&& (3 : Int32))), .val (.ref b14), .val (.int (1 : Int32)), .val (.int (1 : Int32))] [(.ref b14)])) (fun t k => XS.aload X17.here hx rfl (hb hby at_159) rfl rfl k) ?_
        obtain ⟨cq18, kq18, q18a, q18b, q18c⟩ := isOf hZ e17 E_b14
        obtain ⟨_, _, ⟨T18, L18, k18, n18⟩, -, X18, ⟨Lc18, hQ18, l18, y18, z18⟩, st18⟩ := X17.virtualBack hx (y := (⟨"com/example/arvi/arvi/model/PurchaseDetails", "consumptionState", "()I"⟩ : MethodName)) (z := (⟨"com/example/arvi/arvi/model/PurchaseDetails", "consumptionState", "()I"⟩ : MethodName)) hown (mvT hZ (hw _ (List.mem_of_getElem? (i := 76) rfl))) (mvT hZ (hw _ (List.mem_of_getElem? (i := 77) rfl))) (notFace_of_selects (args := #[]) (mvT hZ (hw _ (List.mem_of_getElem? (i := 79) rfl)))) (mvT hZ (hw _ (List.mem_of_getElem? (i := 79) rfl))) (mvT hZ (hw _ (List.mem_of_getElem? (i := 78) rfl))) (by decide) (backOf (W := 0) (rmS l Z a0 hw [] b14 w_Market_MKT_GLB w_Market_MKT_ONE z_cs cs T15.heap n0 O0 NF F_consumptionState_b14) hZ (hw _ (List.mem_of_getElem? (i := 80) rfl)) (hw _ (List.mem_of_getElem? (i := 39) rfl)) (by decide) (by decide)) q18a q18c (g := (mkF m 161 #[.val (.int p0), .val (.int p1), .val (.int p2), .val (.long q3), .second, .val (.int p4), .val (.int p5), .val (.int cs), .val (.ref mk), .val (.ref b3), .val (.ref b7), .val (.ref b9), .val (.ref b12), .val (.int (((p5.toUInt32 >>> ((20 : Int32) &&& 31).toUInt32).toInt32) &&& (3 : Int32))), .val (.ref b14), .val (.int (1 : Int32)), .val (.int (1 : Int32))] [(.ref b14)])) rfl (by rw [hml]; rfl) (Steps.refl _) (argsL := []) (rest := []) (lenOf pd_104 rfl) rfl (by show 2 * 0 + _ ≤ _; exact Nat.le_of_eq rfl) (hb hby at_161) (fun _ _ => ⟨rfl, e17, (by decide : 11 + 0 ≤ _), (by decide : 92 + 0 ≤ _)⟩)
        dsimp only [Pt.U, Pt.locs, Pt.cells, Pt.slots] at X18 l18 y18 z18 st18 hQ18
        subst l18 y18 z18
        obtain ⟨rfl, Nq18, e18⟩ := hQ18
        have N18 := Fr.app N17 Nq18
        refine Goes.thru (T' := T18.setTop (mkF m 164 #[.val (.int p0), .val (.int p1), .val (.int p2), .val (.long q3), .second, .val (.int p4), .val (.int p5), .val (.int cs), .val (.ref mk), .val (.ref b3), .val (.ref b7), .val (.ref b9), .val (.ref b12), .val (.int (((p5.toUInt32 >>> ((20 : Int32) &&& 31).toUInt32).toInt32) &&& (3 : Int32))), .val (.ref b14), .val (.int (1 : Int32)), .val (.int (1 : Int32))] [(.int cs)])) st18 ?_
        refine Goes.to (T' := T18.setTop (mkF m 166 #[.val (.int p0), .val (.int p1), .val (.int p2), .val (.long q3), .second, .val (.int p4), .val (.int p5), .val (.int cs), .val (.ref mk), .val (.ref b3), .val (.ref b7), .val (.ref b9), .val (.ref b12), .val (.int (((p5.toUInt32 >>> ((20 : Int32) &&& 31).toUInt32).toInt32) &&& (3 : Int32))), .val (.ref b14), .val (.int (1 : Int32)), .val (.int (1 : Int32))] [(.int cs), (.int cs)])) (fun t k => XS.iload X18.here hx rfl (hb hby at_164) rfl k) ?_
        refine Goes.to (T' := T18.setTop (mkF m 171 #[.val (.int p0), .val (.int p1), .val (.int p2), .val (.long q3), .second, .val (.int p4), .val (.int p5), .val (.int cs), .val (.ref mk), .val (.ref b3), .val (.ref b7), .val (.ref b9), .val (.ref b12), .val (.int (((p5.toUInt32 >>> ((20 : Int32) &&& 31).toUInt32).toInt32) &&& (3 : Int32))), .val (.ref b14), .val (.int (1 : Int32)), .val (.int (1 : Int32))] [])) (fun t k => XS.icmpYes X18.here hx rfl (pc0 := 166) (pc' := 171) rfl (hb hby at_166) rfl (teq rfl).1 (by decide) (by decide) k) ?_
        refine Goes.to (T' := T18.setTop (mkF m 173 #[.val (.int p0), .val (.int p1), .val (.int p2), .val (.long q3), .second, .val (.int p4), .val (.int p5), .val (.int cs), .val (.ref mk), .val (.ref b3), .val (.ref b7), .val (.ref b9), .val (.ref b12), .val (.int (((p5.toUInt32 >>> ((20 : Int32) &&& 31).toUInt32).toInt32) &&& (3 : Int32))), .val (.ref b14), .val (.int (1 : Int32)), .val (.int (1 : Int32))] [(.int (1 : Int32))])) (fun t k => XS.iload X18.here hx rfl (hb hby at_171) rfl k) ?_
        refine Goes.to (T' := T18.setTop (mkF m 176 #[.val (.int p0), .val (.int p1), .val (.int p2), .val (.long q3), .second, .val (.int p4), .val (.int p5), .val (.int cs), .val (.ref mk), .val (.ref b3), .val (.ref b7), .val (.ref b9), .val (.ref b12), .val (.int (((p5.toUInt32 >>> ((20 : Int32) &&& 31).toUInt32).toInt32) &&& (3 : Int32))), .val (.ref b14), .val (.int (1 : Int32)), .val (.int (1 : Int32))] [])) (fun t k => XS.ifNo X18.here hx rfl (hb hby at_173) rfl ((if0 _ _).trans (feq (by decide)).1) k) ?_
        refine Goes.to (T' := T18.setTop (mkF m 178 #[.val (.int p0), .val (.int p1), .val (.int p2), .val (.long q3), .second, .val (.int p4), .val (.int p5), .val (.int cs), .val (.ref mk), .val (.ref b3), .val (.ref b7), .val (.ref b9), .val (.ref b12), .val (.int (((p5.toUInt32 >>> ((20 : Int32) &&& 31).toUInt32).toInt32) &&& (3 : Int32))), .val (.ref b14), .val (.int (1 : Int32)), .val (.int (1 : Int32))] [(.ref b14)])) (fun t k => XS.aload X18.here hx rfl (hb hby at_176) rfl rfl k) ?_
        obtain ⟨cq19, kq19, q19a, q19b, q19c⟩ := isOf hZ e18 E_b14
        obtain ⟨_, _, ⟨T19, L19, k19, n19⟩, -, X19, ⟨Lc19, hQ19, l19, y19, z19⟩, st19⟩ := X18.virtualBack hx (y := (⟨"com/example/arvi/arvi/model/PurchaseDetails", "isAcknowledged", "()Z"⟩ : MethodName)) (z := (⟨"com/example/arvi/arvi/model/PurchaseDetails", "isAcknowledged", "()Z"⟩ : MethodName)) hown (mvT hZ (hw _ (List.mem_of_getElem? (i := 82) rfl))) (mvT hZ (hw _ (List.mem_of_getElem? (i := 83) rfl))) (notFace_of_selects (args := #[]) (mvT hZ (hw _ (List.mem_of_getElem? (i := 85) rfl)))) (mvT hZ (hw _ (List.mem_of_getElem? (i := 85) rfl))) (mvT hZ (hw _ (List.mem_of_getElem? (i := 84) rfl))) (by decide) (backOf (W := 0) (rmA l Z a0 hw [] b14 w_Market_MKT_GLB w_Market_MKT_ONE z_cs p2 T15.heap n0 O0 NF E_b14 (hk16 ▸ F_consumptionState_b14) F_acknowledgeState_b14) hZ (hw _ (List.mem_of_getElem? (i := 86) rfl)) (hw _ (List.mem_of_getElem? (i := 39) rfl)) (by decide) (by decide)) q19a q19c (g := (mkF m 178 #[.val (.int p0), .val (.int p1), .val (.int p2), .val (.long q3), .second, .val (.int p4), .val (.int p5), .val (.int cs), .val (.ref mk), .val (.ref b3), .val (.ref b7), .val (.ref b9), .val (.ref b12), .val (.int (((p5.toUInt32 >>> ((20 : Int32) &&& 31).toUInt32).toInt32) &&& (3 : Int32))), .val (.ref b14), .val (.int (1 : Int32)), .val (.int (1 : Int32))] [(.ref b14)])) rfl (by rw [hml]; rfl) (Steps.refl _) (argsL := []) (rest := []) (lenOf pd_89 rfl) rfl (by show 2 * 0 + _ ≤ _; exact Nat.le_of_eq rfl) (hb hby at_178) (fun _ _ => ⟨rfl, e18, (by decide : 11 + 0 ≤ _), (by decide : 92 + 0 ≤ _)⟩)
        dsimp only [Pt.U, Pt.locs, Pt.cells, Pt.slots] at X19 l19 y19 z19 st19 hQ19
        subst l19 y19 z19
        obtain ⟨rfl, Nq19, e19⟩ := hQ19
        have N19 := Fr.app N18 Nq19
        refine Goes.thru (T' := T19.setTop (mkF m 181 #[.val (.int p0), .val (.int p1), .val (.int p2), .val (.long q3), .second, .val (.int p4), .val (.int p5), .val (.int cs), .val (.ref mk), .val (.ref b3), .val (.ref b7), .val (.ref b9), .val (.ref b12), .val (.int (((p5.toUInt32 >>> ((20 : Int32) &&& 31).toUInt32).toInt32) &&& (3 : Int32))), .val (.ref b14), .val (.int (1 : Int32)), .val (.int (1 : Int32))] [(.int (1 : Int32))])) st19 ?_
        refine Goes.to (T' := T19.setTop (mkF m 186 #[.val (.int p0), .val (.int p1), .val (.int p2), .val (.long q3), .second, .val (.int p4), .val (.int p5), .val (.int cs), .val (.ref mk), .val (.ref b3), .val (.ref b7), .val (.ref b9), .val (.ref b12), .val (.int (((p5.toUInt32 >>> ((20 : Int32) &&& 31).toUInt32).toInt32) &&& (3 : Int32))), .val (.ref b14), .val (.int (1 : Int32)), .val (.int (1 : Int32))] [])) (fun t k => XS.ifYes X19.here hx rfl (pc0 := 181) (pc' := 186) rfl (hb hby at_181) rfl ((if0 _ _).trans (feq (by decide)).2) (by decide) (by decide) k) ?_
        refine Goes.to (T' := T19.setTop (mkF m 187 #[.val (.int p0), .val (.int p1), .val (.int p2), .val (.long q3), .second, .val (.int p4), .val (.int p5), .val (.int cs), .val (.ref mk), .val (.ref b3), .val (.ref b7), .val (.ref b9), .val (.ref b12), .val (.int (((p5.toUInt32 >>> ((20 : Int32) &&& 31).toUInt32).toInt32) &&& (3 : Int32))), .val (.ref b14), .val (.int (1 : Int32)), .val (.int (1 : Int32))] [(.int (1 : Int32))])) (fun t k => XS.iconst X19.here hx rfl (hb hby at_186) k) ?_
        obtain ⟨fs, hrL, hrun, hended, hRW⟩ := X19.leaveW hS (by rw [e19]; exact hk) (v := some (.int (1 : Int32))) (fun h => by rw [Bd.returns] at h; cases h)
        subst hQf
        refine ⟨_, _, retN X19 hx (t := .boolean) Bd.returns (by simp) (hb hby at_187) hrL, hrun, hended, _, _, rfl, ?_, hRW.1, hRW.2.1, hRW.2.2.1, hRW.2.2.2.mono (by decide) (by decide)⟩
        show (fun (v : Option Value) (h : Heap) (L : List Loc) => v = some (.int 1) ∧ Fr n0 L) (some (.int (1 : Int32))) T19.heap _
        rw [e19]
        exact ⟨rfl, N19⟩
      · skip
        refine Goes.to (T' := T15.setTop (mkF m 132 #[.val (.int p0), .val (.int p1), .val (.int p2), .val (.long q3), .second, .val (.int p4), .val (.int p5), .val (.int cs), .val (.ref mk), .val (.ref b3), .val (.ref b7), .val (.ref b9), .val (.ref b12), .val (.int (((p5.toUInt32 >>> ((20 : Int32) &&& 31).toUInt32).toInt32) &&& (3 : Int32))), .val (.ref b14), .unset, .unset] [(.ref b14)])) (fun t k => XS.aload X15.here hx rfl (hb hby at_130) rfl rfl k) ?_
        obtain ⟨cq20, kq20, q20a, q20b, q20c⟩ := isOf hZ rfl E_b14
        obtain ⟨_, _, ⟨T20, L20, k20, n20⟩, -, X20, ⟨Lc20, hQ20, l20, y20, z20⟩, st20⟩ := X15.virtualBack hx (y := (⟨"com/example/arvi/arvi/model/PurchaseDetails", "isConsumed", "()Z"⟩ : MethodName)) (z := (⟨"com/example/arvi/arvi/model/PurchaseDetails", "isConsumed", "()Z"⟩ : MethodName)) hown (mvT hZ (hw _ (List.mem_of_getElem? (i := 71) rfl))) (mvT hZ (hw _ (List.mem_of_getElem? (i := 72) rfl))) (notFace_of_selects (args := #[]) (mvT hZ (hw _ (List.mem_of_getElem? (i := 74) rfl)))) (mvT hZ (hw _ (List.mem_of_getElem? (i := 74) rfl))) (mvT hZ (hw _ (List.mem_of_getElem? (i := 73) rfl))) (by decide) (backOf (W := 0) (rmC l Z a0 hw [] b14 w_Market_MKT_GLB w_Market_MKT_ONE z_cs cs (0 : Int32) T15.heap n0 O0 NF F_consumptionState_b14 (by first | (simp [hk16]; done) | ((repeat' split) <;> first | rfl | contradiction | simp_all))) hZ (hw _ (List.mem_of_getElem? (i := 75) rfl)) (hw _ (List.mem_of_getElem? (i := 39) rfl)) (by decide) (by decide)) q20a q20c (g := (mkF m 132 #[.val (.int p0), .val (.int p1), .val (.int p2), .val (.long q3), .second, .val (.int p4), .val (.int p5), .val (.int cs), .val (.ref mk), .val (.ref b3), .val (.ref b7), .val (.ref b9), .val (.ref b12), .val (.int (((p5.toUInt32 >>> ((20 : Int32) &&& 31).toUInt32).toInt32) &&& (3 : Int32))), .val (.ref b14), .unset, .unset] [(.ref b14)])) rfl (by rw [hml]; rfl) (Steps.refl _) (argsL := []) (rest := []) (lenOf pd_89 rfl) rfl (by show 2 * 0 + _ ≤ _; exact Nat.le_of_eq rfl) (hb hby at_132) (fun _ _ => ⟨rfl, rfl, (by decide : 11 + 0 ≤ _), (by decide : 92 + 0 ≤ _)⟩)
        dsimp only [Pt.U, Pt.locs, Pt.cells, Pt.slots] at X20 l20 y20 z20 st20 hQ20
        subst l20 y20 z20
        obtain ⟨rfl, Nq20, e20⟩ := hQ20
        have N20 := Fr.app N15 Nq20
        refine Goes.thru (T' := T20.setTop (mkF m 135 #[.val (.int p0), .val (.int p1), .val (.int p2), .val (.long q3), .second, .val (.int p4), .val (.int p5), .val (.int cs), .val (.ref mk), .val (.ref b3), .val (.ref b7), .val (.ref b9), .val (.ref b12), .val (.int (((p5.toUInt32 >>> ((20 : Int32) &&& 31).toUInt32).toInt32) &&& (3 : Int32))), .val (.ref b14), .unset, .unset] [(.int (0 : Int32))])) st20 ?_
        refine Goes.to (T' := T20.setTop (mkF m 137 #[.val (.int p0), .val (.int p1), .val (.int p2), .val (.long q3), .second, .val (.int p4), .val (.int p5), .val (.int cs), .val (.ref mk), .val (.ref b3), .val (.ref b7), .val (.ref b9), .val (.ref b12), .val (.int (((p5.toUInt32 >>> ((20 : Int32) &&& 31).toUInt32).toInt32) &&& (3 : Int32))), .val (.ref b14), .val (.int (0 : Int32)), .unset] [])) (fun t k => XS.istore X20.here hx rfl (hb hby at_135) rfl (l' := #[.val (.int p0), .val (.int p1), .val (.int p2), .val (.long q3), .second, .val (.int p4), .val (.int p5), .val (.int cs), .val (.ref mk), .val (.ref b3), .val (.ref b7), .val (.ref b9), .val (.ref b12), .val (.int (((p5.toUInt32 >>> ((20 : Int32) &&& 31).toUInt32).toInt32) &&& (3 : Int32))), .val (.ref b14), .val (.int (0 : Int32)), .unset]) rfl k) ?_
        refine Goes.to (T' := T20.setTop (mkF m 139 #[.val (.int p0), .val (.int p1), .val (.int p2), .val (.long q3), .second, .val (.int p4), .val (.int p5), .val (.int cs), .val (.ref mk), .val (.ref b3), .val (.ref b7), .val (.ref b9), .val (.ref b12), .val (.int (((p5.toUInt32 >>> ((20 : Int32) &&& 31).toUInt32).toInt32) &&& (3 : Int32))), .val (.ref b14), .val (.int (0 : Int32)), .unset] [(.int cs)])) (fun t k => XS.iload X20.here hx rfl (hb hby at_137) rfl k) ?_
        refine Goes.to (T' := T20.setTop (mkF m 140 #[.val (.int p0), .val (.int p1), .val (.int p2), .val (.long q3), .second, .val (.int p4), .val (.int p5), .val (.int cs), .val (.ref mk), .val (.ref b3), .val (.ref b7), .val (.ref b9), .val (.ref b12), .val (.int (((p5.toUInt32 >>> ((20 : Int32) &&& 31).toUInt32).toInt32) &&& (3 : Int32))), .val (.ref b14), .val (.int (0 : Int32)), .unset] [(.int (1 : Int32)), (.int cs)])) (fun t k => XS.iconst X20.here hx rfl (hb hby at_139) k) ?_
        refine Goes.to (T' := T20.setTop (mkF m 147 #[.val (.int p0), .val (.int p1), .val (.int p2), .val (.long q3), .second, .val (.int p4), .val (.int p5), .val (.int cs), .val (.ref mk), .val (.ref b3), .val (.ref b7), .val (.ref b9), .val (.ref b12), .val (.int (((p5.toUInt32 >>> ((20 : Int32) &&& 31).toUInt32).toInt32) &&& (3 : Int32))), .val (.ref b14), .val (.int (0 : Int32)), .unset] [])) (fun t k => XS.icmpYes X20.here hx rfl (pc0 := 140) (pc' := 147) rfl (hb hby at_140) rfl (feq hk16).2 (by decide) (by decide) k) ?_
        refine Goes.to (T' := T20.setTop (mkF m 148 #[.val (.int p0), .val (.int p1), .val (.int p2), .val (.long q3), .second, .val (.int p4), .val (.int p5), .val (.int cs), .val (.ref mk), .val (.ref b3), .val (.ref b7), .val (.ref b9), .val (.ref b12), .val (.int (((p5.toUInt32 >>> ((20 : Int32) &&& 31).toUInt32).toInt32) &&& (3 : Int32))), .val (.ref b14), .val (.int (0 : Int32)), .unset] [(.int (0 : Int32))])) (fun t k => XS.iconst X20.here hx rfl (hb hby at_147) k) ?_
        refine Goes.to (T' := T20.setTop (mkF m 150 #[.val (.int p0), .val (.int p1), .val (.int p2), .val (.long q3), .second, .val (.int p4), .val (.int p5), .val (.int cs), .val (.ref mk), .val (.ref b3), .val (.ref b7), .val (.ref b9), .val (.ref b12), .val (.int (((p5.toUInt32 >>> ((20 : Int32) &&& 31).toUInt32).toInt32) &&& (3 : Int32))), .val (.ref b14), .val (.int (0 : Int32)), .val (.int (0 : Int32))] [])) (fun t k => XS.istore X20.here hx rfl (hb hby at_148) rfl (l' := #[.val (.int p0), .val (.int p1), .val (.int p2), .val (.long q3), .second, .val (.int p4), .val (.int p5), .val (.int cs), .val (.ref mk), .val (.ref b3), .val (.ref b7), .val (.ref b9), .val (.ref b12), .val (.int (((p5.toUInt32 >>> ((20 : Int32) &&& 31).toUInt32).toInt32) &&& (3 : Int32))), .val (.ref b14), .val (.int (0 : Int32)), .val (.int (0 : Int32))]) rfl k) ?_
        refine Goes.to (T' := T20.setTop (mkF m 152 #[.val (.int p0), .val (.int p1), .val (.int p2), .val (.long q3), .second, .val (.int p4), .val (.int p5), .val (.int cs), .val (.ref mk), .val (.ref b3), .val (.ref b7), .val (.ref b9), .val (.ref b12), .val (.int (((p5.toUInt32 >>> ((20 : Int32) &&& 31).toUInt32).toInt32) &&& (3 : Int32))), .val (.ref b14), .val (.int (0 : Int32)), .val (.int (0 : Int32))] [(.int (0 : Int32))])) (fun t k => XS.iload X20.here hx rfl (hb hby at_150) rfl k) ?_
        refine Goes.to (T' := T20.setTop (mkF m 154 #[.val (.int p0), .val (.int p1), .val (.int p2), .val (.long q3), .second, .val (.int p4), .val (.int p5), .val (.int cs), .val (.ref mk), .val (.ref b3), .val (.ref b7), .val (.ref b9), .val (.ref b12), .val (.int (((p5.toUInt32 >>> ((20 : Int32) &&& 31).toUInt32).toInt32) &&& (3 : Int32))), .val (.ref b14), .val (.int (0 : Int32)), .val (.int (0 : Int32))] [(.int (0 : Int32)), (.int (0 : Int32))])) (fun t k => XS.iload X20.here hx rfl (hb hby at_152) rfl k) ?_
        refine Goes.to (T' := T20.setTop (mkF m 159 #[.val (.int p0), .val (.int p1), .val (.int p2), .val (.long q3), .second, .val (.int p4), .val (.int p5), .val (.int cs), .val (.ref mk), .val (.ref b3), .val (.ref b7), .val (.ref b9), .val (.ref b12), .val (.int (((p5.toUInt32 >>> ((20 : Int32) &&& 31).toUInt32).toInt32) &&& (3 : Int32))), .val (.ref b14), .val (.int (0 : Int32)), .val (.int (0 : Int32))] [])) (fun t k => XS.icmpYes X20.here hx rfl (pc0 := 154) (pc' := 159) rfl (hb hby at_154) rfl (teq (by decide)).1 (by decide) (by decide) k) ?_
        refine Goes.to (T' := T20.setTop (mkF m 161 #[.val (.int p0), .val (.int p1), .val (.int p2), .val (.long q3), .second, .val (.int p4), .val (.int p5), .val (.int cs), .val (.ref mk), .val (.ref b3), .val (.ref b7), .val (.ref b9), .val (.ref b12), .val (.int (((p5.toUInt32 >>> ((20 : Int32) &&& 31).toUInt32).toInt32) &&& (3 : Int32))), .val (.ref b14), .val (.int (0 : Int32)), .val (.int (0 : Int32))] [(.ref b14)])) (fun t k => XS.aload X20.here hx rfl (hb hby at_159) rfl rfl k) ?_
        obtain ⟨cq21, kq21, q21a, q21b, q21c⟩ := isOf hZ e20 E_b14
        obtain ⟨_, _, ⟨T21, L21, k21, n21⟩, -, X21, ⟨Lc21, hQ21, l21, y21, z21⟩, st21⟩ := X20.virtualBack hx (y := (⟨"com/example/arvi/arvi/model/PurchaseDetails", "consumptionState", "()I"⟩ : MethodName)) (z := (⟨"com/example/arvi/arvi/model/PurchaseDetails", "consumptionState", "()I"⟩ : MethodName)) hown (mvT hZ (hw _ (List.mem_of_getElem? (i := 76) rfl))) (mvT hZ (hw _ (List.mem_of_getElem? (i := 77) rfl))) (notFace_of_selects (args := #[]) (mvT hZ (hw _ (List.mem_of_getElem? (i := 79) rfl)))) (mvT hZ (hw _ (List.mem_of_getElem? (i := 79) rfl))) (mvT hZ (hw _ (List.mem_of_getElem? (i := 78) rfl))) (by decide) (backOf (W := 0) (rmS l Z a0 hw [] b14 w_Market_MKT_GLB w_Market_MKT_ONE z_cs cs T15.heap n0 O0 NF F_consumptionState_b14) hZ (hw _ (List.mem_of_getElem? (i := 80) rfl)) (hw _ (List.mem_of_getElem? (i := 39) rfl)) (by decide) (by decide)) q21a q21c (g := (mkF m 161 #[.val (.int p0), .val (.int p1), .val (.int p2), .val (.long q3), .second, .val (.int p4), .val (.int p5), .val (.int cs), .val (.ref mk), .val (.ref b3), .val (.ref b7), .val (.ref b9), .val (.ref b12), .val (.int (((p5.toUInt32 >>> ((20 : Int32) &&& 31).toUInt32).toInt32) &&& (3 : Int32))), .val (.ref b14), .val (.int (0 : Int32)), .val (.int (0 : Int32))] [(.ref b14)])) rfl (by rw [hml]; rfl) (Steps.refl _) (argsL := []) (rest := []) (lenOf pd_104 rfl) rfl (by show 2 * 0 + _ ≤ _; exact Nat.le_of_eq rfl) (hb hby at_161) (fun _ _ => ⟨rfl, e20, (by decide : 11 + 0 ≤ _), (by decide : 92 + 0 ≤ _)⟩)
        dsimp only [Pt.U, Pt.locs, Pt.cells, Pt.slots] at X21 l21 y21 z21 st21 hQ21
        subst l21 y21 z21
        obtain ⟨rfl, Nq21, e21⟩ := hQ21
        have N21 := Fr.app N20 Nq21
        refine Goes.thru (T' := T21.setTop (mkF m 164 #[.val (.int p0), .val (.int p1), .val (.int p2), .val (.long q3), .second, .val (.int p4), .val (.int p5), .val (.int cs), .val (.ref mk), .val (.ref b3), .val (.ref b7), .val (.ref b9), .val (.ref b12), .val (.int (((p5.toUInt32 >>> ((20 : Int32) &&& 31).toUInt32).toInt32) &&& (3 : Int32))), .val (.ref b14), .val (.int (0 : Int32)), .val (.int (0 : Int32))] [(.int cs)])) st21 ?_
        refine Goes.to (T' := T21.setTop (mkF m 166 #[.val (.int p0), .val (.int p1), .val (.int p2), .val (.long q3), .second, .val (.int p4), .val (.int p5), .val (.int cs), .val (.ref mk), .val (.ref b3), .val (.ref b7), .val (.ref b9), .val (.ref b12), .val (.int (((p5.toUInt32 >>> ((20 : Int32) &&& 31).toUInt32).toInt32) &&& (3 : Int32))), .val (.ref b14), .val (.int (0 : Int32)), .val (.int (0 : Int32))] [(.int cs), (.int cs)])) (fun t k => XS.iload X21.here hx rfl (hb hby at_164) rfl k) ?_
        refine Goes.to (T' := T21.setTop (mkF m 171 #[.val (.int p0), .val (.int p1), .val (.int p2), .val (.long q3), .second, .val (.int p4), .val (.int p5), .val (.int cs), .val (.ref mk), .val (.ref b3), .val (.ref b7), .val (.ref b9), .val (.ref b12), .val (.int (((p5.toUInt32 >>> ((20 : Int32) &&& 31).toUInt32).toInt32) &&& (3 : Int32))), .val (.ref b14), .val (.int (0 : Int32)), .val (.int (0 : Int32))] [])) (fun t k => XS.icmpYes X21.here hx rfl (pc0 := 166) (pc' := 171) rfl (hb hby at_166) rfl (teq rfl).1 (by decide) (by decide) k) ?_
        refine Goes.to (T' := T21.setTop (mkF m 173 #[.val (.int p0), .val (.int p1), .val (.int p2), .val (.long q3), .second, .val (.int p4), .val (.int p5), .val (.int cs), .val (.ref mk), .val (.ref b3), .val (.ref b7), .val (.ref b9), .val (.ref b12), .val (.int (((p5.toUInt32 >>> ((20 : Int32) &&& 31).toUInt32).toInt32) &&& (3 : Int32))), .val (.ref b14), .val (.int (0 : Int32)), .val (.int (0 : Int32))] [(.int (0 : Int32))])) (fun t k => XS.iload X21.here hx rfl (hb hby at_171) rfl k) ?_
        refine Goes.to (T' := T21.setTop (mkF m 186 #[.val (.int p0), .val (.int p1), .val (.int p2), .val (.long q3), .second, .val (.int p4), .val (.int p5), .val (.int cs), .val (.ref mk), .val (.ref b3), .val (.ref b7), .val (.ref b9), .val (.ref b12), .val (.int (((p5.toUInt32 >>> ((20 : Int32) &&& 31).toUInt32).toInt32) &&& (3 : Int32))), .val (.ref b14), .val (.int (0 : Int32)), .val (.int (0 : Int32))] [])) (fun t k => XS.ifYes X21.here hx rfl (pc0 := 173) (pc' := 186) rfl (hb hby at_173) rfl ((if0 _ _).trans (teq (by decide)).1) (by decide) (by decide) k) ?_
        refine Goes.to (T' := T21.setTop (mkF m 187 #[.val (.int p0), .val (.int p1), .val (.int p2), .val (.long q3), .second, .val (.int p4), .val (.int p5), .val (.int cs), .val (.ref mk), .val (.ref b3), .val (.ref b7), .val (.ref b9), .val (.ref b12), .val (.int (((p5.toUInt32 >>> ((20 : Int32) &&& 31).toUInt32).toInt32) &&& (3 : Int32))), .val (.ref b14), .val (.int (0 : Int32)), .val (.int (0 : Int32))] [(.int (1 : Int32))])) (fun t k => XS.iconst X21.here hx rfl (hb hby at_186) k) ?_
        obtain ⟨fs, hrL, hrun, hended, hRW⟩ := X21.leaveW hS (by rw [e21]; exact hk) (v := some (.int (1 : Int32))) (fun h => by rw [Bd.returns] at h; cases h)
        subst hQf
        refine ⟨_, _, retN X21 hx (t := .boolean) Bd.returns (by simp) (hb hby at_187) hrL, hrun, hended, _, _, rfl, ?_, hRW.1, hRW.2.1, hRW.2.2.1, hRW.2.2.2.mono (by decide) (by decide)⟩
        show (fun (v : Option Value) (h : Heap) (L : List Loc) => v = some (.int 1) ∧ Fr n0 L) (some (.int (1 : Int32))) T21.heap _
        rw [e21]
        exact ⟨rfl, N21⟩
    · skip
      refine Goes.to (T' := T5.setTop (mkF m 51 #[.val (.int p0), .val (.int p1), .val (.int p2), .val (.long q3), .second, .val (.int p4), .val (.int p5), .val (.int cs), .val (.ref mk), .val (.ref b3), .unset, .unset, .unset, .unset, .unset, .unset, .unset] [])) (fun t k => XS.ifNo X5.here hx rfl (hb hby at_48) rfl ((if0 _ _).trans (feq hc48_6).1) k) ?_
      refine Goes.to (T' := T5.setTop (mkF m 52 #[.val (.int p0), .val (.int p1), .val (.int p2), .val (.long q3), .second, .val (.int p4), .val (.int p5), .val (.int cs), .val (.ref mk), .val (.ref b3), .unset, .unset, .unset, .unset, .unset, .unset, .unset] [.null])) (fun t k => XS.aconstNull X5.here hx rfl (hb hby at_51) k) ?_
      refine Goes.to (T' := T5.setTop (mkF m 64 #[.val (.int p0), .val (.int p1), .val (.int p2), .val (.long q3), .second, .val (.int p4), .val (.int p5), .val (.int cs), .val (.ref mk), .val (.ref b3), .unset, .unset, .unset, .unset, .unset, .unset, .unset] [.null])) (fun t k => XS.goto X5.here hx rfl (pc0 := 52) (pc' := 64) rfl (hb hby at_52) (by decide) (by decide) k) ?_
      refine Goes.to (T' := T5.setTop (mkF m 66 #[.val (.int p0), .val (.int p1), .val (.int p2), .val (.long q3), .second, .val (.int p4), .val (.int p5), .val (.int cs), .val (.ref mk), .val (.ref b3), .val .null, .unset, .unset, .unset, .unset, .unset, .unset] [])) (fun t k => XS.astore X5.here hx rfl (hb hby at_64) rfl rfl (l' := #[.val (.int p0), .val (.int p1), .val (.int p2), .val (.long q3), .second, .val (.int p4), .val (.int p5), .val (.int cs), .val (.ref mk), .val (.ref b3), .val .null, .unset, .unset, .unset, .unset, .unset, .unset]) rfl k) ?_
      refine Goes.to (T' := T5.setTop (mkF m 67 #[.val (.int p0), .val (.int p1), .val (.int p2), .val (.long q3), .second, .val (.int p4), .val (.int p5), .val (.int cs), .val (.ref mk), .val (.ref b3), .val .null, .unset, .unset, .unset, .unset, .unset, .unset] [(.int (1 : Int32))])) (fun t k => XS.iconst X5.here hx rfl (hb hby at_66) k) ?_
      obtain ⟨T22, h22, k22, X22, e22, E22, A22, st22⟩ := newP X5 hx hZ (hw _ (List.mem_of_getElem? (i := 7) rfl)) e5 (g := (mkF m 67 #[.val (.int p0), .val (.int p1), .val (.int p2), .val (.long q3), .second, .val (.int p4), .val (.int p5), .val (.int cs), .val (.ref mk), .val (.ref b3), .val .null, .unset, .unset, .unset, .unset, .unset, .unset] [(.int (1 : Int32))])) rfl (hb hby at_67) rfl (by decide) (cap := 1) (by decide) (by decide) (by decide) (by decide)
      obtain ⟨b22, g22⟩ : ∃ z, z = h5.size := ⟨_, rfl⟩
      rw [← g22] at A22 st22
      have g_b22 : n0 ≤ b22 := Nat.le_trans (own_old O0) (Nat.le_of_eq g22.symm)
      have ne_b3_b22 : b3 ≠ b22 := Nat.ne_of_lt (Nat.lt_of_lt_of_le V_b3.lt (Nat.le_of_eq g22.symm))
      have ne_b22_b3 := Ne.symm ne_b3_b22
      have V_b3 := V_b3.ext E22
      have O0 := O0.ext E22
      have hk := Nat.le_trans hk E22.1
      have V_b22 : Arv Z h22 b22 k22 .char (1 : Int32) [(.int (0 : Int32))] (.int (0 : Int32)) := (Arv.new A22 (by decide)).pad (pad_rep [] (.int (0 : Int32)) 1)
      refine Goes.to (T' := T22.setTop (mkF m 69 #[.val (.int p0), .val (.int p1), .val (.int p2), .val (.long q3), .second, .val (.int p4), .val (.int p5), .val (.int cs), .val (.ref mk), .val (.ref b3), .val .null, .unset, .unset, .unset, .unset, .unset, .unset] [(.ref b22)])) st22 ?_
      refine Goes.to (T' := T22.setTop (mkF m 71 #[.val (.int p0), .val (.int p1), .val (.int p2), .val (.long q3), .second, .val (.int p4), .val (.int p5), .val (.int cs), .val (.ref mk), .val (.ref b3), .val .null, .val (.ref b22), .unset, .unset, .unset, .unset, .unset] [])) (fun t k => XS.astore X22.here hx rfl (hb hby at_69) rfl rfl (l' := #[.val (.int p0), .val (.int p1), .val (.int p2), .val (.long q3), .second, .val (.int p4), .val (.int p5), .val (.int cs), .val (.ref mk), .val (.ref b3), .val .null, .val (.ref b22), .unset, .unset, .unset, .unset, .unset]) rfl k) ?_
      refine Goes.to (T' := T22.setTop (mkF m 73 #[.val (.int p0), .val (.int p1), .val (.int p2), .val (.long q3), .second, .val (.int p4), .val (.int p5), .val (.int cs), .val (.ref mk), .val (.ref b3), .val .null, .val (.ref b22), .unset, .unset, .unset, .unset, .unset] [(.ref b22)])) (fun t k => XS.aload X22.here hx rfl (hb hby at_71) rfl rfl k) ?_
      refine Goes.to (T' := T22.setTop (mkF m 74 #[.val (.int p0), .val (.int p1), .val (.int p2), .val (.long q3), .second, .val (.int p4), .val (.int p5), .val (.int cs), .val (.ref mk), .val (.ref b3), .val .null, .val (.ref b22), .unset, .unset, .unset, .unset, .unset] [(.int (0 : Int32)), (.ref b22)])) (fun t k => XS.iconst X22.here hx rfl (hb hby at_73) k) ?_
      refine Goes.to (T' := T22.setTop (mkF m 76 #[.val (.int p0), .val (.int p1), .val (.int p2), .val (.long q3), .second, .val (.int p4), .val (.int p5), .val (.int cs), .val (.ref mk), .val (.ref b3), .val .null, .val (.ref b22), .unset, .unset, .unset, .unset, .unset] [(.int (48 : Int32)), (.int (0 : Int32)), (.ref b22)])) (fun t k => XS.bipush X22.here hx rfl (hb hby at_74) k) ?_
      refine Goes.to (T' := T22.setTop (mkF m 78 #[.val (.int p0), .val (.int p1), .val (.int p2), .val (.long q3), .second, .val (.int p4), .val (.int p5), .val (.int cs), .val (.ref mk), .val (.ref b3), .val .null, .val (.ref b22), .unset, .unset, .unset, .unset, .unset] [(.int p5), (.int (48 : Int32)), (.int (0 : Int32)), (.ref b22)])) (fun t k => XS.iload X22.here hx rfl (hb hby at_76) rfl k) ?_
      refine Goes.to (T' := T22.setTop (mkF m 80 #[.val (.int p0), .val (.int p1), .val (.int p2), .val (.long q3), .second, .val (.int p4), .val (.int p5), .val (.int cs), .val (.ref mk), .val (.ref b3), .val .null, .val (.ref b22), .unset, .unset, .unset, .unset, .unset] [(.int (16 : Int32)), (.int p5), (.int (48 : Int32)), (.int (0 : Int32)), (.ref b22)])) (fun t k => XS.bipush X22.here hx rfl (hb hby at_78) k) ?_
      refine Goes.to (T' := T22.setTop (mkF m 81 #[.val (.int p0), .val (.int p1), .val (.int p2), .val (.long q3), .second, .val (.int p4), .val (.int p5), .val (.int cs), .val (.ref mk), .val (.ref b3), .val .null, .val (.ref b22), .unset, .unset, .unset, .unset, .unset] [(.int ((p5.toUInt32 >>> ((16 : Int32) &&& 31).toUInt32).toInt32)), (.int (48 : Int32)), (.int (0 : Int32)), (.ref b22)])) (fun t k => XS.iushr X22.here hx rfl (hb hby at_80) rfl k) ?_
      refine Goes.to (T' := T22.setTop (mkF m 83 #[.val (.int p0), .val (.int p1), .val (.int p2), .val (.long q3), .second, .val (.int p4), .val (.int p5), .val (.int cs), .val (.ref mk), .val (.ref b3), .val .null, .val (.ref b22), .unset, .unset, .unset, .unset, .unset] [(.int (7 : Int32)), (.int ((p5.toUInt32 >>> ((16 : Int32) &&& 31).toUInt32).toInt32)), (.int (48 : Int32)), (.int (0 : Int32)), (.ref b22)])) (fun t k => XS.bipush X22.here hx rfl (hb hby at_81) k) ?_
      refine Goes.to (T' := T22.setTop (mkF m 84 #[.val (.int p0), .val (.int p1), .val (.int p2), .val (.long q3), .second, .val (.int p4), .val (.int p5), .val (.int cs), .val (.ref mk), .val (.ref b3), .val .null, .val (.ref b22), .unset, .unset, .unset, .unset, .unset] [(.int (((p5.toUInt32 >>> ((16 : Int32) &&& 31).toUInt32).toInt32) &&& (7 : Int32))), (.int (48 : Int32)), (.int (0 : Int32)), (.ref b22)])) (fun t k => XS.iand X22.here hx rfl (hb hby at_83) rfl k) ?_
      refine Goes.to (T' := T22.setTop (mkF m 85 #[.val (.int p0), .val (.int p1), .val (.int p2), .val (.long q3), .second, .val (.int p4), .val (.int p5), .val (.int cs), .val (.ref mk), .val (.ref b3), .val .null, .val (.ref b22), .unset, .unset, .unset, .unset, .unset] [(.int ((48 : Int32) + (((p5.toUInt32 >>> ((16 : Int32) &&& 31).toUInt32).toInt32) &&& (7 : Int32)))), (.int (0 : Int32)), (.ref b22)])) (fun t k => XS.iadd X22.here hx rfl (hb hby at_84) rfl k) ?_
      refine Goes.to (T' := T22.setTop (mkF m 86 #[.val (.int p0), .val (.int p1), .val (.int p2), .val (.long q3), .second, .val (.int p4), .val (.int p5), .val (.int cs), .val (.ref mk), .val (.ref b3), .val .null, .val (.ref b22), .unset, .unset, .unset, .unset, .unset] [(.int (((48 : Int32) + (((p5.toUInt32 >>> ((16 : Int32) &&& 31).toUInt32).toInt32) &&& (7 : Int32))).toUInt32.toUInt16.toUInt32.toInt32)), (.int (0 : Int32)), (.ref b22)])) (fun t k => XS.i2c X22.here hx rfl (hb hby at_85) rfl k) ?_
      obtain ⟨c1, hc1⟩ : ∃ z : Int32, z = (((48 : Int32) + (((p5.toUInt32 >>> ((16 : Int32) &&& 31).toUInt32).toInt32) &&& (7 : Int32))).toUInt32.toUInt16.toUInt32.toInt32) := ⟨_, rfl⟩
      rw [← hc1]
      have h_c1 : ¬ c1 < 0 ∧ ¬ (255 : Int32) < c1 := hc1 ▸ own_i2c48 _
      obtain ⟨cl23, Ar23, q23, S23, Ng23, H23, G23⟩ := V_b22
      have hin23 : ¬ ((0 : Int32) < 0 ∨ cl23.slots.size ≤ ((0 : Int32)).toNatClampNeg) := inb_of S23 ⟨by decide, by decide⟩
      obtain ⟨T24, h24, X24, e24, W24, st24⟩ := stC X22 hx hZ e22 Ar23 (j := (0 : Int32)) hin23 (g := (mkF m 86 #[.val (.int p0), .val (.int p1), .val (.int p2), .val (.long q3), .second, .val (.int p4), .val (.int p5), .val (.int cs), .val (.ref mk), .val (.ref b3), .val .null, .val (.ref b22), .unset, .unset, .unset, .unset, .unset] [(.int c1), (.int (0 : Int32)), (.ref b22)])) rfl rfl (hb hby at_86)
      have V_b22 : Arv Z h24 b22 k22 .char (1 : Int32) [(.int (nar .char c1))] (.int (0 : Int32)) := Arv.set Ar23 q23 S23 Ng23 H23 G23 (fits_nar_char _) W24 0 rfl (Nat.le_of_ble_eq_true rfl)
      have V_b3 := V_b3.other W24 (ne_b3_b22)
      have O0 := O0.wr W24 g_b22
      have hk := Nat.le_trans hk (Keep.of_wr W24).1
      have N24 := Fr.snoc X24 N5 g_b22
      refine Goes.to (T' := T24.setTop (mkF m 87 #[.val (.int p0), .val (.int p1), .val (.int p2), .val (.long q3), .second, .val (.int p4), .val (.int p5), .val (.int cs), .val (.ref mk), .val (.ref b3), .val .null, .val (.ref b22), .unset, .unset, .unset, .unset, .unset] [])) st24 ?_
      rw [own_narc h_c1] at V_b22
      obtain ⟨T25, h25, X25, e25, E25, A25, D25, -, st25⟩ := newO X24 hx hZ hown (hw _ (List.mem_of_getElem? (i := 8) rfl)) (hw _ (List.mem_of_getElem? (i := 9) rfl)) (hw _ (List.mem_of_getElem? (i := 10) rfl)) e24 (g := (mkF m 87 #[.val (.int p0), .val (.int p1), .val (.int p2), .val (.long q3), .second, .val (.int p4), .val (.int p5), .val (.int cs), .val (.ref mk), .val (.ref b3), .val .null, .val (.ref b22), .unset, .unset, .unset, .unset, .unset] [])) rfl (hb hby at_87) (by decide) (by decide)
      obtain ⟨b25, g25⟩ : ∃ z, z = h24.size := ⟨_, rfl⟩
      rw [← g25] at A25 D25 st25
      have g_b25 : n0 ≤ b25 := Nat.le_trans (own_old O0) (Nat.le_of_eq g25.symm)
      have ne_b3_b25 : b3 ≠ b25 := Nat.ne_of_lt (Nat.lt_of_lt_of_le V_b3.lt (Nat.le_of_eq g25.symm))
      have ne_b25_b3 := Ne.symm ne_b3_b25
      have ne_b22_b25 : b22 ≠ b25 := Nat.ne_of_lt (Nat.lt_of_lt_of_le V_b22.lt (Nat.le_of_eq g25.symm))
      have ne_b25_b22 := Ne.symm ne_b22_b25
      have V_b3 := V_b3.ext E25
      have V_b22 := V_b22.ext E25
      have O0 := O0.ext E25
      have hk := Nat.le_trans hk E25.1
      have E_b25 := A25
      have F_coder_b25 : Fld Z h25 b25 "java/lang/String" "coder" "B" (.int (0 : Int32)) := D25 (Or.inr (hw _ (List.mem_of_getElem? (i := 34) rfl))) (ty := .byte) (by decide)
      have F_value_b25 : Fld Z h25 b25 "java/lang/String" "value" "[B" .null := D25 (Or.inr (hw _ (List.mem_of_getElem? (i := 36) rfl))) (ty := (.array .byte)) (by decide)
      refine Goes.to (T' := T25.setTop (mkF m 90 #[.val (.int p0), .val (.int p1), .val (.int p2), .val (.long q3), .second, .val (.int p4), .val (.int p5), .val (.int cs), .val (.ref mk), .val (.ref b3), .val .null, .val (.ref b22), .unset, .unset, .unset, .unset, .unset] [(.ref b25)])) st25 ?_
      refine Goes.to (T' := T25.setTop (mkF m 91 #[.val (.int p0), .val (.int p1), .val (.int p2), .val (.long q3), .second, .val (.int p4), .val (.int p5), .val (.int cs), .val (.ref mk), .val (.ref b3), .val .null, .val (.ref b22), .unset, .unset, .unset, .unset, .unset] [(.ref b25), (.ref b25)])) (fun t k => XS.dup X25.here hx rfl (hb hby at_90) rfl rfl k) ?_
      refine Goes.to (T' := T25.setTop (mkF m 93 #[.val (.int p0), .val (.int p1), .val (.int p2), .val (.long q3), .second, .val (.int p4), .val (.int p5), .val (.int cs), .val (.ref mk), .val (.ref b3), .val .null, .val (.ref b22), .unset, .unset, .unset, .unset, .unset] [(.ref b22), (.ref b25), (.ref b25)])) (fun t k => XS.aload X25.here hx rfl (hb hby at_91) rfl rfl k) ?_
      have hws : ∀ d ∈ StrChars.Road.words, d.before a0 Z = true := fun d hd => hw d ((by decide +kernel : ∀ d ∈ StrChars.Road.words, d ∈ tables_1) d hd)
      have hlat : ∀ c ∈ [c1], ¬ c < 0 ∧ ¬ (255 : Int32) < c := by
        intro c hc
        simp only [List.mem_cons, List.not_mem_nil, or_false] at hc
        rcases hc with rfl
        · exact h_c1
      obtain ⟨_, _, ⟨T26, L26, k26, n26⟩, -, X26, ⟨Lc26, hQ26, l26, y26, z26⟩, st26⟩ := X25.specialBack hx (y := (⟨"java/lang/String", "<init>", "([C)V"⟩ : MethodName)) rfl hown (mvT hZ (hw _ (List.mem_of_getElem? (i := 11) rfl))) (mvT hZ (hw _ (List.mem_of_getElem? (i := 12) rfl))) (mvT hZ (hw _ (List.mem_of_getElem? (i := 13) rfl))) (by decide) (StrChars.Road.backV (W := 1) hZ hws (kI := 4) (hw _ (List.mem_of_getElem? (i := 9) rfl)) (cs := [c1]) (bs := [c1.toInt8.toInt32]) (n := 1) g_b25 (own_old O0) E_b25 F_value_b25 F_coder_b25 V_b22 (S_cs.ext O0.2) nz_cs rfl rfl (by decide) (by decide) hlat rfl (by decide) (by decide)) (g := (mkF m 93 #[.val (.int p0), .val (.int p1), .val (.int p2), .val (.long q3), .second, .val (.int p4), .val (.int p5), .val (.int cs), .val (.ref mk), .val (.ref b3), .val .null, .val (.ref b22), .unset, .unset, .unset, .unset, .unset] [(.ref b22), (.ref b25), (.ref b25)])) rfl (by rw [hml]; rfl) (Steps.refl _) (a := b25) (argsL := [(.ref b22)]) (rest := [(.ref b25)]) (lenOf pd_102 rfl) rfl (by show 2 * 0 + _ ≤ _; exact Nat.le_of_eq rfl) (hb hby at_93) (fun _ _ => ⟨rfl, e25, (by decide : 3 + 1 ≤ _), (by decide : 6 + 1 ≤ _)⟩)
      dsimp only [Pt.U, Pt.locs, Pt.cells, Pt.slots] at X26 l26 y26 z26 st26 hQ26
      subst l26 y26 z26
      obtain ⟨rfl, Nq26, K26, -, Fc26, t26, kb26, gt26, szt26, net26, Fv26, Av26⟩ := hQ26
      have N26 := Fr.app N24 Nq26
      have g_t26 : n0 ≤ t26 := gt26
      have ne_b3_t26 : b3 ≠ t26 := Nat.ne_of_lt (Nat.lt_of_lt_of_le V_b3.lt szt26)
      have ne_t26_b3 := Ne.symm ne_b3_t26
      have ne_b22_t26 : b22 ≠ t26 := Nat.ne_of_lt (Nat.lt_of_lt_of_le V_b22.lt szt26)
      have ne_t26_b22 := Ne.symm ne_b22_t26
      have ne_b25_t26 : b25 ≠ t26 := Nat.ne_of_lt (Nat.lt_of_lt_of_le E_b25.lt szt26)
      have ne_t26_b25 := Ne.symm ne_b25_t26
      have V_b3 := V_b3.keep K26 (ninS (ne_b3_b25) nin0)
      have V_b22 := V_b22.keep K26 (ninS (ne_b22_b25) nin0)
      have E_b25 := E_b25.keep K26
      have O0 := O0.keep K26 (allS g_b25 all0)
      have hk := Nat.le_trans hk K26.1
      have F_coder_b25 := Fc26
      have F_value_b25 := Fv26
      have V_t26 : Arv Z T26.heap t26 kb26 .byte (1 : Int32) [(.int c1.toInt8.toInt32)] (.int (0 : Int32)) := Av26
      refine Goes.thru (T' := T26.setTop (mkF m 96 #[.val (.int p0), .val (.int p1), .val (.int p2), .val (.long q3), .second, .val (.int p4), .val (.int p5), .val (.int cs), .val (.ref mk), .val (.ref b3), .val .null, .val (.ref b22), .unset, .unset, .unset, .unset, .unset] [(.ref b25)])) st26 ?_
      refine Goes.to (T' := T26.setTop (mkF m 98 #[.val (.int p0), .val (.int p1), .val (.int p2), .val (.long q3), .second, .val (.int p4), .val (.int p5), .val (.int cs), .val (.ref mk), .val (.ref b3), .val .null, .val (.ref b22), .val (.ref b25), .unset, .unset, .unset, .unset] [])) (fun t k => XS.astore X26.here hx rfl (hb hby at_96) rfl rfl (l' := #[.val (.int p0), .val (.int p1), .val (.int p2), .val (.long q3), .second, .val (.int p4), .val (.int p5), .val (.int cs), .val (.ref mk), .val (.ref b3), .val .null, .val (.ref b22), .val (.ref b25), .unset, .unset, .unset, .unset]) rfl k) ?_
      refine Goes.to (T' := T26.setTop (mkF m 100 #[.val (.int p0), .val (.int p1), .val (.int p2), .val (.long q3), .second, .val (.int p4), .val (.int p5), .val (.int cs), .val (.ref mk), .val (.ref b3), .val .null, .val (.ref b22), .val (.ref b25), .unset, .unset, .unset, .unset] [(.int p5)])) (fun t k => XS.iload X26.here hx rfl (hb hby at_98) rfl k) ?_
      refine Goes.to (T' := T26.setTop (mkF m 102 #[.val (.int p0), .val (.int p1), .val (.int p2), .val (.long q3), .second, .val (.int p4), .val (.int p5), .val (.int cs), .val (.ref mk), .val (.ref b3), .val .null, .val (.ref b22), .val (.ref b25), .unset, .unset, .unset, .unset] [(.int (20 : Int32)), (.int p5)])) (fun t k => XS.bipush X26.here hx rfl (hb hby at_100) k) ?_
      refine Goes.to (T' := T26.setTop (mkF m 103 #[.val (.int p0), .val (.int p1), .val (.int p2), .val (.long q3), .second, .val (.int p4), .val (.int p5), .val (.int cs), .val (.ref mk), .val (.ref b3), .val .null, .val (.ref b22), .val (.ref b25), .unset, .unset, .unset, .unset] [(.int ((p5.toUInt32 >>> ((20 : Int32) &&& 31).toUInt32).toInt32))])) (fun t k => XS.iushr X26.here hx rfl (hb hby at_102) rfl k) ?_
      refine Goes.to (T' := T26.setTop (mkF m 104 #[.val (.int p0), .val (.int p1), .val (.int p2), .val (.long q3), .second, .val (.int p4), .val (.int p5), .val (.int cs), .val (.ref mk), .val (.ref b3), .val .null, .val (.ref b22), .val (.ref b25), .unset, .unset, .unset, .unset] [(.int (3 : Int32)), (.int ((p5.toUInt32 >>> ((20 : Int32) &&& 31).toUInt32).toInt32))])) (fun t k => XS.iconst X26.here hx rfl (hb hby at_103) k) ?_
      refine Goes.to (T' := T26.setTop (mkF m 105 #[.val (.int p0), .val (.int p1), .val (.int p2), .val (.long q3), .second, .val (.int p4), .val (.int p5), .val (.int cs), .val (.ref mk), .val (.ref b3), .val .null, .val (.ref b22), .val (.ref b25), .unset, .unset, .unset, .unset] [(.int (((p5.toUInt32 >>> ((20 : Int32) &&& 31).toUInt32).toInt32) &&& (3 : Int32)))])) (fun t k => XS.iand X26.here hx rfl (hb hby at_104) rfl k) ?_
      refine Goes.to (T' := T26.setTop (mkF m 107 #[.val (.int p0), .val (.int p1), .val (.int p2), .val (.long q3), .second, .val (.int p4), .val (.int p5), .val (.int cs), .val (.ref mk), .val (.ref b3), .val .null, .val (.ref b22), .val (.ref b25), .val (.int (((p5.toUInt32 >>> ((20 : Int32) &&& 31).toUInt32).toInt32) &&& (3 : Int32))), .unset, .unset, .unset] [])) (fun t k => XS.istore X26.here hx rfl (hb hby at_105) rfl (l' := #[.val (.int p0), .val (.int p1), .val (.int p2), .val (.long q3), .second, .val (.int p4), .val (.int p5), .val (.int cs), .val (.ref mk), .val (.ref b3), .val .null, .val (.ref b22), .val (.ref b25), .val (.int (((p5.toUInt32 >>> ((20 : Int32) &&& 31).toUInt32).toInt32) &&& (3 : Int32))), .unset, .unset, .unset]) rfl k) ?_
      obtain ⟨T27, h27, X27, e27, E27, A27, D27, -, st27⟩ := newO X26 hx hZ hown (hw _ (List.mem_of_getElem? (i := 37) rfl)) (hw _ (List.mem_of_getElem? (i := 38) rfl)) (hw _ (List.mem_of_getElem? (i := 39) rfl)) rfl (g := (mkF m 107 #[.val (.int p0), .val (.int p1), .val (.int p2), .val (.long q3), .second, .val (.int p4), .val (.int p5), .val (.int cs), .val (.ref mk), .val (.ref b3), .val .null, .val (.ref b22), .val (.ref b25), .val (.int (((p5.toUInt32 >>> ((20 : Int32) &&& 31).toUInt32).toInt32) &&& (3 : Int32))), .unset, .unset, .unset] [])) rfl (hb hby at_107) (by decide) (by decide)
      obtain ⟨b27, g27⟩ : ∃ z, z = T26.heap.size := ⟨_, rfl⟩
      rw [← g27] at A27 D27 st27
      have g_b27 : n0 ≤ b27 := Nat.le_trans (own_old O0) (Nat.le_of_eq g27.symm)
      have ne_b3_b27 : b3 ≠ b27 := Nat.ne_of_lt (Nat.lt_of_lt_of_le V_b3.lt (Nat.le_of_eq g27.symm))
      have ne_b27_b3 := Ne.symm ne_b3_b27
      have ne_b22_b27 : b22 ≠ b27 := Nat.ne_of_lt (Nat.lt_of_lt_of_le V_b22.lt (Nat.le_of_eq g27.symm))
      have ne_b27_b22 := Ne.symm ne_b22_b27
      have ne_b25_b27 : b25 ≠ b27 := Nat.ne_of_lt (Nat.lt_of_lt_of_le E_b25.lt (Nat.le_of_eq g27.symm))
      have ne_b27_b25 := Ne.symm ne_b25_b27
      have ne_t26_b27 : t26 ≠ b27 := Nat.ne_of_lt (Nat.lt_of_lt_of_le V_t26.lt (Nat.le_of_eq g27.symm))
      have ne_b27_t26 := Ne.symm ne_t26_b27
      have V_b3 := V_b3.ext E27
      have V_b22 := V_b22.ext E27
      have E_b25 := E_b25.ext E27
      have F_coder_b25 := F_coder_b25.ext E27
      have F_value_b25 := F_value_b25.ext E27
      have V_t26 := V_t26.ext E27
      have O0 := O0.ext E27
      have hk := Nat.le_trans hk E27.1
      have E_b27 := A27
      have F_consumptionState_b27 : Fld Z h27 b27 "com/example/arvi/arvi/model/PurchaseDetails" "consumptionState" "I" (.int (0 : Int32)) := D27 (Or.inr (hw _ (List.mem_of_getElem? (i := 45) rfl))) (ty := .int) (by decide)
      have F_developerPayload_b27 : Fld Z h27 b27 "com/example/arvi/arvi/model/PurchaseDetails" "developerPayload" "Ljava/lang/String;" .null := D27 (Or.inr (hw _ (List.mem_of_getElem? (i := 47) rfl))) (ty := (.object "java/lang/String")) (by decide)
      have F_purchaseState_b27 : Fld Z h27 b27 "com/example/arvi/arvi/model/PurchaseDetails" "purchaseState" "I" (.int (0 : Int32)) := D27 (Or.inr (hw _ (List.mem_of_getElem? (i := 49) rfl))) (ty := .int) (by decide)
      have F_purchaseTime_b27 : Fld Z h27 b27 "com/example/arvi/arvi/model/PurchaseDetails" "purchaseTime" "J" (.long (0 : Int64)) := D27 (Or.inr (hw _ (List.mem_of_getElem? (i := 51) rfl))) (ty := .long) (by decide)
      have F_purchaseId_b27 : Fld Z h27 b27 "com/example/arvi/arvi/model/PurchaseDetails" "purchaseId" "Ljava/lang/String;" .null := D27 (Or.inr (hw _ (List.mem_of_getElem? (i := 61) rfl))) (ty := (.object "java/lang/String")) (by decide)
      have F_acknowledgeState_b27 : Fld Z h27 b27 "com/example/arvi/arvi/model/PurchaseDetails" "acknowledgeState" "I" (.int (0 : Int32)) := D27 (Or.inr (hw _ (List.mem_of_getElem? (i := 63) rfl))) (ty := .int) (by decide)
      have F_quantity_b27 : Fld Z h27 b27 "com/example/arvi/arvi/model/PurchaseDetails" "quantity" "I" (.int (0 : Int32)) := D27 (Or.inr (hw _ (List.mem_of_getElem? (i := 65) rfl))) (ty := .int) (by decide)
      have F_market_b27 : Fld Z h27 b27 "com/example/arvi/arvi/model/PurchaseDetails" "market" "Lcom/example/arvi/arvi/model/Market;" .null := D27 (Or.inr (hw _ (List.mem_of_getElem? (i := 70) rfl))) (ty := (.object "com/example/arvi/arvi/model/Market")) (by decide)
      refine Goes.to (T' := T27.setTop (mkF m 110 #[.val (.int p0), .val (.int p1), .val (.int p2), .val (.long q3), .second, .val (.int p4), .val (.int p5), .val (.int cs), .val (.ref mk), .val (.ref b3), .val .null, .val (.ref b22), .val (.ref b25), .val (.int (((p5.toUInt32 >>> ((20 : Int32) &&& 31).toUInt32).toInt32) &&& (3 : Int32))), .unset, .unset, .unset] [(.ref b27)])) st27 ?_
      refine Goes.to (T' := T27.setTop (mkF m 111 #[.val (.int p0), .val (.int p1), .val (.int p2), .val (.long q3), .second, .val (.int p4), .val (.int p5), .val (.int cs), .val (.ref mk), .val (.ref b3), .val .null, .val (.ref b22), .val (.ref b25), .val (.int (((p5.toUInt32 >>> ((20 : Int32) &&& 31).toUInt32).toInt32) &&& (3 : Int32))), .unset, .unset, .unset] [(.ref b27), (.ref b27)])) (fun t k => XS.dup X27.here hx rfl (hb hby at_110) rfl rfl k) ?_
      refine Goes.to (T' := T27.setTop (mkF m 113 #[.val (.int p0), .val (.int p1), .val (.int p2), .val (.long q3), .second, .val (.int p4), .val (.int p5), .val (.int cs), .val (.ref mk), .val (.ref b3), .val .null, .val (.ref b22), .val (.ref b25), .val (.int (((p5.toUInt32 >>> ((20 : Int32) &&& 31).toUInt32).toInt32) &&& (3 : Int32))), .unset, .unset, .unset] [(.int cs), (.ref b27), (.ref b27)])) (fun t k => XS.iload X27.here hx rfl (hb hby at_111) rfl k) ?_
      refine Goes.to (T' := T27.setTop (mkF m 115 #[.val (.int p0), .val (.int p1), .val (.int p2), .val (.long q3), .second, .val (.int p4), .val (.int p5), .val (.int cs), .val (.ref mk), .val (.ref b3), .val .null, .val (.ref b22), .val (.ref b25), .val (.int (((p5.toUInt32 >>> ((20 : Int32) &&& 31).toUInt32).toInt32) &&& (3 : Int32))), .unset, .unset, .unset] [.null, (.int cs), (.ref b27), (.ref b27)])) (fun t k => XS.aload X27.here hx rfl (hb hby at_113) rfl rfl k) ?_
      refine Goes.to (T' := T27.setTop (mkF m 117 #[.val (.int p0), .val (.int p1), .val (.int p2), .val (.long q3), .second, .val (.int p4), .val (.int p5), .val (.int cs), .val (.ref mk), .val (.ref b3), .val .null, .val (.ref b22), .val (.ref b25), .val (.int (((p5.toUInt32 >>> ((20 : Int32) &&& 31).toUInt32).toInt32) &&& (3 : Int32))), .unset, .unset, .unset] [(.int (((p5.toUInt32 >>> ((20 : Int32) &&& 31).toUInt32).toInt32) &&& (3 : Int32))), .null, (.int cs), (.ref b27), (.ref b27)])) (fun t k => XS.iload X27.here hx rfl (hb hby at_115) rfl k) ?_
      refine Goes.to (T' := T27.setTop (mkF m 118 #[.val (.int p0), .val (.int p1), .val (.int p2), .val (.long q3), .second, .val (.int p4), .val (.int p5), .val (.int cs), .val (.ref mk), .val (.ref b3), .val .null, .val (.ref b22), .val (.ref b25), .val (.int (((p5.toUInt32 >>> ((20 : Int32) &&& 31).toUInt32).toInt32) &&& (3 : Int32))), .unset, .unset, .unset] [(.long q3), (.int (((p5.toUInt32 >>> ((20 : Int32) &&& 31).toUInt32).toInt32) &&& (3 : Int32))), .null, (.int cs), (.ref b27), (.ref b27)])) (fun t k => XS.lloadN X27.here hx rfl (hb hby at_117) rfl k) ?_
      refine Goes.to (T' := T27.setTop (mkF m 120 #[.val (.int p0), .val (.int p1), .val (.int p2), .val (.long q3), .second, .val (.int p4), .val (.int p5), .val (.int cs), .val (.ref mk), .val (.ref b3), .val .null, .val (.ref b22), .val (.ref b25), .val (.int (((p5.toUInt32 >>> ((20 : Int32) &&& 31).toUInt32).toInt32) &&& (3 : Int32))), .unset, .unset, .unset] [(.ref b25), (.long q3), (.int (((p5.toUInt32 >>> ((20 : Int32) &&& 31).toUInt32).toInt32) &&& (3 : Int32))), .null, (.int cs), (.ref b27), (.ref b27)])) (fun t k => XS.aload X27.here hx rfl (hb hby at_118) rfl rfl k) ?_
      refine Goes.to (T' := T27.setTop (mkF m 121 #[.val (.int p0), .val (.int p1), .val (.int p2), .val (.long q3), .second, .val (.int p4), .val (.int p5), .val (.int cs), .val (.ref mk), .val (.ref b3), .val .null, .val (.ref b22), .val (.ref b25), .val (.int (((p5.toUInt32 >>> ((20 : Int32) &&& 31).toUInt32).toInt32) &&& (3 : Int32))), .unset, .unset, .unset] [(.int p2), (.ref b25), (.long q3), (.int (((p5.toUInt32 >>> ((20 : Int32) &&& 31).toUInt32).toInt32) &&& (3 : Int32))), .null, (.int cs), (.ref b27), (.ref b27)])) (fun t k => XS.iloadN X27.here hx rfl (hb hby at_120) rfl k) ?_
      refine Goes.to (T' := T27.setTop (mkF m 123 #[.val (.int p0), .val (.int p1), .val (.int p2), .val (.long q3), .second, .val (.int p4), .val (.int p5), .val (.int cs), .val (.ref mk), .val (.ref b3), .val .null, .val (.ref b22), .val (.ref b25), .val (.int (((p5.toUInt32 >>> ((20 : Int32) &&& 31).toUInt32).toInt32) &&& (3 : Int32))), .unset, .unset, .unset] [(.int p4), (.int p2), (.ref b25), (.long q3), (.int (((p5.toUInt32 >>> ((20 : Int32) &&& 31).toUInt32).toInt32) &&& (3 : Int32))), .null, (.int cs), (.ref b27), (.ref b27)])) (fun t k => XS.iload X27.here hx rfl (hb hby at_121) rfl k) ?_
      refine Goes.to (T' := T27.setTop (mkF m 125 #[.val (.int p0), .val (.int p1), .val (.int p2), .val (.long q3), .second, .val (.int p4), .val (.int p5), .val (.int cs), .val (.ref mk), .val (.ref b3), .val .null, .val (.ref b22), .val (.ref b25), .val (.int (((p5.toUInt32 >>> ((20 : Int32) &&& 31).toUInt32).toInt32) &&& (3 : Int32))), .unset, .unset, .unset] [(.ref mk), (.int p4), (.int p2), (.ref b25), (.long q3), (.int (((p5.toUInt32 >>> ((20 : Int32) &&& 31).toUInt32).toInt32) &&& (3 : Int32))), .null, (.int cs), (.ref b27), (.ref b27)])) (fun t k => XS.aload X27.here hx rfl (hb hby at_123) rfl rfl k) ?_
      obtain ⟨_, _, ⟨T28, L28, k28, n28⟩, -, X28, hS28, hg28, ⟨Lc28, hQ28, l28, y28, z28⟩, st28⟩ := X27.specialBackS hx (y := (⟨"com/example/arvi/arvi/model/PurchaseDetails", "<init>", "(ILjava/lang/String;IJLjava/lang/String;IILcom/example/arvi/arvi/model/Market;)V"⟩ : MethodName)) rfl hown (mvT hZ (hw _ (List.mem_of_getElem? (i := 40) rfl))) (mvT hZ (hw _ (List.mem_of_getElem? (i := 41) rfl))) (mvT hZ (hw _ (List.mem_of_getElem? (i := 42) rfl))) (by decide) (backOfS (W := 1) (rmI0 l Z a0 hw [] b27 cs (((p5.toUInt32 >>> ((20 : Int32) &&& 31).toUInt32).toInt32) &&& (3 : Int32)) q3 b25 p2 p4 mk w_Market_MKT_GLB w_Market_MKT_ONE z_cs  h27 n0 O0 NF E_b27 F_consumptionState_b27 F_developerPayload_b27 F_purchaseState_b27 F_purchaseTime_b27 F_purchaseId_b27 F_acknowledgeState_b27 F_quantity_b27 F_market_b27 E_b25 (E_mk.ext O0.2) g_b27 ne_b25_b27 (O0.ne E_mk.lt g_b27)) hZ (hw _ (List.mem_of_getElem? (i := 42) rfl)) (hw _ (List.mem_of_getElem? (i := 39) rfl)) (by decide) (by decide)) (g := (mkF m 125 #[.val (.int p0), .val (.int p1), .val (.int p2), .val (.long q3), .second, .val (.int p4), .val (.int p5), .val (.int cs), .val (.ref mk), .val (.ref b3), .val .null, .val (.ref b22), .val (.ref b25), .val (.int (((p5.toUInt32 >>> ((20 : Int32) &&& 31).toUInt32).toInt32) &&& (3 : Int32))), .unset, .unset, .unset] [(.ref mk), (.int p4), (.int p2), (.ref b25), (.long q3), (.int (((p5.toUInt32 >>> ((20 : Int32) &&& 31).toUInt32).toInt32) &&& (3 : Int32))), .null, (.int cs), (.ref b27), (.ref b27)])) rfl (by rw [hml]; rfl) (Steps.refl _) (a := b27) (argsL := [(.int cs), .null, (.int (((p5.toUInt32 >>> ((20 : Int32) &&& 31).toUInt32).toInt32) &&& (3 : Int32))), (.long q3), (.ref b25), (.int p2), (.int p4), (.ref mk)]) (rest := [(.ref b27)]) (lenOf pd_103 rfl) rfl (by show 2 * 0 + _ ≤ _; exact Nat.le_of_eq rfl) (hb hby at_125) (fun _ _ => ⟨rfl, e27, (by decide : 5 + 4 ≤ _), (by decide : 15 + 72 ≤ _)⟩)
      dsimp only [Pt.U, Pt.locs, Pt.cells, Pt.slots] at X28 l28 y28 z28 st28 hQ28 hS28 hg28
      subst l28 y28 z28
      obtain ⟨rfl, Nq28, K28, Fc28, Fa28⟩ := hQ28
      have N28 := Fr.app N26 Nq28
      have hS := hS.trans hS28 (Nat.le_trans hk (by rw [← e27]; exact hg28))
      have hk : T28.heap.size ≤ T28.heap.size := Nat.le_refl _
      have hZ : Z.Warmed39 (s.setVm T28.vm).vm := State.Warmed39.trans (t := (s.setVm s.vm)) hZ hS28.1
      have hown : (s.setVm T28.vm).vm.findClass "com/example/arvi/arvi/model/PurchaseDetailsIsConsumedPinLaw" = some m.cls := by rw [show (s.setVm T28.vm).vm = T28.vm from rfl, hS28.1.alike.findClass]; exact hown
      have V_b3 := V_b3.keep K28 (ninS (ne_b3_b27) nin0)
      have V_b22 := V_b22.keep K28 (ninS (ne_b22_b27) nin0)
      have E_b25 := E_b25.keep K28
      have F_coder_b25 := F_coder_b25.keep K28 (ninS (ne_b25_b27) nin0)
      have F_value_b25 := F_value_b25.keep K28 (ninS (ne_b25_b27) nin0)
      have V_t26 := V_t26.keep K28 (ninS (ne_t26_b27) nin0)
      have E_b27 := E_b27.keep K28
      have O0 := O0.keep K28 (allS g_b27 all0)
      have F_consumptionState_b27 := Fc28
      have F_acknowledgeState_b27 := Fa28
      refine Goes.thru (T' := T28.setTop (mkF m 128 #[.val (.int p0), .val (.int p1), .val (.int p2), .val (.long q3), .second, .val (.int p4), .val (.int p5), .val (.int cs), .val (.ref mk), .val (.ref b3), .val .null, .val (.ref b22), .val (.ref b25), .val (.int (((p5.toUInt32 >>> ((20 : Int32) &&& 31).toUInt32).toInt32) &&& (3 : Int32))), .unset, .unset, .unset] [(.ref b27)])) st28 ?_
      refine Goes.to (T' := T28.setTop (mkF m 130 #[.val (.int p0), .val (.int p1), .val (.int p2), .val (.long q3), .second, .val (.int p4), .val (.int p5), .val (.int cs), .val (.ref mk), .val (.ref b3), .val .null, .val (.ref b22), .val (.ref b25), .val (.int (((p5.toUInt32 >>> ((20 : Int32) &&& 31).toUInt32).toInt32) &&& (3 : Int32))), .val (.ref b27), .unset, .unset] [])) (fun t k => XS.astore X28.here hx rfl (hb hby at_128) rfl rfl (l' := #[.val (.int p0), .val (.int p1), .val (.int p2), .val (.long q3), .second, .val (.int p4), .val (.int p5), .val (.int cs), .val (.ref mk), .val (.ref b3), .val .null, .val (.ref b22), .val (.ref b25), .val (.int (((p5.toUInt32 >>> ((20 : Int32) &&& 31).toUInt32).toInt32) &&& (3 : Int32))), .val (.ref b27), .unset, .unset]) rfl k) ?_
      rcases Decidable.em (cs = (1 : Int32)) with hk29 | hk29
      · skip
        refine Goes.to (T' := T28.setTop (mkF m 132 #[.val (.int p0), .val (.int p1), .val (.int p2), .val (.long q3), .second, .val (.int p4), .val (.int p5), .val (.int cs), .val (.ref mk), .val (.ref b3), .val .null, .val (.ref b22), .val (.ref b25), .val (.int (((p5.toUInt32 >>> ((20 : Int32) &&& 31).toUInt32).toInt32) &&& (3 : Int32))), .val (.ref b27), .unset, .unset] [(.ref b27)])) (fun t k => XS.aload X28.here hx rfl (hb hby at_130) rfl rfl k) ?_
        obtain ⟨cq30, kq30, q30a, q30b, q30c⟩ := isOf hZ rfl E_b27
        obtain ⟨_, _, ⟨T30, L30, k30, n30⟩, -, X30, ⟨Lc30, hQ30, l30, y30, z30⟩, st30⟩ := X28.virtualBack hx (y := (⟨"com/example/arvi/arvi/model/PurchaseDetails", "isConsumed", "()Z"⟩ : MethodName)) (z := (⟨"com/example/arvi/arvi/model/PurchaseDetails", "isConsumed", "()Z"⟩ : MethodName)) hown (mvT hZ (hw _ (List.mem_of_getElem? (i := 71) rfl))) (mvT hZ (hw _ (List.mem_of_getElem? (i := 72) rfl))) (notFace_of_selects (args := #[]) (mvT hZ (hw _ (List.mem_of_getElem? (i := 74) rfl)))) (mvT hZ (hw _ (List.mem_of_getElem? (i := 74) rfl))) (mvT hZ (hw _ (List.mem_of_getElem? (i := 73) rfl))) (by decide) (backOf (W := 0) (rmC l Z a0 hw [] b27 w_Market_MKT_GLB w_Market_MKT_ONE z_cs cs (1 : Int32) T28.heap n0 O0 NF F_consumptionState_b27 (by first | (simp [hk29]; done) | ((repeat' split) <;> first | rfl | contradiction | simp_all))) hZ (hw _ (List.mem_of_getElem? (i := 75) rfl)) (hw _ (List.mem_of_getElem? (i := 39) rfl)) (by decide) (by decide)) q30a q30c (g := (mkF m 132 #[.val (.int p0), .val (.int p1), .val (.int p2), .val (.long q3), .second, .val (.int p4), .val (.int p5), .val (.int cs), .val (.ref mk), .val (.ref b3), .val .null, .val (.ref b22), .val (.ref b25), .val (.int (((p5.toUInt32 >>> ((20 : Int32) &&& 31).toUInt32).toInt32) &&& (3 : Int32))), .val (.ref b27), .unset, .unset] [(.ref b27)])) rfl (by rw [hml]; rfl) (Steps.refl _) (argsL := []) (rest := []) (lenOf pd_89 rfl) rfl (by show 2 * 0 + _ ≤ _; exact Nat.le_of_eq rfl) (hb hby at_132) (fun _ _ => ⟨rfl, rfl, (by decide : 9 + 0 ≤ _), (by decide : 87 + 0 ≤ _)⟩)
        dsimp only [Pt.U, Pt.locs, Pt.cells, Pt.slots] at X30 l30 y30 z30 st30 hQ30
        subst l30 y30 z30
        obtain ⟨rfl, Nq30, e30⟩ := hQ30
        have N30 := Fr.app N28 Nq30
        refine Goes.thru (T' := T30.setTop (mkF m 135 #[.val (.int p0), .val (.int p1), .val (.int p2), .val (.long q3), .second, .val (.int p4), .val (.int p5), .val (.int cs), .val (.ref mk), .val (.ref b3), .val .null, .val (.ref b22), .val (.ref b25), .val (.int (((p5.toUInt32 >>> ((20 : Int32) &&& 31).toUInt32).toInt32) &&& (3 : Int32))), .val (.ref b27), .unset, .unset] [(.int (1 : Int32))])) st30 ?_
        refine Goes.to (T' := T30.setTop (mkF m 137 #[.val (.int p0), .val (.int p1), .val (.int p2), .val (.long q3), .second, .val (.int p4), .val (.int p5), .val (.int cs), .val (.ref mk), .val (.ref b3), .val .null, .val (.ref b22), .val (.ref b25), .val (.int (((p5.toUInt32 >>> ((20 : Int32) &&& 31).toUInt32).toInt32) &&& (3 : Int32))), .val (.ref b27), .val (.int (1 : Int32)), .unset] [])) (fun t k => XS.istore X30.here hx rfl (hb hby at_135) rfl (l' := #[.val (.int p0), .val (.int p1), .val (.int p2), .val (.long q3), .second, .val (.int p4), .val (.int p5), .val (.int cs), .val (.ref mk), .val (.ref b3), .val .null, .val (.ref b22), .val (.ref b25), .val (.int (((p5.toUInt32 >>> ((20 : Int32) &&& 31).toUInt32).toInt32) &&& (3 : Int32))), .val (.ref b27), .val (.int (1 : Int32)), .unset]) rfl k) ?_
        refine Goes.to (T' := T30.setTop (mkF m 139 #[.val (.int p0), .val (.int p1), .val (.int p2), .val (.long q3), .second, .val (.int p4), .val (.int p5), .val (.int cs), .val (.ref mk), .val (.ref b3), .val .null, .val (.ref b22), .val (.ref b25), .val (.int (((p5.toUInt32 >>> ((20 : Int32) &&& 31).toUInt32).toInt32) &&& (3 : Int32))), .val (.ref b27), .val (.int (1 : Int32)), .unset] [(.int cs)])) (fun t k => XS.iload X30.here hx rfl (hb hby at_137) rfl k) ?_
        refine Goes.to (T' := T30.setTop (mkF m 140 #[.val (.int p0), .val (.int p1), .val (.int p2), .val (.long q3), .second, .val (.int p4), .val (.int p5), .val (.int cs), .val (.ref mk), .val (.ref b3), .val .null, .val (.ref b22), .val (.ref b25), .val (.int (((p5.toUInt32 >>> ((20 : Int32) &&& 31).toUInt32).toInt32) &&& (3 : Int32))), .val (.ref b27), .val (.int (1 : Int32)), .unset] [(.int (1 : Int32)), (.int cs)])) (fun t k => XS.iconst X30.here hx rfl (hb hby at_139) k) ?_
        refine Goes.to (T' := T30.setTop (mkF m 143 #[.val (.int p0), .val (.int p1), .val (.int p2), .val (.long q3), .second, .val (.int p4), .val (.int p5), .val (.int cs), .val (.ref mk), .val (.ref b3), .val .null, .val (.ref b22), .val (.ref b25), .val (.int (((p5.toUInt32 >>> ((20 : Int32) &&& 31).toUInt32).toInt32) &&& (3 : Int32))), .val (.ref b27), .val (.int (1 : Int32)), .unset] [])) (fun t k => XS.icmpNo X30.here hx rfl (hb hby at_140) rfl (teq hk29).2 k) ?_
        refine Goes.to (T' := T30.setTop (mkF m 144 #[.val (.int p0), .val (.int p1), .val (.int p2), .val (.long q3), .second, .val (.int p4), .val (.int p5), .val (.int cs), .val (.ref mk), .val (.ref b3), .val .null, .val (.ref b22), .val (.ref b25), .val (.int (((p5.toUInt32 >>> ((20 : Int32) &&& 31).toUInt32).toInt32) &&& (3 : Int32))), .val (.ref b27), .val (.int (1 : Int32)), .unset] [(.int (1 : Int32))])) (fun t k => XS.iconst X30.here hx rfl (hb hby at_143) k) ?_
        refine Goes.to (T' := T30.setTop (mkF m 148 #[.val (.int p0), .val (.int p1), .val (.int p2), .val (.long q3), .second, .val (.int p4), .val (.int p5), .val (.int cs), .val (.ref mk), .val (.ref b3), .val .null, .val (.ref b22), .val (.ref b25), .val (.int (((p5.toUInt32 >>> ((20 : Int32) &&& 31).toUInt32).toInt32) &&& (3 : Int32))), .val (.ref b27), .val (.int (1 : Int32)), .unset] [(.int (1 : Int32))])) (fun t k => XS.goto X30.here hx rfl (pc0 := 144) (pc' := 148) rfl (hb hby at_144) (by decide) (by decide) k) ?_
        refine Goes.to (T' := T30.setTop (mkF m 150 #[.val (.int p0), .val (.int p1), .val (.int p2), .val (.long q3), .second, .val (.int p4), .val (.int p5), .val (.int cs), .val (.ref mk), .val (.ref b3), .val .null, .val (.ref b22), .val (.ref b25), .val (.int (((p5.toUInt32 >>> ((20 : Int32) &&& 31).toUInt32).toInt32) &&& (3 : Int32))), .val (.ref b27), .val (.int (1 : Int32)), .val (.int (1 : Int32))] [])) (fun t k => XS.istore X30.here hx rfl (hb hby at_148) rfl (l' := #[.val (.int p0), .val (.int p1), .val (.int p2), .val (.long q3), .second, .val (.int p4), .val (.int p5), .val (.int cs), .val (.ref mk), .val (.ref b3), .val .null, .val (.ref b22), .val (.ref b25), .val (.int (((p5.toUInt32 >>> ((20 : Int32) &&& 31).toUInt32).toInt32) &&& (3 : Int32))), .val (.ref b27), .val (.int (1 : Int32)), .val (.int (1 : Int32))]) rfl k) ?_
        refine Goes.to (T' := T30.setTop (mkF m 152 #[.val (.int p0), .val (.int p1), .val (.int p2), .val (.long q3), .second, .val (.int p4), .val (.int p5), .val (.int cs), .val (.ref mk), .val (.ref b3), .val .null, .val (.ref b22), .val (.ref b25), .val (.int (((p5.toUInt32 >>> ((20 : Int32) &&& 31).toUInt32).toInt32) &&& (3 : Int32))), .val (.ref b27), .val (.int (1 : Int32)), .val (.int (1 : Int32))] [(.int (1 : Int32))])) (fun t k => XS.iload X30.here hx rfl (hb hby at_150) rfl k) ?_
        refine Goes.to (T' := T30.setTop (mkF m 154 #[.val (.int p0), .val (.int p1), .val (.int p2), .val (.long q3), .second, .val (.int p4), .val (.int p5), .val (.int cs), .val (.ref mk), .val (.ref b3), .val .null, .val (.ref b22), .val (.ref b25), .val (.int (((p5.toUInt32 >>> ((20 : Int32) &&& 31).toUInt32).toInt32) &&& (3 : Int32))), .val (.ref b27), .val (.int (1 : Int32)), .val (.int (1 : Int32))] [(.int (1 : Int32)), (.int (1 : Int32))])) (fun t k => XS.iload X30.here hx rfl (hb hby at_152) rfl k) ?_
        refine Goes.to (T' := T30.setTop (mkF m 159 #[.val (.int p0), .val (.int p1), .val (.int p2), .val (.long q3), .second, .val (.int p4), .val (.int p5), .val (.int cs), .val (.ref mk), .val (.ref b3), .val .null, .val (.ref b22), .val (.ref b25), .val (.int (((p5.toUInt32 >>> ((20 : Int32) &&& 31).toUInt32).toInt32) &&& (3 : Int32))), .val (.ref b27), .val (.int (1 : Int32)), .val (.int (1 : Int32))] [])) (fun t k => XS.icmpYes X30.here hx rfl (pc0 := 154) (pc' := 159) rfl (hb hby at_154) rfl (teq (by decide)).1 (by decide) (by decide) k) ?_
        refine Goes.to (T' := T30.setTop (mkF m 161 #[.val (.int p0), .val (.int p1), .val (.int p2), .val (.long q3), .second, .val (.int p4), .val (.int p5), .val (.int cs), .val (.ref mk), .val (.ref b3), .val .null, .val (.ref b22), .val (.ref b25), .val (.int (((p5.toUInt32 >>> ((20 : Int32) &&& 31).toUInt32).toInt32) &&& (3 : Int32))), .val (.ref b27), .val (.int (1 : Int32)), .val (.int (1 : Int32))] [(.ref b27)])) (fun t k => XS.aload X30.here hx rfl (hb hby at_159) rfl rfl k) ?_
        obtain ⟨cq31, kq31, q31a, q31b, q31c⟩ := isOf hZ e30 E_b27
        obtain ⟨_, _, ⟨T31, L31, k31, n31⟩, -, X31, ⟨Lc31, hQ31, l31, y31, z31⟩, st31⟩ := X30.virtualBack hx (y := (⟨"com/example/arvi/arvi/model/PurchaseDetails", "consumptionState", "()I"⟩ : MethodName)) (z := (⟨"com/example/arvi/arvi/model/PurchaseDetails", "consumptionState", "()I"⟩ : MethodName)) hown (mvT hZ (hw _ (List.mem_of_getElem? (i := 76) rfl))) (mvT hZ (hw _ (List.mem_of_getElem? (i := 77) rfl))) (notFace_of_selects (args := #[]) (mvT hZ (hw _ (List.mem_of_getElem? (i := 79) rfl)))) (mvT hZ (hw _ (List.mem_of_getElem? (i := 79) rfl))) (mvT hZ (hw _ (List.mem_of_getElem? (i := 78) rfl))) (by decide) (backOf (W := 0) (rmS l Z a0 hw [] b27 w_Market_MKT_GLB w_Market_MKT_ONE z_cs cs T28.heap n0 O0 NF F_consumptionState_b27) hZ (hw _ (List.mem_of_getElem? (i := 80) rfl)) (hw _ (List.mem_of_getElem? (i := 39) rfl)) (by decide) (by decide)) q31a q31c (g := (mkF m 161 #[.val (.int p0), .val (.int p1), .val (.int p2), .val (.long q3), .second, .val (.int p4), .val (.int p5), .val (.int cs), .val (.ref mk), .val (.ref b3), .val .null, .val (.ref b22), .val (.ref b25), .val (.int (((p5.toUInt32 >>> ((20 : Int32) &&& 31).toUInt32).toInt32) &&& (3 : Int32))), .val (.ref b27), .val (.int (1 : Int32)), .val (.int (1 : Int32))] [(.ref b27)])) rfl (by rw [hml]; rfl) (Steps.refl _) (argsL := []) (rest := []) (lenOf pd_104 rfl) rfl (by show 2 * 0 + _ ≤ _; exact Nat.le_of_eq rfl) (hb hby at_161) (fun _ _ => ⟨rfl, e30, (by decide : 9 + 0 ≤ _), (by decide : 87 + 0 ≤ _)⟩)
        dsimp only [Pt.U, Pt.locs, Pt.cells, Pt.slots] at X31 l31 y31 z31 st31 hQ31
        subst l31 y31 z31
        obtain ⟨rfl, Nq31, e31⟩ := hQ31
        have N31 := Fr.app N30 Nq31
        refine Goes.thru (T' := T31.setTop (mkF m 164 #[.val (.int p0), .val (.int p1), .val (.int p2), .val (.long q3), .second, .val (.int p4), .val (.int p5), .val (.int cs), .val (.ref mk), .val (.ref b3), .val .null, .val (.ref b22), .val (.ref b25), .val (.int (((p5.toUInt32 >>> ((20 : Int32) &&& 31).toUInt32).toInt32) &&& (3 : Int32))), .val (.ref b27), .val (.int (1 : Int32)), .val (.int (1 : Int32))] [(.int cs)])) st31 ?_
        refine Goes.to (T' := T31.setTop (mkF m 166 #[.val (.int p0), .val (.int p1), .val (.int p2), .val (.long q3), .second, .val (.int p4), .val (.int p5), .val (.int cs), .val (.ref mk), .val (.ref b3), .val .null, .val (.ref b22), .val (.ref b25), .val (.int (((p5.toUInt32 >>> ((20 : Int32) &&& 31).toUInt32).toInt32) &&& (3 : Int32))), .val (.ref b27), .val (.int (1 : Int32)), .val (.int (1 : Int32))] [(.int cs), (.int cs)])) (fun t k => XS.iload X31.here hx rfl (hb hby at_164) rfl k) ?_
        refine Goes.to (T' := T31.setTop (mkF m 171 #[.val (.int p0), .val (.int p1), .val (.int p2), .val (.long q3), .second, .val (.int p4), .val (.int p5), .val (.int cs), .val (.ref mk), .val (.ref b3), .val .null, .val (.ref b22), .val (.ref b25), .val (.int (((p5.toUInt32 >>> ((20 : Int32) &&& 31).toUInt32).toInt32) &&& (3 : Int32))), .val (.ref b27), .val (.int (1 : Int32)), .val (.int (1 : Int32))] [])) (fun t k => XS.icmpYes X31.here hx rfl (pc0 := 166) (pc' := 171) rfl (hb hby at_166) rfl (teq rfl).1 (by decide) (by decide) k) ?_
        refine Goes.to (T' := T31.setTop (mkF m 173 #[.val (.int p0), .val (.int p1), .val (.int p2), .val (.long q3), .second, .val (.int p4), .val (.int p5), .val (.int cs), .val (.ref mk), .val (.ref b3), .val .null, .val (.ref b22), .val (.ref b25), .val (.int (((p5.toUInt32 >>> ((20 : Int32) &&& 31).toUInt32).toInt32) &&& (3 : Int32))), .val (.ref b27), .val (.int (1 : Int32)), .val (.int (1 : Int32))] [(.int (1 : Int32))])) (fun t k => XS.iload X31.here hx rfl (hb hby at_171) rfl k) ?_
        refine Goes.to (T' := T31.setTop (mkF m 176 #[.val (.int p0), .val (.int p1), .val (.int p2), .val (.long q3), .second, .val (.int p4), .val (.int p5), .val (.int cs), .val (.ref mk), .val (.ref b3), .val .null, .val (.ref b22), .val (.ref b25), .val (.int (((p5.toUInt32 >>> ((20 : Int32) &&& 31).toUInt32).toInt32) &&& (3 : Int32))), .val (.ref b27), .val (.int (1 : Int32)), .val (.int (1 : Int32))] [])) (fun t k => XS.ifNo X31.here hx rfl (hb hby at_173) rfl ((if0 _ _).trans (feq (by decide)).1) k) ?_
        refine Goes.to (T' := T31.setTop (mkF m 178 #[.val (.int p0), .val (.int p1), .val (.int p2), .val (.long q3), .second, .val (.int p4), .val (.int p5), .val (.int cs), .val (.ref mk), .val (.ref b3), .val .null, .val (.ref b22), .val (.ref b25), .val (.int (((p5.toUInt32 >>> ((20 : Int32) &&& 31).toUInt32).toInt32) &&& (3 : Int32))), .val (.ref b27), .val (.int (1 : Int32)), .val (.int (1 : Int32))] [(.ref b27)])) (fun t k => XS.aload X31.here hx rfl (hb hby at_176) rfl rfl k) ?_
        obtain ⟨cq32, kq32, q32a, q32b, q32c⟩ := isOf hZ e31 E_b27
        obtain ⟨_, _, ⟨T32, L32, k32, n32⟩, -, X32, ⟨Lc32, hQ32, l32, y32, z32⟩, st32⟩ := X31.virtualBack hx (y := (⟨"com/example/arvi/arvi/model/PurchaseDetails", "isAcknowledged", "()Z"⟩ : MethodName)) (z := (⟨"com/example/arvi/arvi/model/PurchaseDetails", "isAcknowledged", "()Z"⟩ : MethodName)) hown (mvT hZ (hw _ (List.mem_of_getElem? (i := 82) rfl))) (mvT hZ (hw _ (List.mem_of_getElem? (i := 83) rfl))) (notFace_of_selects (args := #[]) (mvT hZ (hw _ (List.mem_of_getElem? (i := 85) rfl)))) (mvT hZ (hw _ (List.mem_of_getElem? (i := 85) rfl))) (mvT hZ (hw _ (List.mem_of_getElem? (i := 84) rfl))) (by decide) (backOf (W := 0) (rmA l Z a0 hw [] b27 w_Market_MKT_GLB w_Market_MKT_ONE z_cs p2 T28.heap n0 O0 NF E_b27 (hk29 ▸ F_consumptionState_b27) F_acknowledgeState_b27) hZ (hw _ (List.mem_of_getElem? (i := 86) rfl)) (hw _ (List.mem_of_getElem? (i := 39) rfl)) (by decide) (by decide)) q32a q32c (g := (mkF m 178 #[.val (.int p0), .val (.int p1), .val (.int p2), .val (.long q3), .second, .val (.int p4), .val (.int p5), .val (.int cs), .val (.ref mk), .val (.ref b3), .val .null, .val (.ref b22), .val (.ref b25), .val (.int (((p5.toUInt32 >>> ((20 : Int32) &&& 31).toUInt32).toInt32) &&& (3 : Int32))), .val (.ref b27), .val (.int (1 : Int32)), .val (.int (1 : Int32))] [(.ref b27)])) rfl (by rw [hml]; rfl) (Steps.refl _) (argsL := []) (rest := []) (lenOf pd_89 rfl) rfl (by show 2 * 0 + _ ≤ _; exact Nat.le_of_eq rfl) (hb hby at_178) (fun _ _ => ⟨rfl, e31, (by decide : 9 + 0 ≤ _), (by decide : 87 + 0 ≤ _)⟩)
        dsimp only [Pt.U, Pt.locs, Pt.cells, Pt.slots] at X32 l32 y32 z32 st32 hQ32
        subst l32 y32 z32
        obtain ⟨rfl, Nq32, e32⟩ := hQ32
        have N32 := Fr.app N31 Nq32
        refine Goes.thru (T' := T32.setTop (mkF m 181 #[.val (.int p0), .val (.int p1), .val (.int p2), .val (.long q3), .second, .val (.int p4), .val (.int p5), .val (.int cs), .val (.ref mk), .val (.ref b3), .val .null, .val (.ref b22), .val (.ref b25), .val (.int (((p5.toUInt32 >>> ((20 : Int32) &&& 31).toUInt32).toInt32) &&& (3 : Int32))), .val (.ref b27), .val (.int (1 : Int32)), .val (.int (1 : Int32))] [(.int (1 : Int32))])) st32 ?_
        refine Goes.to (T' := T32.setTop (mkF m 186 #[.val (.int p0), .val (.int p1), .val (.int p2), .val (.long q3), .second, .val (.int p4), .val (.int p5), .val (.int cs), .val (.ref mk), .val (.ref b3), .val .null, .val (.ref b22), .val (.ref b25), .val (.int (((p5.toUInt32 >>> ((20 : Int32) &&& 31).toUInt32).toInt32) &&& (3 : Int32))), .val (.ref b27), .val (.int (1 : Int32)), .val (.int (1 : Int32))] [])) (fun t k => XS.ifYes X32.here hx rfl (pc0 := 181) (pc' := 186) rfl (hb hby at_181) rfl ((if0 _ _).trans (feq (by decide)).2) (by decide) (by decide) k) ?_
        refine Goes.to (T' := T32.setTop (mkF m 187 #[.val (.int p0), .val (.int p1), .val (.int p2), .val (.long q3), .second, .val (.int p4), .val (.int p5), .val (.int cs), .val (.ref mk), .val (.ref b3), .val .null, .val (.ref b22), .val (.ref b25), .val (.int (((p5.toUInt32 >>> ((20 : Int32) &&& 31).toUInt32).toInt32) &&& (3 : Int32))), .val (.ref b27), .val (.int (1 : Int32)), .val (.int (1 : Int32))] [(.int (1 : Int32))])) (fun t k => XS.iconst X32.here hx rfl (hb hby at_186) k) ?_
        obtain ⟨fs, hrL, hrun, hended, hRW⟩ := X32.leaveW hS (by rw [e32]; exact hk) (v := some (.int (1 : Int32))) (fun h => by rw [Bd.returns] at h; cases h)
        subst hQf
        refine ⟨_, _, retN X32 hx (t := .boolean) Bd.returns (by simp) (hb hby at_187) hrL, hrun, hended, _, _, rfl, ?_, hRW.1, hRW.2.1, hRW.2.2.1, hRW.2.2.2.mono (by decide) (by decide)⟩
        show (fun (v : Option Value) (h : Heap) (L : List Loc) => v = some (.int 1) ∧ Fr n0 L) (some (.int (1 : Int32))) T32.heap _
        rw [e32]
        exact ⟨rfl, N32⟩
      · skip
        refine Goes.to (T' := T28.setTop (mkF m 132 #[.val (.int p0), .val (.int p1), .val (.int p2), .val (.long q3), .second, .val (.int p4), .val (.int p5), .val (.int cs), .val (.ref mk), .val (.ref b3), .val .null, .val (.ref b22), .val (.ref b25), .val (.int (((p5.toUInt32 >>> ((20 : Int32) &&& 31).toUInt32).toInt32) &&& (3 : Int32))), .val (.ref b27), .unset, .unset] [(.ref b27)])) (fun t k => XS.aload X28.here hx rfl (hb hby at_130) rfl rfl k) ?_
        obtain ⟨cq33, kq33, q33a, q33b, q33c⟩ := isOf hZ rfl E_b27
        obtain ⟨_, _, ⟨T33, L33, k33, n33⟩, -, X33, ⟨Lc33, hQ33, l33, y33, z33⟩, st33⟩ := X28.virtualBack hx (y := (⟨"com/example/arvi/arvi/model/PurchaseDetails", "isConsumed", "()Z"⟩ : MethodName)) (z := (⟨"com/example/arvi/arvi/model/PurchaseDetails", "isConsumed", "()Z"⟩ : MethodName)) hown (mvT hZ (hw _ (List.mem_of_getElem? (i := 71) rfl))) (mvT hZ (hw _ (List.mem_of_getElem? (i := 72) rfl))) (notFace_of_selects (args := #[]) (mvT hZ (hw _ (List.mem_of_getElem? (i := 74) rfl)))) (mvT hZ (hw _ (List.mem_of_getElem? (i := 74) rfl))) (mvT hZ (hw _ (List.mem_of_getElem? (i := 73) rfl))) (by decide) (backOf (W := 0) (rmC l Z a0 hw [] b27 w_Market_MKT_GLB w_Market_MKT_ONE z_cs cs (0 : Int32) T28.heap n0 O0 NF F_consumptionState_b27 (by first | (simp [hk29]; done) | ((repeat' split) <;> first | rfl | contradiction | simp_all))) hZ (hw _ (List.mem_of_getElem? (i := 75) rfl)) (hw _ (List.mem_of_getElem? (i := 39) rfl)) (by decide) (by decide)) q33a q33c (g := (mkF m 132 #[.val (.int p0), .val (.int p1), .val (.int p2), .val (.long q3), .second, .val (.int p4), .val (.int p5), .val (.int cs), .val (.ref mk), .val (.ref b3), .val .null, .val (.ref b22), .val (.ref b25), .val (.int (((p5.toUInt32 >>> ((20 : Int32) &&& 31).toUInt32).toInt32) &&& (3 : Int32))), .val (.ref b27), .unset, .unset] [(.ref b27)])) rfl (by rw [hml]; rfl) (Steps.refl _) (argsL := []) (rest := []) (lenOf pd_89 rfl) rfl (by show 2 * 0 + _ ≤ _; exact Nat.le_of_eq rfl) (hb hby at_132) (fun _ _ => ⟨rfl, rfl, (by decide : 9 + 0 ≤ _), (by decide : 87 + 0 ≤ _)⟩)
        dsimp only [Pt.U, Pt.locs, Pt.cells, Pt.slots] at X33 l33 y33 z33 st33 hQ33
        subst l33 y33 z33
        obtain ⟨rfl, Nq33, e33⟩ := hQ33
        have N33 := Fr.app N28 Nq33
        refine Goes.thru (T' := T33.setTop (mkF m 135 #[.val (.int p0), .val (.int p1), .val (.int p2), .val (.long q3), .second, .val (.int p4), .val (.int p5), .val (.int cs), .val (.ref mk), .val (.ref b3), .val .null, .val (.ref b22), .val (.ref b25), .val (.int (((p5.toUInt32 >>> ((20 : Int32) &&& 31).toUInt32).toInt32) &&& (3 : Int32))), .val (.ref b27), .unset, .unset] [(.int (0 : Int32))])) st33 ?_
        refine Goes.to (T' := T33.setTop (mkF m 137 #[.val (.int p0), .val (.int p1), .val (.int p2), .val (.long q3), .second, .val (.int p4), .val (.int p5), .val (.int cs), .val (.ref mk), .val (.ref b3), .val .null, .val (.ref b22), .val (.ref b25), .val (.int (((p5.toUInt32 >>> ((20 : Int32) &&& 31).toUInt32).toInt32) &&& (3 : Int32))), .val (.ref b27), .val (.int (0 : Int32)), .unset] [])) (fun t k => XS.istore X33.here hx rfl (hb hby at_135) rfl (l' := #[.val (.int p0), .val (.int p1), .val (.int p2), .val (.long q3), .second, .val (.int p4), .val (.int p5), .val (.int cs), .val (.ref mk), .val (.ref b3), .val .null, .val (.ref b22), .val (.ref b25), .val (.int (((p5.toUInt32 >>> ((20 : Int32) &&& 31).toUInt32).toInt32) &&& (3 : Int32))), .val (.ref b27), .val (.int (0 : Int32)), .unset]) rfl k) ?_
        refine Goes.to (T' := T33.setTop (mkF m 139 #[.val (.int p0), .val (.int p1), .val (.int p2), .val (.long q3), .second, .val (.int p4), .val (.int p5), .val (.int cs), .val (.ref mk), .val (.ref b3), .val .null, .val (.ref b22), .val (.ref b25), .val (.int (((p5.toUInt32 >>> ((20 : Int32) &&& 31).toUInt32).toInt32) &&& (3 : Int32))), .val (.ref b27), .val (.int (0 : Int32)), .unset] [(.int cs)])) (fun t k => XS.iload X33.here hx rfl (hb hby at_137) rfl k) ?_
        refine Goes.to (T' := T33.setTop (mkF m 140 #[.val (.int p0), .val (.int p1), .val (.int p2), .val (.long q3), .second, .val (.int p4), .val (.int p5), .val (.int cs), .val (.ref mk), .val (.ref b3), .val .null, .val (.ref b22), .val (.ref b25), .val (.int (((p5.toUInt32 >>> ((20 : Int32) &&& 31).toUInt32).toInt32) &&& (3 : Int32))), .val (.ref b27), .val (.int (0 : Int32)), .unset] [(.int (1 : Int32)), (.int cs)])) (fun t k => XS.iconst X33.here hx rfl (hb hby at_139) k) ?_
        refine Goes.to (T' := T33.setTop (mkF m 147 #[.val (.int p0), .val (.int p1), .val (.int p2), .val (.long q3), .second, .val (.int p4), .val (.int p5), .val (.int cs), .val (.ref mk), .val (.ref b3), .val .null, .val (.ref b22), .val (.ref b25), .val (.int (((p5.toUInt32 >>> ((20 : Int32) &&& 31).toUInt32).toInt32) &&& (3 : Int32))), .val (.ref b27), .val (.int (0 : Int32)), .unset] [])) (fun t k => XS.icmpYes X33.here hx rfl (pc0 := 140) (pc' := 147) rfl (hb hby at_140) rfl (feq hk29).2 (by decide) (by decide) k) ?_
        refine Goes.to (T' := T33.setTop (mkF m 148 #[.val (.int p0), .val (.int p1), .val (.int p2), .val (.long q3), .second, .val (.int p4), .val (.int p5), .val (.int cs), .val (.ref mk), .val (.ref b3), .val .null, .val (.ref b22), .val (.ref b25), .val (.int (((p5.toUInt32 >>> ((20 : Int32) &&& 31).toUInt32).toInt32) &&& (3 : Int32))), .val (.ref b27), .val (.int (0 : Int32)), .unset] [(.int (0 : Int32))])) (fun t k => XS.iconst X33.here hx rfl (hb hby at_147) k) ?_
        refine Goes.to (T' := T33.setTop (mkF m 150 #[.val (.int p0), .val (.int p1), .val (.int p2), .val (.long q3), .second, .val (.int p4), .val (.int p5), .val (.int cs), .val (.ref mk), .val (.ref b3), .val .null, .val (.ref b22), .val (.ref b25), .val (.int (((p5.toUInt32 >>> ((20 : Int32) &&& 31).toUInt32).toInt32) &&& (3 : Int32))), .val (.ref b27), .val (.int (0 : Int32)), .val (.int (0 : Int32))] [])) (fun t k => XS.istore X33.here hx rfl (hb hby at_148) rfl (l' := #[.val (.int p0), .val (.int p1), .val (.int p2), .val (.long q3), .second, .val (.int p4), .val (.int p5), .val (.int cs), .val (.ref mk), .val (.ref b3), .val .null, .val (.ref b22), .val (.ref b25), .val (.int (((p5.toUInt32 >>> ((20 : Int32) &&& 31).toUInt32).toInt32) &&& (3 : Int32))), .val (.ref b27), .val (.int (0 : Int32)), .val (.int (0 : Int32))]) rfl k) ?_
        refine Goes.to (T' := T33.setTop (mkF m 152 #[.val (.int p0), .val (.int p1), .val (.int p2), .val (.long q3), .second, .val (.int p4), .val (.int p5), .val (.int cs), .val (.ref mk), .val (.ref b3), .val .null, .val (.ref b22), .val (.ref b25), .val (.int (((p5.toUInt32 >>> ((20 : Int32) &&& 31).toUInt32).toInt32) &&& (3 : Int32))), .val (.ref b27), .val (.int (0 : Int32)), .val (.int (0 : Int32))] [(.int (0 : Int32))])) (fun t k => XS.iload X33.here hx rfl (hb hby at_150) rfl k) ?_
        refine Goes.to (T' := T33.setTop (mkF m 154 #[.val (.int p0), .val (.int p1), .val (.int p2), .val (.long q3), .second, .val (.int p4), .val (.int p5), .val (.int cs), .val (.ref mk), .val (.ref b3), .val .null, .val (.ref b22), .val (.ref b25), .val (.int (((p5.toUInt32 >>> ((20 : Int32) &&& 31).toUInt32).toInt32) &&& (3 : Int32))), .val (.ref b27), .val (.int (0 : Int32)), .val (.int (0 : Int32))] [(.int (0 : Int32)), (.int (0 : Int32))])) (fun t k => XS.iload X33.here hx rfl (hb hby at_152) rfl k) ?_
        refine Goes.to (T' := T33.setTop (mkF m 159 #[.val (.int p0), .val (.int p1), .val (.int p2), .val (.long q3), .second, .val (.int p4), .val (.int p5), .val (.int cs), .val (.ref mk), .val (.ref b3), .val .null, .val (.ref b22), .val (.ref b25), .val (.int (((p5.toUInt32 >>> ((20 : Int32) &&& 31).toUInt32).toInt32) &&& (3 : Int32))), .val (.ref b27), .val (.int (0 : Int32)), .val (.int (0 : Int32))] [])) (fun t k => XS.icmpYes X33.here hx rfl (pc0 := 154) (pc' := 159) rfl (hb hby at_154) rfl (teq (by decide)).1 (by decide) (by decide) k) ?_
        refine Goes.to (T' := T33.setTop (mkF m 161 #[.val (.int p0), .val (.int p1), .val (.int p2), .val (.long q3), .second, .val (.int p4), .val (.int p5), .val (.int cs), .val (.ref mk), .val (.ref b3), .val .null, .val (.ref b22), .val (.ref b25), .val (.int (((p5.toUInt32 >>> ((20 : Int32) &&& 31).toUInt32).toInt32) &&& (3 : Int32))), .val (.ref b27), .val (.int (0 : Int32)), .val (.int (0 : Int32))] [(.ref b27)])) (fun t k => XS.aload X33.here hx rfl (hb hby at_159) rfl rfl k) ?_
        obtain ⟨cq34, kq34, q34a, q34b, q34c⟩ := isOf hZ e33 E_b27
        obtain ⟨_, _, ⟨T34, L34, k34, n34⟩, -, X34, ⟨Lc34, hQ34, l34, y34, z34⟩, st34⟩ := X33.virtualBack hx (y := (⟨"com/example/arvi/arvi/model/PurchaseDetails", "consumptionState", "()I"⟩ : MethodName)) (z := (⟨"com/example/arvi/arvi/model/PurchaseDetails", "consumptionState", "()I"⟩ : MethodName)) hown (mvT hZ (hw _ (List.mem_of_getElem? (i := 76) rfl))) (mvT hZ (hw _ (List.mem_of_getElem? (i := 77) rfl))) (notFace_of_selects (args := #[]) (mvT hZ (hw _ (List.mem_of_getElem? (i := 79) rfl)))) (mvT hZ (hw _ (List.mem_of_getElem? (i := 79) rfl))) (mvT hZ (hw _ (List.mem_of_getElem? (i := 78) rfl))) (by decide) (backOf (W := 0) (rmS l Z a0 hw [] b27 w_Market_MKT_GLB w_Market_MKT_ONE z_cs cs T28.heap n0 O0 NF F_consumptionState_b27) hZ (hw _ (List.mem_of_getElem? (i := 80) rfl)) (hw _ (List.mem_of_getElem? (i := 39) rfl)) (by decide) (by decide)) q34a q34c (g := (mkF m 161 #[.val (.int p0), .val (.int p1), .val (.int p2), .val (.long q3), .second, .val (.int p4), .val (.int p5), .val (.int cs), .val (.ref mk), .val (.ref b3), .val .null, .val (.ref b22), .val (.ref b25), .val (.int (((p5.toUInt32 >>> ((20 : Int32) &&& 31).toUInt32).toInt32) &&& (3 : Int32))), .val (.ref b27), .val (.int (0 : Int32)), .val (.int (0 : Int32))] [(.ref b27)])) rfl (by rw [hml]; rfl) (Steps.refl _) (argsL := []) (rest := []) (lenOf pd_104 rfl) rfl (by show 2 * 0 + _ ≤ _; exact Nat.le_of_eq rfl) (hb hby at_161) (fun _ _ => ⟨rfl, e33, (by decide : 9 + 0 ≤ _), (by decide : 87 + 0 ≤ _)⟩)
        dsimp only [Pt.U, Pt.locs, Pt.cells, Pt.slots] at X34 l34 y34 z34 st34 hQ34
        subst l34 y34 z34
        obtain ⟨rfl, Nq34, e34⟩ := hQ34
        have N34 := Fr.app N33 Nq34
        refine Goes.thru (T' := T34.setTop (mkF m 164 #[.val (.int p0), .val (.int p1), .val (.int p2), .val (.long q3), .second, .val (.int p4), .val (.int p5), .val (.int cs), .val (.ref mk), .val (.ref b3), .val .null, .val (.ref b22), .val (.ref b25), .val (.int (((p5.toUInt32 >>> ((20 : Int32) &&& 31).toUInt32).toInt32) &&& (3 : Int32))), .val (.ref b27), .val (.int (0 : Int32)), .val (.int (0 : Int32))] [(.int cs)])) st34 ?_
        refine Goes.to (T' := T34.setTop (mkF m 166 #[.val (.int p0), .val (.int p1), .val (.int p2), .val (.long q3), .second, .val (.int p4), .val (.int p5), .val (.int cs), .val (.ref mk), .val (.ref b3), .val .null, .val (.ref b22), .val (.ref b25), .val (.int (((p5.toUInt32 >>> ((20 : Int32) &&& 31).toUInt32).toInt32) &&& (3 : Int32))), .val (.ref b27), .val (.int (0 : Int32)), .val (.int (0 : Int32))] [(.int cs), (.int cs)])) (fun t k => XS.iload X34.here hx rfl (hb hby at_164) rfl k) ?_
        refine Goes.to (T' := T34.setTop (mkF m 171 #[.val (.int p0), .val (.int p1), .val (.int p2), .val (.long q3), .second, .val (.int p4), .val (.int p5), .val (.int cs), .val (.ref mk), .val (.ref b3), .val .null, .val (.ref b22), .val (.ref b25), .val (.int (((p5.toUInt32 >>> ((20 : Int32) &&& 31).toUInt32).toInt32) &&& (3 : Int32))), .val (.ref b27), .val (.int (0 : Int32)), .val (.int (0 : Int32))] [])) (fun t k => XS.icmpYes X34.here hx rfl (pc0 := 166) (pc' := 171) rfl (hb hby at_166) rfl (teq rfl).1 (by decide) (by decide) k) ?_
        refine Goes.to (T' := T34.setTop (mkF m 173 #[.val (.int p0), .val (.int p1), .val (.int p2), .val (.long q3), .second, .val (.int p4), .val (.int p5), .val (.int cs), .val (.ref mk), .val (.ref b3), .val .null, .val (.ref b22), .val (.ref b25), .val (.int (((p5.toUInt32 >>> ((20 : Int32) &&& 31).toUInt32).toInt32) &&& (3 : Int32))), .val (.ref b27), .val (.int (0 : Int32)), .val (.int (0 : Int32))] [(.int (0 : Int32))])) (fun t k => XS.iload X34.here hx rfl (hb hby at_171) rfl k) ?_
        refine Goes.to (T' := T34.setTop (mkF m 186 #[.val (.int p0), .val (.int p1), .val (.int p2), .val (.long q3), .second, .val (.int p4), .val (.int p5), .val (.int cs), .val (.ref mk), .val (.ref b3), .val .null, .val (.ref b22), .val (.ref b25), .val (.int (((p5.toUInt32 >>> ((20 : Int32) &&& 31).toUInt32).toInt32) &&& (3 : Int32))), .val (.ref b27), .val (.int (0 : Int32)), .val (.int (0 : Int32))] [])) (fun t k => XS.ifYes X34.here hx rfl (pc0 := 173) (pc' := 186) rfl (hb hby at_173) rfl ((if0 _ _).trans (teq (by decide)).1) (by decide) (by decide) k) ?_
        refine Goes.to (T' := T34.setTop (mkF m 187 #[.val (.int p0), .val (.int p1), .val (.int p2), .val (.long q3), .second, .val (.int p4), .val (.int p5), .val (.int cs), .val (.ref mk), .val (.ref b3), .val .null, .val (.ref b22), .val (.ref b25), .val (.int (((p5.toUInt32 >>> ((20 : Int32) &&& 31).toUInt32).toInt32) &&& (3 : Int32))), .val (.ref b27), .val (.int (0 : Int32)), .val (.int (0 : Int32))] [(.int (1 : Int32))])) (fun t k => XS.iconst X34.here hx rfl (hb hby at_186) k) ?_
        obtain ⟨fs, hrL, hrun, hended, hRW⟩ := X34.leaveW hS (by rw [e34]; exact hk) (v := some (.int (1 : Int32))) (fun h => by rw [Bd.returns] at h; cases h)
        subst hQf
        refine ⟨_, _, retN X34 hx (t := .boolean) Bd.returns (by simp) (hb hby at_187) hrL, hrun, hended, _, _, rfl, ?_, hRW.1, hRW.2.1, hRW.2.2.1, hRW.2.2.2.mono (by decide) (by decide)⟩
        show (fun (v : Option Value) (h : Heap) (L : List Loc) => v = some (.int 1) ∧ Fr n0 L) (some (.int (1 : Int32))) T34.heap _
        rw [e34]
        exact ⟨rfl, N34⟩
  refine Goes.to (T' := T1.setTop (mkF m 9 #[.val (.int p0), .val (.int p1), .val (.int p2), .val (.long q3), .second, .val (.int p4), .val (.int p5), .val (.int cs), .unset, .unset, .unset, .unset, .unset, .unset, .unset, .unset, .unset] [(.int p5)])) (fun t k => XS.iload X1.here hx rfl (hb hby at_7) rfl k) ?_
  refine Goes.to (T' := T1.setTop (mkF m 10 #[.val (.int p0), .val (.int p1), .val (.int p2), .val (.long q3), .second, .val (.int p4), .val (.int p5), .val (.int cs), .unset, .unset, .unset, .unset, .unset, .unset, .unset, .unset, .unset] [(.int (1 : Int32)), (.int p5)])) (fun t k => XS.iconst X1.here hx rfl (hb hby at_9) k) ?_
  refine Goes.to (T' := T1.setTop (mkF m 11 #[.val (.int p0), .val (.int p1), .val (.int p2), .val (.long q3), .second, .val (.int p4), .val (.int p5), .val (.int cs), .unset, .unset, .unset, .unset, .unset, .unset, .unset, .unset, .unset] [(.int (p5 &&& (1 : Int32)))])) (fun t k => XS.iand X1.here hx rfl (hb hby at_10) rfl k) ?_
  rcases Decidable.em ((p5 &&& (1 : Int32)) = (0 : Int32)) with hc11_35 | hc11_35
  · skip
    refine Goes.to (T' := T1.setTop (mkF m 20 #[.val (.int p0), .val (.int p1), .val (.int p2), .val (.long q3), .second, .val (.int p4), .val (.int p5), .val (.int cs), .unset, .unset, .unset, .unset, .unset, .unset, .unset, .unset, .unset] [])) (fun t k => XS.ifYes X1.here hx rfl (pc0 := 11) (pc' := 20) rfl (hb hby at_11) rfl ((if0 _ _).trans (teq hc11_35).1) (by decide) (by decide) k) ?_
    obtain ⟨T36, X36, e36, st36⟩ := getS2 X1 hx hZ hown (host := "") (Or.inl (hw _ (List.mem_of_getElem? (i := 4) rfl))) Via.refl e1 (S_w_Market_MKT_GLB.ext O0.2) (g := (mkF m 20 #[.val (.int p0), .val (.int p1), .val (.int p2), .val (.long q3), .second, .val (.int p4), .val (.int p5), .val (.int cs), .unset, .unset, .unset, .unset, .unset, .unset, .unset, .unset, .unset] [])) rfl (hb hby at_20)
    refine Goes.to (T' := T36.setTop (mkF m 23 #[.val (.int p0), .val (.int p1), .val (.int p2), .val (.long q3), .second, .val (.int p4), .val (.int p5), .val (.int cs), .unset, .unset, .unset, .unset, .unset, .unset, .unset, .unset, .unset] [(.ref w_Market_MKT_GLB)])) st36 ?_
    refine Goes.to (T' := T36.setTop (mkF m 25 #[.val (.int p0), .val (.int p1), .val (.int p2), .val (.long q3), .second, .val (.int p4), .val (.int p5), .val (.int cs), .val (.ref w_Market_MKT_GLB), .unset, .unset, .unset, .unset, .unset, .unset, .unset, .unset] [])) (fun t k => XS.astore X36.here hx rfl (hb hby at_23) rfl rfl (l' := #[.val (.int p0), .val (.int p1), .val (.int p2), .val (.long q3), .second, .val (.int p4), .val (.int p5), .val (.int cs), .val (.ref w_Market_MKT_GLB), .unset, .unset, .unset, .unset, .unset, .unset, .unset, .unset]) rfl k) ?_
    exact J25 _ _ w_Market_MKT_GLB X36 e36 N1 E_w_Market_MKT_GLB
  · skip
    refine Goes.to (T' := T1.setTop (mkF m 14 #[.val (.int p0), .val (.int p1), .val (.int p2), .val (.long q3), .second, .val (.int p4), .val (.int p5), .val (.int cs), .unset, .unset, .unset, .unset, .unset, .unset, .unset, .unset, .unset] [])) (fun t k => XS.ifNo X1.here hx rfl (hb hby at_11) rfl ((if0 _ _).trans (feq hc11_35).1) k) ?_
    obtain ⟨T37, X37, e37, st37⟩ := getS2 X1 hx hZ hown (host := "") (Or.inl (hw _ (List.mem_of_getElem? (i := 88) rfl))) Via.refl e1 (S_w_Market_MKT_ONE.ext O0.2) (g := (mkF m 14 #[.val (.int p0), .val (.int p1), .val (.int p2), .val (.long q3), .second, .val (.int p4), .val (.int p5), .val (.int cs), .unset, .unset, .unset, .unset, .unset, .unset, .unset, .unset, .unset] [])) rfl (hb hby at_14)
    refine Goes.to (T' := T37.setTop (mkF m 17 #[.val (.int p0), .val (.int p1), .val (.int p2), .val (.long q3), .second, .val (.int p4), .val (.int p5), .val (.int cs), .unset, .unset, .unset, .unset, .unset, .unset, .unset, .unset, .unset] [(.ref w_Market_MKT_ONE)])) st37 ?_
    refine Goes.to (T' := T37.setTop (mkF m 23 #[.val (.int p0), .val (.int p1), .val (.int p2), .val (.long q3), .second, .val (.int p4), .val (.int p5), .val (.int cs), .unset, .unset, .unset, .unset, .unset, .unset, .unset, .unset, .unset] [(.ref w_Market_MKT_ONE)])) (fun t k => XS.goto X37.here hx rfl (pc0 := 17) (pc' := 23) rfl (hb hby at_17) (by decide) (by decide) k) ?_
    refine Goes.to (T' := T37.setTop (mkF m 25 #[.val (.int p0), .val (.int p1), .val (.int p2), .val (.long q3), .second, .val (.int p4), .val (.int p5), .val (.int cs), .val (.ref w_Market_MKT_ONE), .unset, .unset, .unset, .unset, .unset, .unset, .unset, .unset] [])) (fun t k => XS.astore X37.here hx rfl (hb hby at_23) rfl rfl (l' := #[.val (.int p0), .val (.int p1), .val (.int p2), .val (.long q3), .second, .val (.int p4), .val (.int p5), .val (.int cs), .val (.ref w_Market_MKT_ONE), .unset, .unset, .unset, .unset, .unset, .unset, .unset, .unset]) rfl k) ?_
    exact J25 _ _ w_Market_MKT_ONE X37 e37 N1 E_w_Market_MKT_ONE
set_option maxRecDepth 65536 in
set_option maxHeartbeats 40000000 in
theorem comes_1 {Post : Tables → Env → Array Value → State → Outcome → State → Prop} (hpost : ∀ tb e args s v u, (limb_1_1.after args s (.returned v) u = true ∧ limb_1_2.after args s (.returned v) u = true ∧ True) → ReturnedEndW s (.returned v) u (Jvm.fieldLocs frame_1_writes args s ++ Jvm.arrayLocs frame_1_arrays args s ++ Jvm.staticLocs frame_1_statics s) 32 2176 → Post tb e args s (.returned v) u) :
    ArmFor flags0 classFile x code maxLocals ret World_1 tables_1 room_1 Calls_1 rest_1 Pre_1 Post := by
  intro l hfl _ _ p e ha hc hk s m args below hf hA hF happ hP
  obtain ⟨hcalls, hrest, hpre⟩ := hP
  obtain ⟨-, -, -, hnamed, -, -, -, hat⟩ := (Spec.applies_iff hf).mp happ
  obtain ⟨hg, hn⟩ := and_e (Cond.before_iff.mp (show (Jvm.Cond.and given_1 narrow_1).before args s = true from hpre))
  obtain ⟨gc, gr0⟩ := and_e hg
  obtain ⟨w0, w1, w2, w3, w4, w5, rfl⟩ : ∃ w0 w1 w2 w3 w4 w5 : Value, args = #[w0, w1, w2, w3, w4, w5] := by
    have hs : args.size = 6 := by simpa [Cond.value, given_1] using gc
    obtain ⟨L⟩ := args
    match L, hs with
    | [w0, w1, w2, w3, w4, w5], _ => exact ⟨w0, w1, w2, w3, w4, w5, rfl⟩
  have hw := fun d (hd : d ∈ tables_1) => atoms_spec (ws := Jvm.Cond.code x code maxLocals ret :: tables_1) hat d (List.mem_cons_of_mem _ hd)
  have hfit : Fit s := fun {y c} hc i hi => by
    obtain ⟨ha, rfl⟩ := Array.getElem?_eq_some_iff.mp hc
    have q := List.all_eq_true.mp ((Array.all_eq_true_iff_forall_mem.mp hF) _ (Array.getElem_mem ha)) i (List.mem_range.mpr hi)
    simpa [Array.getElem?_eq_getElem hi] using q
  obtain ⟨gv0, gr1⟩ := and_e gr0
  obtain ⟨i0, ei0⟩ := is_v gv0
  obtain rfl : w0 = (.int i0) := Option.some.inj ei0
  obtain ⟨gv1, gr2⟩ := and_e gr1
  obtain ⟨i1, ei1⟩ := is_v gv1
  obtain rfl : w1 = (.int i1) := Option.some.inj ei1
  obtain ⟨gv2, gr3⟩ := and_e gr2
  obtain ⟨i2, ei2⟩ := is_v gv2
  obtain rfl : w2 = (.int i2) := Option.some.inj ei2
  obtain ⟨gv3, gr4⟩ := and_e gr3
  obtain ⟨i3, ei3⟩ := isL_v gv3
  obtain rfl : w3 = (.long i3) := Option.some.inj ei3
  obtain ⟨gv4, gr5⟩ := and_e gr4
  obtain ⟨i4, ei4⟩ := is_v gv4
  obtain rfl : w4 = (.int i4) := Option.some.inj ei4
  obtain ⟨i5, ei5⟩ := is_v gr5
  obtain rfl : w5 = (.int i5) := Option.some.inj ei5
  have hsets := (atoms_of jdkStatics_1 (show (jdkStatics_1.foldr Cond.and restOwn_1).before _ s = true from by rw [← rest_1_c_eq]; exact hrest)).1
  obtain ⟨nl1, nr1⟩ := and_e hn
  obtain ⟨w_Market_MKT_GLB, ev_w_Market_MKT_GLB⟩ := exa_v nl1
  have S_w_Market_MKT_GLB : Sta s s.heap "com/example/arvi/arvi/model/Market" "MKT_GLB" "Lcom/example/arvi/arvi/model/Market;" (.ref w_Market_MKT_GLB) := Sta.start ev_w_Market_MKT_GLB (Or.inr ⟨(hw _ (List.mem_of_getElem? (i := 5) rfl)), (hw _ (List.mem_of_getElem? (i := 6) rfl))⟩)
  have E_w_Market_MKT_GLB : Exa s s.heap w_Market_MKT_GLB "com/example/arvi/arvi/model/Market" := Exa.start ev_w_Market_MKT_GLB nl1
  obtain ⟨w_Market_MKT_ONE, ev_w_Market_MKT_ONE⟩ := exa_v nr1
  have S_w_Market_MKT_ONE : Sta s s.heap "com/example/arvi/arvi/model/Market" "MKT_ONE" "Lcom/example/arvi/arvi/model/Market;" (.ref w_Market_MKT_ONE) := Sta.start ev_w_Market_MKT_ONE (Or.inr ⟨(hw _ (List.mem_of_getElem? (i := 5) rfl)), (hw _ (List.mem_of_getElem? (i := 89) rfl))⟩)
  have E_w_Market_MKT_ONE : Exa s s.heap w_Market_MKT_ONE "com/example/arvi/arvi/model/Market" := Exa.start ev_w_Market_MKT_ONE nr1
  obtain ⟨z_cs, ev_cs⟩ := is_v (Cond.before_iff.mp (hsets _ (List.mem_of_getElem? (i := 1) rfl)))
  have S_cs : Sta s s.heap "java/lang/String" "COMPACT_STRINGS" "Z" (.int z_cs) := Sta.start ev_cs (Or.inl (hsets _ (List.mem_of_getElem? (i := 0) rfl)))
  have nz_cs : ¬ z_cs = 0 := own_nz ev_cs (Cond.before_iff.mp (hsets _ (List.mem_of_getElem? (i := 2) rfl)))
  obtain ⟨n, o, h1, h2, h3, _, L, rfl, ⟨rfl, N⟩, hq⟩ := rm0 l s _ hw tables_1 i0 i1 i2 i3 i4 i5 w_Market_MKT_GLB w_Market_MKT_ONE z_cs s.heap s.heap.size (Old.start s) ⟨S_w_Market_MKT_GLB, E_w_Market_MKT_GLB, S_w_Market_MKT_ONE, E_w_Market_MKT_ONE, S_cs, nz_cs⟩ p e ha hc hk s m _ below hf ((Spec.applies_iff_loose hf).mp happ).1 ⟨rfl, State.Warmed39.refl s, rfl⟩ trivial
  refine ⟨n, _, h1, h2, h3, hpost _ _ _ _ _ _ ⟨Cond.after_iff.mpr rfl, Cond.after_iff.mpr (eq_i res_at (Term.int_eval (1)) rfl), trivial⟩ ⟨hq.1, hq.2.1, hq.2.2.1, (hq.2.2.2.sift fun y hy => Or.inr (N y hy)).mono (by decide) (by decide)⟩⟩
theorem main_1_1 : Claimed_1_1 := comes_1 fun _ _ _ _ _ _ h hF => ⟨h.1, hF⟩
theorem main_1_2 : Claimed_1_2 := comes_1 fun _ _ _ _ _ _ h hF => ⟨h.2.1, hF⟩
end Jvm.Pilot.@@N@@
namespace Jvm.Pilot.@@N@@
open Jvm Jvm.ClassFile Sem Op Lib Jvm.Free Jvm.Stand Jvm.Pilot.@@N@@.Jvm.D
/-! MADE BY PROGRAM (witnessworld.py) out of the Statement's table words and the real class files: 23 classes; the members and pool entries that the words name. The judged class is class 1, her method 2. -/
namespace start1
open Jvm.ClassFile
def u (s : String) : CpInfo := .utf8 (stringToUtf16 s)
/-- a pool by its gaps: so many unusable entries, then the entry; so many at the end -/
def gap : Nat → List CpInfo → List CpInfo
  | 0, r => r
  | n + 1, r => .unusable :: gap n r
def poolList (es : List (Nat × CpInfo)) (last : Nat) : List CpInfo := es.foldr (fun e r => gap e.1 (e.2 :: r)) (gap last [])
def pool (es : List (Nat × CpInfo)) (last : Nat) : Array CpInfo := ⟨poolList es last⟩
def fileOf (pool : Array CpInfo) (this : Nat) (attrs : Array Attribute := #[]) (ms : Array MethodInfo := #[]) (fl : Nat := 33) (sup : Nat := 0) (ifs : Array Nat := #[]) (fds : Array FieldInfo := #[]) : ClassFile where
  minorVersion := 0
  majorVersion := 65
  constantPool := pool
  accessFlags := fl
  thisClass := this
  superClass := sup
  interfaces := ifs
  fields := fds
  methods := ms
  attributes := attrs
def plain (name : String) (sup : Option ClassId) : Class where
  name := name
  kind := .ordinary
  loader := none
  accessFlags := 33
  super := sup
  interfaces := #[]
  cf := none
  fields := #[]
  methods := #[]
  instanceTypes := #[]
  staticTypes := #[]
  resolved := #[]
  callSites := []
  init := .initialized
  statics := none
  mirror := none

def pool0 : Array CpInfo := pool [(5, u "<init>"), (0, u "()V"), (1, .class_ 10), (1, u "java/lang/Object")] 113

def k0c0 : Code := { maxStack := 0, maxLocals := 1, code := object_method_1_code, exceptionTable := #[], attributes := #[] }
def k0m0 : Method := { name := "<init>", desc := "()V", sig := { parameters := [], returnType := none }, accessFlags := 1, code := some k0c0 }
/-- java/lang/Object -/
def k0 : Class := { plain "java/lang/Object" none with
  accessFlags := 33
  interfaces := #[]
  cf := some (fileOf pool0 8 #[] #[{ accessFlags := 1, nameIndex := 5, descriptorIndex := 6, attributes := #[] }] 33 0 #[] #[])
  fields := #[]
  methods := #[k0m0]
  instanceTypes := #[]
  staticTypes := #[]
  resolved := Array.replicate 124 none
  statics := none }

def pool1 : Array CpInfo := pool [(2, .class_ 4), (1, u "java/lang/Object"), (0, u "<init>"), (0, u "()V"), (2, .integer 2147483648), (0, .integer 2147483647), (0, .methodref 12 13), (0, .class_ 14), (0, .nameAndType 15 16), (0, u "com/example/arvi/arvi/model/PurchaseDetailsIsConsumedPinLaw"), (0, u "pickState"), (0, u "(II)I"), (0, .fieldref 18 19), (0, .class_ 20), (0, .nameAndType 21 22), (0, u "com/example/arvi/arvi/model/Market"), (0, u "MKT_ONE"), (0, u "Lcom/example/arvi/arvi/model/Market;"), (0, .fieldref 18 24), (0, .nameAndType 25 22), (0, u "MKT_GLB"), (0, .class_ 27), (0, u "java/lang/String"), (0, .methodref 26 29), (0, .nameAndType 5 30), (0, u "([C)V"), (0, .class_ 32), (0, u "com/example/arvi/arvi/model/PurchaseDetails"), (0, .methodref 31 34), (0, .nameAndType 5 35), (0, u "(ILjava/lang/String;IJLjava/lang/String;IILcom/example/arvi/arvi/model/Market;)V"), (0, .methodref 31 37), (0, .nameAndType 38 39), (0, u "isConsumed"), (0, u "()Z"), (0, .methodref 31 41), (0, .nameAndType 42 43), (0, u "consumptionState"), (0, u "()I"), (0, .methodref 31 45), (0, .nameAndType 46 39), (0, u "isAcknowledged"), (3, u "law"), (0, u "(IIIJII)Z")] 4

def k1m0 : Method := { name := "<init>", desc := "()V", sig := { parameters := [], returnType := none }, accessFlags := 1, code := none }
def k1c1 : Code := { maxStack := 2, maxLocals := 3, code := method_2_code, exceptionTable := #[], attributes := #[] }
def k1m1 : Method := { name := "pickState", desc := "(II)I", sig := { parameters := [.int, .int], returnType := some .int }, accessFlags := 10, code := some k1c1 }
def k1c2 : Code := { maxStack := 11, maxLocals := 17, code := code, exceptionTable := #[], attributes := #[] }
def k1m2 : Method := { name := "law", desc := "(IIIJII)Z", sig := { parameters := [.int, .int, .int, .long, .int, .int], returnType := some .boolean }, accessFlags := 9, code := some k1c2 }
/-- com/example/arvi/arvi/model/PurchaseDetailsIsConsumedPinLaw -/
def k1 : Class := { plain "com/example/arvi/arvi/model/PurchaseDetailsIsConsumedPinLaw" (some 0) with
  accessFlags := 49
  interfaces := #[]
  cf := some (fileOf pool1 12 #[] #[{ accessFlags := 1, nameIndex := 5, descriptorIndex := 6, attributes := #[] }, { accessFlags := 10, nameIndex := 15, descriptorIndex := 16, attributes := #[] }, { accessFlags := 9, nameIndex := 50, descriptorIndex := 51, attributes := #[] }] 49 2 #[] #[])
  fields := #[]
  methods := #[k1m0, k1m1, k1m2]
  instanceTypes := #[]
  staticTypes := #[]
  resolved := Array.replicate 56 none
  statics := none }

def pool2 : Array CpInfo := pool [(1, .class_ 2), (0, u "java/lang/constant/Constable"), (0, .class_ 4), (0, u "java/lang/Object")] 6

/-- java/lang/constant/Constable -/
def k2 : Class := { plain "java/lang/constant/Constable" (some 0) with
  accessFlags := 1537
  interfaces := #[]
  cf := some (fileOf pool2 1 #[] #[] 1537 3 #[] #[])
  fields := #[]
  methods := #[]
  instanceTypes := #[]
  staticTypes := #[]
  resolved := Array.replicate 11 none
  statics := none }

def pool3 : Array CpInfo := pool [(1, .class_ 2), (0, u "java/lang/Comparable"), (0, .class_ 4), (0, u "java/lang/Object")] 7

/-- java/lang/Comparable -/
def k3 : Class := { plain "java/lang/Comparable" (some 0) with
  accessFlags := 1537
  interfaces := #[]
  cf := some (fileOf pool3 1 #[] #[] 1537 3 #[] #[])
  fields := #[]
  methods := #[]
  instanceTypes := #[]
  staticTypes := #[]
  resolved := Array.replicate 12 none
  statics := none }

def pool4 : Array CpInfo := pool [(1, .class_ 2), (0, u "java/io/Serializable"), (0, .class_ 4), (0, u "java/lang/Object")] 2

/-- java/io/Serializable -/
def k4 : Class := { plain "java/io/Serializable" (some 0) with
  accessFlags := 1537
  interfaces := #[]
  cf := some (fileOf pool4 1 #[] #[] 1537 3 #[] #[])
  fields := #[]
  methods := #[]
  instanceTypes := #[]
  staticTypes := #[]
  resolved := Array.replicate 7 none
  statics := none }

def pool5 : Array CpInfo := pool [(2, .class_ 4), (1, u "java/lang/Enum"), (0, u "name"), (0, u "Ljava/lang/String;"), (2, u "ordinal"), (0, u "I"), (1, .class_ 14), (1, u "java/lang/Object"), (4, u "hash"), (86, .class_ 108), (1, u "java/lang/Enum$EnumDesc"), (2, .class_ 112), (0, u "java/lang/constant/Constable"), (0, .class_ 114), (0, u "java/lang/Comparable"), (0, .class_ 116), (0, u "java/io/Serializable")] 87

/-- java/lang/Enum -/
def k5 : Class := { plain "java/lang/Enum" (some 0) with
  accessFlags := 1057
  interfaces := #[2, 3, 4]
  cf := some (fileOf pool5 2 #[.nestMembers #[106]] #[] 1057 12 #[111, 113, 115] #[{ accessFlags := 18, nameIndex := 5, descriptorIndex := 6, attributes := #[] }, { accessFlags := 18, nameIndex := 9, descriptorIndex := 10, attributes := #[] }, { accessFlags := 2, nameIndex := 19, descriptorIndex := 10, attributes := #[] }])
  fields := #[{ name := "name", type := (.object "java/lang/String"), accessFlags := 18, slot := 0, constantValue := 0 }, { name := "ordinal", type := .int, accessFlags := 18, slot := 1, constantValue := 0 }, { name := "hash", type := .int, accessFlags := 2, slot := 2, constantValue := 0 }]
  methods := #[]
  instanceTypes := #[(.object "java/lang/String"), .int, .int]
  staticTypes := #[]
  resolved := Array.replicate 204 none
  statics := none }

def pool6 : Array CpInfo := pool [(1, .class_ 2), (0, u "com/example/arvi/arvi/model/Market"), (2, u "MKT_ONE"), (0, u "Lcom/example/arvi/arvi/model/Market;"), (2, u "MKT_GLB"), (2, u "$VALUES"), (0, u "[Lcom/example/arvi/arvi/model/Market;"), (6, .class_ 22), (1, u "java/lang/Enum"), (8, u "offset"), (0, u "Ljava/time/ZoneOffset;")] 31

/-- com/example/arvi/arvi/model/Market -/
def k6 : Class := { plain "com/example/arvi/arvi/model/Market" (some 5) with
  accessFlags := 16433
  interfaces := #[]
  cf := some (fileOf pool6 1 #[] #[] 16433 20 #[] #[{ accessFlags := 16409, nameIndex := 5, descriptorIndex := 6, attributes := #[] }, { accessFlags := 16409, nameIndex := 9, descriptorIndex := 6, attributes := #[] }, { accessFlags := 18, nameIndex := 31, descriptorIndex := 32, attributes := #[] }, { accessFlags := 4122, nameIndex := 12, descriptorIndex := 13, attributes := #[] }])
  fields := #[{ name := "MKT_ONE", type := (.object "com/example/arvi/arvi/model/Market"), accessFlags := 16409, slot := 0, constantValue := 0 }, { name := "MKT_GLB", type := (.object "com/example/arvi/arvi/model/Market"), accessFlags := 16409, slot := 1, constantValue := 0 }, { name := "offset", type := (.object "java/time/ZoneOffset"), accessFlags := 18, slot := 3, constantValue := 0 }, { name := "$VALUES", type := (.array (.object "com/example/arvi/arvi/model/Market")), accessFlags := 4122, slot := 2, constantValue := 0 }]
  methods := #[]
  instanceTypes := #[(.object "java/lang/String"), .int, .int, (.object "java/time/ZoneOffset")]
  staticTypes := #[(.object "com/example/arvi/arvi/model/Market"), (.object "com/example/arvi/arvi/model/Market"), (.array (.object "com/example/arvi/arvi/model/Market"))]
  resolved := Array.replicate 64 none
  statics := some 0 }

def pool7 : Array CpInfo := pool [(2, .class_ 4), (1, u "java/lang/CharSequence"), (42, .class_ 48), (0, u "java/lang/CharSequence$1CodePointIterator"), (10, .class_ 60), (0, u "java/lang/CharSequence$1CharIterator"), (5, .class_ 67), (0, u "java/lang/Object")] 63

/-- java/lang/CharSequence -/
def k7 : Class := { plain "java/lang/CharSequence" (some 0) with
  accessFlags := 1537
  interfaces := #[]
  cf := some (fileOf pool7 2 #[.nestMembers #[47, 59]] #[] 1537 66 #[] #[])
  fields := #[]
  methods := #[]
  instanceTypes := #[]
  staticTypes := #[]
  resolved := Array.replicate 131 none
  statics := none }

def pool8 : Array CpInfo := pool [(1, .class_ 2), (0, u "java/lang/constant/ConstantDesc"), (0, .class_ 4), (0, u "java/lang/Object")] 32

/-- java/lang/constant/ConstantDesc -/
def k8 : Class := { plain "java/lang/constant/ConstantDesc" (some 0) with
  accessFlags := 1537
  interfaces := #[]
  cf := some (fileOf pool8 1 #[] #[] 1537 3 #[] #[])
  fields := #[]
  methods := #[]
  instanceTypes := #[]
  staticTypes := #[]
  resolved := Array.replicate 37 none
  statics := none }

def pool9 : Array CpInfo := pool [(1, .methodref 2 3), (0, .class_ 4), (0, .nameAndType 5 6), (0, u "java/lang/Object"), (0, u "<init>"), (0, u "()V"), (2, .fieldref 10 11), (0, .class_ 12), (0, .nameAndType 13 14), (0, u "java/lang/String"), (0, u "value"), (0, u "[B"), (0, .fieldref 10 16), (0, .nameAndType 17 18), (0, u "coder"), (0, u "B"), (2, u "hash"), (0, u "I"), (2, u "hashIsZero"), (0, u "Z"), (0, .methodref 10 28), (0, .nameAndType 5 29), (0, u "([CIILjava/lang/Void;)V"), (8, .fieldref 10 39), (0, .nameAndType 40 26), (0, u "COMPACT_STRINGS"), (1, .class_ 44), (1, u "java/lang/StringUTF16"), (0, u "compress"), (1, .methodref 42 48), (0, .nameAndType 49 50), (0, u "coderFromArrayLen"), (0, u "([BI)B"), (126, .methodref 42 178), (0, .nameAndType 45 179), (0, u "([CII)[B"), (395, .class_ 576), (0, u "java/lang/CharSequence"), (22, u "CASE_INSENSITIVE_ORDER"), (0, u "Ljava/util/Comparator;"), (409, u "([C)V"), (90, u "serialPersistentFields"), (0, u "[Ljava/io/ObjectStreamField;"), (0, .class_ 1104), (0, u "java/lang/String$CaseInsensitiveComparator"), (1, .class_ 1107), (0, u "java/io/Serializable"), (0, .class_ 1109), (0, u "java/lang/Comparable"), (0, .class_ 1111), (0, u "java/lang/constant/Constable"), (0, .class_ 1113), (0, u "java/lang/constant/ConstantDesc"), (2, u "serialVersionUID"), (0, u "J"), (3, u "REPL"), (0, u "C"), (2, u "LATIN1"), (1, u "UTF16")] 323

def k9m0 : Method := { name := "<init>", desc := "()V", sig := { parameters := [], returnType := none }, accessFlags := 1, code := none }
def k9c1 : Code := { maxStack := 5, maxLocals := 2, code := jdk_42_method_3_code, exceptionTable := #[], attributes := #[] }
def k9m1 : Method := { name := "<init>", desc := "([C)V", sig := { parameters := [(.array .char)], returnType := none }, accessFlags := 1, code := some k9c1 }
def k9c2 : Code := { maxStack := 4, maxLocals := 6, code := jdk_42_method_149_code, exceptionTable := #[], attributes := #[] }
def k9m2 : Method := { name := "<init>", desc := "([CIILjava/lang/Void;)V", sig := { parameters := [(.array .char), .int, .int, (.object "java/lang/Void")], returnType := none }, accessFlags := 2, code := some k9c2 }
/-- java/lang/String -/
def k9 : Class := { plain "java/lang/String" (some 0) with
  accessFlags := 49
  interfaces := #[4, 3, 7, 2, 8]
  cf := some (fileOf pool9 10 #[.nestMembers #[1103]] #[{ accessFlags := 1, nameIndex := 5, descriptorIndex := 6, attributes := #[] }, { accessFlags := 1, nameIndex := 5, descriptorIndex := 1010, attributes := #[] }, { accessFlags := 2, nameIndex := 5, descriptorIndex := 29, attributes := #[] }] 49 2 #[1106, 1108, 575, 1110, 1112] #[{ accessFlags := 18, nameIndex := 13, descriptorIndex := 14, attributes := #[] }, { accessFlags := 18, nameIndex := 17, descriptorIndex := 18, attributes := #[] }, { accessFlags := 2, nameIndex := 21, descriptorIndex := 22, attributes := #[] }, { accessFlags := 2, nameIndex := 25, descriptorIndex := 26, attributes := #[] }, { accessFlags := 26, nameIndex := 1116, descriptorIndex := 1117, attributes := #[] }, { accessFlags := 24, nameIndex := 40, descriptorIndex := 26, attributes := #[] }, { accessFlags := 26, nameIndex := 1101, descriptorIndex := 1102, attributes := #[] }, { accessFlags := 26, nameIndex := 1121, descriptorIndex := 1122, attributes := #[] }, { accessFlags := 25, nameIndex := 599, descriptorIndex := 600, attributes := #[] }, { accessFlags := 24, nameIndex := 1125, descriptorIndex := 18, attributes := #[] }, { accessFlags := 24, nameIndex := 1127, descriptorIndex := 18, attributes := #[] }])
  fields := #[{ name := "value", type := (.array .byte), accessFlags := 18, slot := 0, constantValue := 0 }, { name := "coder", type := .byte, accessFlags := 18, slot := 1, constantValue := 0 }, { name := "hash", type := .int, accessFlags := 2, slot := 2, constantValue := 0 }, { name := "hashIsZero", type := .boolean, accessFlags := 2, slot := 3, constantValue := 0 }, { name := "serialVersionUID", type := .long, accessFlags := 26, slot := 0, constantValue := 0 }, { name := "COMPACT_STRINGS", type := .boolean, accessFlags := 24, slot := 1, constantValue := 0 }, { name := "serialPersistentFields", type := (.array (.object "java/io/ObjectStreamField")), accessFlags := 26, slot := 2, constantValue := 0 }, { name := "REPL", type := .char, accessFlags := 26, slot := 3, constantValue := 0 }, { name := "CASE_INSENSITIVE_ORDER", type := (.object "java/util/Comparator"), accessFlags := 25, slot := 4, constantValue := 0 }, { name := "LATIN1", type := .byte, accessFlags := 24, slot := 5, constantValue := 0 }, { name := "UTF16", type := .byte, accessFlags := 24, slot := 6, constantValue := 0 }]
  methods := #[k9m0, k9m1, k9m2]
  instanceTypes := #[(.array .byte), .byte, .int, .boolean]
  staticTypes := #[.long, .boolean, (.array (.object "java/io/ObjectStreamField")), .char, (.object "java/util/Comparator"), .byte, .byte]
  resolved := Array.replicate 1451 none
  statics := some 1 }

def pool10 : Array CpInfo := pool [(6, .class_ 8), (1, u "java/lang/Object"), (0, u "<init>"), (0, u "()V"), (1, .class_ 14), (1, u "java/lang/StringUTF16"), (31, u "$assertionsDisabled"), (0, u "Z"), (13, u "HI_BYTE_SHIFT"), (0, u "I"), (2, u "LO_BYTE_SHIFT"), (49, .methodref 12 116), (0, .nameAndType 117 118), (0, u "compress"), (0, u "([CI[BII)I"), (3, u "([CII)[B"), (138, u "coderFromArrayLen"), (0, u "([BI)B"), (106, .class_ 371), (1, u "java/lang/StringUTF16$LinesSpliterator"), (58, u "MAX_LENGTH"), (196, .class_ 628), (0, u "java/lang/StringUTF16$CodePointsSpliterator"), (0, .class_ 630), (0, u "java/lang/StringUTF16$CharsSpliterator")] 4

def k10m0 : Method := { name := "<init>", desc := "()V", sig := { parameters := [], returnType := none }, accessFlags := 0, code := none }
def k10c1 : Code := { maxStack := 2, maxLocals := 2, code := jdk_52_method_15_code, exceptionTable := #[], attributes := #[] }
def k10m1 : Method := { name := "coderFromArrayLen", desc := "([BI)B", sig := { parameters := [(.array .byte), .int], returnType := some .byte }, accessFlags := 8, code := some k10c1 }
def k10c2 : Code := { maxStack := 5, maxLocals := 6, code := jdk_52_method_16_code, exceptionTable := #[], attributes := #[] }
def k10m2 : Method := { name := "compress", desc := "([CII)[B", sig := { parameters := [(.array .char), .int, .int], returnType := some (.array .byte) }, accessFlags := 9, code := some k10c2 }
def k10c3 : Code := { maxStack := 3, maxLocals := 7, code := jdk_52_method_21_code, exceptionTable := #[], attributes := #[] }
def k10m3 : Method := { name := "compress", desc := "([CI[BII)I", sig := { parameters := [(.array .char), .int, (.array .byte), .int, .int], returnType := some .int }, accessFlags := 9, code := some k10c3 }
/-- java/lang/StringUTF16 -/
def k10 : Class := { plain "java/lang/StringUTF16" (some 0) with
  accessFlags := 48
  interfaces := #[]
  cf := some (fileOf pool10 12 #[.nestMembers #[627, 629, 369]] #[{ accessFlags := 0, nameIndex := 9, descriptorIndex := 10, attributes := #[] }, { accessFlags := 8, nameIndex := 261, descriptorIndex := 262, attributes := #[] }, { accessFlags := 9, nameIndex := 117, descriptorIndex := 122, attributes := #[] }, { accessFlags := 9, nameIndex := 117, descriptorIndex := 118, attributes := #[] }] 48 6 #[] #[{ accessFlags := 26, nameIndex := 61, descriptorIndex := 62, attributes := #[] }, { accessFlags := 26, nameIndex := 65, descriptorIndex := 62, attributes := #[] }, { accessFlags := 24, nameIndex := 430, descriptorIndex := 62, attributes := #[] }, { accessFlags := 4120, nameIndex := 46, descriptorIndex := 47, attributes := #[] }])
  fields := #[{ name := "HI_BYTE_SHIFT", type := .int, accessFlags := 26, slot := 0, constantValue := 0 }, { name := "LO_BYTE_SHIFT", type := .int, accessFlags := 26, slot := 1, constantValue := 0 }, { name := "MAX_LENGTH", type := .int, accessFlags := 24, slot := 2, constantValue := 0 }, { name := "$assertionsDisabled", type := .boolean, accessFlags := 4120, slot := 3, constantValue := 0 }]
  methods := #[k10m0, k10m1, k10m2, k10m3]
  instanceTypes := #[]
  staticTypes := #[.int, .int, .int, .boolean]
  resolved := Array.replicate 635 none
  statics := none }

def pool11 : Array CpInfo := pool [(1, .methodref 2 3), (0, .class_ 4), (0, .nameAndType 5 6), (0, u "java/lang/Object"), (0, u "<init>"), (0, u "()V"), (0, .fieldref 8 9), (0, .class_ 10), (0, .nameAndType 11 12), (0, u "com/example/arvi/arvi/model/PurchaseDetails"), (0, u "consumptionState"), (0, u "I"), (0, .fieldref 8 14), (0, .nameAndType 15 16), (0, u "developerPayload"), (0, u "Ljava/lang/String;"), (0, .fieldref 8 18), (0, .nameAndType 19 12), (0, u "purchaseState"), (0, .fieldref 8 21), (0, .nameAndType 22 23), (0, u "purchaseTime"), (0, u "J"), (0, .string 25), (0, u "purchaseId"), (0, .methodref 27 28), (0, .class_ 29), (0, .nameAndType 30 31), (0, u "java/util/Objects"), (0, u "requireNonNull"), (0, u "(Ljava/lang/Object;Ljava/lang/String;)Ljava/lang/Object;"), (0, .class_ 33), (0, u "java/lang/String"), (0, .fieldref 8 35), (0, .nameAndType 25 16), (0, .fieldref 8 37), (0, .nameAndType 38 12), (0, u "acknowledgeState"), (0, .fieldref 8 40), (0, .nameAndType 41 12), (0, u "quantity"), (0, .string 43), (0, u "market"), (0, .class_ 45), (0, u "com/example/arvi/arvi/model/Market"), (0, .fieldref 8 47), (0, .nameAndType 43 48), (0, u "Lcom/example/arvi/arvi/model/Market;"), (0, .methodref 8 50), (0, .nameAndType 51 52), (0, u "isConsumed"), (0, u "()Z"), (29, u "PAID"), (2, u "CANCELLED"), (1, u "CONSUMED"), (0, u "ACKNOWLEDGED"), (0, u "(ILjava/lang/String;IJLjava/lang/String;IILcom/example/arvi/arvi/model/Market;)V"), (2, u "()I"), (4, u "isAcknowledged")] 19

def k11c0 : Code := { maxStack := 3, maxLocals := 10, code := prog_24_method_1_code, exceptionTable := #[], attributes := #[] }
def k11m0 : Method := { name := "<init>", desc := "(ILjava/lang/String;IJLjava/lang/String;IILcom/example/arvi/arvi/model/Market;)V", sig := { parameters := [.int, (.object "java/lang/String"), .int, .long, (.object "java/lang/String"), .int, .int, (.object "com/example/arvi/arvi/model/Market")], returnType := none }, accessFlags := 1, code := some k11c0 }
def k11c1 : Code := { maxStack := 1, maxLocals := 1, code := prog_24_method_2_code, exceptionTable := #[], attributes := #[] }
def k11m1 : Method := { name := "consumptionState", desc := "()I", sig := { parameters := [], returnType := some .int }, accessFlags := 1, code := some k11c1 }
def k11c2 : Code := { maxStack := 2, maxLocals := 1, code := prog_24_method_10_code, exceptionTable := #[], attributes := #[] }
def k11m2 : Method := { name := "isConsumed", desc := "()Z", sig := { parameters := [], returnType := some .boolean }, accessFlags := 1, code := some k11c2 }
def k11c3 : Code := { maxStack := 2, maxLocals := 1, code := prog_24_method_11_code, exceptionTable := #[], attributes := #[] }
def k11m3 : Method := { name := "isAcknowledged", desc := "()Z", sig := { parameters := [], returnType := some .boolean }, accessFlags := 1, code := some k11c3 }
/-- com/example/arvi/arvi/model/PurchaseDetails -/
def k11 : Class := { plain "com/example/arvi/arvi/model/PurchaseDetails" (some 0) with
  accessFlags := 49
  interfaces := #[]
  cf := some (fileOf pool11 8 #[] #[{ accessFlags := 1, nameIndex := 5, descriptorIndex := 89, attributes := #[] }, { accessFlags := 1, nameIndex := 11, descriptorIndex := 92, attributes := #[] }, { accessFlags := 1, nameIndex := 51, descriptorIndex := 52, attributes := #[] }, { accessFlags := 1, nameIndex := 97, descriptorIndex := 52, attributes := #[] }] 49 2 #[] #[{ accessFlags := 25, nameIndex := 82, descriptorIndex := 12, attributes := #[] }, { accessFlags := 25, nameIndex := 85, descriptorIndex := 12, attributes := #[] }, { accessFlags := 25, nameIndex := 87, descriptorIndex := 12, attributes := #[] }, { accessFlags := 25, nameIndex := 88, descriptorIndex := 12, attributes := #[] }, { accessFlags := 18, nameIndex := 11, descriptorIndex := 12, attributes := #[] }, { accessFlags := 18, nameIndex := 15, descriptorIndex := 16, attributes := #[] }, { accessFlags := 18, nameIndex := 19, descriptorIndex := 12, attributes := #[] }, { accessFlags := 18, nameIndex := 22, descriptorIndex := 23, attributes := #[] }, { accessFlags := 18, nameIndex := 25, descriptorIndex := 16, attributes := #[] }, { accessFlags := 18, nameIndex := 38, descriptorIndex := 12, attributes := #[] }, { accessFlags := 18, nameIndex := 41, descriptorIndex := 12, attributes := #[] }, { accessFlags := 18, nameIndex := 43, descriptorIndex := 48, attributes := #[] }])
  fields := #[{ name := "PAID", type := .int, accessFlags := 25, slot := 0, constantValue := 0 }, { name := "CANCELLED", type := .int, accessFlags := 25, slot := 1, constantValue := 0 }, { name := "CONSUMED", type := .int, accessFlags := 25, slot := 2, constantValue := 0 }, { name := "ACKNOWLEDGED", type := .int, accessFlags := 25, slot := 3, constantValue := 0 }, { name := "consumptionState", type := .int, accessFlags := 18, slot := 0, constantValue := 0 }, { name := "developerPayload", type := (.object "java/lang/String"), accessFlags := 18, slot := 1, constantValue := 0 }, { name := "purchaseState", type := .int, accessFlags := 18, slot := 2, constantValue := 0 }, { name := "purchaseTime", type := .long, accessFlags := 18, slot := 3, constantValue := 0 }, { name := "purchaseId", type := (.object "java/lang/String"), accessFlags := 18, slot := 4, constantValue := 0 }, { name := "acknowledgeState", type := .int, accessFlags := 18, slot := 5, constantValue := 0 }, { name := "quantity", type := .int, accessFlags := 18, slot := 6, constantValue := 0 }, { name := "market", type := (.object "com/example/arvi/arvi/model/Market"), accessFlags := 18, slot := 7, constantValue := 0 }]
  methods := #[k11m0, k11m1, k11m2, k11m3]
  instanceTypes := #[.int, (.object "java/lang/String"), .int, .long, (.object "java/lang/String"), .int, .int, (.object "com/example/arvi/arvi/model/Market")]
  staticTypes := #[.int, .int, .int, .int]
  resolved := Array.replicate 117 none
  statics := none }

def pool12 : Array CpInfo := pool [(2, .class_ 4), (1, u "java/lang/Object"), (0, u "<init>"), (0, u "()V"), (35, .class_ 44), (1, u "java/util/Objects"), (0, u "requireNonNull"), (48, u "(Ljava/lang/Object;Ljava/lang/String;)Ljava/lang/Object;")] 89

def k12m0 : Method := { name := "<init>", desc := "()V", sig := { parameters := [], returnType := none }, accessFlags := 2, code := none }
def k12c1 : Code := { maxStack := 3, maxLocals := 2, code := jdk_31_method_11_code, exceptionTable := #[], attributes := #[] }
def k12m1 : Method := { name := "requireNonNull", desc := "(Ljava/lang/Object;Ljava/lang/String;)Ljava/lang/Object;", sig := { parameters := [(.object "java/lang/Object"), (.object "java/lang/String")], returnType := some (.object "java/lang/Object") }, accessFlags := 9, code := some k12c1 }
/-- java/util/Objects -/
def k12 : Class := { plain "java/util/Objects" (some 0) with
  accessFlags := 49
  interfaces := #[]
  cf := some (fileOf pool12 42 #[] #[{ accessFlags := 2, nameIndex := 5, descriptorIndex := 6, attributes := #[] }, { accessFlags := 9, nameIndex := 45, descriptorIndex := 94, attributes := #[] }] 49 2 #[] #[])
  fields := #[]
  methods := #[k12m0, k12m1]
  instanceTypes := #[]
  staticTypes := #[]
  resolved := Array.replicate 184 none
  statics := none }

def pool13 : Array CpInfo := pool [(4, .class_ 6), (1, u "java/lang/Object"), (0, u "<init>"), (0, u "()V"), (5, .class_ 16), (1, u "java/lang/StringLatin1"), (104, u "$assertionsDisabled"), (0, u "Z"), (98, .class_ 223), (1, u "java/lang/StringLatin1$LinesSpliterator"), (166, .class_ 391), (0, u "java/lang/StringLatin1$CharsSpliterator")] 3

def k13m0 : Method := { name := "<init>", desc := "()V", sig := { parameters := [], returnType := none }, accessFlags := 0, code := none }
/-- java/lang/StringLatin1 -/
def k13 : Class := { plain "java/lang/StringLatin1" (some 0) with
  accessFlags := 48
  interfaces := #[]
  cf := some (fileOf pool13 14 #[.nestMembers #[390, 221]] #[{ accessFlags := 0, nameIndex := 7, descriptorIndex := 8, attributes := #[] }] 48 4 #[] #[{ accessFlags := 4120, nameIndex := 121, descriptorIndex := 122, attributes := #[] }])
  fields := #[{ name := "$assertionsDisabled", type := .boolean, accessFlags := 4120, slot := 0, constantValue := 0 }]
  methods := #[k13m0]
  instanceTypes := #[]
  staticTypes := #[.boolean]
  resolved := Array.replicate 395 none
  statics := none }

def pool14 : Array CpInfo := pool [(2, .class_ 4), (1, u "java/lang/Object"), (0, u "<init>"), (0, u "()V"), (17, .class_ 26), (1, u "jdk/internal/util/Preconditions"), (28, .class_ 56), (0, u "jdk/internal/util/Preconditions$4"), (57, .class_ 115), (0, u "jdk/internal/util/Preconditions$1"), (7, u "SIOOBE_FORMATTER"), (0, u "Ljava/util/function/BiFunction;"), (0, .class_ 126), (0, u "jdk/internal/util/Preconditions$2"), (3, u "AIOOBE_FORMATTER"), (0, .class_ 132), (0, u "jdk/internal/util/Preconditions$3"), (3, u "IOOBE_FORMATTER")] 57

def k14m0 : Method := { name := "<init>", desc := "()V", sig := { parameters := [], returnType := none }, accessFlags := 1, code := none }
/-- jdk/internal/util/Preconditions -/
def k14 : Class := { plain "jdk/internal/util/Preconditions" (some 0) with
  accessFlags := 33
  interfaces := #[]
  cf := some (fileOf pool14 24 #[.nestMembers #[55, 131, 125, 114]] #[{ accessFlags := 1, nameIndex := 5, descriptorIndex := 6, attributes := #[] }] 33 2 #[] #[{ accessFlags := 25, nameIndex := 123, descriptorIndex := 124, attributes := #[] }, { accessFlags := 25, nameIndex := 130, descriptorIndex := 124, attributes := #[] }, { accessFlags := 25, nameIndex := 136, descriptorIndex := 124, attributes := #[] }])
  fields := #[{ name := "SIOOBE_FORMATTER", type := (.object "java/util/function/BiFunction"), accessFlags := 25, slot := 0, constantValue := 0 }, { name := "AIOOBE_FORMATTER", type := (.object "java/util/function/BiFunction"), accessFlags := 25, slot := 1, constantValue := 0 }, { name := "IOOBE_FORMATTER", type := (.object "java/util/function/BiFunction"), accessFlags := 25, slot := 2, constantValue := 0 }]
  methods := #[k14m0]
  instanceTypes := #[]
  staticTypes := #[(.object "java/util/function/BiFunction"), (.object "java/util/function/BiFunction"), (.object "java/util/function/BiFunction")]
  resolved := Array.replicate 194 none
  statics := some 2 }

def pool15 : Array CpInfo := pool [(9, u "<init>"), (6, .class_ 18), (1, u "java/lang/Object"), (0, u "()V"), (1, .class_ 23), (1, u "jdk/internal/util/ArraysSupport"), (0, u "LOG2_ARRAY_LONG_INDEX_SCALE"), (0, u "I"), (2, u "U"), (0, u "Ljdk/internal/misc/Unsafe;"), (8, u "BIG_ENDIAN"), (0, u "Z"), (8, u "LOG2_BYTE_BIT_SIZE"), (4, u "LOG2_ARRAY_INT_INDEX_SCALE"), (54, u "JLA"), (0, u "Ljdk/internal/access/JavaLangAccess;"), (11, u "LOG2_ARRAY_BOOLEAN_INDEX_SCALE"), (9, u "LOG2_ARRAY_BYTE_INDEX_SCALE"), (5, u "LOG2_ARRAY_CHAR_INDEX_SCALE"), (5, u "LOG2_ARRAY_SHORT_INDEX_SCALE"), (18, u "LOG2_ARRAY_FLOAT_INDEX_SCALE"), (24, u "LOG2_ARRAY_DOUBLE_INDEX_SCALE"), (89, u "T_BOOLEAN"), (2, u "T_CHAR"), (1, u "T_FLOAT"), (1, u "T_DOUBLE"), (1, u "T_BYTE"), (1, u "T_SHORT"), (1, u "T_INT"), (1, u "T_LONG"), (1, u "SOFT_MAX_ARRAY_LENGTH")] 83

def k15m0 : Method := { name := "<init>", desc := "()V", sig := { parameters := [], returnType := none }, accessFlags := 2, code := none }
/-- jdk/internal/util/ArraysSupport -/
def k15 : Class := { plain "jdk/internal/util/ArraysSupport" (some 0) with
  accessFlags := 33
  interfaces := #[]
  cf := some (fileOf pool15 21 #[] #[{ accessFlags := 2, nameIndex := 9, descriptorIndex := 19, attributes := #[] }] 33 16 #[] #[{ accessFlags := 24, nameIndex := 28, descriptorIndex := 29, attributes := #[] }, { accessFlags := 26, nameIndex := 38, descriptorIndex := 39, attributes := #[] }, { accessFlags := 25, nameIndex := 121, descriptorIndex := 25, attributes := #[] }, { accessFlags := 25, nameIndex := 131, descriptorIndex := 25, attributes := #[] }, { accessFlags := 25, nameIndex := 137, descriptorIndex := 25, attributes := #[] }, { accessFlags := 25, nameIndex := 143, descriptorIndex := 25, attributes := #[] }, { accessFlags := 25, nameIndex := 53, descriptorIndex := 25, attributes := #[] }, { accessFlags := 25, nameIndex := 24, descriptorIndex := 25, attributes := #[] }, { accessFlags := 25, nameIndex := 162, descriptorIndex := 25, attributes := #[] }, { accessFlags := 25, nameIndex := 187, descriptorIndex := 25, attributes := #[] }, { accessFlags := 26, nameIndex := 48, descriptorIndex := 25, attributes := #[] }, { accessFlags := 25, nameIndex := 277, descriptorIndex := 25, attributes := #[] }, { accessFlags := 25, nameIndex := 280, descriptorIndex := 25, attributes := #[] }, { accessFlags := 25, nameIndex := 282, descriptorIndex := 25, attributes := #[] }, { accessFlags := 25, nameIndex := 284, descriptorIndex := 25, attributes := #[] }, { accessFlags := 25, nameIndex := 286, descriptorIndex := 25, attributes := #[] }, { accessFlags := 25, nameIndex := 288, descriptorIndex := 25, attributes := #[] }, { accessFlags := 25, nameIndex := 290, descriptorIndex := 25, attributes := #[] }, { accessFlags := 25, nameIndex := 292, descriptorIndex := 25, attributes := #[] }, { accessFlags := 26, nameIndex := 108, descriptorIndex := 109, attributes := #[] }, { accessFlags := 25, nameIndex := 294, descriptorIndex := 25, attributes := #[] }])
  fields := #[{ name := "U", type := (.object "jdk/internal/misc/Unsafe"), accessFlags := 24, slot := 0, constantValue := 0 }, { name := "BIG_ENDIAN", type := .boolean, accessFlags := 26, slot := 1, constantValue := 0 }, { name := "LOG2_ARRAY_BOOLEAN_INDEX_SCALE", type := .int, accessFlags := 25, slot := 2, constantValue := 0 }, { name := "LOG2_ARRAY_BYTE_INDEX_SCALE", type := .int, accessFlags := 25, slot := 3, constantValue := 0 }, { name := "LOG2_ARRAY_CHAR_INDEX_SCALE", type := .int, accessFlags := 25, slot := 4, constantValue := 0 }, { name := "LOG2_ARRAY_SHORT_INDEX_SCALE", type := .int, accessFlags := 25, slot := 5, constantValue := 0 }, { name := "LOG2_ARRAY_INT_INDEX_SCALE", type := .int, accessFlags := 25, slot := 6, constantValue := 0 }, { name := "LOG2_ARRAY_LONG_INDEX_SCALE", type := .int, accessFlags := 25, slot := 7, constantValue := 0 }, { name := "LOG2_ARRAY_FLOAT_INDEX_SCALE", type := .int, accessFlags := 25, slot := 8, constantValue := 0 }, { name := "LOG2_ARRAY_DOUBLE_INDEX_SCALE", type := .int, accessFlags := 25, slot := 9, constantValue := 0 }, { name := "LOG2_BYTE_BIT_SIZE", type := .int, accessFlags := 26, slot := 10, constantValue := 0 }, { name := "T_BOOLEAN", type := .int, accessFlags := 25, slot := 11, constantValue := 0 }, { name := "T_CHAR", type := .int, accessFlags := 25, slot := 12, constantValue := 0 }, { name := "T_FLOAT", type := .int, accessFlags := 25, slot := 13, constantValue := 0 }, { name := "T_DOUBLE", type := .int, accessFlags := 25, slot := 14, constantValue := 0 }, { name := "T_BYTE", type := .int, accessFlags := 25, slot := 15, constantValue := 0 }, { name := "T_SHORT", type := .int, accessFlags := 25, slot := 16, constantValue := 0 }, { name := "T_INT", type := .int, accessFlags := 25, slot := 17, constantValue := 0 }, { name := "T_LONG", type := .int, accessFlags := 25, slot := 18, constantValue := 0 }, { name := "JLA", type := (.object "jdk/internal/access/JavaLangAccess"), accessFlags := 26, slot := 19, constantValue := 0 }, { name := "SOFT_MAX_ARRAY_LENGTH", type := .int, accessFlags := 25, slot := 20, constantValue := 0 }]
  methods := #[k15m0]
  instanceTypes := #[]
  staticTypes := #[(.object "jdk/internal/misc/Unsafe"), .boolean, .int, .int, .int, .int, .int, .int, .int, .int, .int, .int, .int, .int, .int, .int, .int, .int, .int, (.object "jdk/internal/access/JavaLangAccess"), .int]
  resolved := Array.replicate 378 none
  statics := none }

def pool16 : Array CpInfo := pool [(1, u "java/lang/Cloneable"), (0, .class_ 1), (0, u "java/lang/Object"), (0, .class_ 3)] 3

/-- java/lang/Cloneable -/
def k16 : Class := { plain "java/lang/Cloneable" (some 0) with
  accessFlags := 1537
  interfaces := #[]
  cf := some (fileOf pool16 2 #[] #[] 1537 4 #[] #[])
  fields := #[]
  methods := #[]
  instanceTypes := #[]
  staticTypes := #[]
  resolved := Array.replicate 8 none
  statics := none }

/-- the primitive byte -/
def k17 : Class := { plain "byte" none with kind := .primitive 'B', accessFlags := 0x411 }
/-- [B -/
def k18 : Class := { plain "[B" (some 0) with kind := .array 17 .byte, interfaces := #[16, 4], accessFlags := 1041 }

/-- the primitive char -/
def k19 : Class := { plain "char" none with kind := .primitive 'C', accessFlags := 0x411 }
/-- [C -/
def k20 : Class := { plain "[C" (some 0) with kind := .array 19 .char, interfaces := #[16, 4], accessFlags := 1041 }

/-- the primitive int -/
def k21 : Class := { plain "int" none with kind := .primitive 'I', accessFlags := 0x411 }
/-- [I -/
def k22 : Class := { plain "[I" (some 0) with kind := .array 21 .int, interfaces := #[16, 4], accessFlags := 1041 }

def heap : Heap := #[{ cls := 6, slots := #[.ref 4, .ref 3, .null], vm := .statics 6 },
  { cls := 9, slots := #[.long 0, .int 1, .null, .int 0, .null, .int 0, .int 0], vm := .statics 9 },
  { cls := 14, slots := #[.null, .null, .null], vm := .statics 14 },
  { cls := 6, slots := #[.null, .int 0, .int 0, .null], vm := .none },
  { cls := 6, slots := #[.null, .int 0, .int 0, .null], vm := .none }]
def classes : Array Class := #[k0, k1, k2, k3, k4, k5, k6, k7, k8, k9, k10, k11, k12, k13, k14, k15, k16, k17, k18, k19, k20, k21, k22]
def interned : List (Array UInt16 × Addr) := []
def slotsUsed : Nat := 21
def theMethod : MethodId := ⟨1, 2⟩
def args0 : Array Value := #[.int 5, .int 6, .int 7, .long 8, .int 9, .int 10]
def aboutOver (below : List Frame) : State where
  vm := { classes := classes, interned := interned.toArray }
  heap := heap
  slotsUsed := slotsUsed
  threads := #[{ frames := .invoking theMethod args0 :: below }]
def below0 : List Frame := [.native { method := ⟨0, 0⟩, args := #[] }]
def about1 : State := aboutOver below0
def p0 : Program := .bare "" "" ""
def e0 : Env := launch0.env 0 0 0
theorem w_frames : about1.frames = Frame.invoking theMethod args0 :: below0 := rfl
set_option maxRecDepth 65536 in
theorem w_args : argsFit about1.vm theMethod args0 = true := by decide +kernel
set_option maxRecDepth 65536 in
theorem w_heap : heapFits about1 = true := by decide +kernel
set_option maxRecDepth 65536 in
theorem w_runnable : about1.curStatus? = some .runnable := by decide +kernel
set_option maxRecDepth 65536 in
theorem w_alone : about1.alone = true := by decide +kernel
set_option maxRecDepth 65536 in
theorem w_named : about1.methodNamed? x = some theMethod := by decide +kernel
set_option maxRecDepth 65536 in
theorem w_hears : about1.hears theMethod below0 = true := by decide +kernel
set_option maxRecDepth 65536 in
theorem w_ripe : about1.ripe theMethod args0 below0 = true := by decide +kernel
theorem w_running : about1.status = .running := rfl
set_option maxRecDepth 65536 in
theorem w_room : about1.hasRoom e0.platform room_1 = true :=
  launch0.hasRoom_least _ room_1 (by decide +kernel) (by decide +kernel) (by decide +kernel) (by decide +kernel) (by decide +kernel) (by decide +kernel)
theorem allAtoms_all (ts : List Jvm.Cond) (a : Array Jvm.Value) (st : Jvm.State) : (allAtoms ts).before a st = ts.all (fun c => c.before a st) := by
  induction ts with
  | nil => rfl
  | cons c t ih =>
    show (Jvm.Cond.and c (allAtoms t)).before a st = _
    rw [Jvm.Cond.before_and, ih, List.all_cons]
def words1 : List Jvm.Cond := Jvm.Cond.code x code maxLocals ret :: tables_1
/-- a 'code' word, met by the world's own term for the bytes: nothing is compared byte by byte -/
theorem code_word {y : MethodName} {bytes : ByteArray} {mx : Nat} {rt : Option FieldType} {a : Array Value} {s : State} {m : MethodId} {meth : Method} {c : Code} (h1 : s.methodNamed? y = some m) (h2 : s.vm.method? m = some meth) (h3 : meth.code = some c) (h4 : c.code = bytes)
    (h5 : (c.maxLocals == mx && c.exceptionTable.isEmpty && decide (c.maxStack ≤ mostOperands) && decide (meth.sig.returnType = rt) && !meth.locks && decide (parseMethodDescriptor y.desc = some meth.sig)) = true) : (Jvm.Cond.code y bytes mx rt).before a s = true := by
  simp only [Bool.and_eq_true, beq_iff_eq, Bool.not_eq_true', decide_eq_true_eq] at h5
  obtain ⟨⟨⟨⟨⟨g1, g2⟩, g3⟩, g4⟩, g5⟩, g6⟩ := h5
  simp [Cond.before, Cond.holds, Cond.value, h1, h2, h3, h4, g1, g2, g3, g4, g5, g6]
def isCode : Jvm.Cond → Bool
  | .code _ _ _ _ => true
  | _ => false
theorem all_split {L : List Jvm.Cond} {P : Jvm.Cond → Bool} (h1 : L.all (fun c => isCode c || P c) = true) (h2 : ∀ c ∈ L.filter isCode, P c = true) : L.all P = true := by
  refine List.all_eq_true.mpr fun c hc => ?_
  have h := List.all_eq_true.mp h1 c hc
  rcases Bool.eq_false_or_eq_true (isCode c) with hi | hi
  · exact h2 c (List.mem_filter.mpr ⟨hc, hi⟩)
  · simpa [hi] using h
set_option maxRecDepth 65536 in
theorem w_c0 : (Jvm.Cond.code x code maxLocals ret).before args0 about1 = true := code_word (m := ⟨1, 2⟩) (meth := k1m2) (c := k1c2) (by decide +kernel) rfl rfl rfl (by decide +kernel)
set_option maxRecDepth 65536 in
theorem w_c1 : (Jvm.Cond.code ({ cls := "com/example/arvi/arvi/model/PurchaseDetailsIsConsumedPinLaw", name := "pickState", desc := "(II)I" } : Jvm.MethodName) method_2_code (3 : Nat) (Option.some Jvm.ClassFile.FieldType.int)).before args0 about1 = true := code_word (m := ⟨1, 1⟩) (meth := k1m1) (c := k1c1) (by decide +kernel) rfl rfl rfl (by decide +kernel)
set_option maxRecDepth 65536 in
theorem w_c2 : (Jvm.Cond.code ({ cls := "java/lang/String", name := "<init>", desc := "([C)V" } : Jvm.MethodName) jdk_42_method_3_code (2 : Nat) (Option.none : Option Jvm.ClassFile.FieldType)).before args0 about1 = true := code_word (m := ⟨9, 1⟩) (meth := k9m1) (c := k9c1) (by decide +kernel) rfl rfl rfl (by decide +kernel)
set_option maxRecDepth 65536 in
theorem w_c3 : (Jvm.Cond.code ({ cls := "java/lang/String", name := "<init>", desc := "([CIILjava/lang/Void;)V" } : Jvm.MethodName) jdk_42_method_149_code (6 : Nat) (Option.none : Option Jvm.ClassFile.FieldType)).before args0 about1 = true := code_word (m := ⟨9, 2⟩) (meth := k9m2) (c := k9c2) (by decide +kernel) rfl rfl rfl (by decide +kernel)
set_option maxRecDepth 65536 in
theorem w_c4 : (Jvm.Cond.code ({ cls := "java/lang/Object", name := "<init>", desc := "()V" } : Jvm.MethodName) object_method_1_code (1 : Nat) (Option.none : Option Jvm.ClassFile.FieldType)).before args0 about1 = true := code_word (m := ⟨0, 0⟩) (meth := k0m0) (c := k0c0) (by decide +kernel) rfl rfl rfl (by decide +kernel)
set_option maxRecDepth 65536 in
theorem w_c5 : (Jvm.Cond.code ({ cls := "java/lang/StringUTF16", name := "compress", desc := "([CII)[B" } : Jvm.MethodName) jdk_52_method_16_code (6 : Nat) (Option.some (Jvm.ClassFile.FieldType.array Jvm.ClassFile.FieldType.byte))).before args0 about1 = true := code_word (m := ⟨10, 2⟩) (meth := k10m2) (c := k10c2) (by decide +kernel) rfl rfl rfl (by decide +kernel)
set_option maxRecDepth 65536 in
theorem w_c6 : (Jvm.Cond.code ({ cls := "java/lang/StringUTF16", name := "compress", desc := "([CI[BII)I" } : Jvm.MethodName) jdk_52_method_21_code (7 : Nat) (Option.some Jvm.ClassFile.FieldType.int)).before args0 about1 = true := code_word (m := ⟨10, 3⟩) (meth := k10m3) (c := k10c3) (by decide +kernel) rfl rfl rfl (by decide +kernel)
set_option maxRecDepth 65536 in
theorem w_c7 : (Jvm.Cond.code ({ cls := "java/lang/StringUTF16", name := "coderFromArrayLen", desc := "([BI)B" } : Jvm.MethodName) jdk_52_method_15_code (2 : Nat) (Option.some Jvm.ClassFile.FieldType.byte)).before args0 about1 = true := code_word (m := ⟨10, 1⟩) (meth := k10m1) (c := k10c1) (by decide +kernel) rfl rfl rfl (by decide +kernel)
set_option maxRecDepth 65536 in
theorem w_c8 : (Jvm.Cond.code ({ cls := "com/example/arvi/arvi/model/PurchaseDetails", name := "<init>", desc := "(ILjava/lang/String;IJLjava/lang/String;IILcom/example/arvi/arvi/model/Market;)V" } : Jvm.MethodName) prog_24_method_1_code (10 : Nat) (Option.none : Option Jvm.ClassFile.FieldType)).before args0 about1 = true := code_word (m := ⟨11, 0⟩) (meth := k11m0) (c := k11c0) (by decide +kernel) rfl rfl rfl (by decide +kernel)
set_option maxRecDepth 65536 in
theorem w_c9 : (Jvm.Cond.code ({ cls := "java/util/Objects", name := "requireNonNull", desc := "(Ljava/lang/Object;Ljava/lang/String;)Ljava/lang/Object;" } : Jvm.MethodName) jdk_31_method_11_code (2 : Nat) (Option.some (Jvm.ClassFile.FieldType.object "java/lang/Object"))).before args0 about1 = true := code_word (m := ⟨12, 1⟩) (meth := k12m1) (c := k12c1) (by decide +kernel) rfl rfl rfl (by decide +kernel)
set_option maxRecDepth 65536 in
theorem w_c10 : (Jvm.Cond.code ({ cls := "com/example/arvi/arvi/model/PurchaseDetails", name := "isConsumed", desc := "()Z" } : Jvm.MethodName) prog_24_method_10_code (1 : Nat) (Option.some Jvm.ClassFile.FieldType.boolean)).before args0 about1 = true := code_word (m := ⟨11, 2⟩) (meth := k11m2) (c := k11c2) (by decide +kernel) rfl rfl rfl (by decide +kernel)
set_option maxRecDepth 65536 in
theorem w_c11 : (Jvm.Cond.code ({ cls := "com/example/arvi/arvi/model/PurchaseDetails", name := "consumptionState", desc := "()I" } : Jvm.MethodName) prog_24_method_2_code (1 : Nat) (Option.some Jvm.ClassFile.FieldType.int)).before args0 about1 = true := code_word (m := ⟨11, 1⟩) (meth := k11m1) (c := k11c1) (by decide +kernel) rfl rfl rfl (by decide +kernel)
set_option maxRecDepth 65536 in
theorem w_c12 : (Jvm.Cond.code ({ cls := "com/example/arvi/arvi/model/PurchaseDetails", name := "isAcknowledged", desc := "()Z" } : Jvm.MethodName) prog_24_method_11_code (1 : Nat) (Option.some Jvm.ClassFile.FieldType.boolean)).before args0 about1 = true := code_word (m := ⟨11, 3⟩) (meth := k11m3) (c := k11c3) (by decide +kernel) rfl rfl rfl (by decide +kernel)
def codes1 : List Jvm.Cond := [Jvm.Cond.code x code maxLocals ret, Jvm.Cond.code ({ cls := "com/example/arvi/arvi/model/PurchaseDetailsIsConsumedPinLaw", name := "pickState", desc := "(II)I" } : Jvm.MethodName) method_2_code (3 : Nat) (Option.some Jvm.ClassFile.FieldType.int), Jvm.Cond.code ({ cls := "java/lang/String", name := "<init>", desc := "([C)V" } : Jvm.MethodName) jdk_42_method_3_code (2 : Nat) (Option.none : Option Jvm.ClassFile.FieldType), Jvm.Cond.code ({ cls := "java/lang/String", name := "<init>", desc := "([CIILjava/lang/Void;)V" } : Jvm.MethodName) jdk_42_method_149_code (6 : Nat) (Option.none : Option Jvm.ClassFile.FieldType), Jvm.Cond.code ({ cls := "java/lang/Object", name := "<init>", desc := "()V" } : Jvm.MethodName) object_method_1_code (1 : Nat) (Option.none : Option Jvm.ClassFile.FieldType), Jvm.Cond.code ({ cls := "java/lang/StringUTF16", name := "compress", desc := "([CII)[B" } : Jvm.MethodName) jdk_52_method_16_code (6 : Nat) (Option.some (Jvm.ClassFile.FieldType.array Jvm.ClassFile.FieldType.byte)), Jvm.Cond.code ({ cls := "java/lang/StringUTF16", name := "compress", desc := "([CI[BII)I" } : Jvm.MethodName) jdk_52_method_21_code (7 : Nat) (Option.some Jvm.ClassFile.FieldType.int), Jvm.Cond.code ({ cls := "java/lang/StringUTF16", name := "coderFromArrayLen", desc := "([BI)B" } : Jvm.MethodName) jdk_52_method_15_code (2 : Nat) (Option.some Jvm.ClassFile.FieldType.byte), Jvm.Cond.code ({ cls := "com/example/arvi/arvi/model/PurchaseDetails", name := "<init>", desc := "(ILjava/lang/String;IJLjava/lang/String;IILcom/example/arvi/arvi/model/Market;)V" } : Jvm.MethodName) prog_24_method_1_code (10 : Nat) (Option.none : Option Jvm.ClassFile.FieldType), Jvm.Cond.code ({ cls := "java/util/Objects", name := "requireNonNull", desc := "(Ljava/lang/Object;Ljava/lang/String;)Ljava/lang/Object;" } : Jvm.MethodName) jdk_31_method_11_code (2 : Nat) (Option.some (Jvm.ClassFile.FieldType.object "java/lang/Object")), Jvm.Cond.code ({ cls := "com/example/arvi/arvi/model/PurchaseDetails", name := "isConsumed", desc := "()Z" } : Jvm.MethodName) prog_24_method_10_code (1 : Nat) (Option.some Jvm.ClassFile.FieldType.boolean), Jvm.Cond.code ({ cls := "com/example/arvi/arvi/model/PurchaseDetails", name := "consumptionState", desc := "()I" } : Jvm.MethodName) prog_24_method_2_code (1 : Nat) (Option.some Jvm.ClassFile.FieldType.int), Jvm.Cond.code ({ cls := "com/example/arvi/arvi/model/PurchaseDetails", name := "isAcknowledged", desc := "()Z" } : Jvm.MethodName) prog_24_method_11_code (1 : Nat) (Option.some Jvm.ClassFile.FieldType.boolean)]
set_option maxRecDepth 65536 in
theorem codes_eq : words1.filter isCode = codes1 := rfl
theorem w_codes : ∀ c ∈ words1.filter isCode, c.before args0 about1 = true := by
  rw [codes_eq]
  intro c hc
  simp only [codes1, List.mem_cons, List.not_mem_nil, or_false] at hc
  rcases hc with rfl | rfl | rfl | rfl | rfl | rfl | rfl | rfl | rfl | rfl | rfl | rfl | rfl
  · exact w_c0
  · exact w_c1
  · exact w_c2
  · exact w_c3
  · exact w_c4
  · exact w_c5
  · exact w_c6
  · exact w_c7
  · exact w_c8
  · exact w_c9
  · exact w_c10
  · exact w_c11
  · exact w_c12
set_option maxRecDepth 65536 in
theorem w_t1 : (words1.take 24).all (fun c => isCode c || c.before args0 about1) = true := by decide +kernel
set_option maxRecDepth 65536 in
theorem w_t2 : ((words1.drop 24).take 24).all (fun c => isCode c || c.before args0 about1) = true := by decide +kernel
set_option maxRecDepth 65536 in
theorem w_t3 : (((words1.drop 24).drop 24).take 24).all (fun c => isCode c || c.before args0 about1) = true := by decide +kernel
set_option maxRecDepth 65536 in
theorem w_t4 : (((words1.drop 24).drop 24).drop 24).all (fun c => isCode c || c.before args0 about1) = true := by decide +kernel
theorem w_tables : (allAtoms (Jvm.Cond.code x code maxLocals ret :: tables_1)).before args0 about1 = true := by
  rw [allAtoms_all]
  show words1.all (fun c => c.before args0 about1) = true
  refine all_split ?_ w_codes
  rw [← List.take_append_drop 24 words1, List.all_append, w_t1, ← List.take_append_drop 24 (words1.drop 24), List.all_append, w_t2, ← List.take_append_drop 24 ((words1.drop 24).drop 24), List.all_append, w_t3, w_t4]
  rfl
set_option maxRecDepth 65536 in
theorem w_rest : rest_1_c.before args0 about1 = true := by decide +kernel
set_option maxRecDepth 65536 in
theorem w_case : (Jvm.Cond.and given_1 narrow_1).before args0 about1 = true := by decide +kernel
theorem w_applies : (headSpec (Jvm.Cond.code x code maxLocals ret :: tables_1) room_1).applies x e0.platform about1 = true :=
  (Spec.applies_iff w_frames).mpr ⟨w_running, w_runnable, w_alone, w_named, w_hears, w_ripe, w_room, w_tables⟩
theorem atStart : AtStart classFile x code maxLocals ret World_1 tables_1 room_1 Calls_1 rest_1 Pre_1 launch0 p0 e0 about1 theMethod args0 below0 :=
  ⟨lists_1, trivial, launch0.admits_env _ _ _, launch0.least_env, fairChoices_fair.cas, fairChoices_fair.clock, w_frames, w_args, w_heap, w_applies, trivial, w_rest, w_case⟩
end start1
theorem witness_1 : WitnessClaimed_1 := ⟨start1.p0, start1.e0, start1.about1, start1.theMethod, start1.args0, start1.below0, start1.atStart⟩
end Jvm.Pilot.@@N@@
