import JvmDerived
import JvmDerived.Pilot.@@N@@Statement
import JvmDerived.Pilot.@@N@@Code
set_option linter.unusedVariables false
set_option linter.unusedSimpArgs false
namespace Jvm.Pilot.@@N@@
open Jvm Jvm.ClassFile Sem Op Lib Jvm.Free Jvm.Stand Jvm.LawKit Jvm.RoadKit Bundle Jvm.Pilot.@@N@@.Jvm.D
/-- from T the run goes on to an end of which Qf says what it is -/
def Goes (tb : Tables) (e : Env) (below : List Frame) (Qf : Outcome → State → Prop) (T : State) : Prop := ∃ s₂ o, Steps tb e below T s₂ ∧ s₂.status = .running ∧ Ended s₂ below o ∧ Qf o s₂
theorem Goes.to {tb : Tables} {e : Env} {below : List Frame} {Qf : Outcome → State → Prop} {T T' : State} (k : ∀ t, Steps tb e below T' t → Steps tb e below T t) (h : Goes tb e below Qf T') : Goes tb e below Qf T := by
  obtain ⟨s, o, h1, h2⟩ := h; exact ⟨s, o, k s h1, h2⟩
theorem Goes.thru {tb : Tables} {e : Env} {below : List Frame} {Qf : Outcome → State → Prop} {T T' : State} (k : Steps tb e below T T') (h : Goes tb e below Qf T') : Goes tb e below Qf T := by
  obtain ⟨s, o, h1, h2⟩ := h; exact ⟨s, o, k.trans h1, h2⟩
theorem own_old {Z : State} {n0 : Nat} {h : Heap} (O : Old Z n0 h) : n0 ≤ h.size := O.1 ▸ O.2.1
theorem own_ext_keep {h h' : Heap} (K : Keep h h' []) : Ext h h' := ⟨K.1, fun a c q => K.2.1 a c q nin0⟩
theorem own_nsroot {Z : State} {a0 : Array Value} {O K : String} {n : Nat} (w : (Jvm.Cond.noSuperclass O).before a0 Z = true) (wk : (Jvm.Cond.instantiable K n).before a0 Z = true) (hn : O ≠ K) : NS Z O K := by
  obtain ⟨c, k, h1, h2, h3, -, -⟩ := Cond.noSuperclass_spec w
  obtain ⟨t, k2, g1, -⟩ := Cond.instantiable_spec wk
  have ne := ids_ne h1 g1 hn
  refine ⟨c, t, h1, g1, fun fuel => ?_⟩
  cases fuel with
  | zero => rfl
  | succ f => simp [Vm.isSubclassAux, ne, h2, h3]
theorem own_nsno {Z : State} {a0 : Array Value} {C S K : String} {n : Nat} (w : (Jvm.Cond.superclass C S).before a0 Z = true) (wk : (Jvm.Cond.instantiable K n).before a0 Z = true) (ns : NS Z C K) (hn : C ≠ K) : ∃ c t, Z.vm.findClass C = some c ∧ Z.vm.findClass K = some t ∧ Z.vm.assignable c t = false := by
  obtain ⟨c, t, h0, g0, n3⟩ := ns
  obtain ⟨p, k, kp, h1, h2, h3, h4, h5, -, h7⟩ := Cond.superclass_spec h0 w
  obtain ⟨t', k', g1, g2, g5, g7, -⟩ := Cond.instantiable_spec wk
  cases g0.symm.trans g1
  have ne := ids_ne h0 g0 hn
  refine ⟨c, t, h0, g0, ?_⟩
  show Z.vm.assignableAux (255 + 1) c t = false
  simp [Vm.assignableAux, ne, h2, g2, h5, g5, (Bool.or_eq_false_iff.mp g7).1, Vm.isSubclass, n3]
theorem own_selp {s : State} {args : Array Value} {y : MethodName} {n : Nat} (wi : (Jvm.Cond.instantiable y.cls n).before args s = true) (hp : (Jvm.Cond.privateMethod y).before args s = true) (hinst : (Jvm.Cond.instanceMethod y).before args s = true) (hy : y.cls ≠ "java/lang/invoke/MethodHandle" ∧ y.cls ≠ "java/lang/invoke/VarHandle") : (Jvm.Cond.selects y.cls y y).before args s = true := by
  obtain ⟨c, k, h1, h2, -, h4, -⟩ := Cond.instantiable_spec wi
  exact selects_self_of_private h1 h2 (Bool.or_eq_false_iff.mp h4).1 (Cond.privateMethod_at hp) hinst hy
theorem own_keep_ext {h h' : Heap} (E : Ext h h') : Keep h h' [] := (Keep.refl h []).ext E
section OwnF
open Jvm.FP.Core Jvm.Free.Fl
/-- a finite double of sign + and of magnitude m, in least units -/
def Mg (x : UInt64) (m : Nat) : Prop := (∃ c q, val64 x = .fin false c q) ∧ zmag b64 (val64 x) = m
variable {a b x V W : UInt64} {m k v w : Nat}
theorem Mg.fin (h : Mg x m) : DFin x := by obtain ⟨⟨c, q, e⟩, -⟩ := h; exact ⟨_, c, q, e⟩
theorem Mg.nn (h : Mg x m) : val64 x ≠ .nan := h.fin.ne_nan
theorem Mg.no (h : Mg x m) : NoNaN64 x := noNaN64_no.mpr h.fin.notNaN
theorem mg_of {A B : Nat} {e : Int} (hx : val64 x = roundRatio b64 false A B e) (hW : Mg W w) (hle : zmag b64 (val64 x) ≤ w) : Mg x (zmag b64 (val64 x)) := by
  refine ⟨?_, rfl⟩
  rcases roundRatio_cases b64 false A B e with ⟨c, q, h⟩ | h
  · exact ⟨c, q, hx.trans h⟩
  · exfalso
    rw [hx, h] at hle
    obtain ⟨⟨c, q, e1⟩, rfl⟩ := hW
    have f1 := val64_fits W
    rw [e1] at f1 hle
    exact absurd hle (Nat.not_le_of_lt (zmag_lt_top good_b64 f1))
theorem pow2q : 2 ^ (b64.qmin - 2 * b64.qmin).toNat = one64 := by
  rw [show b64.qmin - 2 * b64.qmin = -b64.qmin by omega]; exact pow_qmin64
theorem mg_mul_raw (ha : Mg a m) (hb : Mg b k) : ∃ A e, val64 (FP.dmul a b) = roundRatio b64 false A 1 e ∧ 2 * b64.qmin ≤ e ∧ inUnits A e (2 * b64.qmin) = m * k := by
  obtain ⟨⟨c, q, e1⟩, h1⟩ := ha
  obtain ⟨⟨d, r, e2⟩, h2⟩ := hb
  have f1 := val64_fits a
  have f2 := val64_fits b
  rw [e1] at f1 h1
  rw [e2] at f2 h2
  obtain ⟨p1, p2, p3⟩ := product_units f1 f2
  refine ⟨c * d, q + r, ?_, p2, by rw [p3, h1, h2]⟩
  rw [val64_dmul, e1, e2, p1]; rfl
theorem mg_mul_ge (ha : Mg a m) (hb : Mg b k) (hV : Mg V v) (h : v * one64 ≤ m * k) : v ≤ zmag b64 (val64 (FP.dmul a b)) := by
  obtain ⟨A, e, q1, q2, q3⟩ := mg_mul_raw ha hb
  rw [q1, ← hV.2]
  have hq : b64.qmin < 0 := qmin_neg good_b64
  refine zmag_roundRatio_ge good_b64 (by decide) (val64_fits V) (e0 := 2 * b64.qmin) (by omega) q2 ?_
  rw [q3, hV.2, Nat.mul_one, pow2q]; exact h
theorem mg_mul_le (ha : Mg a m) (hb : Mg b k) (hV : Mg V v) (h : m * k ≤ v * one64) : zmag b64 (val64 (FP.dmul a b)) ≤ v := by
  obtain ⟨A, e, q1, q2, q3⟩ := mg_mul_raw ha hb
  rw [q1, ← hV.2]
  have hq : b64.qmin < 0 := qmin_neg good_b64
  refine zmag_roundRatio_le good_b64 (by decide) (val64_fits V) hV.nn (e0 := 2 * b64.qmin) (by omega) q2 ?_
  rw [q3, hV.2, Nat.mul_one, pow2q]; exact h
theorem mg_mul (ha : Mg a m) (hb : Mg b k) (hV : Mg V v) (hW : Mg W w) (h1 : v * one64 ≤ m * k) (h2 : m * k ≤ w * one64) : ∃ z, Mg (FP.dmul a b) z ∧ v ≤ z ∧ z ≤ w := by
  obtain ⟨A, e, q1, -⟩ := mg_mul_raw ha hb
  exact ⟨_, mg_of q1 hW (mg_mul_le ha hb hW h2), mg_mul_ge ha hb hV h1, mg_mul_le ha hb hW h2⟩
theorem mg_div_raw (ha : Mg a m) (hb : Mg b k) (hk : 0 < k) : ∃ A B e e0, val64 (FP.ddiv a b) = roundRatio b64 false A B e ∧ 0 < B ∧ e0 ≤ b64.qmin ∧ e0 ≤ e ∧ inUnits A e e0 = m * one64 ∧ 2 ^ (b64.qmin - e0).toNat * B = k := by
  obtain ⟨⟨c, q, e1⟩, h1⟩ := ha
  obtain ⟨⟨d, r, e2⟩, h2⟩ := hb
  have f1 := val64_fits a
  have f2 := val64_fits b
  rw [e1] at f1 h1
  rw [e2] at f2 h2
  have hd0 : d ≠ 0 := by
    rintro rfl
    have : zmag b64 (.fin false 0 r) = 0 := Nat.zero_mul _
    omega
  have x1 := f1.2.1
  have y1 := f2.2.1
  have hq : b64.qmin < 0 := qmin_neg good_b64
  refine ⟨c, d, q - r, 2 * b64.qmin - r, ?_, Nat.pos_of_ne_zero hd0, by omega, by omega, ?_, ?_⟩
  · rw [val64_ddiv, e1, e2]
    simp only [quotient, if_neg hd0]; rfl
  · rw [← h1, ← pow_qmin64]
    show c * _ = c * _ * _
    rw [Nat.mul_assoc, ← Nat.pow_add]; congr 2; omega
  · rw [← h2]
    show _ = d * _
    rw [Nat.mul_comm]; congr 2; omega
theorem mg_div_ge (ha : Mg a m) (hb : Mg b k) (hk : 0 < k) (hV : Mg V v) (h : v * k ≤ m * one64) : v ≤ zmag b64 (val64 (FP.ddiv a b)) := by
  obtain ⟨A, B, e, e0, q1, q2, q3, q4, q5, q6⟩ := mg_div_raw ha hb hk
  rw [q1, ← hV.2]
  refine zmag_roundRatio_ge good_b64 q2 (val64_fits V) q3 q4 ?_
  rw [q5, Nat.mul_assoc, q6, hV.2]; exact h
theorem mg_div_le (ha : Mg a m) (hb : Mg b k) (hk : 0 < k) (hV : Mg V v) (h : m * one64 ≤ v * k) : zmag b64 (val64 (FP.ddiv a b)) ≤ v := by
  obtain ⟨A, B, e, e0, q1, q2, q3, q4, q5, q6⟩ := mg_div_raw ha hb hk
  rw [q1, ← hV.2]
  refine zmag_roundRatio_le good_b64 q2 (val64_fits V) hV.nn q3 q4 ?_
  rw [q5, Nat.mul_assoc, q6, hV.2]; exact h
theorem mg_div (ha : Mg a m) (hb : Mg b k) (hk : 0 < k) (hV : Mg V v) (hW : Mg W w) (h1 : v * k ≤ m * one64) (h2 : m * one64 ≤ w * k) : ∃ z, Mg (FP.ddiv a b) z ∧ v ≤ z ∧ z ≤ w := by
  obtain ⟨A, B, e, e0, q1, -⟩ := mg_div_raw ha hb hk
  exact ⟨_, mg_of q1 hW (mg_div_le ha hb hk hW h2), mg_div_ge ha hb hk hV h1, mg_div_le ha hb hk hW h2⟩
theorem mg_l2d {n : Int64} (h0 : 0 ≤ n.toInt) (h1 : n.toInt ≤ 9007199254740992) : Mg (FP.l2d n) (n.toInt.toNat * one64) := by
  obtain ⟨c, q, e⟩ := l2d_shape n
  have hs : decide (n.toInt < 0) = false := decide_eq_false (by omega)
  rw [hs] at e
  have z := DInt_zval (l2d_int (a := n) (by omega))
  refine ⟨⟨c, q, e⟩, ?_⟩
  rw [e] at z ⊢
  have z2 : ((zmag b64 (.fin false c q) : Nat) : Int) = n.toInt * (one64 : Int) := z
  apply Int.ofNat.inj
  show ((zmag b64 (.fin false c q) : Nat) : Int) = ((n.toInt.toNat * one64 : Nat) : Int)
  rw [z2, Int.natCast_mul, Int.toNat_of_nonneg h0]
theorem mg_d2l (h : Mg x m) (hm : m ≤ 4611686018427387904 * one64) : (FP.d2l x).toInt = ((m / one64 : Nat) : Int) := by
  have q := d2l_val h.nn
  obtain ⟨⟨c, r, e⟩, h2⟩ := h
  rw [h2, e] at q
  have hb : m / one64 ≤ 4611686018427387904 := Nat.div_le_of_le_mul (by rw [Nat.mul_comm]; exact hm)
  rw [q]
  show max _ (min _ ((m / one64 : Nat) : Int)) = _
  clear q
  generalize m / one64 = t at hb ⊢
  omega
theorem mg_1 : Mg 4607182418800017408 one64 := ⟨⟨4503599627370496, -52, by decide +kernel⟩, by decide +kernel⟩
theorem mg_2 : Mg 4611686018427387904 (2 * one64) := ⟨⟨4503599627370496, -51, by decide +kernel⟩, by decide +kernel⟩
theorem mg_2m : Mg 4611686018427387903 (9007199254740991 * 2 ^ 1022) := ⟨⟨9007199254740991, -52, by decide +kernel⟩, by decide +kernel⟩
theorem mg_31 : Mg 4746794007248502784 (2147483648 * one64) := ⟨⟨4503599627370496, -21, by decide +kernel⟩, by decide +kernel⟩
theorem mg_62 : Mg 4886405595696988160 (4611686018427387904 * one64) := ⟨⟨4503599627370496, 10, by decide +kernel⟩, by decide +kernel⟩
theorem mg_ex (c : Nat) (q : Int) (hc : c < 2 ^ 53) (h1 : -1074 ≤ q) (h2 : q ≤ 971) : ∃ V, Mg V (c * 2 ^ (q + 1074).toNat) := by
  have e1 : b64.qmin = -1074 := qmin_b64
  have e2 : b64.qmax = 971 := by decide
  obtain ⟨c', q', r1, r2⟩ := round_exact good_b64 false (c := c) (q := q) hc (by rw [e1]; exact h1) (by rw [e2]; exact h2)
  have hv : val64 (of64 (round b64 (.fin false c q))) = .fin false c' q' := (val64_of64 (round_fits good_b64 _)).trans r1
  refine ⟨of64 (round b64 (.fin false c q)), ⟨c', q', hv⟩, ?_⟩
  rw [hv]
  show inUnits c' q' b64.qmin = _
  rw [r2]
  show c * 2 ^ (q - b64.qmin).toNat = _
  rw [e1, Int.sub_neg]
theorem mg_div_eq (ha : Mg a m) (hb : Mg b k) (hk : 0 < k) (hV : Mg V v) (h : v * k = m * one64) : Mg (FP.ddiv a b) v := by
  obtain ⟨z, Z, z1, z2⟩ := mg_div ha hb hk hV hV (Nat.le_of_eq h) (Nat.le_of_eq h.symm)
  rw [Nat.le_antisymm z2 z1] at Z; exact Z
theorem mg_mul_eq (ha : Mg a m) (hb : Mg b k) (hV : Mg V v) (h : v * one64 = m * k) : Mg (FP.dmul a b) v := by
  obtain ⟨z, Z, z1, z2⟩ := mg_mul ha hb hV hV (Nat.le_of_eq h) (Nat.le_of_eq h.symm)
  rw [Nat.le_antisymm z2 z1] at Z; exact Z
theorem mg_sub_raw (ha : Mg a m) (hb : Mg b k) (hkm : k ≤ m) : ∃ A e, val64 (FP.dsub a b) = roundRatio b64 false A 1 e ∧ b64.qmin ≤ e ∧ inUnits A e b64.qmin = m - k := by
  obtain ⟨⟨c, q, e1⟩, h1⟩ := ha
  obtain ⟨⟨d, r, e2⟩, h2⟩ := hb
  have f1 := val64_fits a
  have f2 := negate_fits (val64_fits b)
  rw [e1] at f1 h1
  rw [e2] at f2 h2
  have f2' : Jvm.FP.Core.fits b64 (Datum.fin true d r) := f2
  obtain ⟨sg, n, e, p1, p2, p3⟩ := sum_units f1 f2'
  have z1 : zval b64 (.fin false c q) = (m : Int) := by rw [← h1]; rfl
  have z2 : zval b64 (.fin true d r) = -(k : Int) := by rw [← h2]; rfl
  rw [z1, z2] at p3
  have hs : sg = false ∨ inUnits n e b64.qmin = 0 := by
    cases sg with
    | false => exact Or.inl rfl
    | true => right; simp only [signed, if_true] at p3; omega
  have hsg : sg = false := by
    have q1 : sg = sumSign false true (sumUnits false c q true d r (min q r)) := by
      have := p1
      simp only [exactSum, Datum.fin.injEq] at this
      exact this.1.symm
    have q2 : n = (sumUnits false c q true d r (min q r)).natAbs := by
      have := p1
      simp only [exactSum, Datum.fin.injEq] at this
      exact this.2.1.symm
    rcases hs with h | h
    · exact h
    · have hn : n = 0 := by
        have := Nat.two_pow_pos (e - b64.qmin).toNat
        rcases Nat.mul_eq_zero.mp (show n * 2 ^ (e - b64.qmin).toNat = 0 from h) with z | z <;> omega
      rw [q1]
      have : sumUnits false c q true d r (min q r) = 0 := by omega
      rw [this]; rfl
  subst hsg
  refine ⟨n, e, ?_, p2, ?_⟩
  · rw [val64_dsub, e1, e2]
    show round b64 (exactSum (.fin false c q) (.fin true d r)) = _
    rw [p1]; rfl
  · have : ((inUnits n e b64.qmin : Nat) : Int) = (m : Int) + -(k : Int) := p3
    omega
theorem mg_sub_eq (ha : Mg a m) (hb : Mg b k) (hkm : k ≤ m) (hV : Mg V (m - k)) : Mg (FP.dsub a b) (m - k) := by
  obtain ⟨A, e, q1, q2, q3⟩ := mg_sub_raw ha hb hkm
  have e0 : 2 ^ (b64.qmin - b64.qmin).toNat = 1 := by rw [Int.sub_self]; rfl
  have g : m - k ≤ zmag b64 (val64 (FP.dsub a b)) := by
    rw [q1, ← hV.2]
    refine zmag_roundRatio_ge good_b64 (by decide) (val64_fits V) (e0 := b64.qmin) (Int.le_refl _) q2 ?_
    rw [q3, hV.2, e0, Nat.mul_one, Nat.mul_one]; exact Nat.le_refl _
  have g2 : zmag b64 (val64 (FP.dsub a b)) ≤ m - k := by
    rw [q1, ← hV.2]
    refine zmag_roundRatio_le good_b64 (by decide) (val64_fits V) hV.nn (e0 := b64.qmin) (Int.le_refl _) q2 ?_
    rw [q3, hV.2, e0, Nat.mul_one, Nat.mul_one]; exact Nat.le_refl _
  have Z := mg_of q1 hV g2
  rw [Nat.le_antisymm g2 g] at Z; exact Z
theorem mg_zval (h : Mg x m) : zval b64 (val64 x) = (m : Int) := by
  obtain ⟨⟨c, q, e⟩, h2⟩ := h
  rw [← h2, e]; rfl
theorem mg_cmp (ha : Mg a m) (hb : Mg b k) (o : Jvm.ClassFile.CmpOp) : cmpValue (FP.dcmp a b) o = if m < k then -1 else if m = k then 0 else 1 := by
  have h : FP.dcmp a b = some (compare (m : Int) (k : Int)) := by
    have := dcmp_zval ha.nn hb.nn
    rw [mg_zval ha, mg_zval hb] at this; exact this
  rw [h, compare_ite]
  by_cases h1 : m < k
  · rw [if_pos h1, if_pos (by omega : (m : Int) < (k : Int))]; rfl
  · rw [if_neg h1, if_neg (by omega : ¬ (m : Int) < (k : Int))]
    by_cases h2 : m = k
    · rw [if_pos h2, if_pos (by omega : (m : Int) = (k : Int))]; rfl
    · rw [if_neg h2, if_neg (by omega : ¬ (m : Int) = (k : Int))]; rfl
theorem mg_i2d {n : Int32} (h0 : 0 ≤ n.toInt) : Mg (FP.i2d n) (n.toInt.toNat * one64) := by
  have e : FP.i2d n = FP.l2d n.toInt64 := i2d_l2d n
  have q := Int32.toInt_lt n
  have r := c_i2l n
  rw [e, ← r]
  exact mg_l2d (by omega) (by omega)
theorem mg_c0 : Mg FP.dconst0 0 := ⟨⟨0, -1074, by decide +kernel⟩, by decide +kernel⟩
theorem mg_c1 : Mg FP.dconst1 one64 := mg_1
theorem mg_26 : Mg 4724276009111650304 (67108864 * one64) := ⟨⟨4503599627370496, -26, by decide +kernel⟩, by decide +kernel⟩
theorem mg_52 : Mg 4841369599423283200 (4503599627370496 * one64) := ⟨⟨4503599627370496, 0, by decide +kernel⟩, by decide +kernel⟩
end OwnF
def jk (key : Int64) : Nat → Int64
  | 0 => key
  | i + 1 => jk key i * (2862933555777941757 : Int64) + (1 : Int64)
def jj (key : Int64) : Nat → Int64
  | 0 => 0
  | i + 1 => FP.d2l (FP.dmul (FP.l2d (jj key i + (1 : Int64))) (FP.ddiv (4746794007248502784 : UInt64) (FP.l2d ((((jk key i * (2862933555777941757 : Int64) + (1 : Int64)).toUInt64 >>> ((33 : Int32) &&& 0x3f).toInt64.toUInt64).toInt64) + (1 : Int64)))))
def Bk (key : Int64) (n : Int) (i : Nat) : Prop := (∀ a, a ≤ i → 0 ≤ (jj key a).toInt ∧ (jj key a).toInt < n) ∧ n ≤ (jj key (i + 1)).toInt
theorem own_r (k : Int64) : 0 ≤ ((k.toUInt64 >>> ((33 : Int32) &&& 0x3f).toInt64.toUInt64).toInt64).toInt ∧ ((k.toUInt64 >>> ((33 : Int32) &&& 0x3f).toInt64.toUInt64).toInt64).toInt < 2147483648 ∧ (1073741824 ≤ ((k.toUInt64 >>> ((33 : Int32) &&& 0x3f).toInt64.toUInt64).toInt64).toInt ↔ k < 0) := by
  have h := c_lushr k 33 33 rfl (by decide)
  have b1 := Int64.toInt_lt k
  have b2 := Int64.le_toInt k
  have e0 : (0 : Int64).toInt = 0 := rfl
  rw [h, Int64.lt_iff_toInt_lt, e0]; omega
theorem own_in {x : Int64} (h0 : 0 ≤ x.toInt) (h1 : x.toInt < 2147483648) : (x + (1 : Int64)).toInt = x.toInt + 1 := by
  have c := c_ladd x 1
  have e1 : (1 : Int64).toInt = 1 := rfl
  have b1 := Int64.toInt_lt (x + 1)
  have b2 := Int64.le_toInt (x + 1)
  omega
theorem own_step (b r : Int64) (h0 : 0 ≤ b.toInt) (h1 : b.toInt < 2147483648) (r0 : 0 ≤ r.toInt) (r1 : r.toInt < 2147483648) :
    Jvm.Free.Fl.NoNaN64 (FP.ddiv (4746794007248502784 : UInt64) (FP.l2d (r + (1 : Int64)))) ∧ Jvm.Free.Fl.NoNaN64 (FP.dmul (FP.l2d (b + (1 : Int64))) (FP.ddiv (4746794007248502784 : UInt64) (FP.l2d (r + (1 : Int64))))) ∧
    b.toInt + 1 ≤ (FP.d2l (FP.dmul (FP.l2d (b + (1 : Int64))) (FP.ddiv (4746794007248502784 : UInt64) (FP.l2d (r + (1 : Int64)))))).toInt ∧
    (b.toInt = 0 → ((FP.d2l (FP.dmul (FP.l2d (b + (1 : Int64))) (FP.ddiv (4746794007248502784 : UInt64) (FP.l2d (r + (1 : Int64)))))).toInt < 2 ↔ 1073741824 ≤ r.toInt)) := by
  have eb := own_in h0 h1
  have er := own_in r0 r1
  have one := Jvm.FP.Core.one64_pos
  have B := mg_l2d (n := b + 1) (by omega) (by omega)
  have R := mg_l2d (n := r + 1) (by omega) (by omega)
  rw [eb] at B
  rw [er] at R
  obtain ⟨nb, hnb⟩ : ∃ n : Nat, n = (b.toInt + 1).toNat := ⟨_, rfl⟩
  obtain ⟨nr, hnr⟩ : ∃ n : Nat, n = (r.toInt + 1).toNat := ⟨_, rfl⟩
  rw [← hnb] at B
  rw [← hnr] at R
  generalize FP.l2d (b + 1) = xb at *
  generalize FP.l2d (r + 1) = xr at *
  have kr : 0 < nr * Jvm.FP.Core.one64 := Nat.mul_pos (by omega) one
  have q1 : Jvm.FP.Core.one64 * (nr * Jvm.FP.Core.one64) ≤ 2147483648 * Jvm.FP.Core.one64 * Jvm.FP.Core.one64 := by
    rw [Nat.mul_comm Jvm.FP.Core.one64 (nr * Jvm.FP.Core.one64)]
    exact Nat.mul_le_mul_right _ (Nat.mul_le_mul_right _ (by omega))
  have q2 : 2147483648 * Jvm.FP.Core.one64 * Jvm.FP.Core.one64 ≤ 2147483648 * Jvm.FP.Core.one64 * (nr * Jvm.FP.Core.one64) :=
    Nat.mul_le_mul_left _ (Nat.le_mul_of_pos_left _ (by omega))
  obtain ⟨z, Z, z1, z2⟩ := mg_div mg_31 R kr mg_1 mg_31 q1 q2
  have lt2 : z < 2 * Jvm.FP.Core.one64 ↔ 1073741824 ≤ r.toInt := by
    constructor
    · intro hz
      by_cases hr : 1073741824 ≤ r.toInt
      · exact hr
      · exfalso
        have g := mg_div_ge mg_31 R kr mg_2 (by
          rw [Nat.mul_comm (2 * Jvm.FP.Core.one64), Nat.mul_comm nr, Nat.mul_assoc, Nat.mul_comm Jvm.FP.Core.one64, ← Nat.mul_assoc]
          exact Nat.mul_le_mul_right _ (Nat.mul_le_mul_right _ (by omega)))
        rw [Z.2] at g
        omega
    · intro hr
      have e : Jvm.FP.Core.one64 = 4503599627370496 * 2 ^ 1022 := by unfold Jvm.FP.Core.one64; rw [show 1074 = 52 + 1022 from rfl, Nat.pow_add]
      have g := mg_div_le mg_31 R kr mg_2m (by
        rw [← Nat.mul_assoc]
        refine Nat.mul_le_mul_right _ ?_
        rw [Nat.mul_assoc, Nat.mul_comm (2 ^ 1022) nr, ← Nat.mul_assoc]
        rw [e, ← Nat.mul_assoc]
        exact Nat.mul_le_mul_right _ (by omega))
      rw [Z.2] at g
      have p := Nat.two_pow_pos 1022
      rw [e]
      generalize 2 ^ 1022 = P at *
      omega
  generalize FP.ddiv (4746794007248502784 : UInt64) xr = xq at *
  have t1 : nb * Jvm.FP.Core.one64 * Jvm.FP.Core.one64 ≤ nb * Jvm.FP.Core.one64 * z := Nat.mul_le_mul_left _ z1
  have t2 : nb * Jvm.FP.Core.one64 * z ≤ 4611686018427387904 * Jvm.FP.Core.one64 * Jvm.FP.Core.one64 := by
    refine Nat.le_trans (Nat.mul_le_mul_left _ z2) ?_
    rw [show 4611686018427387904 = 2147483648 * 2147483648 from rfl, Nat.mul_comm (nb * Jvm.FP.Core.one64), ← Nat.mul_assoc (2147483648 * Jvm.FP.Core.one64), Nat.mul_assoc 2147483648 Jvm.FP.Core.one64 nb, Nat.mul_comm Jvm.FP.Core.one64 nb, ← Nat.mul_assoc]
    exact Nat.mul_le_mul_right _ (Nat.mul_le_mul_right _ (Nat.mul_le_mul_left _ (by omega)))
  obtain ⟨y, Y, y1, y2⟩ := mg_mul B Z B mg_62 t1 t2
  have d := mg_d2l Y y2
  refine ⟨Z.no, Y.no, ?_, fun hb0 => ?_⟩
  · rw [d]
    have : nb ≤ y / Jvm.FP.Core.one64 := (Nat.le_div_iff_mul_le one).mpr y1
    omega
  · have en : nb = 1 := by omega
    subst en
    rw [Nat.one_mul] at B
    have u1 := mg_mul_ge B Z Z (Nat.le_of_eq (Nat.mul_comm _ _))
    have u2 := mg_mul_le B Z Z (Nat.le_of_eq (Nat.mul_comm _ _))
    rw [Y.2] at u1 u2
    have : y = z := by omega
    subst this
    rw [d, ← lt2]
    have : y / Jvm.FP.Core.one64 < 2 ↔ y < 2 * Jvm.FP.Core.one64 := Nat.div_lt_iff_lt_mul one
    omega
theorem own_next (key : Int64) (i : Nat) (h0 : 0 ≤ (jj key i).toInt) (h1 : (jj key i).toInt < 2147483648) : (jj key i).toInt + 1 ≤ (jj key (i + 1)).toInt :=
  (own_step (jj key i) _ h0 h1 (own_r (jk key (i + 1))).1 (own_r (jk key (i + 1))).2.1).2.2.1
theorem own_mono {key : Int64} {n : Int} {i : Nat} (h : Bk key n i) (hn : n ≤ 2147483648) : ∀ d a, a + d ≤ i + 1 → (jj key a).toInt + d ≤ (jj key (a + d)).toInt := by
  intro d
  induction d with
  | zero => intro a _; simp
  | succ d ih =>
    intro a ha
    have q := ih a (by omega)
    have p := h.1 (a + d) (by omega)
    have r := own_next key (a + d) p.1 (by omega)
    rw [show a + (d + 1) = a + d + 1 by omega]; omega
theorem own_two {key : Int64} {n m : Int} {i j : Nat} (hi : Bk key n i) (hj : Bk key m j) (hnm : n ≤ m) (hm : m ≤ 2147483648) : (jj key j).toInt = (jj key i).toInt ∨ n ≤ (jj key j).toInt := by
  rcases Nat.lt_trichotomy j i with q | q | q
  · exfalso
    have a := (hi.1 (j + 1) (by omega)).2
    have b := hj.2
    omega
  · left; rw [q]
  · right
    have a := own_mono hj hm (j - (i + 1)) (i + 1) (by omega)
    rw [show i + 1 + (j - (i + 1)) = j by omega] at a
    have b := hi.2
    omega
theorem own_one {key : Int64} {i : Nat} (h : Bk key 1 i) : (jj key i).toInt = 0 := by have := h.1 i (Nat.le_refl _); omega
theorem own_zero (key : Int64) : (jj key 0).toInt = 0 := rfl
theorem own_first {key : Int64} {i : Nat} (h : Bk key 2 i) : (jk key 1 < 0 → (jj key i).toInt = 1) ∧ (¬ jk key 1 < 0 → (jj key i).toInt = 0) := by
  have s := (own_step (jj key 0) _ (by rw [own_zero]; decide) (by rw [own_zero]; decide) (own_r (jk key 1)).1 (own_r (jk key 1)).2.1).2.2
  have e : (jj key 1).toInt < 2 ↔ jk key 1 < 0 := (s.2 (own_zero key)).trans (own_r (jk key 1)).2.2
  have g : 1 ≤ (jj key 1).toInt := by have := s.1; rw [own_zero] at this; exact this
  constructor
  · intro q
    have l := e.mpr q
    rcases Nat.eq_zero_or_pos i with rfl | hi
    · have := h.2; simp only [Nat.zero_add] at this; omega
    · have a := own_mono h (by decide) (i - 1) 1 (by omega)
      rw [show 1 + (i - 1) = i by omega] at a
      have := h.1 i (Nat.le_refl _); omega
  · intro q
    have l : ¬ (jj key 1).toInt < 2 := fun z => q (e.mp z)
    rcases Nat.eq_zero_or_pos i with rfl | hi
    · exact own_zero key
    · have := h.1 1 hi; omega
theorem d1_0 : decode prog_1_method_2_code 0 = .ok (.iload_n 2, 1) := by decide +kernel
theorem d1_1 : decode prog_1_method_2_code 1 = .ok (.ifCond .gt 17, 3) := by decide +kernel
theorem d1_18 : decode prog_1_method_2_code 18 = .ok (.lload_n 0, 1) := by decide +kernel
theorem d1_19 : decode prog_1_method_2_code 19 = .ok (.lstore_n 3, 1) := by decide +kernel
theorem d1_20 : decode prog_1_method_2_code 20 = .ok (.ldc2_w 16, 3) := by decide +kernel
theorem d1_23 : decode prog_1_method_2_code 23 = .ok (.lstore 5, 2) := by decide +kernel
theorem d1_25 : decode prog_1_method_2_code 25 = .ok (.lconst 0, 1) := by decide +kernel
theorem d1_26 : decode prog_1_method_2_code 26 = .ok (.lstore 7, 2) := by decide +kernel
theorem d1_28 : decode prog_1_method_2_code 28 = .ok (.lload 7, 2) := by decide +kernel
theorem d1_30 : decode prog_1_method_2_code 30 = .ok (.iload_n 2, 1) := by decide +kernel
theorem d1_31 : decode prog_1_method_2_code 31 = .ok (.i2l, 1) := by decide +kernel
theorem d1_32 : decode prog_1_method_2_code 32 = .ok (.lcmp, 1) := by decide +kernel
theorem d1_33 : decode prog_1_method_2_code 33 = .ok (.ifCond .ge 38, 3) := by decide +kernel
theorem d1_36 : decode prog_1_method_2_code 36 = .ok (.lload 7, 2) := by decide +kernel
theorem d1_38 : decode prog_1_method_2_code 38 = .ok (.lstore 5, 2) := by decide +kernel
theorem d1_40 : decode prog_1_method_2_code 40 = .ok (.lload_n 3, 1) := by decide +kernel
theorem d1_41 : decode prog_1_method_2_code 41 = .ok (.ldc2_w 20, 3) := by decide +kernel
theorem d1_44 : decode prog_1_method_2_code 44 = .ok (.lmul, 1) := by decide +kernel
theorem d1_45 : decode prog_1_method_2_code 45 = .ok (.lconst 1, 1) := by decide +kernel
theorem d1_46 : decode prog_1_method_2_code 46 = .ok (.ladd, 1) := by decide +kernel
theorem d1_47 : decode prog_1_method_2_code 47 = .ok (.lstore_n 3, 1) := by decide +kernel
theorem d1_48 : decode prog_1_method_2_code 48 = .ok (.lload 5, 2) := by decide +kernel
theorem d1_50 : decode prog_1_method_2_code 50 = .ok (.lconst 1, 1) := by decide +kernel
theorem d1_51 : decode prog_1_method_2_code 51 = .ok (.ladd, 1) := by decide +kernel
theorem d1_52 : decode prog_1_method_2_code 52 = .ok (.l2d, 1) := by decide +kernel
theorem d1_53 : decode prog_1_method_2_code 53 = .ok (.ldc2_w 22, 3) := by decide +kernel
theorem d1_56 : decode prog_1_method_2_code 56 = .ok (.lload_n 3, 1) := by decide +kernel
theorem d1_57 : decode prog_1_method_2_code 57 = .ok (.bipush 33, 2) := by decide +kernel
theorem d1_59 : decode prog_1_method_2_code 59 = .ok (.lushr, 1) := by decide +kernel
theorem d1_60 : decode prog_1_method_2_code 60 = .ok (.lconst 1, 1) := by decide +kernel
theorem d1_61 : decode prog_1_method_2_code 61 = .ok (.ladd, 1) := by decide +kernel
theorem d1_62 : decode prog_1_method_2_code 62 = .ok (.l2d, 1) := by decide +kernel
theorem d1_63 : decode prog_1_method_2_code 63 = .ok (.ddiv, 1) := by decide +kernel
theorem d1_64 : decode prog_1_method_2_code 64 = .ok (.dmul, 1) := by decide +kernel
theorem d1_65 : decode prog_1_method_2_code 65 = .ok (.d2l, 1) := by decide +kernel
theorem d1_66 : decode prog_1_method_2_code 66 = .ok (.lstore 7, 2) := by decide +kernel
theorem d1_68 : decode prog_1_method_2_code 68 = .ok (.goto (-40), 3) := by decide +kernel
theorem d1_71 : decode prog_1_method_2_code 71 = .ok (.lload 5, 2) := by decide +kernel
theorem d1_73 : decode prog_1_method_2_code 73 = .ok (.l2i, 1) := by decide +kernel
theorem d1_74 : decode prog_1_method_2_code 74 = .ok (.ireturn, 1) := by decide +kernel
theorem pn_1 : plainName "com/example/inman/inman/Jump" = true := by first | (simp [plainName, overriddenIn]; done) | decide +kernel
theorem ef_rmB (m : MethodId) (x0 : Int64) (x1 : Int32) : entryFrame m #[(.long x0), (.int x1)] 9 = mkF m 0 #[.val (.long x0), .second, .val (.int x1), .unset, .unset, .unset, .unset, .unset, .unset] [] := by first | (simp [entryFrame, mkF, argsToLocals, Value.category]; done) | rfl
def Q_rmB (Z : State) (qk : Int64) (pn : Int32) (h0 : Heap) (n0 : Nat) (v : Option Value) (h : Heap) (L : List Loc) : Prop := (∃ (i : Nat) (r : Int32), v = some (.int r) ∧ r.toInt = (jj qk i).toInt ∧ Bk qk pn.toInt i) ∧ Fr n0 L ∧ h = h0
set_option maxRecDepth 65536 in
set_option maxHeartbeats 40000000 in
theorem rmB (l : Launch) (Z : State) (a0 : Array Value) (hw : ∀ d ∈ tables_1, d.before a0 Z = true) (ws : List Jvm.Cond) (qk : Int64) (pn : Int32) (h0 : Heap) (n0 : Nat) (O0 : Old Z n0 h0) (hpn : 0 < pn.toInt) :
    MetFree l (⟨"com/example/inman/inman/Jump", "bucket", "(JI)I"⟩ : MethodName) (head1 (Jvm.Cond.code (⟨"com/example/inman/inman/Jump", "bucket", "(JI)I"⟩ : MethodName) prog_1_method_2_code 9 (some .int) :: ws) ({ frames := 0, cells := 0, slots := 0, locals := 0 } : Room)) (fun a U => a = #[(.long qk), (.int pn)] ∧ Z.Warmed39 U.vm ∧ U.heap = h0) (fun _ _ _ _ _ => True) (fun _ U o U' => ∃ v L, o = .returned v ∧ Q_rmB Z qk pn h0 n0 v U'.heap L ∧ FrameEnd U o U' L ({ frames := 0, cells := 0, slots := 0, locals := 0 } : Room).cells ({ frames := 0, cells := 0, slots := 0, locals := 0 } : Room).slots) := by
  refine MetFree.of_bodySF (plainFor_of_name pn_1) hisR ?_
  intro p e s m args below meth c s₁ Bd hml0 hP hK
  obtain ⟨rfl, hZ, hh⟩ := hP
  have hx := Bd.exec
  have hby := Bd.bytes
  have hml : c.maxLocals = 9 := hml0
  have hown : s.vm.findClass "com/example/inman/inman/Jump" = some m.cls := findClass_of_methodNamed Bd.named
  have hnm := (name_of_methodNamed Bd.named Bd.method).1
  have X0 : Stand p l e ({ frames := 0, cells := 0, slots := 0, locals := 0 } : Room) s m #[(.long qk), (.int pn)] below meth c s₁ [] 0 0 := Stand.of_body Bd
  have e0 : s₁.heap = h0 := by rw [← hh, Bd.state]; rfl
  have N0 := Fr.nil n0
  suffices G : ∀ (Qf : Outcome → State → Prop), Qf = (fun (_ : Array Value) (U : State) (o : Outcome) (U' : State) => ∃ v L, o = .returned v ∧ Q_rmB Z qk pn h0 n0 v U'.heap L ∧ FrameEnd U o U' L ({ frames := 0, cells := 0, slots := 0, locals := 0 } : Room).cells ({ frames := 0, cells := 0, slots := 0, locals := 0 } : Room).slots) #[] s → Goes p.tables e below Qf (s₁.setTop (mkF m 0 #[.val (.long qk), .second, .val (.int pn), .unset, .unset, .unset, .unset, .unset, .unset] [])) by
    obtain ⟨s₂, o, g1, g2, g3, g4⟩ := G _ rfl
    exact ⟨s₂, o, castTop (ef_rmB m _ _) g1, g2, g3, g4⟩
  intro Qf hQf
  refine Goes.to (T' := s₁.setTop (mkF m 1 #[.val (.long qk), .second, .val (.int pn), .unset, .unset, .unset, .unset, .unset, .unset] [(.int pn)])) (fun t k => XS.iloadN X0.here hx rfl (hb hby d1_0) rfl k) ?_
  have hc1_1 : (0 : Int32) < pn := (Int32.lt_iff_toInt_lt.mpr hpn)
  refine Goes.to (T' := s₁.setTop (mkF m 18 #[.val (.long qk), .second, .val (.int pn), .unset, .unset, .unset, .unset, .unset, .unset] [])) (fun t k => XS.ifYes X0.here hx rfl (pc0 := 1) (pc' := 18) rfl (hb hby d1_1) rfl ((if0 _ _).trans (tlt hc1_1).2.2.1) (by decide) (by decide) k) ?_
  refine Goes.to (T' := s₁.setTop (mkF m 19 #[.val (.long qk), .second, .val (.int pn), .unset, .unset, .unset, .unset, .unset, .unset] [(.long qk)])) (fun t k => XS.lloadN X0.here hx rfl (hb hby d1_18) rfl k) ?_
  refine Goes.to (T' := s₁.setTop (mkF m 20 #[.val (.long qk), .second, .val (.int pn), .val (.long qk), .second, .unset, .unset, .unset, .unset] [])) (fun t k => XS.lstoreN X0.here hx rfl (hb hby d1_19) rfl (l' := #[.val (.long qk), .second, .val (.int pn), .val (.long qk), .second, .unset, .unset, .unset, .unset]) rfl k) ?_
  refine Goes.to (T' := s₁.setTop (mkF m 23 #[.val (.long qk), .second, .val (.int pn), .val (.long qk), .second, .unset, .unset, .unset, .unset] [(.long (-1 : Int64))])) (X0.ldc2Long hx hown (mvT hZ (hw _ (List.mem_of_getElem? (i := 6) rfl))) (g := (mkF m 20 #[.val (.long qk), .second, .val (.int pn), .val (.long qk), .second, .unset, .unset, .unset, .unset] [])) rfl (hb hby d1_20)) ?_
  refine Goes.to (T' := s₁.setTop (mkF m 25 #[.val (.long qk), .second, .val (.int pn), .val (.long qk), .second, .val (.long (-1 : Int64)), .second, .unset, .unset] [])) (fun t k => XS.lstore X0.here hx rfl (hb hby d1_23) rfl (l' := #[.val (.long qk), .second, .val (.int pn), .val (.long qk), .second, .val (.long (-1 : Int64)), .second, .unset, .unset]) rfl k) ?_
  refine Goes.to (T' := s₁.setTop (mkF m 26 #[.val (.long qk), .second, .val (.int pn), .val (.long qk), .second, .val (.long (-1 : Int64)), .second, .unset, .unset] [(.long (0 : Int64))])) (fun t k => XS.lconst X0.here hx rfl (hb hby d1_25) k) ?_
  have J28 : ∀ (fu : Nat) (TJ2 : State) (locsJ2 : List Loc) (ii : Nat) (bb : Int64) (XJ2 : Stand p l e ({ frames := 0, cells := 0, slots := 0, locals := 0 } : Room) s m #[(.long qk), (.int pn)] below meth c TJ2 locsJ2 0 0) (eJ2 : TJ2.heap = h0) (NJ2 : Fr n0 locsJ2) (hpre : ∀ a, a < ii → 0 ≤ (jj qk a).toInt ∧ (jj qk a).toInt < pn.toInt) (hpos : 0 ≤ (jj qk ii).toInt) (hbb : ∀ a, ii = a + 1 → bb = jj qk a) (hfu : (pn.toInt - (jj qk ii).toInt).toNat < fu), Goes p.tables e below Qf (TJ2.setTop (mkF m 28 #[.val (.long qk), .second, .val (.int pn), .val (.long (jk qk ii)), .second, .val (.long bb), .second, .val (.long (jj qk ii)), .second] [])) := by
    intro fu
    induction fu with
    | zero => intro TJ2 locsJ2 ii bb XJ2 eJ2 NJ2 hpre hpos hbb hfu; exact absurd hfu (Nat.not_lt_zero _)
    | succ fu ih =>
      intro TJ2 locsJ2 ii bb XJ2 eJ2 NJ2 hpre hpos hbb hfu
      refine Goes.to (T' := TJ2.setTop (mkF m 30 #[.val (.long qk), .second, .val (.int pn), .val (.long (jk qk ii)), .second, .val (.long bb), .second, .val (.long (jj qk ii)), .second] [(.long (jj qk ii))])) (fun t k => XS.lload XJ2.here hx rfl (hb hby d1_28) rfl k) ?_
      refine Goes.to (T' := TJ2.setTop (mkF m 31 #[.val (.long qk), .second, .val (.int pn), .val (.long (jk qk ii)), .second, .val (.long bb), .second, .val (.long (jj qk ii)), .second] [(.int pn), (.long (jj qk ii))])) (fun t k => XS.iloadN XJ2.here hx rfl (hb hby d1_30) rfl k) ?_
      refine Goes.to (T' := TJ2.setTop (mkF m 32 #[.val (.long qk), .second, .val (.int pn), .val (.long (jk qk ii)), .second, .val (.long bb), .second, .val (.long (jj qk ii)), .second] [(.long (pn.toInt64)), (.long (jj qk ii))])) (fun t k => XS.i2l XJ2.here hx rfl (hb hby d1_31) rfl k) ?_
      refine Goes.to (T' := TJ2.setTop (mkF m 33 #[.val (.long qk), .second, .val (.int pn), .val (.long (jk qk ii)), .second, .val (.long bb), .second, .val (.long (jj qk ii)), .second] [(.int (lcmpW (jj qk ii) (pn.toInt64)))])) (fun t k => XS.lcmp XJ2.here hx rfl (hb hby d1_32) rfl k) ?_
      rcases Decidable.em ((jj qk ii) < (pn.toInt64)) with hc33_3 | hc33_3
      · skip
        refine Goes.to (T' := TJ2.setTop (mkF m 36 #[.val (.long qk), .second, .val (.int pn), .val (.long (jk qk ii)), .second, .val (.long bb), .second, .val (.long (jj qk ii)), .second] [])) (fun t k => XS.ifNo XJ2.here hx rfl (hb hby d1_33) rfl ((if0 _ _).trans (tlt ((lw_lt (jj qk ii) (pn.toInt64)).mpr hc33_3)).2.1) k) ?_
        have hlt : (jj qk ii).toInt < pn.toInt := by have q := Int64.lt_iff_toInt_lt.mp hc33_3; rw [c_i2l] at q; exact q
        have hpn2 := Int32.toInt_lt pn
        have hrr := own_r (jk qk (ii + 1))
        have hst := own_step (jj qk ii) (((jk qk (ii + 1)).toUInt64 >>> ((33 : Int32) &&& 0x3f).toInt64.toUInt64).toInt64) hpos (by omega) hrr.1 hrr.2.1
        have hnx := own_next qk ii hpos (by omega)
        refine Goes.to (T' := TJ2.setTop (mkF m 38 #[.val (.long qk), .second, .val (.int pn), .val (.long (jk qk ii)), .second, .val (.long bb), .second, .val (.long (jj qk ii)), .second] [(.long (jj qk ii))])) (fun t k => XS.lload XJ2.here hx rfl (hb hby d1_36) rfl k) ?_
        refine Goes.to (T' := TJ2.setTop (mkF m 40 #[.val (.long qk), .second, .val (.int pn), .val (.long (jk qk ii)), .second, .val (.long (jj qk ii)), .second, .val (.long (jj qk ii)), .second] [])) (fun t k => XS.lstore XJ2.here hx rfl (hb hby d1_38) rfl (l' := #[.val (.long qk), .second, .val (.int pn), .val (.long (jk qk ii)), .second, .val (.long (jj qk ii)), .second, .val (.long (jj qk ii)), .second]) rfl k) ?_
        refine Goes.to (T' := TJ2.setTop (mkF m 41 #[.val (.long qk), .second, .val (.int pn), .val (.long (jk qk ii)), .second, .val (.long (jj qk ii)), .second, .val (.long (jj qk ii)), .second] [(.long (jk qk ii))])) (fun t k => XS.lloadN XJ2.here hx rfl (hb hby d1_40) rfl k) ?_
        refine Goes.to (T' := TJ2.setTop (mkF m 44 #[.val (.long qk), .second, .val (.int pn), .val (.long (jk qk ii)), .second, .val (.long (jj qk ii)), .second, .val (.long (jj qk ii)), .second] [(.long (2862933555777941757 : Int64)), (.long (jk qk ii))])) (XJ2.ldc2Long hx hown (mvT hZ (hw _ (List.mem_of_getElem? (i := 7) rfl))) (g := (mkF m 41 #[.val (.long qk), .second, .val (.int pn), .val (.long (jk qk ii)), .second, .val (.long (jj qk ii)), .second, .val (.long (jj qk ii)), .second] [(.long (jk qk ii))])) rfl (hb hby d1_41)) ?_
        refine Goes.to (T' := TJ2.setTop (mkF m 45 #[.val (.long qk), .second, .val (.int pn), .val (.long (jk qk ii)), .second, .val (.long (jj qk ii)), .second, .val (.long (jj qk ii)), .second] [(.long ((jk qk ii) * (2862933555777941757 : Int64)))])) (fun t k => XS.lmul XJ2.here hx rfl (hb hby d1_44) rfl k) ?_
        refine Goes.to (T' := TJ2.setTop (mkF m 46 #[.val (.long qk), .second, .val (.int pn), .val (.long (jk qk ii)), .second, .val (.long (jj qk ii)), .second, .val (.long (jj qk ii)), .second] [(.long (1 : Int64)), (.long ((jk qk ii) * (2862933555777941757 : Int64)))])) (fun t k => XS.lconst XJ2.here hx rfl (hb hby d1_45) k) ?_
        refine Goes.to (T' := TJ2.setTop (mkF m 47 #[.val (.long qk), .second, .val (.int pn), .val (.long (jk qk ii)), .second, .val (.long (jj qk ii)), .second, .val (.long (jj qk ii)), .second] [(.long (((jk qk ii) * (2862933555777941757 : Int64)) + (1 : Int64)))])) (fun t k => XS.ladd XJ2.here hx rfl (hb hby d1_46) rfl k) ?_
        rw [show (jk qk ii * (2862933555777941757 : Int64)) + (1 : Int64) = jk qk (ii + 1) from rfl]
        refine Goes.to (T' := TJ2.setTop (mkF m 48 #[.val (.long qk), .second, .val (.int pn), .val (.long (jk qk (ii + 1))), .second, .val (.long (jj qk ii)), .second, .val (.long (jj qk ii)), .second] [])) (fun t k => XS.lstoreN XJ2.here hx rfl (hb hby d1_47) rfl (l' := #[.val (.long qk), .second, .val (.int pn), .val (.long (jk qk (ii + 1))), .second, .val (.long (jj qk ii)), .second, .val (.long (jj qk ii)), .second]) rfl k) ?_
        refine Goes.to (T' := TJ2.setTop (mkF m 50 #[.val (.long qk), .second, .val (.int pn), .val (.long (jk qk (ii + 1))), .second, .val (.long (jj qk ii)), .second, .val (.long (jj qk ii)), .second] [(.long (jj qk ii))])) (fun t k => XS.lload XJ2.here hx rfl (hb hby d1_48) rfl k) ?_
        refine Goes.to (T' := TJ2.setTop (mkF m 51 #[.val (.long qk), .second, .val (.int pn), .val (.long (jk qk (ii + 1))), .second, .val (.long (jj qk ii)), .second, .val (.long (jj qk ii)), .second] [(.long (1 : Int64)), (.long (jj qk ii))])) (fun t k => XS.lconst XJ2.here hx rfl (hb hby d1_50) k) ?_
        refine Goes.to (T' := TJ2.setTop (mkF m 52 #[.val (.long qk), .second, .val (.int pn), .val (.long (jk qk (ii + 1))), .second, .val (.long (jj qk ii)), .second, .val (.long (jj qk ii)), .second] [(.long ((jj qk ii) + (1 : Int64)))])) (fun t k => XS.ladd XJ2.here hx rfl (hb hby d1_51) rfl k) ?_
        refine Goes.to (T' := TJ2.setTop (mkF m 53 #[.val (.long qk), .second, .val (.int pn), .val (.long (jk qk (ii + 1))), .second, .val (.long (jj qk ii)), .second, .val (.long (jj qk ii)), .second] [(.double (FP.l2d ((jj qk ii) + (1 : Int64))))])) (fun t k => XS.l2dS XJ2.here hx rfl (hb hby d1_52) rfl rfl k) ?_
        refine Goes.to (T' := TJ2.setTop (mkF m 56 #[.val (.long qk), .second, .val (.int pn), .val (.long (jk qk (ii + 1))), .second, .val (.long (jj qk ii)), .second, .val (.long (jj qk ii)), .second] [(.double (4746794007248502784 : UInt64)), (.double (FP.l2d ((jj qk ii) + (1 : Int64))))])) (XJ2.ldc2DoubleC hx hown (mvT hZ (hw _ (List.mem_of_getElem? (i := 8) rfl))) (g := (mkF m 53 #[.val (.long qk), .second, .val (.int pn), .val (.long (jk qk (ii + 1))), .second, .val (.long (jj qk ii)), .second, .val (.long (jj qk ii)), .second] [(.double (FP.l2d ((jj qk ii) + (1 : Int64))))])) rfl (hb hby d1_53)) ?_
        refine Goes.to (T' := TJ2.setTop (mkF m 57 #[.val (.long qk), .second, .val (.int pn), .val (.long (jk qk (ii + 1))), .second, .val (.long (jj qk ii)), .second, .val (.long (jj qk ii)), .second] [(.long (jk qk (ii + 1))), (.double (4746794007248502784 : UInt64)), (.double (FP.l2d ((jj qk ii) + (1 : Int64))))])) (fun t k => XS.lloadN XJ2.here hx rfl (hb hby d1_56) rfl k) ?_
        refine Goes.to (T' := TJ2.setTop (mkF m 59 #[.val (.long qk), .second, .val (.int pn), .val (.long (jk qk (ii + 1))), .second, .val (.long (jj qk ii)), .second, .val (.long (jj qk ii)), .second] [(.int (33 : Int32)), (.long (jk qk (ii + 1))), (.double (4746794007248502784 : UInt64)), (.double (FP.l2d ((jj qk ii) + (1 : Int64))))])) (fun t k => XS.bipush XJ2.here hx rfl (hb hby d1_57) k) ?_
        refine Goes.to (T' := TJ2.setTop (mkF m 60 #[.val (.long qk), .second, .val (.int pn), .val (.long (jk qk (ii + 1))), .second, .val (.long (jj qk ii)), .second, .val (.long (jj qk ii)), .second] [(.long (((jk qk (ii + 1)).toUInt64 >>> ((33 : Int32) &&& 0x3f).toInt64.toUInt64).toInt64)), (.double (4746794007248502784 : UInt64)), (.double (FP.l2d ((jj qk ii) + (1 : Int64))))])) (fun t k => XS.lushr XJ2.here hx rfl (hb hby d1_59) rfl k) ?_
        refine Goes.to (T' := TJ2.setTop (mkF m 61 #[.val (.long qk), .second, .val (.int pn), .val (.long (jk qk (ii + 1))), .second, .val (.long (jj qk ii)), .second, .val (.long (jj qk ii)), .second] [(.long (1 : Int64)), (.long (((jk qk (ii + 1)).toUInt64 >>> ((33 : Int32) &&& 0x3f).toInt64.toUInt64).toInt64)), (.double (4746794007248502784 : UInt64)), (.double (FP.l2d ((jj qk ii) + (1 : Int64))))])) (fun t k => XS.lconst XJ2.here hx rfl (hb hby d1_60) k) ?_
        refine Goes.to (T' := TJ2.setTop (mkF m 62 #[.val (.long qk), .second, .val (.int pn), .val (.long (jk qk (ii + 1))), .second, .val (.long (jj qk ii)), .second, .val (.long (jj qk ii)), .second] [(.long ((((jk qk (ii + 1)).toUInt64 >>> ((33 : Int32) &&& 0x3f).toInt64.toUInt64).toInt64) + (1 : Int64))), (.double (4746794007248502784 : UInt64)), (.double (FP.l2d ((jj qk ii) + (1 : Int64))))])) (fun t k => XS.ladd XJ2.here hx rfl (hb hby d1_61) rfl k) ?_
        refine Goes.to (T' := TJ2.setTop (mkF m 63 #[.val (.long qk), .second, .val (.int pn), .val (.long (jk qk (ii + 1))), .second, .val (.long (jj qk ii)), .second, .val (.long (jj qk ii)), .second] [(.double (FP.l2d ((((jk qk (ii + 1)).toUInt64 >>> ((33 : Int32) &&& 0x3f).toInt64.toUInt64).toInt64) + (1 : Int64)))), (.double (4746794007248502784 : UInt64)), (.double (FP.l2d ((jj qk ii) + (1 : Int64))))])) (fun t k => XS.l2dS XJ2.here hx rfl (hb hby d1_62) rfl rfl k) ?_
        refine Goes.to (T' := TJ2.setTop (mkF m 64 #[.val (.long qk), .second, .val (.int pn), .val (.long (jk qk (ii + 1))), .second, .val (.long (jj qk ii)), .second, .val (.long (jj qk ii)), .second] [(.double (FP.ddiv (4746794007248502784 : UInt64) (FP.l2d ((((jk qk (ii + 1)).toUInt64 >>> ((33 : Int32) &&& 0x3f).toInt64.toUInt64).toInt64) + (1 : Int64))))), (.double (FP.l2d ((jj qk ii) + (1 : Int64))))])) (fun t k => XS.ddivS XJ2.here hx rfl (hb hby d1_63) rfl hst.1 rfl k) ?_
        refine Goes.to (T' := TJ2.setTop (mkF m 65 #[.val (.long qk), .second, .val (.int pn), .val (.long (jk qk (ii + 1))), .second, .val (.long (jj qk ii)), .second, .val (.long (jj qk ii)), .second] [(.double (FP.dmul (FP.l2d ((jj qk ii) + (1 : Int64))) (FP.ddiv (4746794007248502784 : UInt64) (FP.l2d ((((jk qk (ii + 1)).toUInt64 >>> ((33 : Int32) &&& 0x3f).toInt64.toUInt64).toInt64) + (1 : Int64))))))])) (fun t k => XS.dmulS XJ2.here hx rfl (hb hby d1_64) rfl hst.2.1 rfl k) ?_
        refine Goes.to (T' := TJ2.setTop (mkF m 66 #[.val (.long qk), .second, .val (.int pn), .val (.long (jk qk (ii + 1))), .second, .val (.long (jj qk ii)), .second, .val (.long (jj qk ii)), .second] [(.long (FP.d2l (FP.dmul (FP.l2d ((jj qk ii) + (1 : Int64))) (FP.ddiv (4746794007248502784 : UInt64) (FP.l2d ((((jk qk (ii + 1)).toUInt64 >>> ((33 : Int32) &&& 0x3f).toInt64.toUInt64).toInt64) + (1 : Int64)))))))])) (fun t k => XS.d2lS XJ2.here hx rfl (hb hby d1_65) rfl rfl k) ?_
        rw [show (FP.d2l (FP.dmul (FP.l2d ((jj qk ii) + (1 : Int64))) (FP.ddiv (4746794007248502784 : UInt64) (FP.l2d ((((jk qk (ii + 1)).toUInt64 >>> ((33 : Int32) &&& 0x3f).toInt64.toUInt64).toInt64) + (1 : Int64)))))) = jj qk (ii + 1) from rfl]
        refine Goes.to (T' := TJ2.setTop (mkF m 68 #[.val (.long qk), .second, .val (.int pn), .val (.long (jk qk (ii + 1))), .second, .val (.long (jj qk ii)), .second, .val (.long (jj qk (ii + 1))), .second] [])) (fun t k => XS.lstore XJ2.here hx rfl (hb hby d1_66) rfl (l' := #[.val (.long qk), .second, .val (.int pn), .val (.long (jk qk (ii + 1))), .second, .val (.long (jj qk ii)), .second, .val (.long (jj qk (ii + 1))), .second]) rfl k) ?_
        refine Goes.to (T' := TJ2.setTop (mkF m 28 #[.val (.long qk), .second, .val (.int pn), .val (.long (jk qk (ii + 1))), .second, .val (.long (jj qk ii)), .second, .val (.long (jj qk (ii + 1))), .second] [])) (fun t k => XS.goto XJ2.here hx rfl (pc0 := 68) (pc' := 28) rfl (hb hby d1_68) (by decide) (by decide) k) ?_
        exact ih _ _ (ii + 1) (jj qk ii) XJ2 eJ2 NJ2 (fun a q => (Nat.lt_or_ge a ii).elim (fun z => hpre a z) (fun z => by have e : a = ii := (by omega); rw [e]; exact ⟨hpos, hlt⟩)) (by omega) (fun a q => by rw [show a = ii by omega]) (Nat.lt_of_lt_of_le (by omega) (Nat.le_of_lt_succ hfu))
      · skip
        refine Goes.to (T' := TJ2.setTop (mkF m 71 #[.val (.long qk), .second, .val (.int pn), .val (.long (jk qk ii)), .second, .val (.long bb), .second, .val (.long (jj qk ii)), .second] [])) (fun t k => XS.ifYes XJ2.here hx rfl (pc0 := 33) (pc' := 71) rfl (hb hby d1_33) rfl ((if0 _ _).trans (flt (fun q => hc33_3 ((lw_lt (jj qk ii) (pn.toInt64)).mp q))).2.1) (by decide) (by decide) k) ?_
        refine Goes.to (T' := TJ2.setTop (mkF m 73 #[.val (.long qk), .second, .val (.int pn), .val (.long (jk qk ii)), .second, .val (.long bb), .second, .val (.long (jj qk ii)), .second] [(.long bb)])) (fun t k => XS.lload XJ2.here hx rfl (hb hby d1_71) rfl k) ?_
        refine Goes.to (T' := TJ2.setTop (mkF m 74 #[.val (.long qk), .second, .val (.int pn), .val (.long (jk qk ii)), .second, .val (.long bb), .second, .val (.long (jj qk ii)), .second] [(.int (bb.toInt32))])) (fun t k => XS.l2i XJ2.here hx rfl (hb hby d1_73) rfl k) ?_
        obtain ⟨fs, hrL, hrun, hended, hW, hsame⟩ := XJ2.leave (v := some (.int (bb.toInt32))) (fun h => by rw [Bd.returns] at h; cases h)
        subst hQf
        refine ⟨_, _, retOut XJ2 hx Bd.returns rfl (Or.inl ⟨rfl, Or.inl rfl, _, rfl⟩) (hb hby d1_74) hrL, hrun, hended, _, _, rfl, ?_, ⟨_, rfl⟩, hW, hsame.mono (by decide) (by decide)⟩
        show (fun (v : Option Value) (h : Heap) (L : List Loc) => (∃ (i : Nat) (r : Int32), v = some (.int r) ∧ r.toInt = (jj qk i).toInt ∧ Bk qk pn.toInt i) ∧ Fr n0 L ∧ h = h0) (some (.int (bb.toInt32))) TJ2.heap _
        rw [eJ2]
        have hge : pn.toInt ≤ (jj qk ii).toInt := Int.not_lt.mp (fun z => hc33_3 (Int64.lt_iff_toInt_lt.mpr (by rw [c_i2l]; exact z)))
        have hpn2 := Int32.toInt_lt pn
        cases ii with
        | zero => exact absurd hge (by rw [own_zero]; omega)
        | succ a =>
          have hba := hbb a rfl
          subst hba
          have hl := hpre a (Nat.lt_succ_self a)
          exact ⟨⟨a, _, rfl, Jvm.FP.Core.int64_toInt32 (by omega) (by omega), fun z hz => hpre z (Nat.lt_succ_of_le hz), hge⟩, NJ2, rfl⟩
  refine Goes.to (T' := s₁.setTop (mkF m 28 #[.val (.long qk), .second, .val (.int pn), .val (.long qk), .second, .val (.long (-1 : Int64)), .second, .val (.long (0 : Int64)), .second] [])) (fun t k => XS.lstore X0.here hx rfl (hb hby d1_26) rfl (l' := #[.val (.long qk), .second, .val (.int pn), .val (.long qk), .second, .val (.long (-1 : Int64)), .second, .val (.long (0 : Int64)), .second]) rfl k) ?_
  exact J28 _ _ _ 0 (-1 : Int64) X0 e0 N0 (fun a q => absurd q (Nat.not_lt_zero _)) (Int.le_refl 0) (fun a q => absurd q (by omega)) (Nat.lt_succ_self _)
theorem own_n (x : Int32) : 1 ≤ (((x &&& (2147483647 : Int32)) % (2147483646 : Int32)) + (1 : Int32)).toInt ∧ (((x &&& (2147483647 : Int32)) % (2147483646 : Int32)) + (1 : Int32)).toInt ≤ 2147483646 := by
  have h := c_mask x 2147483647 31 (by decide) (by decide)
  generalize x &&& (2147483647 : Int32) = y at *
  have h2 := c_irem y 2147483646 2147483646 rfl
  generalize y % (2147483646 : Int32) = z at *
  have c := c_iadd z 1
  have e1 : (1 : Int32).toInt = 1 := rfl
  have b1 := Int32.toInt_lt (z + 1)
  have b2 := Int32.le_toInt (z + 1)
  omega
theorem own_d {n : Int32} (h1 : 1 ≤ n.toInt) (h2 : n.toInt ≤ 2147483646) : (((2147483647 : Int32) - n) + (1 : Int32)).toInt = 2147483648 - n.toInt := by
  have c := c_isub 2147483647 n
  have e1 : (1 : Int32).toInt = 1 := rfl
  have e2 : (2147483647 : Int32).toInt = 2147483647 := rfl
  have c2 := c_iadd (2147483647 - n) 1
  have b1 := Int32.toInt_lt ((2147483647 : Int32) - n)
  have b2 := Int32.le_toInt ((2147483647 : Int32) - n)
  have b3 := Int32.toInt_lt ((2147483647 : Int32) - n + 1)
  have b4 := Int32.le_toInt ((2147483647 : Int32) - n + 1)
  omega
theorem own_m {n : Int32} (h1 : 1 ≤ n.toInt) (h2 : n.toInt ≤ 2147483646) (x : Int32) : n.toInt ≤ (n + ((x &&& (2147483647 : Int32)) % (((2147483647 : Int32) - n) + (1 : Int32)))).toInt := by
  have h := c_mask x 2147483647 31 (by decide) (by decide)
  generalize x &&& (2147483647 : Int32) = y at *
  have d := own_d h1 h2
  have h3 := c_iremV y (((2147483647 : Int32) - n) + (1 : Int32))
  generalize ((2147483647 : Int32) - n) + (1 : Int32) = dd at *
  generalize y % dd = z at *
  have c := c_iadd n z
  have b1 := Int32.toInt_lt (n + z)
  have b2 := Int32.le_toInt (n + z)
  have := h3.1 (by omega) (by omega)
  omega
theorem own_n1 {n : Int32} (h1 : 1 ≤ n.toInt) (h2 : n.toInt ≤ 2147483646) : (n + (1 : Int32)).toInt = n.toInt + 1 := by
  have c := c_iadd n 1
  have e1 : (1 : Int32).toInt = 1 := rfl
  have b1 := Int32.toInt_lt (n + 1)
  have b2 := Int32.le_toInt (n + 1)
  omega
theorem pd_41 : parseMethodDescriptor "(JI)I" = some ⟨[.long, .int], some .int⟩ := by decide +kernel
theorem pn_0 : plainName "com/example/inman/inman/JumpBucketPinLaw" = true := by first | (simp [plainName, overriddenIn]; done) | decide +kernel
theorem ef_rm0 (m : MethodId) (x0 : Int64) (x1 : Int32) (x2 : Int32) : entryFrame m #[(.long x0), (.int x1), (.int x2)] maxLocals = mkF m 0 #[.val (.long x0), .second, .val (.int x1), .val (.int x2), .unset, .unset, .unset, .unset, .unset, .unset, .unset, .unset, .unset, .unset, .unset, .unset, .unset, .unset] [] := by first | (simp [entryFrame, mkF, argsToLocals, Value.category, maxLocals]; done) | rfl
def Q_rm0 (Z : State) (q0 : Int64) (p2 : Int32) (p3 : Int32) (h0 : Heap) (n0 : Nat) (v : Option Value) (h : Heap) (L : List Loc) : Prop := v = some (.int 1) ∧ Fr n0 L
set_option maxRecDepth 65536 in
set_option maxHeartbeats 40000000 in
theorem rm0 (l : Launch) (Z : State) (a0 : Array Value) (hw : ∀ d ∈ tables_1, d.before a0 Z = true) (ws : List Jvm.Cond) (q0 : Int64) (p2 : Int32) (p3 : Int32) (h0 : Heap) (n0 : Nat) (O0 : Old Z n0 h0) :
    MetFree l x (head1 (Jvm.Cond.code x code maxLocals ret :: ws) room_1) (fun a U => a = #[(.long q0), (.int p2), (.int p3)] ∧ Z.Warmed39 U.vm ∧ U.heap = h0) (fun _ _ _ _ _ => True) (fun _ U o U' => ∃ v L, o = .returned v ∧ Q_rm0 Z q0 p2 p3 h0 n0 v U'.heap L ∧ FrameEnd U o U' L room_1.cells room_1.slots) := by
  refine MetFree.of_bodySF (plainFor_of_name pn_0) hisR ?_
  intro p e s m args below meth c s₁ Bd hml0 hP hK
  obtain ⟨rfl, hZ, hh⟩ := hP
  have hx := Bd.exec
  have hby := Bd.bytes
  have hml : c.maxLocals = 18 := hml0
  have hown : s.vm.findClass "com/example/inman/inman/JumpBucketPinLaw" = some m.cls := findClass_of_methodNamed Bd.named
  have hnm := (name_of_methodNamed Bd.named Bd.method).1
  have X0 : Stand p l e room_1 s m #[(.long q0), (.int p2), (.int p3)] below meth c s₁ [] 0 0 := Stand.of_body Bd
  have e0 : s₁.heap = h0 := by rw [← hh, Bd.state]; rfl
  have N0 := Fr.nil n0
  suffices G : ∀ (Qf : Outcome → State → Prop), Qf = (fun (_ : Array Value) (U : State) (o : Outcome) (U' : State) => ∃ v L, o = .returned v ∧ Q_rm0 Z q0 p2 p3 h0 n0 v U'.heap L ∧ FrameEnd U o U' L room_1.cells room_1.slots) #[] s → Goes p.tables e below Qf (s₁.setTop (mkF m 0 #[.val (.long q0), .second, .val (.int p2), .val (.int p3), .unset, .unset, .unset, .unset, .unset, .unset, .unset, .unset, .unset, .unset, .unset, .unset, .unset, .unset] [])) by
    obtain ⟨s₂, o, g1, g2, g3, g4⟩ := G _ rfl
    exact ⟨s₂, o, castTop (ef_rm0 m _ _ _) g1, g2, g3, g4⟩
  intro Qf hQf
  refine Goes.to (T' := s₁.setTop (mkF m 1 #[.val (.long q0), .second, .val (.int p2), .val (.int p3), .unset, .unset, .unset, .unset, .unset, .unset, .unset, .unset, .unset, .unset, .unset, .unset, .unset, .unset] [(.int p2)])) (fun t k => XS.iloadN X0.here hx rfl (hb hby at_0) rfl k) ?_
  refine Goes.to (T' := s₁.setTop (mkF m 3 #[.val (.long q0), .second, .val (.int p2), .val (.int p3), .unset, .unset, .unset, .unset, .unset, .unset, .unset, .unset, .unset, .unset, .unset, .unset, .unset, .unset] [(.int (2147483647 : Int32)), (.int p2)])) (X0.ldcInt hx hown (mvT hZ (hw _ (List.mem_of_getElem? (i := 0) rfl))) (g := (mkF m 1 #[.val (.long q0), .second, .val (.int p2), .val (.int p3), .unset, .unset, .unset, .unset, .unset, .unset, .unset, .unset, .unset, .unset, .unset, .unset, .unset, .unset] [(.int p2)])) rfl (hb hby at_1)) ?_
  refine Goes.to (T' := s₁.setTop (mkF m 4 #[.val (.long q0), .second, .val (.int p2), .val (.int p3), .unset, .unset, .unset, .unset, .unset, .unset, .unset, .unset, .unset, .unset, .unset, .unset, .unset, .unset] [(.int (p2 &&& (2147483647 : Int32)))])) (fun t k => XS.iand X0.here hx rfl (hb hby at_3) rfl k) ?_
  refine Goes.to (T' := s₁.setTop (mkF m 6 #[.val (.long q0), .second, .val (.int p2), .val (.int p3), .unset, .unset, .unset, .unset, .unset, .unset, .unset, .unset, .unset, .unset, .unset, .unset, .unset, .unset] [(.int (2147483646 : Int32)), (.int (p2 &&& (2147483647 : Int32)))])) (X0.ldcInt hx hown (mvT hZ (hw _ (List.mem_of_getElem? (i := 1) rfl))) (g := (mkF m 4 #[.val (.long q0), .second, .val (.int p2), .val (.int p3), .unset, .unset, .unset, .unset, .unset, .unset, .unset, .unset, .unset, .unset, .unset, .unset, .unset, .unset] [(.int (p2 &&& (2147483647 : Int32)))])) rfl (hb hby at_4)) ?_
  refine Goes.to (T' := s₁.setTop (mkF m 7 #[.val (.long q0), .second, .val (.int p2), .val (.int p3), .unset, .unset, .unset, .unset, .unset, .unset, .unset, .unset, .unset, .unset, .unset, .unset, .unset, .unset] [(.int ((p2 &&& (2147483647 : Int32)) % (2147483646 : Int32)))])) (fun t k => iremM X0 hx rfl (hb hby at_6) rfl (by decide) k) ?_
  refine Goes.to (T' := s₁.setTop (mkF m 8 #[.val (.long q0), .second, .val (.int p2), .val (.int p3), .unset, .unset, .unset, .unset, .unset, .unset, .unset, .unset, .unset, .unset, .unset, .unset, .unset, .unset] [(.int (1 : Int32)), (.int ((p2 &&& (2147483647 : Int32)) % (2147483646 : Int32)))])) (fun t k => XS.iconst X0.here hx rfl (hb hby at_7) k) ?_
  refine Goes.to (T' := s₁.setTop (mkF m 9 #[.val (.long q0), .second, .val (.int p2), .val (.int p3), .unset, .unset, .unset, .unset, .unset, .unset, .unset, .unset, .unset, .unset, .unset, .unset, .unset, .unset] [(.int (((p2 &&& (2147483647 : Int32)) % (2147483646 : Int32)) + (1 : Int32)))])) (fun t k => XS.iadd X0.here hx rfl (hb hby at_8) rfl k) ?_
  have hn := own_n p2
  obtain ⟨pn, hdn⟩ : ∃ z : Int32, z = (((p2 &&& (2147483647 : Int32)) % (2147483646 : Int32)) + (1 : Int32)) := ⟨_, rfl⟩
  rw [← hdn] at hn ⊢
  refine Goes.to (T' := s₁.setTop (mkF m 11 #[.val (.long q0), .second, .val (.int p2), .val (.int p3), .val (.int pn), .unset, .unset, .unset, .unset, .unset, .unset, .unset, .unset, .unset, .unset, .unset, .unset, .unset] [])) (fun t k => XS.istore X0.here hx rfl (hb hby at_9) rfl (l' := #[.val (.long q0), .second, .val (.int p2), .val (.int p3), .val (.int pn), .unset, .unset, .unset, .unset, .unset, .unset, .unset, .unset, .unset, .unset, .unset, .unset, .unset]) rfl k) ?_
  refine Goes.to (T' := s₁.setTop (mkF m 13 #[.val (.long q0), .second, .val (.int p2), .val (.int p3), .val (.int pn), .unset, .unset, .unset, .unset, .unset, .unset, .unset, .unset, .unset, .unset, .unset, .unset, .unset] [(.int pn)])) (fun t k => XS.iload X0.here hx rfl (hb hby at_11) rfl k) ?_
  refine Goes.to (T' := s₁.setTop (mkF m 14 #[.val (.long q0), .second, .val (.int p2), .val (.int p3), .val (.int pn), .unset, .unset, .unset, .unset, .unset, .unset, .unset, .unset, .unset, .unset, .unset, .unset, .unset] [(.int p3), (.int pn)])) (fun t k => XS.iloadN X0.here hx rfl (hb hby at_13) rfl k) ?_
  refine Goes.to (T' := s₁.setTop (mkF m 16 #[.val (.long q0), .second, .val (.int p2), .val (.int p3), .val (.int pn), .unset, .unset, .unset, .unset, .unset, .unset, .unset, .unset, .unset, .unset, .unset, .unset, .unset] [(.int (2147483647 : Int32)), (.int p3), (.int pn)])) (X0.ldcInt hx hown (mvT hZ (hw _ (List.mem_of_getElem? (i := 0) rfl))) (g := (mkF m 14 #[.val (.long q0), .second, .val (.int p2), .val (.int p3), .val (.int pn), .unset, .unset, .unset, .unset, .unset, .unset, .unset, .unset, .unset, .unset, .unset, .unset, .unset] [(.int p3), (.int pn)])) rfl (hb hby at_14)) ?_
  refine Goes.to (T' := s₁.setTop (mkF m 17 #[.val (.long q0), .second, .val (.int p2), .val (.int p3), .val (.int pn), .unset, .unset, .unset, .unset, .unset, .unset, .unset, .unset, .unset, .unset, .unset, .unset, .unset] [(.int (p3 &&& (2147483647 : Int32))), (.int pn)])) (fun t k => XS.iand X0.here hx rfl (hb hby at_16) rfl k) ?_
  refine Goes.to (T' := s₁.setTop (mkF m 19 #[.val (.long q0), .second, .val (.int p2), .val (.int p3), .val (.int pn), .unset, .unset, .unset, .unset, .unset, .unset, .unset, .unset, .unset, .unset, .unset, .unset, .unset] [(.int (2147483647 : Int32)), (.int (p3 &&& (2147483647 : Int32))), (.int pn)])) (X0.ldcInt hx hown (mvT hZ (hw _ (List.mem_of_getElem? (i := 0) rfl))) (g := (mkF m 17 #[.val (.long q0), .second, .val (.int p2), .val (.int p3), .val (.int pn), .unset, .unset, .unset, .unset, .unset, .unset, .unset, .unset, .unset, .unset, .unset, .unset, .unset] [(.int (p3 &&& (2147483647 : Int32))), (.int pn)])) rfl (hb hby at_17)) ?_
  refine Goes.to (T' := s₁.setTop (mkF m 21 #[.val (.long q0), .second, .val (.int p2), .val (.int p3), .val (.int pn), .unset, .unset, .unset, .unset, .unset, .unset, .unset, .unset, .unset, .unset, .unset, .unset, .unset] [(.int pn), (.int (2147483647 : Int32)), (.int (p3 &&& (2147483647 : Int32))), (.int pn)])) (fun t k => XS.iload X0.here hx rfl (hb hby at_19) rfl k) ?_
  refine Goes.to (T' := s₁.setTop (mkF m 22 #[.val (.long q0), .second, .val (.int p2), .val (.int p3), .val (.int pn), .unset, .unset, .unset, .unset, .unset, .unset, .unset, .unset, .unset, .unset, .unset, .unset, .unset] [(.int ((2147483647 : Int32) - pn)), (.int (p3 &&& (2147483647 : Int32))), (.int pn)])) (fun t k => XS.isub X0.here hx rfl (hb hby at_21) rfl k) ?_
  refine Goes.to (T' := s₁.setTop (mkF m 23 #[.val (.long q0), .second, .val (.int p2), .val (.int p3), .val (.int pn), .unset, .unset, .unset, .unset, .unset, .unset, .unset, .unset, .unset, .unset, .unset, .unset, .unset] [(.int (1 : Int32)), (.int ((2147483647 : Int32) - pn)), (.int (p3 &&& (2147483647 : Int32))), (.int pn)])) (fun t k => XS.iconst X0.here hx rfl (hb hby at_22) k) ?_
  refine Goes.to (T' := s₁.setTop (mkF m 24 #[.val (.long q0), .second, .val (.int p2), .val (.int p3), .val (.int pn), .unset, .unset, .unset, .unset, .unset, .unset, .unset, .unset, .unset, .unset, .unset, .unset, .unset] [(.int (((2147483647 : Int32) - pn) + (1 : Int32))), (.int (p3 &&& (2147483647 : Int32))), (.int pn)])) (fun t k => XS.iadd X0.here hx rfl (hb hby at_23) rfl k) ?_
  refine Goes.to (T' := s₁.setTop (mkF m 25 #[.val (.long q0), .second, .val (.int p2), .val (.int p3), .val (.int pn), .unset, .unset, .unset, .unset, .unset, .unset, .unset, .unset, .unset, .unset, .unset, .unset, .unset] [(.int ((p3 &&& (2147483647 : Int32)) % (((2147483647 : Int32) - pn) + (1 : Int32)))), (.int pn)])) (fun t k => iremM X0 hx rfl (hb hby at_24) rfl (fun q => by have := own_d hn.1 hn.2; rw [q] at this; have e0 : (0 : Int32).toInt = 0 := rfl; omega) k) ?_
  refine Goes.to (T' := s₁.setTop (mkF m 26 #[.val (.long q0), .second, .val (.int p2), .val (.int p3), .val (.int pn), .unset, .unset, .unset, .unset, .unset, .unset, .unset, .unset, .unset, .unset, .unset, .unset, .unset] [(.int (pn + ((p3 &&& (2147483647 : Int32)) % (((2147483647 : Int32) - pn) + (1 : Int32)))))])) (fun t k => XS.iadd X0.here hx rfl (hb hby at_25) rfl k) ?_
  have hm := own_m hn.1 hn.2 p3
  obtain ⟨pm, hdm⟩ : ∃ z : Int32, z = (pn + ((p3 &&& (2147483647 : Int32)) % (((2147483647 : Int32) - pn) + (1 : Int32)))) := ⟨_, rfl⟩
  rw [← hdm] at hm ⊢
  have hm2 := Int32.toInt_lt pm
  refine Goes.to (T' := s₁.setTop (mkF m 28 #[.val (.long q0), .second, .val (.int p2), .val (.int p3), .val (.int pn), .val (.int pm), .unset, .unset, .unset, .unset, .unset, .unset, .unset, .unset, .unset, .unset, .unset, .unset] [])) (fun t k => XS.istore X0.here hx rfl (hb hby at_26) rfl (l' := #[.val (.long q0), .second, .val (.int p2), .val (.int p3), .val (.int pn), .val (.int pm), .unset, .unset, .unset, .unset, .unset, .unset, .unset, .unset, .unset, .unset, .unset, .unset]) rfl k) ?_
  refine Goes.to (T' := s₁.setTop (mkF m 29 #[.val (.long q0), .second, .val (.int p2), .val (.int p3), .val (.int pn), .val (.int pm), .unset, .unset, .unset, .unset, .unset, .unset, .unset, .unset, .unset, .unset, .unset, .unset] [(.long q0)])) (fun t k => XS.lloadN X0.here hx rfl (hb hby at_28) rfl k) ?_
  refine Goes.to (T' := s₁.setTop (mkF m 30 #[.val (.long q0), .second, .val (.int p2), .val (.int p3), .val (.int pn), .val (.int pm), .unset, .unset, .unset, .unset, .unset, .unset, .unset, .unset, .unset, .unset, .unset, .unset] [(.int (1 : Int32)), (.long q0)])) (fun t k => XS.iconst X0.here hx rfl (hb hby at_29) k) ?_
  obtain ⟨_, _, ⟨T1, L1, k1, n1⟩, -, X1, ⟨Lc1, hQ1, l1, y1, z1⟩, st1⟩ := Jvm.LawKit.callS X0 hx (y := (⟨"com/example/inman/inman/Jump", "bucket", "(JI)I"⟩ : MethodName)) hown (mvT hZ (hw _ (List.mem_of_getElem? (i := 2) rfl))) (mvT hZ (hw _ (List.mem_of_getElem? (i := 3) rfl))) (mvT hZ (hw _ (List.mem_of_getElem? (i := 4) rfl))) (mvT hZ (hw _ (List.mem_of_getElem? (i := 5) rfl))) (by decide) (backOf (W := 0) (rmB l Z a0 hw [] q0 (1 : Int32)   h0 n0 O0  (by decide)) hZ (hw _ (List.mem_of_getElem? (i := 5) rfl)) (hw _ (List.mem_of_getElem? (i := 4) rfl)) (by decide) (by decide)) (g := (mkF m 30 #[.val (.long q0), .second, .val (.int p2), .val (.int p3), .val (.int pn), .val (.int pm), .unset, .unset, .unset, .unset, .unset, .unset, .unset, .unset, .unset, .unset, .unset, .unset] [(.int (1 : Int32)), (.long q0)])) rfl (by rw [hml]; rfl) (argsL := [(.long q0), (.int (1 : Int32))]) (rest := []) (lenOf pd_41 rfl) rfl (by show 2 * 0 + _ ≤ _; exact Nat.le_of_eq rfl) (hb hby at_30) (fun _ _ => ⟨rfl, e0, (by decide : 0 + 0 ≤ _), (by decide : 0 + 0 ≤ _)⟩)
  dsimp only [Pt.U, Pt.locs, Pt.cells, Pt.slots] at X1 l1 y1 z1 st1 hQ1
  subst l1 y1 z1
  obtain ⟨⟨i30, r30, rfl, hr30, B30⟩, Nq1, e1⟩ := hQ1
  have N1 := Fr.app N0 Nq1
  refine Goes.to (T' := T1.setTop (mkF m 33 #[.val (.long q0), .second, .val (.int p2), .val (.int p3), .val (.int pn), .val (.int pm), .unset, .unset, .unset, .unset, .unset, .unset, .unset, .unset, .unset, .unset, .unset, .unset] [(.int r30)])) st1 ?_
  refine Goes.to (T' := T1.setTop (mkF m 35 #[.val (.long q0), .second, .val (.int p2), .val (.int p3), .val (.int pn), .val (.int pm), .val (.int r30), .unset, .unset, .unset, .unset, .unset, .unset, .unset, .unset, .unset, .unset, .unset] [])) (fun t k => XS.istore X1.here hx rfl (hb hby at_33) rfl (l' := #[.val (.long q0), .second, .val (.int p2), .val (.int p3), .val (.int pn), .val (.int pm), .val (.int r30), .unset, .unset, .unset, .unset, .unset, .unset, .unset, .unset, .unset, .unset, .unset]) rfl k) ?_
  refine Goes.to (T' := T1.setTop (mkF m 36 #[.val (.long q0), .second, .val (.int p2), .val (.int p3), .val (.int pn), .val (.int pm), .val (.int r30), .unset, .unset, .unset, .unset, .unset, .unset, .unset, .unset, .unset, .unset, .unset] [(.long q0)])) (fun t k => XS.lloadN X1.here hx rfl (hb hby at_35) rfl k) ?_
  refine Goes.to (T' := T1.setTop (mkF m 37 #[.val (.long q0), .second, .val (.int p2), .val (.int p3), .val (.int pn), .val (.int pm), .val (.int r30), .unset, .unset, .unset, .unset, .unset, .unset, .unset, .unset, .unset, .unset, .unset] [(.int (2 : Int32)), (.long q0)])) (fun t k => XS.iconst X1.here hx rfl (hb hby at_36) k) ?_
  obtain ⟨_, _, ⟨T2, L2, k2, n2⟩, -, X2, ⟨Lc2, hQ2, l2, y2, z2⟩, st2⟩ := Jvm.LawKit.callS X1 hx (y := (⟨"com/example/inman/inman/Jump", "bucket", "(JI)I"⟩ : MethodName)) hown (mvT hZ (hw _ (List.mem_of_getElem? (i := 2) rfl))) (mvT hZ (hw _ (List.mem_of_getElem? (i := 3) rfl))) (mvT hZ (hw _ (List.mem_of_getElem? (i := 4) rfl))) (mvT hZ (hw _ (List.mem_of_getElem? (i := 5) rfl))) (by decide) (backOf (W := 0) (rmB l Z a0 hw [] q0 (2 : Int32)   h0 n0 O0  (by decide)) hZ (hw _ (List.mem_of_getElem? (i := 5) rfl)) (hw _ (List.mem_of_getElem? (i := 4) rfl)) (by decide) (by decide)) (g := (mkF m 37 #[.val (.long q0), .second, .val (.int p2), .val (.int p3), .val (.int pn), .val (.int pm), .val (.int r30), .unset, .unset, .unset, .unset, .unset, .unset, .unset, .unset, .unset, .unset, .unset] [(.int (2 : Int32)), (.long q0)])) rfl (by rw [hml]; rfl) (argsL := [(.long q0), (.int (2 : Int32))]) (rest := []) (lenOf pd_41 rfl) rfl (by show 2 * 0 + _ ≤ _; exact Nat.le_of_eq rfl) (hb hby at_37) (fun _ _ => ⟨rfl, e1, (by decide : 0 + 0 ≤ _), (by decide : 0 + 0 ≤ _)⟩)
  dsimp only [Pt.U, Pt.locs, Pt.cells, Pt.slots] at X2 l2 y2 z2 st2 hQ2
  subst l2 y2 z2
  obtain ⟨⟨i37, r37, rfl, hr37, B37⟩, Nq2, e2⟩ := hQ2
  have N2 := Fr.app N1 Nq2
  refine Goes.to (T' := T2.setTop (mkF m 40 #[.val (.long q0), .second, .val (.int p2), .val (.int p3), .val (.int pn), .val (.int pm), .val (.int r30), .unset, .unset, .unset, .unset, .unset, .unset, .unset, .unset, .unset, .unset, .unset] [(.int r37)])) st2 ?_
  refine Goes.to (T' := T2.setTop (mkF m 42 #[.val (.long q0), .second, .val (.int p2), .val (.int p3), .val (.int pn), .val (.int pm), .val (.int r30), .val (.int r37), .unset, .unset, .unset, .unset, .unset, .unset, .unset, .unset, .unset, .unset] [])) (fun t k => XS.istore X2.here hx rfl (hb hby at_40) rfl (l' := #[.val (.long q0), .second, .val (.int p2), .val (.int p3), .val (.int pn), .val (.int pm), .val (.int r30), .val (.int r37), .unset, .unset, .unset, .unset, .unset, .unset, .unset, .unset, .unset, .unset]) rfl k) ?_
  refine Goes.to (T' := T2.setTop (mkF m 43 #[.val (.long q0), .second, .val (.int p2), .val (.int p3), .val (.int pn), .val (.int pm), .val (.int r30), .val (.int r37), .unset, .unset, .unset, .unset, .unset, .unset, .unset, .unset, .unset, .unset] [(.long q0)])) (fun t k => XS.lloadN X2.here hx rfl (hb hby at_42) rfl k) ?_
  refine Goes.to (T' := T2.setTop (mkF m 45 #[.val (.long q0), .second, .val (.int p2), .val (.int p3), .val (.int pn), .val (.int pm), .val (.int r30), .val (.int r37), .unset, .unset, .unset, .unset, .unset, .unset, .unset, .unset, .unset, .unset] [(.int pn), (.long q0)])) (fun t k => XS.iload X2.here hx rfl (hb hby at_43) rfl k) ?_
  obtain ⟨_, _, ⟨T3, L3, k3, n3⟩, -, X3, ⟨Lc3, hQ3, l3, y3, z3⟩, st3⟩ := Jvm.LawKit.callS X2 hx (y := (⟨"com/example/inman/inman/Jump", "bucket", "(JI)I"⟩ : MethodName)) hown (mvT hZ (hw _ (List.mem_of_getElem? (i := 2) rfl))) (mvT hZ (hw _ (List.mem_of_getElem? (i := 3) rfl))) (mvT hZ (hw _ (List.mem_of_getElem? (i := 4) rfl))) (mvT hZ (hw _ (List.mem_of_getElem? (i := 5) rfl))) (by decide) (backOf (W := 0) (rmB l Z a0 hw [] q0 pn   h0 n0 O0  (by omega)) hZ (hw _ (List.mem_of_getElem? (i := 5) rfl)) (hw _ (List.mem_of_getElem? (i := 4) rfl)) (by decide) (by decide)) (g := (mkF m 45 #[.val (.long q0), .second, .val (.int p2), .val (.int p3), .val (.int pn), .val (.int pm), .val (.int r30), .val (.int r37), .unset, .unset, .unset, .unset, .unset, .unset, .unset, .unset, .unset, .unset] [(.int pn), (.long q0)])) rfl (by rw [hml]; rfl) (argsL := [(.long q0), (.int pn)]) (rest := []) (lenOf pd_41 rfl) rfl (by show 2 * 0 + _ ≤ _; exact Nat.le_of_eq rfl) (hb hby at_45) (fun _ _ => ⟨rfl, e2, (by decide : 0 + 0 ≤ _), (by decide : 0 + 0 ≤ _)⟩)
  dsimp only [Pt.U, Pt.locs, Pt.cells, Pt.slots] at X3 l3 y3 z3 st3 hQ3
  subst l3 y3 z3
  obtain ⟨⟨i45, r45, rfl, hr45, B45⟩, Nq3, e3⟩ := hQ3
  have N3 := Fr.app N2 Nq3
  refine Goes.to (T' := T3.setTop (mkF m 48 #[.val (.long q0), .second, .val (.int p2), .val (.int p3), .val (.int pn), .val (.int pm), .val (.int r30), .val (.int r37), .unset, .unset, .unset, .unset, .unset, .unset, .unset, .unset, .unset, .unset] [(.int r45)])) st3 ?_
  refine Goes.to (T' := T3.setTop (mkF m 50 #[.val (.long q0), .second, .val (.int p2), .val (.int p3), .val (.int pn), .val (.int pm), .val (.int r30), .val (.int r37), .val (.int r45), .unset, .unset, .unset, .unset, .unset, .unset, .unset, .unset, .unset] [])) (fun t k => XS.istore X3.here hx rfl (hb hby at_48) rfl (l' := #[.val (.long q0), .second, .val (.int p2), .val (.int p3), .val (.int pn), .val (.int pm), .val (.int r30), .val (.int r37), .val (.int r45), .unset, .unset, .unset, .unset, .unset, .unset, .unset, .unset, .unset]) rfl k) ?_
  refine Goes.to (T' := T3.setTop (mkF m 51 #[.val (.long q0), .second, .val (.int p2), .val (.int p3), .val (.int pn), .val (.int pm), .val (.int r30), .val (.int r37), .val (.int r45), .unset, .unset, .unset, .unset, .unset, .unset, .unset, .unset, .unset] [(.long q0)])) (fun t k => XS.lloadN X3.here hx rfl (hb hby at_50) rfl k) ?_
  refine Goes.to (T' := T3.setTop (mkF m 53 #[.val (.long q0), .second, .val (.int p2), .val (.int p3), .val (.int pn), .val (.int pm), .val (.int r30), .val (.int r37), .val (.int r45), .unset, .unset, .unset, .unset, .unset, .unset, .unset, .unset, .unset] [(.int pn), (.long q0)])) (fun t k => XS.iload X3.here hx rfl (hb hby at_51) rfl k) ?_
  refine Goes.to (T' := T3.setTop (mkF m 54 #[.val (.long q0), .second, .val (.int p2), .val (.int p3), .val (.int pn), .val (.int pm), .val (.int r30), .val (.int r37), .val (.int r45), .unset, .unset, .unset, .unset, .unset, .unset, .unset, .unset, .unset] [(.int (1 : Int32)), (.int pn), (.long q0)])) (fun t k => XS.iconst X3.here hx rfl (hb hby at_53) k) ?_
  refine Goes.to (T' := T3.setTop (mkF m 55 #[.val (.long q0), .second, .val (.int p2), .val (.int p3), .val (.int pn), .val (.int pm), .val (.int r30), .val (.int r37), .val (.int r45), .unset, .unset, .unset, .unset, .unset, .unset, .unset, .unset, .unset] [(.int (pn + (1 : Int32))), (.long q0)])) (fun t k => XS.iadd X3.here hx rfl (hb hby at_54) rfl k) ?_
  obtain ⟨_, _, ⟨T4, L4, k4, n4⟩, -, X4, ⟨Lc4, hQ4, l4, y4, z4⟩, st4⟩ := Jvm.LawKit.callS X3 hx (y := (⟨"com/example/inman/inman/Jump", "bucket", "(JI)I"⟩ : MethodName)) hown (mvT hZ (hw _ (List.mem_of_getElem? (i := 2) rfl))) (mvT hZ (hw _ (List.mem_of_getElem? (i := 3) rfl))) (mvT hZ (hw _ (List.mem_of_getElem? (i := 4) rfl))) (mvT hZ (hw _ (List.mem_of_getElem? (i := 5) rfl))) (by decide) (backOf (W := 0) (rmB l Z a0 hw [] q0 (pn + (1 : Int32))   h0 n0 O0  (by rw [own_n1 hn.1 hn.2]; omega)) hZ (hw _ (List.mem_of_getElem? (i := 5) rfl)) (hw _ (List.mem_of_getElem? (i := 4) rfl)) (by decide) (by decide)) (g := (mkF m 55 #[.val (.long q0), .second, .val (.int p2), .val (.int p3), .val (.int pn), .val (.int pm), .val (.int r30), .val (.int r37), .val (.int r45), .unset, .unset, .unset, .unset, .unset, .unset, .unset, .unset, .unset] [(.int (pn + (1 : Int32))), (.long q0)])) rfl (by rw [hml]; rfl) (argsL := [(.long q0), (.int (pn + (1 : Int32)))]) (rest := []) (lenOf pd_41 rfl) rfl (by show 2 * 0 + _ ≤ _; exact Nat.le_of_eq rfl) (hb hby at_55) (fun _ _ => ⟨rfl, e3, (by decide : 0 + 0 ≤ _), (by decide : 0 + 0 ≤ _)⟩)
  dsimp only [Pt.U, Pt.locs, Pt.cells, Pt.slots] at X4 l4 y4 z4 st4 hQ4
  subst l4 y4 z4
  obtain ⟨⟨i55, r55, rfl, hr55, B55⟩, Nq4, e4⟩ := hQ4
  have N4 := Fr.app N3 Nq4
  refine Goes.to (T' := T4.setTop (mkF m 58 #[.val (.long q0), .second, .val (.int p2), .val (.int p3), .val (.int pn), .val (.int pm), .val (.int r30), .val (.int r37), .val (.int r45), .unset, .unset, .unset, .unset, .unset, .unset, .unset, .unset, .unset] [(.int r55)])) st4 ?_
  refine Goes.to (T' := T4.setTop (mkF m 60 #[.val (.long q0), .second, .val (.int p2), .val (.int p3), .val (.int pn), .val (.int pm), .val (.int r30), .val (.int r37), .val (.int r45), .val (.int r55), .unset, .unset, .unset, .unset, .unset, .unset, .unset, .unset] [])) (fun t k => XS.istore X4.here hx rfl (hb hby at_58) rfl (l' := #[.val (.long q0), .second, .val (.int p2), .val (.int p3), .val (.int pn), .val (.int pm), .val (.int r30), .val (.int r37), .val (.int r45), .val (.int r55), .unset, .unset, .unset, .unset, .unset, .unset, .unset, .unset]) rfl k) ?_
  refine Goes.to (T' := T4.setTop (mkF m 61 #[.val (.long q0), .second, .val (.int p2), .val (.int p3), .val (.int pn), .val (.int pm), .val (.int r30), .val (.int r37), .val (.int r45), .val (.int r55), .unset, .unset, .unset, .unset, .unset, .unset, .unset, .unset] [(.long q0)])) (fun t k => XS.lloadN X4.here hx rfl (hb hby at_60) rfl k) ?_
  refine Goes.to (T' := T4.setTop (mkF m 63 #[.val (.long q0), .second, .val (.int p2), .val (.int p3), .val (.int pn), .val (.int pm), .val (.int r30), .val (.int r37), .val (.int r45), .val (.int r55), .unset, .unset, .unset, .unset, .unset, .unset, .unset, .unset] [(.int pm), (.long q0)])) (fun t k => XS.iload X4.here hx rfl (hb hby at_61) rfl k) ?_
  obtain ⟨_, _, ⟨T5, L5, k5, n5⟩, -, X5, ⟨Lc5, hQ5, l5, y5, z5⟩, st5⟩ := Jvm.LawKit.callS X4 hx (y := (⟨"com/example/inman/inman/Jump", "bucket", "(JI)I"⟩ : MethodName)) hown (mvT hZ (hw _ (List.mem_of_getElem? (i := 2) rfl))) (mvT hZ (hw _ (List.mem_of_getElem? (i := 3) rfl))) (mvT hZ (hw _ (List.mem_of_getElem? (i := 4) rfl))) (mvT hZ (hw _ (List.mem_of_getElem? (i := 5) rfl))) (by decide) (backOf (W := 0) (rmB l Z a0 hw [] q0 pm   h0 n0 O0  (by omega)) hZ (hw _ (List.mem_of_getElem? (i := 5) rfl)) (hw _ (List.mem_of_getElem? (i := 4) rfl)) (by decide) (by decide)) (g := (mkF m 63 #[.val (.long q0), .second, .val (.int p2), .val (.int p3), .val (.int pn), .val (.int pm), .val (.int r30), .val (.int r37), .val (.int r45), .val (.int r55), .unset, .unset, .unset, .unset, .unset, .unset, .unset, .unset] [(.int pm), (.long q0)])) rfl (by rw [hml]; rfl) (argsL := [(.long q0), (.int pm)]) (rest := []) (lenOf pd_41 rfl) rfl (by show 2 * 0 + _ ≤ _; exact Nat.le_of_eq rfl) (hb hby at_63) (fun _ _ => ⟨rfl, e4, (by decide : 0 + 0 ≤ _), (by decide : 0 + 0 ≤ _)⟩)
  dsimp only [Pt.U, Pt.locs, Pt.cells, Pt.slots] at X5 l5 y5 z5 st5 hQ5
  subst l5 y5 z5
  obtain ⟨⟨i63, r63, rfl, hr63, B63⟩, Nq5, e5⟩ := hQ5
  have N5 := Fr.app N4 Nq5
  refine Goes.to (T' := T5.setTop (mkF m 66 #[.val (.long q0), .second, .val (.int p2), .val (.int p3), .val (.int pn), .val (.int pm), .val (.int r30), .val (.int r37), .val (.int r45), .val (.int r55), .unset, .unset, .unset, .unset, .unset, .unset, .unset, .unset] [(.int r63)])) st5 ?_
  refine Goes.to (T' := T5.setTop (mkF m 68 #[.val (.long q0), .second, .val (.int p2), .val (.int p3), .val (.int pn), .val (.int pm), .val (.int r30), .val (.int r37), .val (.int r45), .val (.int r55), .val (.int r63), .unset, .unset, .unset, .unset, .unset, .unset, .unset] [])) (fun t k => XS.istore X5.here hx rfl (hb hby at_66) rfl (l' := #[.val (.long q0), .second, .val (.int p2), .val (.int p3), .val (.int pn), .val (.int pm), .val (.int r30), .val (.int r37), .val (.int r45), .val (.int r55), .val (.int r63), .unset, .unset, .unset, .unset, .unset, .unset, .unset]) rfl k) ?_
  refine Goes.to (T' := T5.setTop (mkF m 69 #[.val (.long q0), .second, .val (.int p2), .val (.int p3), .val (.int pn), .val (.int pm), .val (.int r30), .val (.int r37), .val (.int r45), .val (.int r55), .val (.int r63), .unset, .unset, .unset, .unset, .unset, .unset, .unset] [(.long q0)])) (fun t k => XS.lloadN X5.here hx rfl (hb hby at_68) rfl k) ?_
  refine Goes.to (T' := T5.setTop (mkF m 72 #[.val (.long q0), .second, .val (.int p2), .val (.int p3), .val (.int pn), .val (.int pm), .val (.int r30), .val (.int r37), .val (.int r45), .val (.int r55), .val (.int r63), .unset, .unset, .unset, .unset, .unset, .unset, .unset] [(.long (2862933555777941757 : Int64)), (.long q0)])) (X5.ldc2Long hx hown (mvT hZ (hw _ (List.mem_of_getElem? (i := 9) rfl))) (g := (mkF m 69 #[.val (.long q0), .second, .val (.int p2), .val (.int p3), .val (.int pn), .val (.int pm), .val (.int r30), .val (.int r37), .val (.int r45), .val (.int r55), .val (.int r63), .unset, .unset, .unset, .unset, .unset, .unset, .unset] [(.long q0)])) rfl (hb hby at_69)) ?_
  refine Goes.to (T' := T5.setTop (mkF m 73 #[.val (.long q0), .second, .val (.int p2), .val (.int p3), .val (.int pn), .val (.int pm), .val (.int r30), .val (.int r37), .val (.int r45), .val (.int r55), .val (.int r63), .unset, .unset, .unset, .unset, .unset, .unset, .unset] [(.long (q0 * (2862933555777941757 : Int64)))])) (fun t k => XS.lmul X5.here hx rfl (hb hby at_72) rfl k) ?_
  refine Goes.to (T' := T5.setTop (mkF m 74 #[.val (.long q0), .second, .val (.int p2), .val (.int p3), .val (.int pn), .val (.int pm), .val (.int r30), .val (.int r37), .val (.int r45), .val (.int r55), .val (.int r63), .unset, .unset, .unset, .unset, .unset, .unset, .unset] [(.long (1 : Int64)), (.long (q0 * (2862933555777941757 : Int64)))])) (fun t k => XS.lconst X5.here hx rfl (hb hby at_73) k) ?_
  refine Goes.to (T' := T5.setTop (mkF m 75 #[.val (.long q0), .second, .val (.int p2), .val (.int p3), .val (.int pn), .val (.int pm), .val (.int r30), .val (.int r37), .val (.int r45), .val (.int r55), .val (.int r63), .unset, .unset, .unset, .unset, .unset, .unset, .unset] [(.long ((q0 * (2862933555777941757 : Int64)) + (1 : Int64)))])) (fun t k => XS.ladd X5.here hx rfl (hb hby at_74) rfl k) ?_
  rw [show (q0 * (2862933555777941757 : Int64)) + (1 : Int64) = jk q0 1 from rfl]
  refine Goes.to (T' := T5.setTop (mkF m 77 #[.val (.long q0), .second, .val (.int p2), .val (.int p3), .val (.int pn), .val (.int pm), .val (.int r30), .val (.int r37), .val (.int r45), .val (.int r55), .val (.int r63), .val (.long (jk q0 1)), .second, .unset, .unset, .unset, .unset, .unset] [])) (fun t k => XS.lstore X5.here hx rfl (hb hby at_75) rfl (l' := #[.val (.long q0), .second, .val (.int p2), .val (.int p3), .val (.int pn), .val (.int pm), .val (.int r30), .val (.int r37), .val (.int r45), .val (.int r55), .val (.int r63), .val (.long (jk q0 1)), .second, .unset, .unset, .unset, .unset, .unset]) rfl k) ?_
  have e0 : (0 : Int32).toInt = 0 := rfl
  have e1 : (1 : Int32).toInt = 1 := rfl
  have en1 := own_n1 hn.1 hn.2
  rw [show (1 : Int32).toInt = 1 from rfl] at B30
  rw [show (2 : Int32).toInt = 2 from rfl] at B37
  rw [en1] at B55
  have z30 := own_one B30
  have z37 := own_first B37
  have z45 := B45.1 i45 (Nat.le_refl _)
  have z55 := B55.1 i55 (Nat.le_refl _)
  have z63 := B63.1 i63 (Nat.le_refl _)
  have t55 := own_two B45 B55 (by omega) (by omega)
  have t63 := own_two B45 B63 hm (by omega)
  refine Goes.to (T' := T5.setTop (mkF m 79 #[.val (.long q0), .second, .val (.int p2), .val (.int p3), .val (.int pn), .val (.int pm), .val (.int r30), .val (.int r37), .val (.int r45), .val (.int r55), .val (.int r63), .val (.long (jk q0 1)), .second, .unset, .unset, .unset, .unset, .unset] [(.long (jk q0 1))])) (fun t k => XS.lload X5.here hx rfl (hb hby at_77) rfl k) ?_
  refine Goes.to (T' := T5.setTop (mkF m 80 #[.val (.long q0), .second, .val (.int p2), .val (.int p3), .val (.int pn), .val (.int pm), .val (.int r30), .val (.int r37), .val (.int r45), .val (.int r55), .val (.int r63), .val (.long (jk q0 1)), .second, .unset, .unset, .unset, .unset, .unset] [(.long (0 : Int64)), (.long (jk q0 1))])) (fun t k => XS.lconst X5.here hx rfl (hb hby at_79) k) ?_
  refine Goes.to (T' := T5.setTop (mkF m 81 #[.val (.long q0), .second, .val (.int p2), .val (.int p3), .val (.int pn), .val (.int pm), .val (.int r30), .val (.int r37), .val (.int r45), .val (.int r55), .val (.int r63), .val (.long (jk q0 1)), .second, .unset, .unset, .unset, .unset, .unset] [(.int (lcmpW (jk q0 1) (0 : Int64)))])) (fun t k => XS.lcmp X5.here hx rfl (hb hby at_80) rfl k) ?_
  rcases Decidable.em ((jk q0 1) < (0 : Int64)) with hc81_6 | hc81_6
  · skip
    refine Goes.to (T' := T5.setTop (mkF m 84 #[.val (.long q0), .second, .val (.int p2), .val (.int p3), .val (.int pn), .val (.int pm), .val (.int r30), .val (.int r37), .val (.int r45), .val (.int r55), .val (.int r63), .val (.long (jk q0 1)), .second, .unset, .unset, .unset, .unset, .unset] [])) (fun t k => XS.ifNo X5.here hx rfl (hb hby at_81) rfl ((if0 _ _).trans (tlt ((lw_lt (jk q0 1) (0 : Int64)).mpr hc81_6)).2.1) k) ?_
    refine Goes.to (T' := T5.setTop (mkF m 85 #[.val (.long q0), .second, .val (.int p2), .val (.int p3), .val (.int pn), .val (.int pm), .val (.int r30), .val (.int r37), .val (.int r45), .val (.int r55), .val (.int r63), .val (.long (jk q0 1)), .second, .unset, .unset, .unset, .unset, .unset] [(.int (1 : Int32))])) (fun t k => XS.iconst X5.here hx rfl (hb hby at_84) k) ?_
    refine Goes.to (T' := T5.setTop (mkF m 89 #[.val (.long q0), .second, .val (.int p2), .val (.int p3), .val (.int pn), .val (.int pm), .val (.int r30), .val (.int r37), .val (.int r45), .val (.int r55), .val (.int r63), .val (.long (jk q0 1)), .second, .unset, .unset, .unset, .unset, .unset] [(.int (1 : Int32))])) (fun t k => XS.goto X5.here hx rfl (pc0 := 85) (pc' := 89) rfl (hb hby at_85) (by decide) (by decide) k) ?_
    refine Goes.to (T' := T5.setTop (mkF m 91 #[.val (.long q0), .second, .val (.int p2), .val (.int p3), .val (.int pn), .val (.int pm), .val (.int r30), .val (.int r37), .val (.int r45), .val (.int r55), .val (.int r63), .val (.long (jk q0 1)), .second, .val (.int (1 : Int32)), .unset, .unset, .unset, .unset] [])) (fun t k => XS.istore X5.here hx rfl (hb hby at_89) rfl (l' := #[.val (.long q0), .second, .val (.int p2), .val (.int p3), .val (.int pn), .val (.int pm), .val (.int r30), .val (.int r37), .val (.int r45), .val (.int r55), .val (.int r63), .val (.long (jk q0 1)), .second, .val (.int (1 : Int32)), .unset, .unset, .unset, .unset]) rfl k) ?_
    refine Goes.to (T' := T5.setTop (mkF m 93 #[.val (.long q0), .second, .val (.int p2), .val (.int p3), .val (.int pn), .val (.int pm), .val (.int r30), .val (.int r37), .val (.int r45), .val (.int r55), .val (.int r63), .val (.long (jk q0 1)), .second, .val (.int (1 : Int32)), .unset, .unset, .unset, .unset] [(.int r30)])) (fun t k => XS.iload X5.here hx rfl (hb hby at_91) rfl k) ?_
    have hc93_7 : r30 = (0 : Int32) := (Int32.toInt_inj.mp (by omega))
    refine Goes.to (T' := T5.setTop (mkF m 96 #[.val (.long q0), .second, .val (.int p2), .val (.int p3), .val (.int pn), .val (.int pm), .val (.int r30), .val (.int r37), .val (.int r45), .val (.int r55), .val (.int r63), .val (.long (jk q0 1)), .second, .val (.int (1 : Int32)), .unset, .unset, .unset, .unset] [])) (fun t k => XS.ifNo X5.here hx rfl (hb hby at_93) rfl ((if0 _ _).trans (teq hc93_7).2) k) ?_
    refine Goes.to (T' := T5.setTop (mkF m 98 #[.val (.long q0), .second, .val (.int p2), .val (.int p3), .val (.int pn), .val (.int pm), .val (.int r30), .val (.int r37), .val (.int r45), .val (.int r55), .val (.int r63), .val (.long (jk q0 1)), .second, .val (.int (1 : Int32)), .unset, .unset, .unset, .unset] [(.int r37)])) (fun t k => XS.iload X5.here hx rfl (hb hby at_96) rfl k) ?_
    refine Goes.to (T' := T5.setTop (mkF m 100 #[.val (.long q0), .second, .val (.int p2), .val (.int p3), .val (.int pn), .val (.int pm), .val (.int r30), .val (.int r37), .val (.int r45), .val (.int r55), .val (.int r63), .val (.long (jk q0 1)), .second, .val (.int (1 : Int32)), .unset, .unset, .unset, .unset] [(.int (1 : Int32)), (.int r37)])) (fun t k => XS.iload X5.here hx rfl (hb hby at_98) rfl k) ?_
    have hc100_8 : r37 = (1 : Int32) := (Int32.toInt_inj.mp (by have := z37.1 hc81_6; omega))
    refine Goes.to (T' := T5.setTop (mkF m 103 #[.val (.long q0), .second, .val (.int p2), .val (.int p3), .val (.int pn), .val (.int pm), .val (.int r30), .val (.int r37), .val (.int r45), .val (.int r55), .val (.int r63), .val (.long (jk q0 1)), .second, .val (.int (1 : Int32)), .unset, .unset, .unset, .unset] [])) (fun t k => XS.icmpNo X5.here hx rfl (hb hby at_100) rfl (teq hc100_8).2 k) ?_
    refine Goes.to (T' := T5.setTop (mkF m 104 #[.val (.long q0), .second, .val (.int p2), .val (.int p3), .val (.int pn), .val (.int pm), .val (.int r30), .val (.int r37), .val (.int r45), .val (.int r55), .val (.int r63), .val (.long (jk q0 1)), .second, .val (.int (1 : Int32)), .unset, .unset, .unset, .unset] [(.int (1 : Int32))])) (fun t k => XS.iconst X5.here hx rfl (hb hby at_103) k) ?_
    refine Goes.to (T' := T5.setTop (mkF m 108 #[.val (.long q0), .second, .val (.int p2), .val (.int p3), .val (.int pn), .val (.int pm), .val (.int r30), .val (.int r37), .val (.int r45), .val (.int r55), .val (.int r63), .val (.long (jk q0 1)), .second, .val (.int (1 : Int32)), .unset, .unset, .unset, .unset] [(.int (1 : Int32))])) (fun t k => XS.goto X5.here hx rfl (pc0 := 104) (pc' := 108) rfl (hb hby at_104) (by decide) (by decide) k) ?_
    refine Goes.to (T' := T5.setTop (mkF m 110 #[.val (.long q0), .second, .val (.int p2), .val (.int p3), .val (.int pn), .val (.int pm), .val (.int r30), .val (.int r37), .val (.int r45), .val (.int r55), .val (.int r63), .val (.long (jk q0 1)), .second, .val (.int (1 : Int32)), .val (.int (1 : Int32)), .unset, .unset, .unset] [])) (fun t k => XS.istore X5.here hx rfl (hb hby at_108) rfl (l' := #[.val (.long q0), .second, .val (.int p2), .val (.int p3), .val (.int pn), .val (.int pm), .val (.int r30), .val (.int r37), .val (.int r45), .val (.int r55), .val (.int r63), .val (.long (jk q0 1)), .second, .val (.int (1 : Int32)), .val (.int (1 : Int32)), .unset, .unset, .unset]) rfl k) ?_
    refine Goes.to (T' := T5.setTop (mkF m 112 #[.val (.long q0), .second, .val (.int p2), .val (.int p3), .val (.int pn), .val (.int pm), .val (.int r30), .val (.int r37), .val (.int r45), .val (.int r55), .val (.int r63), .val (.long (jk q0 1)), .second, .val (.int (1 : Int32)), .val (.int (1 : Int32)), .unset, .unset, .unset] [(.int r45)])) (fun t k => XS.iload X5.here hx rfl (hb hby at_110) rfl k) ?_
    have hc112_9 : ¬ (r45 < (0 : Int32)) := (by rw [Int32.lt_iff_toInt_lt]; omega)
    refine Goes.to (T' := T5.setTop (mkF m 115 #[.val (.long q0), .second, .val (.int p2), .val (.int p3), .val (.int pn), .val (.int pm), .val (.int r30), .val (.int r37), .val (.int r45), .val (.int r55), .val (.int r63), .val (.long (jk q0 1)), .second, .val (.int (1 : Int32)), .val (.int (1 : Int32)), .unset, .unset, .unset] [])) (fun t k => XS.ifNo X5.here hx rfl (hb hby at_112) rfl ((if0 _ _).trans (flt hc112_9).1) k) ?_
    refine Goes.to (T' := T5.setTop (mkF m 117 #[.val (.long q0), .second, .val (.int p2), .val (.int p3), .val (.int pn), .val (.int pm), .val (.int r30), .val (.int r37), .val (.int r45), .val (.int r55), .val (.int r63), .val (.long (jk q0 1)), .second, .val (.int (1 : Int32)), .val (.int (1 : Int32)), .unset, .unset, .unset] [(.int r45)])) (fun t k => XS.iload X5.here hx rfl (hb hby at_115) rfl k) ?_
    refine Goes.to (T' := T5.setTop (mkF m 119 #[.val (.long q0), .second, .val (.int p2), .val (.int p3), .val (.int pn), .val (.int pm), .val (.int r30), .val (.int r37), .val (.int r45), .val (.int r55), .val (.int r63), .val (.long (jk q0 1)), .second, .val (.int (1 : Int32)), .val (.int (1 : Int32)), .unset, .unset, .unset] [(.int pn), (.int r45)])) (fun t k => XS.iload X5.here hx rfl (hb hby at_117) rfl k) ?_
    have hc119_10 : r45 < pn := (by rw [Int32.lt_iff_toInt_lt]; omega)
    refine Goes.to (T' := T5.setTop (mkF m 122 #[.val (.long q0), .second, .val (.int p2), .val (.int p3), .val (.int pn), .val (.int pm), .val (.int r30), .val (.int r37), .val (.int r45), .val (.int r55), .val (.int r63), .val (.long (jk q0 1)), .second, .val (.int (1 : Int32)), .val (.int (1 : Int32)), .unset, .unset, .unset] [])) (fun t k => XS.icmpNo X5.here hx rfl (hb hby at_119) rfl (tlt hc119_10).2.1 k) ?_
    refine Goes.to (T' := T5.setTop (mkF m 124 #[.val (.long q0), .second, .val (.int p2), .val (.int p3), .val (.int pn), .val (.int pm), .val (.int r30), .val (.int r37), .val (.int r45), .val (.int r55), .val (.int r63), .val (.long (jk q0 1)), .second, .val (.int (1 : Int32)), .val (.int (1 : Int32)), .unset, .unset, .unset] [(.int r55)])) (fun t k => XS.iload X5.here hx rfl (hb hby at_122) rfl k) ?_
    have hc124_11 : ¬ (r55 < (0 : Int32)) := (by rw [Int32.lt_iff_toInt_lt]; omega)
    refine Goes.to (T' := T5.setTop (mkF m 127 #[.val (.long q0), .second, .val (.int p2), .val (.int p3), .val (.int pn), .val (.int pm), .val (.int r30), .val (.int r37), .val (.int r45), .val (.int r55), .val (.int r63), .val (.long (jk q0 1)), .second, .val (.int (1 : Int32)), .val (.int (1 : Int32)), .unset, .unset, .unset] [])) (fun t k => XS.ifNo X5.here hx rfl (hb hby at_124) rfl ((if0 _ _).trans (flt hc124_11).1) k) ?_
    refine Goes.to (T' := T5.setTop (mkF m 129 #[.val (.long q0), .second, .val (.int p2), .val (.int p3), .val (.int pn), .val (.int pm), .val (.int r30), .val (.int r37), .val (.int r45), .val (.int r55), .val (.int r63), .val (.long (jk q0 1)), .second, .val (.int (1 : Int32)), .val (.int (1 : Int32)), .unset, .unset, .unset] [(.int r55)])) (fun t k => XS.iload X5.here hx rfl (hb hby at_127) rfl k) ?_
    refine Goes.to (T' := T5.setTop (mkF m 131 #[.val (.long q0), .second, .val (.int p2), .val (.int p3), .val (.int pn), .val (.int pm), .val (.int r30), .val (.int r37), .val (.int r45), .val (.int r55), .val (.int r63), .val (.long (jk q0 1)), .second, .val (.int (1 : Int32)), .val (.int (1 : Int32)), .unset, .unset, .unset] [(.int pn), (.int r55)])) (fun t k => XS.iload X5.here hx rfl (hb hby at_129) rfl k) ?_
    have hc131_12 : ¬ (pn < r55) := (by rw [Int32.lt_iff_toInt_lt]; omega)
    refine Goes.to (T' := T5.setTop (mkF m 134 #[.val (.long q0), .second, .val (.int p2), .val (.int p3), .val (.int pn), .val (.int pm), .val (.int r30), .val (.int r37), .val (.int r45), .val (.int r55), .val (.int r63), .val (.long (jk q0 1)), .second, .val (.int (1 : Int32)), .val (.int (1 : Int32)), .unset, .unset, .unset] [])) (fun t k => XS.icmpNo X5.here hx rfl (hb hby at_131) rfl (flt hc131_12).2.2.1 k) ?_
    refine Goes.to (T' := T5.setTop (mkF m 136 #[.val (.long q0), .second, .val (.int p2), .val (.int p3), .val (.int pn), .val (.int pm), .val (.int r30), .val (.int r37), .val (.int r45), .val (.int r55), .val (.int r63), .val (.long (jk q0 1)), .second, .val (.int (1 : Int32)), .val (.int (1 : Int32)), .unset, .unset, .unset] [(.int r63)])) (fun t k => XS.iload X5.here hx rfl (hb hby at_134) rfl k) ?_
    have hc136_13 : ¬ (r63 < (0 : Int32)) := (by rw [Int32.lt_iff_toInt_lt]; omega)
    refine Goes.to (T' := T5.setTop (mkF m 139 #[.val (.long q0), .second, .val (.int p2), .val (.int p3), .val (.int pn), .val (.int pm), .val (.int r30), .val (.int r37), .val (.int r45), .val (.int r55), .val (.int r63), .val (.long (jk q0 1)), .second, .val (.int (1 : Int32)), .val (.int (1 : Int32)), .unset, .unset, .unset] [])) (fun t k => XS.ifNo X5.here hx rfl (hb hby at_136) rfl ((if0 _ _).trans (flt hc136_13).1) k) ?_
    refine Goes.to (T' := T5.setTop (mkF m 141 #[.val (.long q0), .second, .val (.int p2), .val (.int p3), .val (.int pn), .val (.int pm), .val (.int r30), .val (.int r37), .val (.int r45), .val (.int r55), .val (.int r63), .val (.long (jk q0 1)), .second, .val (.int (1 : Int32)), .val (.int (1 : Int32)), .unset, .unset, .unset] [(.int r63)])) (fun t k => XS.iload X5.here hx rfl (hb hby at_139) rfl k) ?_
    refine Goes.to (T' := T5.setTop (mkF m 143 #[.val (.long q0), .second, .val (.int p2), .val (.int p3), .val (.int pn), .val (.int pm), .val (.int r30), .val (.int r37), .val (.int r45), .val (.int r55), .val (.int r63), .val (.long (jk q0 1)), .second, .val (.int (1 : Int32)), .val (.int (1 : Int32)), .unset, .unset, .unset] [(.int pm), (.int r63)])) (fun t k => XS.iload X5.here hx rfl (hb hby at_141) rfl k) ?_
    have hc143_14 : r63 < pm := (by rw [Int32.lt_iff_toInt_lt]; omega)
    refine Goes.to (T' := T5.setTop (mkF m 146 #[.val (.long q0), .second, .val (.int p2), .val (.int p3), .val (.int pn), .val (.int pm), .val (.int r30), .val (.int r37), .val (.int r45), .val (.int r55), .val (.int r63), .val (.long (jk q0 1)), .second, .val (.int (1 : Int32)), .val (.int (1 : Int32)), .unset, .unset, .unset] [])) (fun t k => XS.icmpNo X5.here hx rfl (hb hby at_143) rfl (tlt hc143_14).2.1 k) ?_
    refine Goes.to (T' := T5.setTop (mkF m 147 #[.val (.long q0), .second, .val (.int p2), .val (.int p3), .val (.int pn), .val (.int pm), .val (.int r30), .val (.int r37), .val (.int r45), .val (.int r55), .val (.int r63), .val (.long (jk q0 1)), .second, .val (.int (1 : Int32)), .val (.int (1 : Int32)), .unset, .unset, .unset] [(.int (1 : Int32))])) (fun t k => XS.iconst X5.here hx rfl (hb hby at_146) k) ?_
    refine Goes.to (T' := T5.setTop (mkF m 151 #[.val (.long q0), .second, .val (.int p2), .val (.int p3), .val (.int pn), .val (.int pm), .val (.int r30), .val (.int r37), .val (.int r45), .val (.int r55), .val (.int r63), .val (.long (jk q0 1)), .second, .val (.int (1 : Int32)), .val (.int (1 : Int32)), .unset, .unset, .unset] [(.int (1 : Int32))])) (fun t k => XS.goto X5.here hx rfl (pc0 := 147) (pc' := 151) rfl (hb hby at_147) (by decide) (by decide) k) ?_
    refine Goes.to (T' := T5.setTop (mkF m 153 #[.val (.long q0), .second, .val (.int p2), .val (.int p3), .val (.int pn), .val (.int pm), .val (.int r30), .val (.int r37), .val (.int r45), .val (.int r55), .val (.int r63), .val (.long (jk q0 1)), .second, .val (.int (1 : Int32)), .val (.int (1 : Int32)), .val (.int (1 : Int32)), .unset, .unset] [])) (fun t k => XS.istore X5.here hx rfl (hb hby at_151) rfl (l' := #[.val (.long q0), .second, .val (.int p2), .val (.int p3), .val (.int pn), .val (.int pm), .val (.int r30), .val (.int r37), .val (.int r45), .val (.int r55), .val (.int r63), .val (.long (jk q0 1)), .second, .val (.int (1 : Int32)), .val (.int (1 : Int32)), .val (.int (1 : Int32)), .unset, .unset]) rfl k) ?_
    refine Goes.to (T' := T5.setTop (mkF m 155 #[.val (.long q0), .second, .val (.int p2), .val (.int p3), .val (.int pn), .val (.int pm), .val (.int r30), .val (.int r37), .val (.int r45), .val (.int r55), .val (.int r63), .val (.long (jk q0 1)), .second, .val (.int (1 : Int32)), .val (.int (1 : Int32)), .val (.int (1 : Int32)), .unset, .unset] [(.int r55)])) (fun t k => XS.iload X5.here hx rfl (hb hby at_153) rfl k) ?_
    refine Goes.to (T' := T5.setTop (mkF m 157 #[.val (.long q0), .second, .val (.int p2), .val (.int p3), .val (.int pn), .val (.int pm), .val (.int r30), .val (.int r37), .val (.int r45), .val (.int r55), .val (.int r63), .val (.long (jk q0 1)), .second, .val (.int (1 : Int32)), .val (.int (1 : Int32)), .val (.int (1 : Int32)), .unset, .unset] [(.int r45), (.int r55)])) (fun t k => XS.iload X5.here hx rfl (hb hby at_155) rfl k) ?_
    rcases Decidable.em (r55 = r45) with hc157_15 | hc157_15
    · skip
      refine Goes.to (T' := T5.setTop (mkF m 167 #[.val (.long q0), .second, .val (.int p2), .val (.int p3), .val (.int pn), .val (.int pm), .val (.int r30), .val (.int r37), .val (.int r45), .val (.int r55), .val (.int r63), .val (.long (jk q0 1)), .second, .val (.int (1 : Int32)), .val (.int (1 : Int32)), .val (.int (1 : Int32)), .unset, .unset] [])) (fun t k => XS.icmpYes X5.here hx rfl (pc0 := 157) (pc' := 167) rfl (hb hby at_157) rfl (teq hc157_15).1 (by decide) (by decide) k) ?_
      refine Goes.to (T' := T5.setTop (mkF m 168 #[.val (.long q0), .second, .val (.int p2), .val (.int p3), .val (.int pn), .val (.int pm), .val (.int r30), .val (.int r37), .val (.int r45), .val (.int r55), .val (.int r63), .val (.long (jk q0 1)), .second, .val (.int (1 : Int32)), .val (.int (1 : Int32)), .val (.int (1 : Int32)), .unset, .unset] [(.int (1 : Int32))])) (fun t k => XS.iconst X5.here hx rfl (hb hby at_167) k) ?_
      refine Goes.to (T' := T5.setTop (mkF m 172 #[.val (.long q0), .second, .val (.int p2), .val (.int p3), .val (.int pn), .val (.int pm), .val (.int r30), .val (.int r37), .val (.int r45), .val (.int r55), .val (.int r63), .val (.long (jk q0 1)), .second, .val (.int (1 : Int32)), .val (.int (1 : Int32)), .val (.int (1 : Int32)), .unset, .unset] [(.int (1 : Int32))])) (fun t k => XS.goto X5.here hx rfl (pc0 := 168) (pc' := 172) rfl (hb hby at_168) (by decide) (by decide) k) ?_
      refine Goes.to (T' := T5.setTop (mkF m 174 #[.val (.long q0), .second, .val (.int p2), .val (.int p3), .val (.int pn), .val (.int pm), .val (.int r30), .val (.int r37), .val (.int r45), .val (.int r55), .val (.int r63), .val (.long (jk q0 1)), .second, .val (.int (1 : Int32)), .val (.int (1 : Int32)), .val (.int (1 : Int32)), .val (.int (1 : Int32)), .unset] [])) (fun t k => XS.istore X5.here hx rfl (hb hby at_172) rfl (l' := #[.val (.long q0), .second, .val (.int p2), .val (.int p3), .val (.int pn), .val (.int pm), .val (.int r30), .val (.int r37), .val (.int r45), .val (.int r55), .val (.int r63), .val (.long (jk q0 1)), .second, .val (.int (1 : Int32)), .val (.int (1 : Int32)), .val (.int (1 : Int32)), .val (.int (1 : Int32)), .unset]) rfl k) ?_
      refine Goes.to (T' := T5.setTop (mkF m 176 #[.val (.long q0), .second, .val (.int p2), .val (.int p3), .val (.int pn), .val (.int pm), .val (.int r30), .val (.int r37), .val (.int r45), .val (.int r55), .val (.int r63), .val (.long (jk q0 1)), .second, .val (.int (1 : Int32)), .val (.int (1 : Int32)), .val (.int (1 : Int32)), .val (.int (1 : Int32)), .unset] [(.int r63)])) (fun t k => XS.iload X5.here hx rfl (hb hby at_174) rfl k) ?_
      refine Goes.to (T' := T5.setTop (mkF m 178 #[.val (.long q0), .second, .val (.int p2), .val (.int p3), .val (.int pn), .val (.int pm), .val (.int r30), .val (.int r37), .val (.int r45), .val (.int r55), .val (.int r63), .val (.long (jk q0 1)), .second, .val (.int (1 : Int32)), .val (.int (1 : Int32)), .val (.int (1 : Int32)), .val (.int (1 : Int32)), .unset] [(.int r45), (.int r63)])) (fun t k => XS.iload X5.here hx rfl (hb hby at_176) rfl k) ?_
      rcases Decidable.em (r63 = r45) with hc178_16 | hc178_16
      · skip
        refine Goes.to (T' := T5.setTop (mkF m 188 #[.val (.long q0), .second, .val (.int p2), .val (.int p3), .val (.int pn), .val (.int pm), .val (.int r30), .val (.int r37), .val (.int r45), .val (.int r55), .val (.int r63), .val (.long (jk q0 1)), .second, .val (.int (1 : Int32)), .val (.int (1 : Int32)), .val (.int (1 : Int32)), .val (.int (1 : Int32)), .unset] [])) (fun t k => XS.icmpYes X5.here hx rfl (pc0 := 178) (pc' := 188) rfl (hb hby at_178) rfl (teq hc178_16).1 (by decide) (by decide) k) ?_
        refine Goes.to (T' := T5.setTop (mkF m 189 #[.val (.long q0), .second, .val (.int p2), .val (.int p3), .val (.int pn), .val (.int pm), .val (.int r30), .val (.int r37), .val (.int r45), .val (.int r55), .val (.int r63), .val (.long (jk q0 1)), .second, .val (.int (1 : Int32)), .val (.int (1 : Int32)), .val (.int (1 : Int32)), .val (.int (1 : Int32)), .unset] [(.int (1 : Int32))])) (fun t k => XS.iconst X5.here hx rfl (hb hby at_188) k) ?_
        refine Goes.to (T' := T5.setTop (mkF m 193 #[.val (.long q0), .second, .val (.int p2), .val (.int p3), .val (.int pn), .val (.int pm), .val (.int r30), .val (.int r37), .val (.int r45), .val (.int r55), .val (.int r63), .val (.long (jk q0 1)), .second, .val (.int (1 : Int32)), .val (.int (1 : Int32)), .val (.int (1 : Int32)), .val (.int (1 : Int32)), .unset] [(.int (1 : Int32))])) (fun t k => XS.goto X5.here hx rfl (pc0 := 189) (pc' := 193) rfl (hb hby at_189) (by decide) (by decide) k) ?_
        refine Goes.to (T' := T5.setTop (mkF m 195 #[.val (.long q0), .second, .val (.int p2), .val (.int p3), .val (.int pn), .val (.int pm), .val (.int r30), .val (.int r37), .val (.int r45), .val (.int r55), .val (.int r63), .val (.long (jk q0 1)), .second, .val (.int (1 : Int32)), .val (.int (1 : Int32)), .val (.int (1 : Int32)), .val (.int (1 : Int32)), .val (.int (1 : Int32))] [])) (fun t k => XS.istore X5.here hx rfl (hb hby at_193) rfl (l' := #[.val (.long q0), .second, .val (.int p2), .val (.int p3), .val (.int pn), .val (.int pm), .val (.int r30), .val (.int r37), .val (.int r45), .val (.int r55), .val (.int r63), .val (.long (jk q0 1)), .second, .val (.int (1 : Int32)), .val (.int (1 : Int32)), .val (.int (1 : Int32)), .val (.int (1 : Int32)), .val (.int (1 : Int32))]) rfl k) ?_
        refine Goes.to (T' := T5.setTop (mkF m 197 #[.val (.long q0), .second, .val (.int p2), .val (.int p3), .val (.int pn), .val (.int pm), .val (.int r30), .val (.int r37), .val (.int r45), .val (.int r55), .val (.int r63), .val (.long (jk q0 1)), .second, .val (.int (1 : Int32)), .val (.int (1 : Int32)), .val (.int (1 : Int32)), .val (.int (1 : Int32)), .val (.int (1 : Int32))] [(.int (1 : Int32))])) (fun t k => XS.iload X5.here hx rfl (hb hby at_195) rfl k) ?_
        refine Goes.to (T' := T5.setTop (mkF m 200 #[.val (.long q0), .second, .val (.int p2), .val (.int p3), .val (.int pn), .val (.int pm), .val (.int r30), .val (.int r37), .val (.int r45), .val (.int r55), .val (.int r63), .val (.long (jk q0 1)), .second, .val (.int (1 : Int32)), .val (.int (1 : Int32)), .val (.int (1 : Int32)), .val (.int (1 : Int32)), .val (.int (1 : Int32))] [])) (fun t k => XS.ifNo X5.here hx rfl (hb hby at_197) rfl ((if0 _ _).trans (feq (by decide)).1) k) ?_
        refine Goes.to (T' := T5.setTop (mkF m 202 #[.val (.long q0), .second, .val (.int p2), .val (.int p3), .val (.int pn), .val (.int pm), .val (.int r30), .val (.int r37), .val (.int r45), .val (.int r55), .val (.int r63), .val (.long (jk q0 1)), .second, .val (.int (1 : Int32)), .val (.int (1 : Int32)), .val (.int (1 : Int32)), .val (.int (1 : Int32)), .val (.int (1 : Int32))] [(.int (1 : Int32))])) (fun t k => XS.iload X5.here hx rfl (hb hby at_200) rfl k) ?_
        refine Goes.to (T' := T5.setTop (mkF m 205 #[.val (.long q0), .second, .val (.int p2), .val (.int p3), .val (.int pn), .val (.int pm), .val (.int r30), .val (.int r37), .val (.int r45), .val (.int r55), .val (.int r63), .val (.long (jk q0 1)), .second, .val (.int (1 : Int32)), .val (.int (1 : Int32)), .val (.int (1 : Int32)), .val (.int (1 : Int32)), .val (.int (1 : Int32))] [])) (fun t k => XS.ifNo X5.here hx rfl (hb hby at_202) rfl ((if0 _ _).trans (feq (by decide)).1) k) ?_
        refine Goes.to (T' := T5.setTop (mkF m 207 #[.val (.long q0), .second, .val (.int p2), .val (.int p3), .val (.int pn), .val (.int pm), .val (.int r30), .val (.int r37), .val (.int r45), .val (.int r55), .val (.int r63), .val (.long (jk q0 1)), .second, .val (.int (1 : Int32)), .val (.int (1 : Int32)), .val (.int (1 : Int32)), .val (.int (1 : Int32)), .val (.int (1 : Int32))] [(.int (1 : Int32))])) (fun t k => XS.iload X5.here hx rfl (hb hby at_205) rfl k) ?_
        refine Goes.to (T' := T5.setTop (mkF m 210 #[.val (.long q0), .second, .val (.int p2), .val (.int p3), .val (.int pn), .val (.int pm), .val (.int r30), .val (.int r37), .val (.int r45), .val (.int r55), .val (.int r63), .val (.long (jk q0 1)), .second, .val (.int (1 : Int32)), .val (.int (1 : Int32)), .val (.int (1 : Int32)), .val (.int (1 : Int32)), .val (.int (1 : Int32))] [])) (fun t k => XS.ifNo X5.here hx rfl (hb hby at_207) rfl ((if0 _ _).trans (feq (by decide)).1) k) ?_
        refine Goes.to (T' := T5.setTop (mkF m 212 #[.val (.long q0), .second, .val (.int p2), .val (.int p3), .val (.int pn), .val (.int pm), .val (.int r30), .val (.int r37), .val (.int r45), .val (.int r55), .val (.int r63), .val (.long (jk q0 1)), .second, .val (.int (1 : Int32)), .val (.int (1 : Int32)), .val (.int (1 : Int32)), .val (.int (1 : Int32)), .val (.int (1 : Int32))] [(.int (1 : Int32))])) (fun t k => XS.iload X5.here hx rfl (hb hby at_210) rfl k) ?_
        refine Goes.to (T' := T5.setTop (mkF m 215 #[.val (.long q0), .second, .val (.int p2), .val (.int p3), .val (.int pn), .val (.int pm), .val (.int r30), .val (.int r37), .val (.int r45), .val (.int r55), .val (.int r63), .val (.long (jk q0 1)), .second, .val (.int (1 : Int32)), .val (.int (1 : Int32)), .val (.int (1 : Int32)), .val (.int (1 : Int32)), .val (.int (1 : Int32))] [])) (fun t k => XS.ifNo X5.here hx rfl (hb hby at_212) rfl ((if0 _ _).trans (feq (by decide)).1) k) ?_
        refine Goes.to (T' := T5.setTop (mkF m 216 #[.val (.long q0), .second, .val (.int p2), .val (.int p3), .val (.int pn), .val (.int pm), .val (.int r30), .val (.int r37), .val (.int r45), .val (.int r55), .val (.int r63), .val (.long (jk q0 1)), .second, .val (.int (1 : Int32)), .val (.int (1 : Int32)), .val (.int (1 : Int32)), .val (.int (1 : Int32)), .val (.int (1 : Int32))] [(.int (1 : Int32))])) (fun t k => XS.iconst X5.here hx rfl (hb hby at_215) k) ?_
        refine Goes.to (T' := T5.setTop (mkF m 220 #[.val (.long q0), .second, .val (.int p2), .val (.int p3), .val (.int pn), .val (.int pm), .val (.int r30), .val (.int r37), .val (.int r45), .val (.int r55), .val (.int r63), .val (.long (jk q0 1)), .second, .val (.int (1 : Int32)), .val (.int (1 : Int32)), .val (.int (1 : Int32)), .val (.int (1 : Int32)), .val (.int (1 : Int32))] [(.int (1 : Int32))])) (fun t k => XS.goto X5.here hx rfl (pc0 := 216) (pc' := 220) rfl (hb hby at_216) (by decide) (by decide) k) ?_
        obtain ⟨fs, hrL, hrun, hended, hW, hsame⟩ := X5.leave (v := some (.int (1 : Int32))) (fun h => by rw [Bd.returns] at h; cases h)
        subst hQf
        refine ⟨_, _, retN X5 hx (t := .boolean) Bd.returns (by simp) (hb hby at_220) hrL, hrun, hended, _, _, rfl, ?_, ⟨_, rfl⟩, hW, hsame.mono (by decide) (by decide)⟩
        show (fun (v : Option Value) (h : Heap) (L : List Loc) => v = some (.int 1) ∧ Fr n0 L) (some (.int (1 : Int32))) T5.heap _
        rw [e5]
        exact ⟨rfl, N5⟩
      · skip
        refine Goes.to (T' := T5.setTop (mkF m 181 #[.val (.long q0), .second, .val (.int p2), .val (.int p3), .val (.int pn), .val (.int pm), .val (.int r30), .val (.int r37), .val (.int r45), .val (.int r55), .val (.int r63), .val (.long (jk q0 1)), .second, .val (.int (1 : Int32)), .val (.int (1 : Int32)), .val (.int (1 : Int32)), .val (.int (1 : Int32)), .unset] [])) (fun t k => XS.icmpNo X5.here hx rfl (hb hby at_178) rfl (feq hc178_16).1 k) ?_
        refine Goes.to (T' := T5.setTop (mkF m 183 #[.val (.long q0), .second, .val (.int p2), .val (.int p3), .val (.int pn), .val (.int pm), .val (.int r30), .val (.int r37), .val (.int r45), .val (.int r55), .val (.int r63), .val (.long (jk q0 1)), .second, .val (.int (1 : Int32)), .val (.int (1 : Int32)), .val (.int (1 : Int32)), .val (.int (1 : Int32)), .unset] [(.int r63)])) (fun t k => XS.iload X5.here hx rfl (hb hby at_181) rfl k) ?_
        refine Goes.to (T' := T5.setTop (mkF m 185 #[.val (.long q0), .second, .val (.int p2), .val (.int p3), .val (.int pn), .val (.int pm), .val (.int r30), .val (.int r37), .val (.int r45), .val (.int r55), .val (.int r63), .val (.long (jk q0 1)), .second, .val (.int (1 : Int32)), .val (.int (1 : Int32)), .val (.int (1 : Int32)), .val (.int (1 : Int32)), .unset] [(.int pn), (.int r63)])) (fun t k => XS.iload X5.here hx rfl (hb hby at_183) rfl k) ?_
        have hc185_17 : ¬ (r63 < pn) := (by have q : ¬ r63.toInt = r45.toInt := fun z => hc178_16 (Int32.toInt_inj.mp z); rw [Int32.lt_iff_toInt_lt]; omega)
        refine Goes.to (T' := T5.setTop (mkF m 188 #[.val (.long q0), .second, .val (.int p2), .val (.int p3), .val (.int pn), .val (.int pm), .val (.int r30), .val (.int r37), .val (.int r45), .val (.int r55), .val (.int r63), .val (.long (jk q0 1)), .second, .val (.int (1 : Int32)), .val (.int (1 : Int32)), .val (.int (1 : Int32)), .val (.int (1 : Int32)), .unset] [])) (fun t k => XS.icmpNo X5.here hx rfl (hb hby at_185) rfl (flt hc185_17).1 k) ?_
        refine Goes.to (T' := T5.setTop (mkF m 189 #[.val (.long q0), .second, .val (.int p2), .val (.int p3), .val (.int pn), .val (.int pm), .val (.int r30), .val (.int r37), .val (.int r45), .val (.int r55), .val (.int r63), .val (.long (jk q0 1)), .second, .val (.int (1 : Int32)), .val (.int (1 : Int32)), .val (.int (1 : Int32)), .val (.int (1 : Int32)), .unset] [(.int (1 : Int32))])) (fun t k => XS.iconst X5.here hx rfl (hb hby at_188) k) ?_
        refine Goes.to (T' := T5.setTop (mkF m 193 #[.val (.long q0), .second, .val (.int p2), .val (.int p3), .val (.int pn), .val (.int pm), .val (.int r30), .val (.int r37), .val (.int r45), .val (.int r55), .val (.int r63), .val (.long (jk q0 1)), .second, .val (.int (1 : Int32)), .val (.int (1 : Int32)), .val (.int (1 : Int32)), .val (.int (1 : Int32)), .unset] [(.int (1 : Int32))])) (fun t k => XS.goto X5.here hx rfl (pc0 := 189) (pc' := 193) rfl (hb hby at_189) (by decide) (by decide) k) ?_
        refine Goes.to (T' := T5.setTop (mkF m 195 #[.val (.long q0), .second, .val (.int p2), .val (.int p3), .val (.int pn), .val (.int pm), .val (.int r30), .val (.int r37), .val (.int r45), .val (.int r55), .val (.int r63), .val (.long (jk q0 1)), .second, .val (.int (1 : Int32)), .val (.int (1 : Int32)), .val (.int (1 : Int32)), .val (.int (1 : Int32)), .val (.int (1 : Int32))] [])) (fun t k => XS.istore X5.here hx rfl (hb hby at_193) rfl (l' := #[.val (.long q0), .second, .val (.int p2), .val (.int p3), .val (.int pn), .val (.int pm), .val (.int r30), .val (.int r37), .val (.int r45), .val (.int r55), .val (.int r63), .val (.long (jk q0 1)), .second, .val (.int (1 : Int32)), .val (.int (1 : Int32)), .val (.int (1 : Int32)), .val (.int (1 : Int32)), .val (.int (1 : Int32))]) rfl k) ?_
        refine Goes.to (T' := T5.setTop (mkF m 197 #[.val (.long q0), .second, .val (.int p2), .val (.int p3), .val (.int pn), .val (.int pm), .val (.int r30), .val (.int r37), .val (.int r45), .val (.int r55), .val (.int r63), .val (.long (jk q0 1)), .second, .val (.int (1 : Int32)), .val (.int (1 : Int32)), .val (.int (1 : Int32)), .val (.int (1 : Int32)), .val (.int (1 : Int32))] [(.int (1 : Int32))])) (fun t k => XS.iload X5.here hx rfl (hb hby at_195) rfl k) ?_
        refine Goes.to (T' := T5.setTop (mkF m 200 #[.val (.long q0), .second, .val (.int p2), .val (.int p3), .val (.int pn), .val (.int pm), .val (.int r30), .val (.int r37), .val (.int r45), .val (.int r55), .val (.int r63), .val (.long (jk q0 1)), .second, .val (.int (1 : Int32)), .val (.int (1 : Int32)), .val (.int (1 : Int32)), .val (.int (1 : Int32)), .val (.int (1 : Int32))] [])) (fun t k => XS.ifNo X5.here hx rfl (hb hby at_197) rfl ((if0 _ _).trans (feq (by decide)).1) k) ?_
        refine Goes.to (T' := T5.setTop (mkF m 202 #[.val (.long q0), .second, .val (.int p2), .val (.int p3), .val (.int pn), .val (.int pm), .val (.int r30), .val (.int r37), .val (.int r45), .val (.int r55), .val (.int r63), .val (.long (jk q0 1)), .second, .val (.int (1 : Int32)), .val (.int (1 : Int32)), .val (.int (1 : Int32)), .val (.int (1 : Int32)), .val (.int (1 : Int32))] [(.int (1 : Int32))])) (fun t k => XS.iload X5.here hx rfl (hb hby at_200) rfl k) ?_
        refine Goes.to (T' := T5.setTop (mkF m 205 #[.val (.long q0), .second, .val (.int p2), .val (.int p3), .val (.int pn), .val (.int pm), .val (.int r30), .val (.int r37), .val (.int r45), .val (.int r55), .val (.int r63), .val (.long (jk q0 1)), .second, .val (.int (1 : Int32)), .val (.int (1 : Int32)), .val (.int (1 : Int32)), .val (.int (1 : Int32)), .val (.int (1 : Int32))] [])) (fun t k => XS.ifNo X5.here hx rfl (hb hby at_202) rfl ((if0 _ _).trans (feq (by decide)).1) k) ?_
        refine Goes.to (T' := T5.setTop (mkF m 207 #[.val (.long q0), .second, .val (.int p2), .val (.int p3), .val (.int pn), .val (.int pm), .val (.int r30), .val (.int r37), .val (.int r45), .val (.int r55), .val (.int r63), .val (.long (jk q0 1)), .second, .val (.int (1 : Int32)), .val (.int (1 : Int32)), .val (.int (1 : Int32)), .val (.int (1 : Int32)), .val (.int (1 : Int32))] [(.int (1 : Int32))])) (fun t k => XS.iload X5.here hx rfl (hb hby at_205) rfl k) ?_
        refine Goes.to (T' := T5.setTop (mkF m 210 #[.val (.long q0), .second, .val (.int p2), .val (.int p3), .val (.int pn), .val (.int pm), .val (.int r30), .val (.int r37), .val (.int r45), .val (.int r55), .val (.int r63), .val (.long (jk q0 1)), .second, .val (.int (1 : Int32)), .val (.int (1 : Int32)), .val (.int (1 : Int32)), .val (.int (1 : Int32)), .val (.int (1 : Int32))] [])) (fun t k => XS.ifNo X5.here hx rfl (hb hby at_207) rfl ((if0 _ _).trans (feq (by decide)).1) k) ?_
        refine Goes.to (T' := T5.setTop (mkF m 212 #[.val (.long q0), .second, .val (.int p2), .val (.int p3), .val (.int pn), .val (.int pm), .val (.int r30), .val (.int r37), .val (.int r45), .val (.int r55), .val (.int r63), .val (.long (jk q0 1)), .second, .val (.int (1 : Int32)), .val (.int (1 : Int32)), .val (.int (1 : Int32)), .val (.int (1 : Int32)), .val (.int (1 : Int32))] [(.int (1 : Int32))])) (fun t k => XS.iload X5.here hx rfl (hb hby at_210) rfl k) ?_
        refine Goes.to (T' := T5.setTop (mkF m 215 #[.val (.long q0), .second, .val (.int p2), .val (.int p3), .val (.int pn), .val (.int pm), .val (.int r30), .val (.int r37), .val (.int r45), .val (.int r55), .val (.int r63), .val (.long (jk q0 1)), .second, .val (.int (1 : Int32)), .val (.int (1 : Int32)), .val (.int (1 : Int32)), .val (.int (1 : Int32)), .val (.int (1 : Int32))] [])) (fun t k => XS.ifNo X5.here hx rfl (hb hby at_212) rfl ((if0 _ _).trans (feq (by decide)).1) k) ?_
        refine Goes.to (T' := T5.setTop (mkF m 216 #[.val (.long q0), .second, .val (.int p2), .val (.int p3), .val (.int pn), .val (.int pm), .val (.int r30), .val (.int r37), .val (.int r45), .val (.int r55), .val (.int r63), .val (.long (jk q0 1)), .second, .val (.int (1 : Int32)), .val (.int (1 : Int32)), .val (.int (1 : Int32)), .val (.int (1 : Int32)), .val (.int (1 : Int32))] [(.int (1 : Int32))])) (fun t k => XS.iconst X5.here hx rfl (hb hby at_215) k) ?_
        refine Goes.to (T' := T5.setTop (mkF m 220 #[.val (.long q0), .second, .val (.int p2), .val (.int p3), .val (.int pn), .val (.int pm), .val (.int r30), .val (.int r37), .val (.int r45), .val (.int r55), .val (.int r63), .val (.long (jk q0 1)), .second, .val (.int (1 : Int32)), .val (.int (1 : Int32)), .val (.int (1 : Int32)), .val (.int (1 : Int32)), .val (.int (1 : Int32))] [(.int (1 : Int32))])) (fun t k => XS.goto X5.here hx rfl (pc0 := 216) (pc' := 220) rfl (hb hby at_216) (by decide) (by decide) k) ?_
        obtain ⟨fs, hrL, hrun, hended, hW, hsame⟩ := X5.leave (v := some (.int (1 : Int32))) (fun h => by rw [Bd.returns] at h; cases h)
        subst hQf
        refine ⟨_, _, retN X5 hx (t := .boolean) Bd.returns (by simp) (hb hby at_220) hrL, hrun, hended, _, _, rfl, ?_, ⟨_, rfl⟩, hW, hsame.mono (by decide) (by decide)⟩
        show (fun (v : Option Value) (h : Heap) (L : List Loc) => v = some (.int 1) ∧ Fr n0 L) (some (.int (1 : Int32))) T5.heap _
        rw [e5]
        exact ⟨rfl, N5⟩
    · skip
      refine Goes.to (T' := T5.setTop (mkF m 160 #[.val (.long q0), .second, .val (.int p2), .val (.int p3), .val (.int pn), .val (.int pm), .val (.int r30), .val (.int r37), .val (.int r45), .val (.int r55), .val (.int r63), .val (.long (jk q0 1)), .second, .val (.int (1 : Int32)), .val (.int (1 : Int32)), .val (.int (1 : Int32)), .unset, .unset] [])) (fun t k => XS.icmpNo X5.here hx rfl (hb hby at_157) rfl (feq hc157_15).1 k) ?_
      refine Goes.to (T' := T5.setTop (mkF m 162 #[.val (.long q0), .second, .val (.int p2), .val (.int p3), .val (.int pn), .val (.int pm), .val (.int r30), .val (.int r37), .val (.int r45), .val (.int r55), .val (.int r63), .val (.long (jk q0 1)), .second, .val (.int (1 : Int32)), .val (.int (1 : Int32)), .val (.int (1 : Int32)), .unset, .unset] [(.int r55)])) (fun t k => XS.iload X5.here hx rfl (hb hby at_160) rfl k) ?_
      refine Goes.to (T' := T5.setTop (mkF m 164 #[.val (.long q0), .second, .val (.int p2), .val (.int p3), .val (.int pn), .val (.int pm), .val (.int r30), .val (.int r37), .val (.int r45), .val (.int r55), .val (.int r63), .val (.long (jk q0 1)), .second, .val (.int (1 : Int32)), .val (.int (1 : Int32)), .val (.int (1 : Int32)), .unset, .unset] [(.int pn), (.int r55)])) (fun t k => XS.iload X5.here hx rfl (hb hby at_162) rfl k) ?_
      have hc164_18 : r55 = pn := (Int32.toInt_inj.mp (by have q : ¬ r55.toInt = r45.toInt := fun z => hc157_15 (Int32.toInt_inj.mp z); omega))
      refine Goes.to (T' := T5.setTop (mkF m 167 #[.val (.long q0), .second, .val (.int p2), .val (.int p3), .val (.int pn), .val (.int pm), .val (.int r30), .val (.int r37), .val (.int r45), .val (.int r55), .val (.int r63), .val (.long (jk q0 1)), .second, .val (.int (1 : Int32)), .val (.int (1 : Int32)), .val (.int (1 : Int32)), .unset, .unset] [])) (fun t k => XS.icmpNo X5.here hx rfl (hb hby at_164) rfl (teq hc164_18).2 k) ?_
      refine Goes.to (T' := T5.setTop (mkF m 168 #[.val (.long q0), .second, .val (.int p2), .val (.int p3), .val (.int pn), .val (.int pm), .val (.int r30), .val (.int r37), .val (.int r45), .val (.int r55), .val (.int r63), .val (.long (jk q0 1)), .second, .val (.int (1 : Int32)), .val (.int (1 : Int32)), .val (.int (1 : Int32)), .unset, .unset] [(.int (1 : Int32))])) (fun t k => XS.iconst X5.here hx rfl (hb hby at_167) k) ?_
      refine Goes.to (T' := T5.setTop (mkF m 172 #[.val (.long q0), .second, .val (.int p2), .val (.int p3), .val (.int pn), .val (.int pm), .val (.int r30), .val (.int r37), .val (.int r45), .val (.int r55), .val (.int r63), .val (.long (jk q0 1)), .second, .val (.int (1 : Int32)), .val (.int (1 : Int32)), .val (.int (1 : Int32)), .unset, .unset] [(.int (1 : Int32))])) (fun t k => XS.goto X5.here hx rfl (pc0 := 168) (pc' := 172) rfl (hb hby at_168) (by decide) (by decide) k) ?_
      refine Goes.to (T' := T5.setTop (mkF m 174 #[.val (.long q0), .second, .val (.int p2), .val (.int p3), .val (.int pn), .val (.int pm), .val (.int r30), .val (.int r37), .val (.int r45), .val (.int r55), .val (.int r63), .val (.long (jk q0 1)), .second, .val (.int (1 : Int32)), .val (.int (1 : Int32)), .val (.int (1 : Int32)), .val (.int (1 : Int32)), .unset] [])) (fun t k => XS.istore X5.here hx rfl (hb hby at_172) rfl (l' := #[.val (.long q0), .second, .val (.int p2), .val (.int p3), .val (.int pn), .val (.int pm), .val (.int r30), .val (.int r37), .val (.int r45), .val (.int r55), .val (.int r63), .val (.long (jk q0 1)), .second, .val (.int (1 : Int32)), .val (.int (1 : Int32)), .val (.int (1 : Int32)), .val (.int (1 : Int32)), .unset]) rfl k) ?_
      refine Goes.to (T' := T5.setTop (mkF m 176 #[.val (.long q0), .second, .val (.int p2), .val (.int p3), .val (.int pn), .val (.int pm), .val (.int r30), .val (.int r37), .val (.int r45), .val (.int r55), .val (.int r63), .val (.long (jk q0 1)), .second, .val (.int (1 : Int32)), .val (.int (1 : Int32)), .val (.int (1 : Int32)), .val (.int (1 : Int32)), .unset] [(.int r63)])) (fun t k => XS.iload X5.here hx rfl (hb hby at_174) rfl k) ?_
      refine Goes.to (T' := T5.setTop (mkF m 178 #[.val (.long q0), .second, .val (.int p2), .val (.int p3), .val (.int pn), .val (.int pm), .val (.int r30), .val (.int r37), .val (.int r45), .val (.int r55), .val (.int r63), .val (.long (jk q0 1)), .second, .val (.int (1 : Int32)), .val (.int (1 : Int32)), .val (.int (1 : Int32)), .val (.int (1 : Int32)), .unset] [(.int r45), (.int r63)])) (fun t k => XS.iload X5.here hx rfl (hb hby at_176) rfl k) ?_
      rcases Decidable.em (r63 = r45) with hc178_19 | hc178_19
      · skip
        refine Goes.to (T' := T5.setTop (mkF m 188 #[.val (.long q0), .second, .val (.int p2), .val (.int p3), .val (.int pn), .val (.int pm), .val (.int r30), .val (.int r37), .val (.int r45), .val (.int r55), .val (.int r63), .val (.long (jk q0 1)), .second, .val (.int (1 : Int32)), .val (.int (1 : Int32)), .val (.int (1 : Int32)), .val (.int (1 : Int32)), .unset] [])) (fun t k => XS.icmpYes X5.here hx rfl (pc0 := 178) (pc' := 188) rfl (hb hby at_178) rfl (teq hc178_19).1 (by decide) (by decide) k) ?_
        refine Goes.to (T' := T5.setTop (mkF m 189 #[.val (.long q0), .second, .val (.int p2), .val (.int p3), .val (.int pn), .val (.int pm), .val (.int r30), .val (.int r37), .val (.int r45), .val (.int r55), .val (.int r63), .val (.long (jk q0 1)), .second, .val (.int (1 : Int32)), .val (.int (1 : Int32)), .val (.int (1 : Int32)), .val (.int (1 : Int32)), .unset] [(.int (1 : Int32))])) (fun t k => XS.iconst X5.here hx rfl (hb hby at_188) k) ?_
        refine Goes.to (T' := T5.setTop (mkF m 193 #[.val (.long q0), .second, .val (.int p2), .val (.int p3), .val (.int pn), .val (.int pm), .val (.int r30), .val (.int r37), .val (.int r45), .val (.int r55), .val (.int r63), .val (.long (jk q0 1)), .second, .val (.int (1 : Int32)), .val (.int (1 : Int32)), .val (.int (1 : Int32)), .val (.int (1 : Int32)), .unset] [(.int (1 : Int32))])) (fun t k => XS.goto X5.here hx rfl (pc0 := 189) (pc' := 193) rfl (hb hby at_189) (by decide) (by decide) k) ?_
        refine Goes.to (T' := T5.setTop (mkF m 195 #[.val (.long q0), .second, .val (.int p2), .val (.int p3), .val (.int pn), .val (.int pm), .val (.int r30), .val (.int r37), .val (.int r45), .val (.int r55), .val (.int r63), .val (.long (jk q0 1)), .second, .val (.int (1 : Int32)), .val (.int (1 : Int32)), .val (.int (1 : Int32)), .val (.int (1 : Int32)), .val (.int (1 : Int32))] [])) (fun t k => XS.istore X5.here hx rfl (hb hby at_193) rfl (l' := #[.val (.long q0), .second, .val (.int p2), .val (.int p3), .val (.int pn), .val (.int pm), .val (.int r30), .val (.int r37), .val (.int r45), .val (.int r55), .val (.int r63), .val (.long (jk q0 1)), .second, .val (.int (1 : Int32)), .val (.int (1 : Int32)), .val (.int (1 : Int32)), .val (.int (1 : Int32)), .val (.int (1 : Int32))]) rfl k) ?_
        refine Goes.to (T' := T5.setTop (mkF m 197 #[.val (.long q0), .second, .val (.int p2), .val (.int p3), .val (.int pn), .val (.int pm), .val (.int r30), .val (.int r37), .val (.int r45), .val (.int r55), .val (.int r63), .val (.long (jk q0 1)), .second, .val (.int (1 : Int32)), .val (.int (1 : Int32)), .val (.int (1 : Int32)), .val (.int (1 : Int32)), .val (.int (1 : Int32))] [(.int (1 : Int32))])) (fun t k => XS.iload X5.here hx rfl (hb hby at_195) rfl k) ?_
        refine Goes.to (T' := T5.setTop (mkF m 200 #[.val (.long q0), .second, .val (.int p2), .val (.int p3), .val (.int pn), .val (.int pm), .val (.int r30), .val (.int r37), .val (.int r45), .val (.int r55), .val (.int r63), .val (.long (jk q0 1)), .second, .val (.int (1 : Int32)), .val (.int (1 : Int32)), .val (.int (1 : Int32)), .val (.int (1 : Int32)), .val (.int (1 : Int32))] [])) (fun t k => XS.ifNo X5.here hx rfl (hb hby at_197) rfl ((if0 _ _).trans (feq (by decide)).1) k) ?_
        refine Goes.to (T' := T5.setTop (mkF m 202 #[.val (.long q0), .second, .val (.int p2), .val (.int p3), .val (.int pn), .val (.int pm), .val (.int r30), .val (.int r37), .val (.int r45), .val (.int r55), .val (.int r63), .val (.long (jk q0 1)), .second, .val (.int (1 : Int32)), .val (.int (1 : Int32)), .val (.int (1 : Int32)), .val (.int (1 : Int32)), .val (.int (1 : Int32))] [(.int (1 : Int32))])) (fun t k => XS.iload X5.here hx rfl (hb hby at_200) rfl k) ?_
        refine Goes.to (T' := T5.setTop (mkF m 205 #[.val (.long q0), .second, .val (.int p2), .val (.int p3), .val (.int pn), .val (.int pm), .val (.int r30), .val (.int r37), .val (.int r45), .val (.int r55), .val (.int r63), .val (.long (jk q0 1)), .second, .val (.int (1 : Int32)), .val (.int (1 : Int32)), .val (.int (1 : Int32)), .val (.int (1 : Int32)), .val (.int (1 : Int32))] [])) (fun t k => XS.ifNo X5.here hx rfl (hb hby at_202) rfl ((if0 _ _).trans (feq (by decide)).1) k) ?_
        refine Goes.to (T' := T5.setTop (mkF m 207 #[.val (.long q0), .second, .val (.int p2), .val (.int p3), .val (.int pn), .val (.int pm), .val (.int r30), .val (.int r37), .val (.int r45), .val (.int r55), .val (.int r63), .val (.long (jk q0 1)), .second, .val (.int (1 : Int32)), .val (.int (1 : Int32)), .val (.int (1 : Int32)), .val (.int (1 : Int32)), .val (.int (1 : Int32))] [(.int (1 : Int32))])) (fun t k => XS.iload X5.here hx rfl (hb hby at_205) rfl k) ?_
        refine Goes.to (T' := T5.setTop (mkF m 210 #[.val (.long q0), .second, .val (.int p2), .val (.int p3), .val (.int pn), .val (.int pm), .val (.int r30), .val (.int r37), .val (.int r45), .val (.int r55), .val (.int r63), .val (.long (jk q0 1)), .second, .val (.int (1 : Int32)), .val (.int (1 : Int32)), .val (.int (1 : Int32)), .val (.int (1 : Int32)), .val (.int (1 : Int32))] [])) (fun t k => XS.ifNo X5.here hx rfl (hb hby at_207) rfl ((if0 _ _).trans (feq (by decide)).1) k) ?_
        refine Goes.to (T' := T5.setTop (mkF m 212 #[.val (.long q0), .second, .val (.int p2), .val (.int p3), .val (.int pn), .val (.int pm), .val (.int r30), .val (.int r37), .val (.int r45), .val (.int r55), .val (.int r63), .val (.long (jk q0 1)), .second, .val (.int (1 : Int32)), .val (.int (1 : Int32)), .val (.int (1 : Int32)), .val (.int (1 : Int32)), .val (.int (1 : Int32))] [(.int (1 : Int32))])) (fun t k => XS.iload X5.here hx rfl (hb hby at_210) rfl k) ?_
        refine Goes.to (T' := T5.setTop (mkF m 215 #[.val (.long q0), .second, .val (.int p2), .val (.int p3), .val (.int pn), .val (.int pm), .val (.int r30), .val (.int r37), .val (.int r45), .val (.int r55), .val (.int r63), .val (.long (jk q0 1)), .second, .val (.int (1 : Int32)), .val (.int (1 : Int32)), .val (.int (1 : Int32)), .val (.int (1 : Int32)), .val (.int (1 : Int32))] [])) (fun t k => XS.ifNo X5.here hx rfl (hb hby at_212) rfl ((if0 _ _).trans (feq (by decide)).1) k) ?_
        refine Goes.to (T' := T5.setTop (mkF m 216 #[.val (.long q0), .second, .val (.int p2), .val (.int p3), .val (.int pn), .val (.int pm), .val (.int r30), .val (.int r37), .val (.int r45), .val (.int r55), .val (.int r63), .val (.long (jk q0 1)), .second, .val (.int (1 : Int32)), .val (.int (1 : Int32)), .val (.int (1 : Int32)), .val (.int (1 : Int32)), .val (.int (1 : Int32))] [(.int (1 : Int32))])) (fun t k => XS.iconst X5.here hx rfl (hb hby at_215) k) ?_
        refine Goes.to (T' := T5.setTop (mkF m 220 #[.val (.long q0), .second, .val (.int p2), .val (.int p3), .val (.int pn), .val (.int pm), .val (.int r30), .val (.int r37), .val (.int r45), .val (.int r55), .val (.int r63), .val (.long (jk q0 1)), .second, .val (.int (1 : Int32)), .val (.int (1 : Int32)), .val (.int (1 : Int32)), .val (.int (1 : Int32)), .val (.int (1 : Int32))] [(.int (1 : Int32))])) (fun t k => XS.goto X5.here hx rfl (pc0 := 216) (pc' := 220) rfl (hb hby at_216) (by decide) (by decide) k) ?_
        obtain ⟨fs, hrL, hrun, hended, hW, hsame⟩ := X5.leave (v := some (.int (1 : Int32))) (fun h => by rw [Bd.returns] at h; cases h)
        subst hQf
        refine ⟨_, _, retN X5 hx (t := .boolean) Bd.returns (by simp) (hb hby at_220) hrL, hrun, hended, _, _, rfl, ?_, ⟨_, rfl⟩, hW, hsame.mono (by decide) (by decide)⟩
        show (fun (v : Option Value) (h : Heap) (L : List Loc) => v = some (.int 1) ∧ Fr n0 L) (some (.int (1 : Int32))) T5.heap _
        rw [e5]
        exact ⟨rfl, N5⟩
      · skip
        refine Goes.to (T' := T5.setTop (mkF m 181 #[.val (.long q0), .second, .val (.int p2), .val (.int p3), .val (.int pn), .val (.int pm), .val (.int r30), .val (.int r37), .val (.int r45), .val (.int r55), .val (.int r63), .val (.long (jk q0 1)), .second, .val (.int (1 : Int32)), .val (.int (1 : Int32)), .val (.int (1 : Int32)), .val (.int (1 : Int32)), .unset] [])) (fun t k => XS.icmpNo X5.here hx rfl (hb hby at_178) rfl (feq hc178_19).1 k) ?_
        refine Goes.to (T' := T5.setTop (mkF m 183 #[.val (.long q0), .second, .val (.int p2), .val (.int p3), .val (.int pn), .val (.int pm), .val (.int r30), .val (.int r37), .val (.int r45), .val (.int r55), .val (.int r63), .val (.long (jk q0 1)), .second, .val (.int (1 : Int32)), .val (.int (1 : Int32)), .val (.int (1 : Int32)), .val (.int (1 : Int32)), .unset] [(.int r63)])) (fun t k => XS.iload X5.here hx rfl (hb hby at_181) rfl k) ?_
        refine Goes.to (T' := T5.setTop (mkF m 185 #[.val (.long q0), .second, .val (.int p2), .val (.int p3), .val (.int pn), .val (.int pm), .val (.int r30), .val (.int r37), .val (.int r45), .val (.int r55), .val (.int r63), .val (.long (jk q0 1)), .second, .val (.int (1 : Int32)), .val (.int (1 : Int32)), .val (.int (1 : Int32)), .val (.int (1 : Int32)), .unset] [(.int pn), (.int r63)])) (fun t k => XS.iload X5.here hx rfl (hb hby at_183) rfl k) ?_
        have hc185_20 : ¬ (r63 < pn) := (by have q : ¬ r63.toInt = r45.toInt := fun z => hc178_19 (Int32.toInt_inj.mp z); rw [Int32.lt_iff_toInt_lt]; omega)
        refine Goes.to (T' := T5.setTop (mkF m 188 #[.val (.long q0), .second, .val (.int p2), .val (.int p3), .val (.int pn), .val (.int pm), .val (.int r30), .val (.int r37), .val (.int r45), .val (.int r55), .val (.int r63), .val (.long (jk q0 1)), .second, .val (.int (1 : Int32)), .val (.int (1 : Int32)), .val (.int (1 : Int32)), .val (.int (1 : Int32)), .unset] [])) (fun t k => XS.icmpNo X5.here hx rfl (hb hby at_185) rfl (flt hc185_20).1 k) ?_
        refine Goes.to (T' := T5.setTop (mkF m 189 #[.val (.long q0), .second, .val (.int p2), .val (.int p3), .val (.int pn), .val (.int pm), .val (.int r30), .val (.int r37), .val (.int r45), .val (.int r55), .val (.int r63), .val (.long (jk q0 1)), .second, .val (.int (1 : Int32)), .val (.int (1 : Int32)), .val (.int (1 : Int32)), .val (.int (1 : Int32)), .unset] [(.int (1 : Int32))])) (fun t k => XS.iconst X5.here hx rfl (hb hby at_188) k) ?_
        refine Goes.to (T' := T5.setTop (mkF m 193 #[.val (.long q0), .second, .val (.int p2), .val (.int p3), .val (.int pn), .val (.int pm), .val (.int r30), .val (.int r37), .val (.int r45), .val (.int r55), .val (.int r63), .val (.long (jk q0 1)), .second, .val (.int (1 : Int32)), .val (.int (1 : Int32)), .val (.int (1 : Int32)), .val (.int (1 : Int32)), .unset] [(.int (1 : Int32))])) (fun t k => XS.goto X5.here hx rfl (pc0 := 189) (pc' := 193) rfl (hb hby at_189) (by decide) (by decide) k) ?_
        refine Goes.to (T' := T5.setTop (mkF m 195 #[.val (.long q0), .second, .val (.int p2), .val (.int p3), .val (.int pn), .val (.int pm), .val (.int r30), .val (.int r37), .val (.int r45), .val (.int r55), .val (.int r63), .val (.long (jk q0 1)), .second, .val (.int (1 : Int32)), .val (.int (1 : Int32)), .val (.int (1 : Int32)), .val (.int (1 : Int32)), .val (.int (1 : Int32))] [])) (fun t k => XS.istore X5.here hx rfl (hb hby at_193) rfl (l' := #[.val (.long q0), .second, .val (.int p2), .val (.int p3), .val (.int pn), .val (.int pm), .val (.int r30), .val (.int r37), .val (.int r45), .val (.int r55), .val (.int r63), .val (.long (jk q0 1)), .second, .val (.int (1 : Int32)), .val (.int (1 : Int32)), .val (.int (1 : Int32)), .val (.int (1 : Int32)), .val (.int (1 : Int32))]) rfl k) ?_
        refine Goes.to (T' := T5.setTop (mkF m 197 #[.val (.long q0), .second, .val (.int p2), .val (.int p3), .val (.int pn), .val (.int pm), .val (.int r30), .val (.int r37), .val (.int r45), .val (.int r55), .val (.int r63), .val (.long (jk q0 1)), .second, .val (.int (1 : Int32)), .val (.int (1 : Int32)), .val (.int (1 : Int32)), .val (.int (1 : Int32)), .val (.int (1 : Int32))] [(.int (1 : Int32))])) (fun t k => XS.iload X5.here hx rfl (hb hby at_195) rfl k) ?_
        refine Goes.to (T' := T5.setTop (mkF m 200 #[.val (.long q0), .second, .val (.int p2), .val (.int p3), .val (.int pn), .val (.int pm), .val (.int r30), .val (.int r37), .val (.int r45), .val (.int r55), .val (.int r63), .val (.long (jk q0 1)), .second, .val (.int (1 : Int32)), .val (.int (1 : Int32)), .val (.int (1 : Int32)), .val (.int (1 : Int32)), .val (.int (1 : Int32))] [])) (fun t k => XS.ifNo X5.here hx rfl (hb hby at_197) rfl ((if0 _ _).trans (feq (by decide)).1) k) ?_
        refine Goes.to (T' := T5.setTop (mkF m 202 #[.val (.long q0), .second, .val (.int p2), .val (.int p3), .val (.int pn), .val (.int pm), .val (.int r30), .val (.int r37), .val (.int r45), .val (.int r55), .val (.int r63), .val (.long (jk q0 1)), .second, .val (.int (1 : Int32)), .val (.int (1 : Int32)), .val (.int (1 : Int32)), .val (.int (1 : Int32)), .val (.int (1 : Int32))] [(.int (1 : Int32))])) (fun t k => XS.iload X5.here hx rfl (hb hby at_200) rfl k) ?_
        refine Goes.to (T' := T5.setTop (mkF m 205 #[.val (.long q0), .second, .val (.int p2), .val (.int p3), .val (.int pn), .val (.int pm), .val (.int r30), .val (.int r37), .val (.int r45), .val (.int r55), .val (.int r63), .val (.long (jk q0 1)), .second, .val (.int (1 : Int32)), .val (.int (1 : Int32)), .val (.int (1 : Int32)), .val (.int (1 : Int32)), .val (.int (1 : Int32))] [])) (fun t k => XS.ifNo X5.here hx rfl (hb hby at_202) rfl ((if0 _ _).trans (feq (by decide)).1) k) ?_
        refine Goes.to (T' := T5.setTop (mkF m 207 #[.val (.long q0), .second, .val (.int p2), .val (.int p3), .val (.int pn), .val (.int pm), .val (.int r30), .val (.int r37), .val (.int r45), .val (.int r55), .val (.int r63), .val (.long (jk q0 1)), .second, .val (.int (1 : Int32)), .val (.int (1 : Int32)), .val (.int (1 : Int32)), .val (.int (1 : Int32)), .val (.int (1 : Int32))] [(.int (1 : Int32))])) (fun t k => XS.iload X5.here hx rfl (hb hby at_205) rfl k) ?_
        refine Goes.to (T' := T5.setTop (mkF m 210 #[.val (.long q0), .second, .val (.int p2), .val (.int p3), .val (.int pn), .val (.int pm), .val (.int r30), .val (.int r37), .val (.int r45), .val (.int r55), .val (.int r63), .val (.long (jk q0 1)), .second, .val (.int (1 : Int32)), .val (.int (1 : Int32)), .val (.int (1 : Int32)), .val (.int (1 : Int32)), .val (.int (1 : Int32))] [])) (fun t k => XS.ifNo X5.here hx rfl (hb hby at_207) rfl ((if0 _ _).trans (feq (by decide)).1) k) ?_
        refine Goes.to (T' := T5.setTop (mkF m 212 #[.val (.long q0), .second, .val (.int p2), .val (.int p3), .val (.int pn), .val (.int pm), .val (.int r30), .val (.int r37), .val (.int r45), .val (.int r55), .val (.int r63), .val (.long (jk q0 1)), .second, .val (.int (1 : Int32)), .val (.int (1 : Int32)), .val (.int (1 : Int32)), .val (.int (1 : Int32)), .val (.int (1 : Int32))] [(.int (1 : Int32))])) (fun t k => XS.iload X5.here hx rfl (hb hby at_210) rfl k) ?_
        refine Goes.to (T' := T5.setTop (mkF m 215 #[.val (.long q0), .second, .val (.int p2), .val (.int p3), .val (.int pn), .val (.int pm), .val (.int r30), .val (.int r37), .val (.int r45), .val (.int r55), .val (.int r63), .val (.long (jk q0 1)), .second, .val (.int (1 : Int32)), .val (.int (1 : Int32)), .val (.int (1 : Int32)), .val (.int (1 : Int32)), .val (.int (1 : Int32))] [])) (fun t k => XS.ifNo X5.here hx rfl (hb hby at_212) rfl ((if0 _ _).trans (feq (by decide)).1) k) ?_
        refine Goes.to (T' := T5.setTop (mkF m 216 #[.val (.long q0), .second, .val (.int p2), .val (.int p3), .val (.int pn), .val (.int pm), .val (.int r30), .val (.int r37), .val (.int r45), .val (.int r55), .val (.int r63), .val (.long (jk q0 1)), .second, .val (.int (1 : Int32)), .val (.int (1 : Int32)), .val (.int (1 : Int32)), .val (.int (1 : Int32)), .val (.int (1 : Int32))] [(.int (1 : Int32))])) (fun t k => XS.iconst X5.here hx rfl (hb hby at_215) k) ?_
        refine Goes.to (T' := T5.setTop (mkF m 220 #[.val (.long q0), .second, .val (.int p2), .val (.int p3), .val (.int pn), .val (.int pm), .val (.int r30), .val (.int r37), .val (.int r45), .val (.int r55), .val (.int r63), .val (.long (jk q0 1)), .second, .val (.int (1 : Int32)), .val (.int (1 : Int32)), .val (.int (1 : Int32)), .val (.int (1 : Int32)), .val (.int (1 : Int32))] [(.int (1 : Int32))])) (fun t k => XS.goto X5.here hx rfl (pc0 := 216) (pc' := 220) rfl (hb hby at_216) (by decide) (by decide) k) ?_
        obtain ⟨fs, hrL, hrun, hended, hW, hsame⟩ := X5.leave (v := some (.int (1 : Int32))) (fun h => by rw [Bd.returns] at h; cases h)
        subst hQf
        refine ⟨_, _, retN X5 hx (t := .boolean) Bd.returns (by simp) (hb hby at_220) hrL, hrun, hended, _, _, rfl, ?_, ⟨_, rfl⟩, hW, hsame.mono (by decide) (by decide)⟩
        show (fun (v : Option Value) (h : Heap) (L : List Loc) => v = some (.int 1) ∧ Fr n0 L) (some (.int (1 : Int32))) T5.heap _
        rw [e5]
        exact ⟨rfl, N5⟩
  · skip
    refine Goes.to (T' := T5.setTop (mkF m 88 #[.val (.long q0), .second, .val (.int p2), .val (.int p3), .val (.int pn), .val (.int pm), .val (.int r30), .val (.int r37), .val (.int r45), .val (.int r55), .val (.int r63), .val (.long (jk q0 1)), .second, .unset, .unset, .unset, .unset, .unset] [])) (fun t k => XS.ifYes X5.here hx rfl (pc0 := 81) (pc' := 88) rfl (hb hby at_81) rfl ((if0 _ _).trans (flt (fun q => hc81_6 ((lw_lt (jk q0 1) (0 : Int64)).mp q))).2.1) (by decide) (by decide) k) ?_
    refine Goes.to (T' := T5.setTop (mkF m 89 #[.val (.long q0), .second, .val (.int p2), .val (.int p3), .val (.int pn), .val (.int pm), .val (.int r30), .val (.int r37), .val (.int r45), .val (.int r55), .val (.int r63), .val (.long (jk q0 1)), .second, .unset, .unset, .unset, .unset, .unset] [(.int (0 : Int32))])) (fun t k => XS.iconst X5.here hx rfl (hb hby at_88) k) ?_
    refine Goes.to (T' := T5.setTop (mkF m 91 #[.val (.long q0), .second, .val (.int p2), .val (.int p3), .val (.int pn), .val (.int pm), .val (.int r30), .val (.int r37), .val (.int r45), .val (.int r55), .val (.int r63), .val (.long (jk q0 1)), .second, .val (.int (0 : Int32)), .unset, .unset, .unset, .unset] [])) (fun t k => XS.istore X5.here hx rfl (hb hby at_89) rfl (l' := #[.val (.long q0), .second, .val (.int p2), .val (.int p3), .val (.int pn), .val (.int pm), .val (.int r30), .val (.int r37), .val (.int r45), .val (.int r55), .val (.int r63), .val (.long (jk q0 1)), .second, .val (.int (0 : Int32)), .unset, .unset, .unset, .unset]) rfl k) ?_
    refine Goes.to (T' := T5.setTop (mkF m 93 #[.val (.long q0), .second, .val (.int p2), .val (.int p3), .val (.int pn), .val (.int pm), .val (.int r30), .val (.int r37), .val (.int r45), .val (.int r55), .val (.int r63), .val (.long (jk q0 1)), .second, .val (.int (0 : Int32)), .unset, .unset, .unset, .unset] [(.int r30)])) (fun t k => XS.iload X5.here hx rfl (hb hby at_91) rfl k) ?_
    have hc93_21 : r30 = (0 : Int32) := (Int32.toInt_inj.mp (by omega))
    refine Goes.to (T' := T5.setTop (mkF m 96 #[.val (.long q0), .second, .val (.int p2), .val (.int p3), .val (.int pn), .val (.int pm), .val (.int r30), .val (.int r37), .val (.int r45), .val (.int r55), .val (.int r63), .val (.long (jk q0 1)), .second, .val (.int (0 : Int32)), .unset, .unset, .unset, .unset] [])) (fun t k => XS.ifNo X5.here hx rfl (hb hby at_93) rfl ((if0 _ _).trans (teq hc93_21).2) k) ?_
    refine Goes.to (T' := T5.setTop (mkF m 98 #[.val (.long q0), .second, .val (.int p2), .val (.int p3), .val (.int pn), .val (.int pm), .val (.int r30), .val (.int r37), .val (.int r45), .val (.int r55), .val (.int r63), .val (.long (jk q0 1)), .second, .val (.int (0 : Int32)), .unset, .unset, .unset, .unset] [(.int r37)])) (fun t k => XS.iload X5.here hx rfl (hb hby at_96) rfl k) ?_
    refine Goes.to (T' := T5.setTop (mkF m 100 #[.val (.long q0), .second, .val (.int p2), .val (.int p3), .val (.int pn), .val (.int pm), .val (.int r30), .val (.int r37), .val (.int r45), .val (.int r55), .val (.int r63), .val (.long (jk q0 1)), .second, .val (.int (0 : Int32)), .unset, .unset, .unset, .unset] [(.int (0 : Int32)), (.int r37)])) (fun t k => XS.iload X5.here hx rfl (hb hby at_98) rfl k) ?_
    have hc100_22 : r37 = (0 : Int32) := (Int32.toInt_inj.mp (by have := z37.2 hc81_6; omega))
    refine Goes.to (T' := T5.setTop (mkF m 103 #[.val (.long q0), .second, .val (.int p2), .val (.int p3), .val (.int pn), .val (.int pm), .val (.int r30), .val (.int r37), .val (.int r45), .val (.int r55), .val (.int r63), .val (.long (jk q0 1)), .second, .val (.int (0 : Int32)), .unset, .unset, .unset, .unset] [])) (fun t k => XS.icmpNo X5.here hx rfl (hb hby at_100) rfl (teq hc100_22).2 k) ?_
    refine Goes.to (T' := T5.setTop (mkF m 104 #[.val (.long q0), .second, .val (.int p2), .val (.int p3), .val (.int pn), .val (.int pm), .val (.int r30), .val (.int r37), .val (.int r45), .val (.int r55), .val (.int r63), .val (.long (jk q0 1)), .second, .val (.int (0 : Int32)), .unset, .unset, .unset, .unset] [(.int (1 : Int32))])) (fun t k => XS.iconst X5.here hx rfl (hb hby at_103) k) ?_
    refine Goes.to (T' := T5.setTop (mkF m 108 #[.val (.long q0), .second, .val (.int p2), .val (.int p3), .val (.int pn), .val (.int pm), .val (.int r30), .val (.int r37), .val (.int r45), .val (.int r55), .val (.int r63), .val (.long (jk q0 1)), .second, .val (.int (0 : Int32)), .unset, .unset, .unset, .unset] [(.int (1 : Int32))])) (fun t k => XS.goto X5.here hx rfl (pc0 := 104) (pc' := 108) rfl (hb hby at_104) (by decide) (by decide) k) ?_
    refine Goes.to (T' := T5.setTop (mkF m 110 #[.val (.long q0), .second, .val (.int p2), .val (.int p3), .val (.int pn), .val (.int pm), .val (.int r30), .val (.int r37), .val (.int r45), .val (.int r55), .val (.int r63), .val (.long (jk q0 1)), .second, .val (.int (0 : Int32)), .val (.int (1 : Int32)), .unset, .unset, .unset] [])) (fun t k => XS.istore X5.here hx rfl (hb hby at_108) rfl (l' := #[.val (.long q0), .second, .val (.int p2), .val (.int p3), .val (.int pn), .val (.int pm), .val (.int r30), .val (.int r37), .val (.int r45), .val (.int r55), .val (.int r63), .val (.long (jk q0 1)), .second, .val (.int (0 : Int32)), .val (.int (1 : Int32)), .unset, .unset, .unset]) rfl k) ?_
    refine Goes.to (T' := T5.setTop (mkF m 112 #[.val (.long q0), .second, .val (.int p2), .val (.int p3), .val (.int pn), .val (.int pm), .val (.int r30), .val (.int r37), .val (.int r45), .val (.int r55), .val (.int r63), .val (.long (jk q0 1)), .second, .val (.int (0 : Int32)), .val (.int (1 : Int32)), .unset, .unset, .unset] [(.int r45)])) (fun t k => XS.iload X5.here hx rfl (hb hby at_110) rfl k) ?_
    have hc112_23 : ¬ (r45 < (0 : Int32)) := (by rw [Int32.lt_iff_toInt_lt]; omega)
    refine Goes.to (T' := T5.setTop (mkF m 115 #[.val (.long q0), .second, .val (.int p2), .val (.int p3), .val (.int pn), .val (.int pm), .val (.int r30), .val (.int r37), .val (.int r45), .val (.int r55), .val (.int r63), .val (.long (jk q0 1)), .second, .val (.int (0 : Int32)), .val (.int (1 : Int32)), .unset, .unset, .unset] [])) (fun t k => XS.ifNo X5.here hx rfl (hb hby at_112) rfl ((if0 _ _).trans (flt hc112_23).1) k) ?_
    refine Goes.to (T' := T5.setTop (mkF m 117 #[.val (.long q0), .second, .val (.int p2), .val (.int p3), .val (.int pn), .val (.int pm), .val (.int r30), .val (.int r37), .val (.int r45), .val (.int r55), .val (.int r63), .val (.long (jk q0 1)), .second, .val (.int (0 : Int32)), .val (.int (1 : Int32)), .unset, .unset, .unset] [(.int r45)])) (fun t k => XS.iload X5.here hx rfl (hb hby at_115) rfl k) ?_
    refine Goes.to (T' := T5.setTop (mkF m 119 #[.val (.long q0), .second, .val (.int p2), .val (.int p3), .val (.int pn), .val (.int pm), .val (.int r30), .val (.int r37), .val (.int r45), .val (.int r55), .val (.int r63), .val (.long (jk q0 1)), .second, .val (.int (0 : Int32)), .val (.int (1 : Int32)), .unset, .unset, .unset] [(.int pn), (.int r45)])) (fun t k => XS.iload X5.here hx rfl (hb hby at_117) rfl k) ?_
    have hc119_24 : r45 < pn := (by rw [Int32.lt_iff_toInt_lt]; omega)
    refine Goes.to (T' := T5.setTop (mkF m 122 #[.val (.long q0), .second, .val (.int p2), .val (.int p3), .val (.int pn), .val (.int pm), .val (.int r30), .val (.int r37), .val (.int r45), .val (.int r55), .val (.int r63), .val (.long (jk q0 1)), .second, .val (.int (0 : Int32)), .val (.int (1 : Int32)), .unset, .unset, .unset] [])) (fun t k => XS.icmpNo X5.here hx rfl (hb hby at_119) rfl (tlt hc119_24).2.1 k) ?_
    refine Goes.to (T' := T5.setTop (mkF m 124 #[.val (.long q0), .second, .val (.int p2), .val (.int p3), .val (.int pn), .val (.int pm), .val (.int r30), .val (.int r37), .val (.int r45), .val (.int r55), .val (.int r63), .val (.long (jk q0 1)), .second, .val (.int (0 : Int32)), .val (.int (1 : Int32)), .unset, .unset, .unset] [(.int r55)])) (fun t k => XS.iload X5.here hx rfl (hb hby at_122) rfl k) ?_
    have hc124_25 : ¬ (r55 < (0 : Int32)) := (by rw [Int32.lt_iff_toInt_lt]; omega)
    refine Goes.to (T' := T5.setTop (mkF m 127 #[.val (.long q0), .second, .val (.int p2), .val (.int p3), .val (.int pn), .val (.int pm), .val (.int r30), .val (.int r37), .val (.int r45), .val (.int r55), .val (.int r63), .val (.long (jk q0 1)), .second, .val (.int (0 : Int32)), .val (.int (1 : Int32)), .unset, .unset, .unset] [])) (fun t k => XS.ifNo X5.here hx rfl (hb hby at_124) rfl ((if0 _ _).trans (flt hc124_25).1) k) ?_
    refine Goes.to (T' := T5.setTop (mkF m 129 #[.val (.long q0), .second, .val (.int p2), .val (.int p3), .val (.int pn), .val (.int pm), .val (.int r30), .val (.int r37), .val (.int r45), .val (.int r55), .val (.int r63), .val (.long (jk q0 1)), .second, .val (.int (0 : Int32)), .val (.int (1 : Int32)), .unset, .unset, .unset] [(.int r55)])) (fun t k => XS.iload X5.here hx rfl (hb hby at_127) rfl k) ?_
    refine Goes.to (T' := T5.setTop (mkF m 131 #[.val (.long q0), .second, .val (.int p2), .val (.int p3), .val (.int pn), .val (.int pm), .val (.int r30), .val (.int r37), .val (.int r45), .val (.int r55), .val (.int r63), .val (.long (jk q0 1)), .second, .val (.int (0 : Int32)), .val (.int (1 : Int32)), .unset, .unset, .unset] [(.int pn), (.int r55)])) (fun t k => XS.iload X5.here hx rfl (hb hby at_129) rfl k) ?_
    have hc131_26 : ¬ (pn < r55) := (by rw [Int32.lt_iff_toInt_lt]; omega)
    refine Goes.to (T' := T5.setTop (mkF m 134 #[.val (.long q0), .second, .val (.int p2), .val (.int p3), .val (.int pn), .val (.int pm), .val (.int r30), .val (.int r37), .val (.int r45), .val (.int r55), .val (.int r63), .val (.long (jk q0 1)), .second, .val (.int (0 : Int32)), .val (.int (1 : Int32)), .unset, .unset, .unset] [])) (fun t k => XS.icmpNo X5.here hx rfl (hb hby at_131) rfl (flt hc131_26).2.2.1 k) ?_
    refine Goes.to (T' := T5.setTop (mkF m 136 #[.val (.long q0), .second, .val (.int p2), .val (.int p3), .val (.int pn), .val (.int pm), .val (.int r30), .val (.int r37), .val (.int r45), .val (.int r55), .val (.int r63), .val (.long (jk q0 1)), .second, .val (.int (0 : Int32)), .val (.int (1 : Int32)), .unset, .unset, .unset] [(.int r63)])) (fun t k => XS.iload X5.here hx rfl (hb hby at_134) rfl k) ?_
    have hc136_27 : ¬ (r63 < (0 : Int32)) := (by rw [Int32.lt_iff_toInt_lt]; omega)
    refine Goes.to (T' := T5.setTop (mkF m 139 #[.val (.long q0), .second, .val (.int p2), .val (.int p3), .val (.int pn), .val (.int pm), .val (.int r30), .val (.int r37), .val (.int r45), .val (.int r55), .val (.int r63), .val (.long (jk q0 1)), .second, .val (.int (0 : Int32)), .val (.int (1 : Int32)), .unset, .unset, .unset] [])) (fun t k => XS.ifNo X5.here hx rfl (hb hby at_136) rfl ((if0 _ _).trans (flt hc136_27).1) k) ?_
    refine Goes.to (T' := T5.setTop (mkF m 141 #[.val (.long q0), .second, .val (.int p2), .val (.int p3), .val (.int pn), .val (.int pm), .val (.int r30), .val (.int r37), .val (.int r45), .val (.int r55), .val (.int r63), .val (.long (jk q0 1)), .second, .val (.int (0 : Int32)), .val (.int (1 : Int32)), .unset, .unset, .unset] [(.int r63)])) (fun t k => XS.iload X5.here hx rfl (hb hby at_139) rfl k) ?_
    refine Goes.to (T' := T5.setTop (mkF m 143 #[.val (.long q0), .second, .val (.int p2), .val (.int p3), .val (.int pn), .val (.int pm), .val (.int r30), .val (.int r37), .val (.int r45), .val (.int r55), .val (.int r63), .val (.long (jk q0 1)), .second, .val (.int (0 : Int32)), .val (.int (1 : Int32)), .unset, .unset, .unset] [(.int pm), (.int r63)])) (fun t k => XS.iload X5.here hx rfl (hb hby at_141) rfl k) ?_
    have hc143_28 : r63 < pm := (by rw [Int32.lt_iff_toInt_lt]; omega)
    refine Goes.to (T' := T5.setTop (mkF m 146 #[.val (.long q0), .second, .val (.int p2), .val (.int p3), .val (.int pn), .val (.int pm), .val (.int r30), .val (.int r37), .val (.int r45), .val (.int r55), .val (.int r63), .val (.long (jk q0 1)), .second, .val (.int (0 : Int32)), .val (.int (1 : Int32)), .unset, .unset, .unset] [])) (fun t k => XS.icmpNo X5.here hx rfl (hb hby at_143) rfl (tlt hc143_28).2.1 k) ?_
    refine Goes.to (T' := T5.setTop (mkF m 147 #[.val (.long q0), .second, .val (.int p2), .val (.int p3), .val (.int pn), .val (.int pm), .val (.int r30), .val (.int r37), .val (.int r45), .val (.int r55), .val (.int r63), .val (.long (jk q0 1)), .second, .val (.int (0 : Int32)), .val (.int (1 : Int32)), .unset, .unset, .unset] [(.int (1 : Int32))])) (fun t k => XS.iconst X5.here hx rfl (hb hby at_146) k) ?_
    refine Goes.to (T' := T5.setTop (mkF m 151 #[.val (.long q0), .second, .val (.int p2), .val (.int p3), .val (.int pn), .val (.int pm), .val (.int r30), .val (.int r37), .val (.int r45), .val (.int r55), .val (.int r63), .val (.long (jk q0 1)), .second, .val (.int (0 : Int32)), .val (.int (1 : Int32)), .unset, .unset, .unset] [(.int (1 : Int32))])) (fun t k => XS.goto X5.here hx rfl (pc0 := 147) (pc' := 151) rfl (hb hby at_147) (by decide) (by decide) k) ?_
    refine Goes.to (T' := T5.setTop (mkF m 153 #[.val (.long q0), .second, .val (.int p2), .val (.int p3), .val (.int pn), .val (.int pm), .val (.int r30), .val (.int r37), .val (.int r45), .val (.int r55), .val (.int r63), .val (.long (jk q0 1)), .second, .val (.int (0 : Int32)), .val (.int (1 : Int32)), .val (.int (1 : Int32)), .unset, .unset] [])) (fun t k => XS.istore X5.here hx rfl (hb hby at_151) rfl (l' := #[.val (.long q0), .second, .val (.int p2), .val (.int p3), .val (.int pn), .val (.int pm), .val (.int r30), .val (.int r37), .val (.int r45), .val (.int r55), .val (.int r63), .val (.long (jk q0 1)), .second, .val (.int (0 : Int32)), .val (.int (1 : Int32)), .val (.int (1 : Int32)), .unset, .unset]) rfl k) ?_
    refine Goes.to (T' := T5.setTop (mkF m 155 #[.val (.long q0), .second, .val (.int p2), .val (.int p3), .val (.int pn), .val (.int pm), .val (.int r30), .val (.int r37), .val (.int r45), .val (.int r55), .val (.int r63), .val (.long (jk q0 1)), .second, .val (.int (0 : Int32)), .val (.int (1 : Int32)), .val (.int (1 : Int32)), .unset, .unset] [(.int r55)])) (fun t k => XS.iload X5.here hx rfl (hb hby at_153) rfl k) ?_
    refine Goes.to (T' := T5.setTop (mkF m 157 #[.val (.long q0), .second, .val (.int p2), .val (.int p3), .val (.int pn), .val (.int pm), .val (.int r30), .val (.int r37), .val (.int r45), .val (.int r55), .val (.int r63), .val (.long (jk q0 1)), .second, .val (.int (0 : Int32)), .val (.int (1 : Int32)), .val (.int (1 : Int32)), .unset, .unset] [(.int r45), (.int r55)])) (fun t k => XS.iload X5.here hx rfl (hb hby at_155) rfl k) ?_
    rcases Decidable.em (r55 = r45) with hc157_29 | hc157_29
    · skip
      refine Goes.to (T' := T5.setTop (mkF m 167 #[.val (.long q0), .second, .val (.int p2), .val (.int p3), .val (.int pn), .val (.int pm), .val (.int r30), .val (.int r37), .val (.int r45), .val (.int r55), .val (.int r63), .val (.long (jk q0 1)), .second, .val (.int (0 : Int32)), .val (.int (1 : Int32)), .val (.int (1 : Int32)), .unset, .unset] [])) (fun t k => XS.icmpYes X5.here hx rfl (pc0 := 157) (pc' := 167) rfl (hb hby at_157) rfl (teq hc157_29).1 (by decide) (by decide) k) ?_
      refine Goes.to (T' := T5.setTop (mkF m 168 #[.val (.long q0), .second, .val (.int p2), .val (.int p3), .val (.int pn), .val (.int pm), .val (.int r30), .val (.int r37), .val (.int r45), .val (.int r55), .val (.int r63), .val (.long (jk q0 1)), .second, .val (.int (0 : Int32)), .val (.int (1 : Int32)), .val (.int (1 : Int32)), .unset, .unset] [(.int (1 : Int32))])) (fun t k => XS.iconst X5.here hx rfl (hb hby at_167) k) ?_
      refine Goes.to (T' := T5.setTop (mkF m 172 #[.val (.long q0), .second, .val (.int p2), .val (.int p3), .val (.int pn), .val (.int pm), .val (.int r30), .val (.int r37), .val (.int r45), .val (.int r55), .val (.int r63), .val (.long (jk q0 1)), .second, .val (.int (0 : Int32)), .val (.int (1 : Int32)), .val (.int (1 : Int32)), .unset, .unset] [(.int (1 : Int32))])) (fun t k => XS.goto X5.here hx rfl (pc0 := 168) (pc' := 172) rfl (hb hby at_168) (by decide) (by decide) k) ?_
      refine Goes.to (T' := T5.setTop (mkF m 174 #[.val (.long q0), .second, .val (.int p2), .val (.int p3), .val (.int pn), .val (.int pm), .val (.int r30), .val (.int r37), .val (.int r45), .val (.int r55), .val (.int r63), .val (.long (jk q0 1)), .second, .val (.int (0 : Int32)), .val (.int (1 : Int32)), .val (.int (1 : Int32)), .val (.int (1 : Int32)), .unset] [])) (fun t k => XS.istore X5.here hx rfl (hb hby at_172) rfl (l' := #[.val (.long q0), .second, .val (.int p2), .val (.int p3), .val (.int pn), .val (.int pm), .val (.int r30), .val (.int r37), .val (.int r45), .val (.int r55), .val (.int r63), .val (.long (jk q0 1)), .second, .val (.int (0 : Int32)), .val (.int (1 : Int32)), .val (.int (1 : Int32)), .val (.int (1 : Int32)), .unset]) rfl k) ?_
      refine Goes.to (T' := T5.setTop (mkF m 176 #[.val (.long q0), .second, .val (.int p2), .val (.int p3), .val (.int pn), .val (.int pm), .val (.int r30), .val (.int r37), .val (.int r45), .val (.int r55), .val (.int r63), .val (.long (jk q0 1)), .second, .val (.int (0 : Int32)), .val (.int (1 : Int32)), .val (.int (1 : Int32)), .val (.int (1 : Int32)), .unset] [(.int r63)])) (fun t k => XS.iload X5.here hx rfl (hb hby at_174) rfl k) ?_
      refine Goes.to (T' := T5.setTop (mkF m 178 #[.val (.long q0), .second, .val (.int p2), .val (.int p3), .val (.int pn), .val (.int pm), .val (.int r30), .val (.int r37), .val (.int r45), .val (.int r55), .val (.int r63), .val (.long (jk q0 1)), .second, .val (.int (0 : Int32)), .val (.int (1 : Int32)), .val (.int (1 : Int32)), .val (.int (1 : Int32)), .unset] [(.int r45), (.int r63)])) (fun t k => XS.iload X5.here hx rfl (hb hby at_176) rfl k) ?_
      rcases Decidable.em (r63 = r45) with hc178_30 | hc178_30
      · skip
        refine Goes.to (T' := T5.setTop (mkF m 188 #[.val (.long q0), .second, .val (.int p2), .val (.int p3), .val (.int pn), .val (.int pm), .val (.int r30), .val (.int r37), .val (.int r45), .val (.int r55), .val (.int r63), .val (.long (jk q0 1)), .second, .val (.int (0 : Int32)), .val (.int (1 : Int32)), .val (.int (1 : Int32)), .val (.int (1 : Int32)), .unset] [])) (fun t k => XS.icmpYes X5.here hx rfl (pc0 := 178) (pc' := 188) rfl (hb hby at_178) rfl (teq hc178_30).1 (by decide) (by decide) k) ?_
        refine Goes.to (T' := T5.setTop (mkF m 189 #[.val (.long q0), .second, .val (.int p2), .val (.int p3), .val (.int pn), .val (.int pm), .val (.int r30), .val (.int r37), .val (.int r45), .val (.int r55), .val (.int r63), .val (.long (jk q0 1)), .second, .val (.int (0 : Int32)), .val (.int (1 : Int32)), .val (.int (1 : Int32)), .val (.int (1 : Int32)), .unset] [(.int (1 : Int32))])) (fun t k => XS.iconst X5.here hx rfl (hb hby at_188) k) ?_
        refine Goes.to (T' := T5.setTop (mkF m 193 #[.val (.long q0), .second, .val (.int p2), .val (.int p3), .val (.int pn), .val (.int pm), .val (.int r30), .val (.int r37), .val (.int r45), .val (.int r55), .val (.int r63), .val (.long (jk q0 1)), .second, .val (.int (0 : Int32)), .val (.int (1 : Int32)), .val (.int (1 : Int32)), .val (.int (1 : Int32)), .unset] [(.int (1 : Int32))])) (fun t k => XS.goto X5.here hx rfl (pc0 := 189) (pc' := 193) rfl (hb hby at_189) (by decide) (by decide) k) ?_
        refine Goes.to (T' := T5.setTop (mkF m 195 #[.val (.long q0), .second, .val (.int p2), .val (.int p3), .val (.int pn), .val (.int pm), .val (.int r30), .val (.int r37), .val (.int r45), .val (.int r55), .val (.int r63), .val (.long (jk q0 1)), .second, .val (.int (0 : Int32)), .val (.int (1 : Int32)), .val (.int (1 : Int32)), .val (.int (1 : Int32)), .val (.int (1 : Int32))] [])) (fun t k => XS.istore X5.here hx rfl (hb hby at_193) rfl (l' := #[.val (.long q0), .second, .val (.int p2), .val (.int p3), .val (.int pn), .val (.int pm), .val (.int r30), .val (.int r37), .val (.int r45), .val (.int r55), .val (.int r63), .val (.long (jk q0 1)), .second, .val (.int (0 : Int32)), .val (.int (1 : Int32)), .val (.int (1 : Int32)), .val (.int (1 : Int32)), .val (.int (1 : Int32))]) rfl k) ?_
        refine Goes.to (T' := T5.setTop (mkF m 197 #[.val (.long q0), .second, .val (.int p2), .val (.int p3), .val (.int pn), .val (.int pm), .val (.int r30), .val (.int r37), .val (.int r45), .val (.int r55), .val (.int r63), .val (.long (jk q0 1)), .second, .val (.int (0 : Int32)), .val (.int (1 : Int32)), .val (.int (1 : Int32)), .val (.int (1 : Int32)), .val (.int (1 : Int32))] [(.int (1 : Int32))])) (fun t k => XS.iload X5.here hx rfl (hb hby at_195) rfl k) ?_
        refine Goes.to (T' := T5.setTop (mkF m 200 #[.val (.long q0), .second, .val (.int p2), .val (.int p3), .val (.int pn), .val (.int pm), .val (.int r30), .val (.int r37), .val (.int r45), .val (.int r55), .val (.int r63), .val (.long (jk q0 1)), .second, .val (.int (0 : Int32)), .val (.int (1 : Int32)), .val (.int (1 : Int32)), .val (.int (1 : Int32)), .val (.int (1 : Int32))] [])) (fun t k => XS.ifNo X5.here hx rfl (hb hby at_197) rfl ((if0 _ _).trans (feq (by decide)).1) k) ?_
        refine Goes.to (T' := T5.setTop (mkF m 202 #[.val (.long q0), .second, .val (.int p2), .val (.int p3), .val (.int pn), .val (.int pm), .val (.int r30), .val (.int r37), .val (.int r45), .val (.int r55), .val (.int r63), .val (.long (jk q0 1)), .second, .val (.int (0 : Int32)), .val (.int (1 : Int32)), .val (.int (1 : Int32)), .val (.int (1 : Int32)), .val (.int (1 : Int32))] [(.int (1 : Int32))])) (fun t k => XS.iload X5.here hx rfl (hb hby at_200) rfl k) ?_
        refine Goes.to (T' := T5.setTop (mkF m 205 #[.val (.long q0), .second, .val (.int p2), .val (.int p3), .val (.int pn), .val (.int pm), .val (.int r30), .val (.int r37), .val (.int r45), .val (.int r55), .val (.int r63), .val (.long (jk q0 1)), .second, .val (.int (0 : Int32)), .val (.int (1 : Int32)), .val (.int (1 : Int32)), .val (.int (1 : Int32)), .val (.int (1 : Int32))] [])) (fun t k => XS.ifNo X5.here hx rfl (hb hby at_202) rfl ((if0 _ _).trans (feq (by decide)).1) k) ?_
        refine Goes.to (T' := T5.setTop (mkF m 207 #[.val (.long q0), .second, .val (.int p2), .val (.int p3), .val (.int pn), .val (.int pm), .val (.int r30), .val (.int r37), .val (.int r45), .val (.int r55), .val (.int r63), .val (.long (jk q0 1)), .second, .val (.int (0 : Int32)), .val (.int (1 : Int32)), .val (.int (1 : Int32)), .val (.int (1 : Int32)), .val (.int (1 : Int32))] [(.int (1 : Int32))])) (fun t k => XS.iload X5.here hx rfl (hb hby at_205) rfl k) ?_
        refine Goes.to (T' := T5.setTop (mkF m 210 #[.val (.long q0), .second, .val (.int p2), .val (.int p3), .val (.int pn), .val (.int pm), .val (.int r30), .val (.int r37), .val (.int r45), .val (.int r55), .val (.int r63), .val (.long (jk q0 1)), .second, .val (.int (0 : Int32)), .val (.int (1 : Int32)), .val (.int (1 : Int32)), .val (.int (1 : Int32)), .val (.int (1 : Int32))] [])) (fun t k => XS.ifNo X5.here hx rfl (hb hby at_207) rfl ((if0 _ _).trans (feq (by decide)).1) k) ?_
        refine Goes.to (T' := T5.setTop (mkF m 212 #[.val (.long q0), .second, .val (.int p2), .val (.int p3), .val (.int pn), .val (.int pm), .val (.int r30), .val (.int r37), .val (.int r45), .val (.int r55), .val (.int r63), .val (.long (jk q0 1)), .second, .val (.int (0 : Int32)), .val (.int (1 : Int32)), .val (.int (1 : Int32)), .val (.int (1 : Int32)), .val (.int (1 : Int32))] [(.int (1 : Int32))])) (fun t k => XS.iload X5.here hx rfl (hb hby at_210) rfl k) ?_
        refine Goes.to (T' := T5.setTop (mkF m 215 #[.val (.long q0), .second, .val (.int p2), .val (.int p3), .val (.int pn), .val (.int pm), .val (.int r30), .val (.int r37), .val (.int r45), .val (.int r55), .val (.int r63), .val (.long (jk q0 1)), .second, .val (.int (0 : Int32)), .val (.int (1 : Int32)), .val (.int (1 : Int32)), .val (.int (1 : Int32)), .val (.int (1 : Int32))] [])) (fun t k => XS.ifNo X5.here hx rfl (hb hby at_212) rfl ((if0 _ _).trans (feq (by decide)).1) k) ?_
        refine Goes.to (T' := T5.setTop (mkF m 216 #[.val (.long q0), .second, .val (.int p2), .val (.int p3), .val (.int pn), .val (.int pm), .val (.int r30), .val (.int r37), .val (.int r45), .val (.int r55), .val (.int r63), .val (.long (jk q0 1)), .second, .val (.int (0 : Int32)), .val (.int (1 : Int32)), .val (.int (1 : Int32)), .val (.int (1 : Int32)), .val (.int (1 : Int32))] [(.int (1 : Int32))])) (fun t k => XS.iconst X5.here hx rfl (hb hby at_215) k) ?_
        refine Goes.to (T' := T5.setTop (mkF m 220 #[.val (.long q0), .second, .val (.int p2), .val (.int p3), .val (.int pn), .val (.int pm), .val (.int r30), .val (.int r37), .val (.int r45), .val (.int r55), .val (.int r63), .val (.long (jk q0 1)), .second, .val (.int (0 : Int32)), .val (.int (1 : Int32)), .val (.int (1 : Int32)), .val (.int (1 : Int32)), .val (.int (1 : Int32))] [(.int (1 : Int32))])) (fun t k => XS.goto X5.here hx rfl (pc0 := 216) (pc' := 220) rfl (hb hby at_216) (by decide) (by decide) k) ?_
        obtain ⟨fs, hrL, hrun, hended, hW, hsame⟩ := X5.leave (v := some (.int (1 : Int32))) (fun h => by rw [Bd.returns] at h; cases h)
        subst hQf
        refine ⟨_, _, retN X5 hx (t := .boolean) Bd.returns (by simp) (hb hby at_220) hrL, hrun, hended, _, _, rfl, ?_, ⟨_, rfl⟩, hW, hsame.mono (by decide) (by decide)⟩
        show (fun (v : Option Value) (h : Heap) (L : List Loc) => v = some (.int 1) ∧ Fr n0 L) (some (.int (1 : Int32))) T5.heap _
        rw [e5]
        exact ⟨rfl, N5⟩
      · skip
        refine Goes.to (T' := T5.setTop (mkF m 181 #[.val (.long q0), .second, .val (.int p2), .val (.int p3), .val (.int pn), .val (.int pm), .val (.int r30), .val (.int r37), .val (.int r45), .val (.int r55), .val (.int r63), .val (.long (jk q0 1)), .second, .val (.int (0 : Int32)), .val (.int (1 : Int32)), .val (.int (1 : Int32)), .val (.int (1 : Int32)), .unset] [])) (fun t k => XS.icmpNo X5.here hx rfl (hb hby at_178) rfl (feq hc178_30).1 k) ?_
        refine Goes.to (T' := T5.setTop (mkF m 183 #[.val (.long q0), .second, .val (.int p2), .val (.int p3), .val (.int pn), .val (.int pm), .val (.int r30), .val (.int r37), .val (.int r45), .val (.int r55), .val (.int r63), .val (.long (jk q0 1)), .second, .val (.int (0 : Int32)), .val (.int (1 : Int32)), .val (.int (1 : Int32)), .val (.int (1 : Int32)), .unset] [(.int r63)])) (fun t k => XS.iload X5.here hx rfl (hb hby at_181) rfl k) ?_
        refine Goes.to (T' := T5.setTop (mkF m 185 #[.val (.long q0), .second, .val (.int p2), .val (.int p3), .val (.int pn), .val (.int pm), .val (.int r30), .val (.int r37), .val (.int r45), .val (.int r55), .val (.int r63), .val (.long (jk q0 1)), .second, .val (.int (0 : Int32)), .val (.int (1 : Int32)), .val (.int (1 : Int32)), .val (.int (1 : Int32)), .unset] [(.int pn), (.int r63)])) (fun t k => XS.iload X5.here hx rfl (hb hby at_183) rfl k) ?_
        have hc185_31 : ¬ (r63 < pn) := (by have q : ¬ r63.toInt = r45.toInt := fun z => hc178_30 (Int32.toInt_inj.mp z); rw [Int32.lt_iff_toInt_lt]; omega)
        refine Goes.to (T' := T5.setTop (mkF m 188 #[.val (.long q0), .second, .val (.int p2), .val (.int p3), .val (.int pn), .val (.int pm), .val (.int r30), .val (.int r37), .val (.int r45), .val (.int r55), .val (.int r63), .val (.long (jk q0 1)), .second, .val (.int (0 : Int32)), .val (.int (1 : Int32)), .val (.int (1 : Int32)), .val (.int (1 : Int32)), .unset] [])) (fun t k => XS.icmpNo X5.here hx rfl (hb hby at_185) rfl (flt hc185_31).1 k) ?_
        refine Goes.to (T' := T5.setTop (mkF m 189 #[.val (.long q0), .second, .val (.int p2), .val (.int p3), .val (.int pn), .val (.int pm), .val (.int r30), .val (.int r37), .val (.int r45), .val (.int r55), .val (.int r63), .val (.long (jk q0 1)), .second, .val (.int (0 : Int32)), .val (.int (1 : Int32)), .val (.int (1 : Int32)), .val (.int (1 : Int32)), .unset] [(.int (1 : Int32))])) (fun t k => XS.iconst X5.here hx rfl (hb hby at_188) k) ?_
        refine Goes.to (T' := T5.setTop (mkF m 193 #[.val (.long q0), .second, .val (.int p2), .val (.int p3), .val (.int pn), .val (.int pm), .val (.int r30), .val (.int r37), .val (.int r45), .val (.int r55), .val (.int r63), .val (.long (jk q0 1)), .second, .val (.int (0 : Int32)), .val (.int (1 : Int32)), .val (.int (1 : Int32)), .val (.int (1 : Int32)), .unset] [(.int (1 : Int32))])) (fun t k => XS.goto X5.here hx rfl (pc0 := 189) (pc' := 193) rfl (hb hby at_189) (by decide) (by decide) k) ?_
        refine Goes.to (T' := T5.setTop (mkF m 195 #[.val (.long q0), .second, .val (.int p2), .val (.int p3), .val (.int pn), .val (.int pm), .val (.int r30), .val (.int r37), .val (.int r45), .val (.int r55), .val (.int r63), .val (.long (jk q0 1)), .second, .val (.int (0 : Int32)), .val (.int (1 : Int32)), .val (.int (1 : Int32)), .val (.int (1 : Int32)), .val (.int (1 : Int32))] [])) (fun t k => XS.istore X5.here hx rfl (hb hby at_193) rfl (l' := #[.val (.long q0), .second, .val (.int p2), .val (.int p3), .val (.int pn), .val (.int pm), .val (.int r30), .val (.int r37), .val (.int r45), .val (.int r55), .val (.int r63), .val (.long (jk q0 1)), .second, .val (.int (0 : Int32)), .val (.int (1 : Int32)), .val (.int (1 : Int32)), .val (.int (1 : Int32)), .val (.int (1 : Int32))]) rfl k) ?_
        refine Goes.to (T' := T5.setTop (mkF m 197 #[.val (.long q0), .second, .val (.int p2), .val (.int p3), .val (.int pn), .val (.int pm), .val (.int r30), .val (.int r37), .val (.int r45), .val (.int r55), .val (.int r63), .val (.long (jk q0 1)), .second, .val (.int (0 : Int32)), .val (.int (1 : Int32)), .val (.int (1 : Int32)), .val (.int (1 : Int32)), .val (.int (1 : Int32))] [(.int (1 : Int32))])) (fun t k => XS.iload X5.here hx rfl (hb hby at_195) rfl k) ?_
        refine Goes.to (T' := T5.setTop (mkF m 200 #[.val (.long q0), .second, .val (.int p2), .val (.int p3), .val (.int pn), .val (.int pm), .val (.int r30), .val (.int r37), .val (.int r45), .val (.int r55), .val (.int r63), .val (.long (jk q0 1)), .second, .val (.int (0 : Int32)), .val (.int (1 : Int32)), .val (.int (1 : Int32)), .val (.int (1 : Int32)), .val (.int (1 : Int32))] [])) (fun t k => XS.ifNo X5.here hx rfl (hb hby at_197) rfl ((if0 _ _).trans (feq (by decide)).1) k) ?_
        refine Goes.to (T' := T5.setTop (mkF m 202 #[.val (.long q0), .second, .val (.int p2), .val (.int p3), .val (.int pn), .val (.int pm), .val (.int r30), .val (.int r37), .val (.int r45), .val (.int r55), .val (.int r63), .val (.long (jk q0 1)), .second, .val (.int (0 : Int32)), .val (.int (1 : Int32)), .val (.int (1 : Int32)), .val (.int (1 : Int32)), .val (.int (1 : Int32))] [(.int (1 : Int32))])) (fun t k => XS.iload X5.here hx rfl (hb hby at_200) rfl k) ?_
        refine Goes.to (T' := T5.setTop (mkF m 205 #[.val (.long q0), .second, .val (.int p2), .val (.int p3), .val (.int pn), .val (.int pm), .val (.int r30), .val (.int r37), .val (.int r45), .val (.int r55), .val (.int r63), .val (.long (jk q0 1)), .second, .val (.int (0 : Int32)), .val (.int (1 : Int32)), .val (.int (1 : Int32)), .val (.int (1 : Int32)), .val (.int (1 : Int32))] [])) (fun t k => XS.ifNo X5.here hx rfl (hb hby at_202) rfl ((if0 _ _).trans (feq (by decide)).1) k) ?_
        refine Goes.to (T' := T5.setTop (mkF m 207 #[.val (.long q0), .second, .val (.int p2), .val (.int p3), .val (.int pn), .val (.int pm), .val (.int r30), .val (.int r37), .val (.int r45), .val (.int r55), .val (.int r63), .val (.long (jk q0 1)), .second, .val (.int (0 : Int32)), .val (.int (1 : Int32)), .val (.int (1 : Int32)), .val (.int (1 : Int32)), .val (.int (1 : Int32))] [(.int (1 : Int32))])) (fun t k => XS.iload X5.here hx rfl (hb hby at_205) rfl k) ?_
        refine Goes.to (T' := T5.setTop (mkF m 210 #[.val (.long q0), .second, .val (.int p2), .val (.int p3), .val (.int pn), .val (.int pm), .val (.int r30), .val (.int r37), .val (.int r45), .val (.int r55), .val (.int r63), .val (.long (jk q0 1)), .second, .val (.int (0 : Int32)), .val (.int (1 : Int32)), .val (.int (1 : Int32)), .val (.int (1 : Int32)), .val (.int (1 : Int32))] [])) (fun t k => XS.ifNo X5.here hx rfl (hb hby at_207) rfl ((if0 _ _).trans (feq (by decide)).1) k) ?_
        refine Goes.to (T' := T5.setTop (mkF m 212 #[.val (.long q0), .second, .val (.int p2), .val (.int p3), .val (.int pn), .val (.int pm), .val (.int r30), .val (.int r37), .val (.int r45), .val (.int r55), .val (.int r63), .val (.long (jk q0 1)), .second, .val (.int (0 : Int32)), .val (.int (1 : Int32)), .val (.int (1 : Int32)), .val (.int (1 : Int32)), .val (.int (1 : Int32))] [(.int (1 : Int32))])) (fun t k => XS.iload X5.here hx rfl (hb hby at_210) rfl k) ?_
        refine Goes.to (T' := T5.setTop (mkF m 215 #[.val (.long q0), .second, .val (.int p2), .val (.int p3), .val (.int pn), .val (.int pm), .val (.int r30), .val (.int r37), .val (.int r45), .val (.int r55), .val (.int r63), .val (.long (jk q0 1)), .second, .val (.int (0 : Int32)), .val (.int (1 : Int32)), .val (.int (1 : Int32)), .val (.int (1 : Int32)), .val (.int (1 : Int32))] [])) (fun t k => XS.ifNo X5.here hx rfl (hb hby at_212) rfl ((if0 _ _).trans (feq (by decide)).1) k) ?_
        refine Goes.to (T' := T5.setTop (mkF m 216 #[.val (.long q0), .second, .val (.int p2), .val (.int p3), .val (.int pn), .val (.int pm), .val (.int r30), .val (.int r37), .val (.int r45), .val (.int r55), .val (.int r63), .val (.long (jk q0 1)), .second, .val (.int (0 : Int32)), .val (.int (1 : Int32)), .val (.int (1 : Int32)), .val (.int (1 : Int32)), .val (.int (1 : Int32))] [(.int (1 : Int32))])) (fun t k => XS.iconst X5.here hx rfl (hb hby at_215) k) ?_
        refine Goes.to (T' := T5.setTop (mkF m 220 #[.val (.long q0), .second, .val (.int p2), .val (.int p3), .val (.int pn), .val (.int pm), .val (.int r30), .val (.int r37), .val (.int r45), .val (.int r55), .val (.int r63), .val (.long (jk q0 1)), .second, .val (.int (0 : Int32)), .val (.int (1 : Int32)), .val (.int (1 : Int32)), .val (.int (1 : Int32)), .val (.int (1 : Int32))] [(.int (1 : Int32))])) (fun t k => XS.goto X5.here hx rfl (pc0 := 216) (pc' := 220) rfl (hb hby at_216) (by decide) (by decide) k) ?_
        obtain ⟨fs, hrL, hrun, hended, hW, hsame⟩ := X5.leave (v := some (.int (1 : Int32))) (fun h => by rw [Bd.returns] at h; cases h)
        subst hQf
        refine ⟨_, _, retN X5 hx (t := .boolean) Bd.returns (by simp) (hb hby at_220) hrL, hrun, hended, _, _, rfl, ?_, ⟨_, rfl⟩, hW, hsame.mono (by decide) (by decide)⟩
        show (fun (v : Option Value) (h : Heap) (L : List Loc) => v = some (.int 1) ∧ Fr n0 L) (some (.int (1 : Int32))) T5.heap _
        rw [e5]
        exact ⟨rfl, N5⟩
    · skip
      refine Goes.to (T' := T5.setTop (mkF m 160 #[.val (.long q0), .second, .val (.int p2), .val (.int p3), .val (.int pn), .val (.int pm), .val (.int r30), .val (.int r37), .val (.int r45), .val (.int r55), .val (.int r63), .val (.long (jk q0 1)), .second, .val (.int (0 : Int32)), .val (.int (1 : Int32)), .val (.int (1 : Int32)), .unset, .unset] [])) (fun t k => XS.icmpNo X5.here hx rfl (hb hby at_157) rfl (feq hc157_29).1 k) ?_
      refine Goes.to (T' := T5.setTop (mkF m 162 #[.val (.long q0), .second, .val (.int p2), .val (.int p3), .val (.int pn), .val (.int pm), .val (.int r30), .val (.int r37), .val (.int r45), .val (.int r55), .val (.int r63), .val (.long (jk q0 1)), .second, .val (.int (0 : Int32)), .val (.int (1 : Int32)), .val (.int (1 : Int32)), .unset, .unset] [(.int r55)])) (fun t k => XS.iload X5.here hx rfl (hb hby at_160) rfl k) ?_
      refine Goes.to (T' := T5.setTop (mkF m 164 #[.val (.long q0), .second, .val (.int p2), .val (.int p3), .val (.int pn), .val (.int pm), .val (.int r30), .val (.int r37), .val (.int r45), .val (.int r55), .val (.int r63), .val (.long (jk q0 1)), .second, .val (.int (0 : Int32)), .val (.int (1 : Int32)), .val (.int (1 : Int32)), .unset, .unset] [(.int pn), (.int r55)])) (fun t k => XS.iload X5.here hx rfl (hb hby at_162) rfl k) ?_
      have hc164_32 : r55 = pn := (Int32.toInt_inj.mp (by have q : ¬ r55.toInt = r45.toInt := fun z => hc157_29 (Int32.toInt_inj.mp z); omega))
      refine Goes.to (T' := T5.setTop (mkF m 167 #[.val (.long q0), .second, .val (.int p2), .val (.int p3), .val (.int pn), .val (.int pm), .val (.int r30), .val (.int r37), .val (.int r45), .val (.int r55), .val (.int r63), .val (.long (jk q0 1)), .second, .val (.int (0 : Int32)), .val (.int (1 : Int32)), .val (.int (1 : Int32)), .unset, .unset] [])) (fun t k => XS.icmpNo X5.here hx rfl (hb hby at_164) rfl (teq hc164_32).2 k) ?_
      refine Goes.to (T' := T5.setTop (mkF m 168 #[.val (.long q0), .second, .val (.int p2), .val (.int p3), .val (.int pn), .val (.int pm), .val (.int r30), .val (.int r37), .val (.int r45), .val (.int r55), .val (.int r63), .val (.long (jk q0 1)), .second, .val (.int (0 : Int32)), .val (.int (1 : Int32)), .val (.int (1 : Int32)), .unset, .unset] [(.int (1 : Int32))])) (fun t k => XS.iconst X5.here hx rfl (hb hby at_167) k) ?_
      refine Goes.to (T' := T5.setTop (mkF m 172 #[.val (.long q0), .second, .val (.int p2), .val (.int p3), .val (.int pn), .val (.int pm), .val (.int r30), .val (.int r37), .val (.int r45), .val (.int r55), .val (.int r63), .val (.long (jk q0 1)), .second, .val (.int (0 : Int32)), .val (.int (1 : Int32)), .val (.int (1 : Int32)), .unset, .unset] [(.int (1 : Int32))])) (fun t k => XS.goto X5.here hx rfl (pc0 := 168) (pc' := 172) rfl (hb hby at_168) (by decide) (by decide) k) ?_
      refine Goes.to (T' := T5.setTop (mkF m 174 #[.val (.long q0), .second, .val (.int p2), .val (.int p3), .val (.int pn), .val (.int pm), .val (.int r30), .val (.int r37), .val (.int r45), .val (.int r55), .val (.int r63), .val (.long (jk q0 1)), .second, .val (.int (0 : Int32)), .val (.int (1 : Int32)), .val (.int (1 : Int32)), .val (.int (1 : Int32)), .unset] [])) (fun t k => XS.istore X5.here hx rfl (hb hby at_172) rfl (l' := #[.val (.long q0), .second, .val (.int p2), .val (.int p3), .val (.int pn), .val (.int pm), .val (.int r30), .val (.int r37), .val (.int r45), .val (.int r55), .val (.int r63), .val (.long (jk q0 1)), .second, .val (.int (0 : Int32)), .val (.int (1 : Int32)), .val (.int (1 : Int32)), .val (.int (1 : Int32)), .unset]) rfl k) ?_
      refine Goes.to (T' := T5.setTop (mkF m 176 #[.val (.long q0), .second, .val (.int p2), .val (.int p3), .val (.int pn), .val (.int pm), .val (.int r30), .val (.int r37), .val (.int r45), .val (.int r55), .val (.int r63), .val (.long (jk q0 1)), .second, .val (.int (0 : Int32)), .val (.int (1 : Int32)), .val (.int (1 : Int32)), .val (.int (1 : Int32)), .unset] [(.int r63)])) (fun t k => XS.iload X5.here hx rfl (hb hby at_174) rfl k) ?_
      refine Goes.to (T' := T5.setTop (mkF m 178 #[.val (.long q0), .second, .val (.int p2), .val (.int p3), .val (.int pn), .val (.int pm), .val (.int r30), .val (.int r37), .val (.int r45), .val (.int r55), .val (.int r63), .val (.long (jk q0 1)), .second, .val (.int (0 : Int32)), .val (.int (1 : Int32)), .val (.int (1 : Int32)), .val (.int (1 : Int32)), .unset] [(.int r45), (.int r63)])) (fun t k => XS.iload X5.here hx rfl (hb hby at_176) rfl k) ?_
      rcases Decidable.em (r63 = r45) with hc178_33 | hc178_33
      · skip
        refine Goes.to (T' := T5.setTop (mkF m 188 #[.val (.long q0), .second, .val (.int p2), .val (.int p3), .val (.int pn), .val (.int pm), .val (.int r30), .val (.int r37), .val (.int r45), .val (.int r55), .val (.int r63), .val (.long (jk q0 1)), .second, .val (.int (0 : Int32)), .val (.int (1 : Int32)), .val (.int (1 : Int32)), .val (.int (1 : Int32)), .unset] [])) (fun t k => XS.icmpYes X5.here hx rfl (pc0 := 178) (pc' := 188) rfl (hb hby at_178) rfl (teq hc178_33).1 (by decide) (by decide) k) ?_
        refine Goes.to (T' := T5.setTop (mkF m 189 #[.val (.long q0), .second, .val (.int p2), .val (.int p3), .val (.int pn), .val (.int pm), .val (.int r30), .val (.int r37), .val (.int r45), .val (.int r55), .val (.int r63), .val (.long (jk q0 1)), .second, .val (.int (0 : Int32)), .val (.int (1 : Int32)), .val (.int (1 : Int32)), .val (.int (1 : Int32)), .unset] [(.int (1 : Int32))])) (fun t k => XS.iconst X5.here hx rfl (hb hby at_188) k) ?_
        refine Goes.to (T' := T5.setTop (mkF m 193 #[.val (.long q0), .second, .val (.int p2), .val (.int p3), .val (.int pn), .val (.int pm), .val (.int r30), .val (.int r37), .val (.int r45), .val (.int r55), .val (.int r63), .val (.long (jk q0 1)), .second, .val (.int (0 : Int32)), .val (.int (1 : Int32)), .val (.int (1 : Int32)), .val (.int (1 : Int32)), .unset] [(.int (1 : Int32))])) (fun t k => XS.goto X5.here hx rfl (pc0 := 189) (pc' := 193) rfl (hb hby at_189) (by decide) (by decide) k) ?_
        refine Goes.to (T' := T5.setTop (mkF m 195 #[.val (.long q0), .second, .val (.int p2), .val (.int p3), .val (.int pn), .val (.int pm), .val (.int r30), .val (.int r37), .val (.int r45), .val (.int r55), .val (.int r63), .val (.long (jk q0 1)), .second, .val (.int (0 : Int32)), .val (.int (1 : Int32)), .val (.int (1 : Int32)), .val (.int (1 : Int32)), .val (.int (1 : Int32))] [])) (fun t k => XS.istore X5.here hx rfl (hb hby at_193) rfl (l' := #[.val (.long q0), .second, .val (.int p2), .val (.int p3), .val (.int pn), .val (.int pm), .val (.int r30), .val (.int r37), .val (.int r45), .val (.int r55), .val (.int r63), .val (.long (jk q0 1)), .second, .val (.int (0 : Int32)), .val (.int (1 : Int32)), .val (.int (1 : Int32)), .val (.int (1 : Int32)), .val (.int (1 : Int32))]) rfl k) ?_
        refine Goes.to (T' := T5.setTop (mkF m 197 #[.val (.long q0), .second, .val (.int p2), .val (.int p3), .val (.int pn), .val (.int pm), .val (.int r30), .val (.int r37), .val (.int r45), .val (.int r55), .val (.int r63), .val (.long (jk q0 1)), .second, .val (.int (0 : Int32)), .val (.int (1 : Int32)), .val (.int (1 : Int32)), .val (.int (1 : Int32)), .val (.int (1 : Int32))] [(.int (1 : Int32))])) (fun t k => XS.iload X5.here hx rfl (hb hby at_195) rfl k) ?_
        refine Goes.to (T' := T5.setTop (mkF m 200 #[.val (.long q0), .second, .val (.int p2), .val (.int p3), .val (.int pn), .val (.int pm), .val (.int r30), .val (.int r37), .val (.int r45), .val (.int r55), .val (.int r63), .val (.long (jk q0 1)), .second, .val (.int (0 : Int32)), .val (.int (1 : Int32)), .val (.int (1 : Int32)), .val (.int (1 : Int32)), .val (.int (1 : Int32))] [])) (fun t k => XS.ifNo X5.here hx rfl (hb hby at_197) rfl ((if0 _ _).trans (feq (by decide)).1) k) ?_
        refine Goes.to (T' := T5.setTop (mkF m 202 #[.val (.long q0), .second, .val (.int p2), .val (.int p3), .val (.int pn), .val (.int pm), .val (.int r30), .val (.int r37), .val (.int r45), .val (.int r55), .val (.int r63), .val (.long (jk q0 1)), .second, .val (.int (0 : Int32)), .val (.int (1 : Int32)), .val (.int (1 : Int32)), .val (.int (1 : Int32)), .val (.int (1 : Int32))] [(.int (1 : Int32))])) (fun t k => XS.iload X5.here hx rfl (hb hby at_200) rfl k) ?_
        refine Goes.to (T' := T5.setTop (mkF m 205 #[.val (.long q0), .second, .val (.int p2), .val (.int p3), .val (.int pn), .val (.int pm), .val (.int r30), .val (.int r37), .val (.int r45), .val (.int r55), .val (.int r63), .val (.long (jk q0 1)), .second, .val (.int (0 : Int32)), .val (.int (1 : Int32)), .val (.int (1 : Int32)), .val (.int (1 : Int32)), .val (.int (1 : Int32))] [])) (fun t k => XS.ifNo X5.here hx rfl (hb hby at_202) rfl ((if0 _ _).trans (feq (by decide)).1) k) ?_
        refine Goes.to (T' := T5.setTop (mkF m 207 #[.val (.long q0), .second, .val (.int p2), .val (.int p3), .val (.int pn), .val (.int pm), .val (.int r30), .val (.int r37), .val (.int r45), .val (.int r55), .val (.int r63), .val (.long (jk q0 1)), .second, .val (.int (0 : Int32)), .val (.int (1 : Int32)), .val (.int (1 : Int32)), .val (.int (1 : Int32)), .val (.int (1 : Int32))] [(.int (1 : Int32))])) (fun t k => XS.iload X5.here hx rfl (hb hby at_205) rfl k) ?_
        refine Goes.to (T' := T5.setTop (mkF m 210 #[.val (.long q0), .second, .val (.int p2), .val (.int p3), .val (.int pn), .val (.int pm), .val (.int r30), .val (.int r37), .val (.int r45), .val (.int r55), .val (.int r63), .val (.long (jk q0 1)), .second, .val (.int (0 : Int32)), .val (.int (1 : Int32)), .val (.int (1 : Int32)), .val (.int (1 : Int32)), .val (.int (1 : Int32))] [])) (fun t k => XS.ifNo X5.here hx rfl (hb hby at_207) rfl ((if0 _ _).trans (feq (by decide)).1) k) ?_
        refine Goes.to (T' := T5.setTop (mkF m 212 #[.val (.long q0), .second, .val (.int p2), .val (.int p3), .val (.int pn), .val (.int pm), .val (.int r30), .val (.int r37), .val (.int r45), .val (.int r55), .val (.int r63), .val (.long (jk q0 1)), .second, .val (.int (0 : Int32)), .val (.int (1 : Int32)), .val (.int (1 : Int32)), .val (.int (1 : Int32)), .val (.int (1 : Int32))] [(.int (1 : Int32))])) (fun t k => XS.iload X5.here hx rfl (hb hby at_210) rfl k) ?_
        refine Goes.to (T' := T5.setTop (mkF m 215 #[.val (.long q0), .second, .val (.int p2), .val (.int p3), .val (.int pn), .val (.int pm), .val (.int r30), .val (.int r37), .val (.int r45), .val (.int r55), .val (.int r63), .val (.long (jk q0 1)), .second, .val (.int (0 : Int32)), .val (.int (1 : Int32)), .val (.int (1 : Int32)), .val (.int (1 : Int32)), .val (.int (1 : Int32))] [])) (fun t k => XS.ifNo X5.here hx rfl (hb hby at_212) rfl ((if0 _ _).trans (feq (by decide)).1) k) ?_
        refine Goes.to (T' := T5.setTop (mkF m 216 #[.val (.long q0), .second, .val (.int p2), .val (.int p3), .val (.int pn), .val (.int pm), .val (.int r30), .val (.int r37), .val (.int r45), .val (.int r55), .val (.int r63), .val (.long (jk q0 1)), .second, .val (.int (0 : Int32)), .val (.int (1 : Int32)), .val (.int (1 : Int32)), .val (.int (1 : Int32)), .val (.int (1 : Int32))] [(.int (1 : Int32))])) (fun t k => XS.iconst X5.here hx rfl (hb hby at_215) k) ?_
        refine Goes.to (T' := T5.setTop (mkF m 220 #[.val (.long q0), .second, .val (.int p2), .val (.int p3), .val (.int pn), .val (.int pm), .val (.int r30), .val (.int r37), .val (.int r45), .val (.int r55), .val (.int r63), .val (.long (jk q0 1)), .second, .val (.int (0 : Int32)), .val (.int (1 : Int32)), .val (.int (1 : Int32)), .val (.int (1 : Int32)), .val (.int (1 : Int32))] [(.int (1 : Int32))])) (fun t k => XS.goto X5.here hx rfl (pc0 := 216) (pc' := 220) rfl (hb hby at_216) (by decide) (by decide) k) ?_
        obtain ⟨fs, hrL, hrun, hended, hW, hsame⟩ := X5.leave (v := some (.int (1 : Int32))) (fun h => by rw [Bd.returns] at h; cases h)
        subst hQf
        refine ⟨_, _, retN X5 hx (t := .boolean) Bd.returns (by simp) (hb hby at_220) hrL, hrun, hended, _, _, rfl, ?_, ⟨_, rfl⟩, hW, hsame.mono (by decide) (by decide)⟩
        show (fun (v : Option Value) (h : Heap) (L : List Loc) => v = some (.int 1) ∧ Fr n0 L) (some (.int (1 : Int32))) T5.heap _
        rw [e5]
        exact ⟨rfl, N5⟩
      · skip
        refine Goes.to (T' := T5.setTop (mkF m 181 #[.val (.long q0), .second, .val (.int p2), .val (.int p3), .val (.int pn), .val (.int pm), .val (.int r30), .val (.int r37), .val (.int r45), .val (.int r55), .val (.int r63), .val (.long (jk q0 1)), .second, .val (.int (0 : Int32)), .val (.int (1 : Int32)), .val (.int (1 : Int32)), .val (.int (1 : Int32)), .unset] [])) (fun t k => XS.icmpNo X5.here hx rfl (hb hby at_178) rfl (feq hc178_33).1 k) ?_
        refine Goes.to (T' := T5.setTop (mkF m 183 #[.val (.long q0), .second, .val (.int p2), .val (.int p3), .val (.int pn), .val (.int pm), .val (.int r30), .val (.int r37), .val (.int r45), .val (.int r55), .val (.int r63), .val (.long (jk q0 1)), .second, .val (.int (0 : Int32)), .val (.int (1 : Int32)), .val (.int (1 : Int32)), .val (.int (1 : Int32)), .unset] [(.int r63)])) (fun t k => XS.iload X5.here hx rfl (hb hby at_181) rfl k) ?_
        refine Goes.to (T' := T5.setTop (mkF m 185 #[.val (.long q0), .second, .val (.int p2), .val (.int p3), .val (.int pn), .val (.int pm), .val (.int r30), .val (.int r37), .val (.int r45), .val (.int r55), .val (.int r63), .val (.long (jk q0 1)), .second, .val (.int (0 : Int32)), .val (.int (1 : Int32)), .val (.int (1 : Int32)), .val (.int (1 : Int32)), .unset] [(.int pn), (.int r63)])) (fun t k => XS.iload X5.here hx rfl (hb hby at_183) rfl k) ?_
        have hc185_34 : ¬ (r63 < pn) := (by have q : ¬ r63.toInt = r45.toInt := fun z => hc178_33 (Int32.toInt_inj.mp z); rw [Int32.lt_iff_toInt_lt]; omega)
        refine Goes.to (T' := T5.setTop (mkF m 188 #[.val (.long q0), .second, .val (.int p2), .val (.int p3), .val (.int pn), .val (.int pm), .val (.int r30), .val (.int r37), .val (.int r45), .val (.int r55), .val (.int r63), .val (.long (jk q0 1)), .second, .val (.int (0 : Int32)), .val (.int (1 : Int32)), .val (.int (1 : Int32)), .val (.int (1 : Int32)), .unset] [])) (fun t k => XS.icmpNo X5.here hx rfl (hb hby at_185) rfl (flt hc185_34).1 k) ?_
        refine Goes.to (T' := T5.setTop (mkF m 189 #[.val (.long q0), .second, .val (.int p2), .val (.int p3), .val (.int pn), .val (.int pm), .val (.int r30), .val (.int r37), .val (.int r45), .val (.int r55), .val (.int r63), .val (.long (jk q0 1)), .second, .val (.int (0 : Int32)), .val (.int (1 : Int32)), .val (.int (1 : Int32)), .val (.int (1 : Int32)), .unset] [(.int (1 : Int32))])) (fun t k => XS.iconst X5.here hx rfl (hb hby at_188) k) ?_
        refine Goes.to (T' := T5.setTop (mkF m 193 #[.val (.long q0), .second, .val (.int p2), .val (.int p3), .val (.int pn), .val (.int pm), .val (.int r30), .val (.int r37), .val (.int r45), .val (.int r55), .val (.int r63), .val (.long (jk q0 1)), .second, .val (.int (0 : Int32)), .val (.int (1 : Int32)), .val (.int (1 : Int32)), .val (.int (1 : Int32)), .unset] [(.int (1 : Int32))])) (fun t k => XS.goto X5.here hx rfl (pc0 := 189) (pc' := 193) rfl (hb hby at_189) (by decide) (by decide) k) ?_
        refine Goes.to (T' := T5.setTop (mkF m 195 #[.val (.long q0), .second, .val (.int p2), .val (.int p3), .val (.int pn), .val (.int pm), .val (.int r30), .val (.int r37), .val (.int r45), .val (.int r55), .val (.int r63), .val (.long (jk q0 1)), .second, .val (.int (0 : Int32)), .val (.int (1 : Int32)), .val (.int (1 : Int32)), .val (.int (1 : Int32)), .val (.int (1 : Int32))] [])) (fun t k => XS.istore X5.here hx rfl (hb hby at_193) rfl (l' := #[.val (.long q0), .second, .val (.int p2), .val (.int p3), .val (.int pn), .val (.int pm), .val (.int r30), .val (.int r37), .val (.int r45), .val (.int r55), .val (.int r63), .val (.long (jk q0 1)), .second, .val (.int (0 : Int32)), .val (.int (1 : Int32)), .val (.int (1 : Int32)), .val (.int (1 : Int32)), .val (.int (1 : Int32))]) rfl k) ?_
        refine Goes.to (T' := T5.setTop (mkF m 197 #[.val (.long q0), .second, .val (.int p2), .val (.int p3), .val (.int pn), .val (.int pm), .val (.int r30), .val (.int r37), .val (.int r45), .val (.int r55), .val (.int r63), .val (.long (jk q0 1)), .second, .val (.int (0 : Int32)), .val (.int (1 : Int32)), .val (.int (1 : Int32)), .val (.int (1 : Int32)), .val (.int (1 : Int32))] [(.int (1 : Int32))])) (fun t k => XS.iload X5.here hx rfl (hb hby at_195) rfl k) ?_
        refine Goes.to (T' := T5.setTop (mkF m 200 #[.val (.long q0), .second, .val (.int p2), .val (.int p3), .val (.int pn), .val (.int pm), .val (.int r30), .val (.int r37), .val (.int r45), .val (.int r55), .val (.int r63), .val (.long (jk q0 1)), .second, .val (.int (0 : Int32)), .val (.int (1 : Int32)), .val (.int (1 : Int32)), .val (.int (1 : Int32)), .val (.int (1 : Int32))] [])) (fun t k => XS.ifNo X5.here hx rfl (hb hby at_197) rfl ((if0 _ _).trans (feq (by decide)).1) k) ?_
        refine Goes.to (T' := T5.setTop (mkF m 202 #[.val (.long q0), .second, .val (.int p2), .val (.int p3), .val (.int pn), .val (.int pm), .val (.int r30), .val (.int r37), .val (.int r45), .val (.int r55), .val (.int r63), .val (.long (jk q0 1)), .second, .val (.int (0 : Int32)), .val (.int (1 : Int32)), .val (.int (1 : Int32)), .val (.int (1 : Int32)), .val (.int (1 : Int32))] [(.int (1 : Int32))])) (fun t k => XS.iload X5.here hx rfl (hb hby at_200) rfl k) ?_
        refine Goes.to (T' := T5.setTop (mkF m 205 #[.val (.long q0), .second, .val (.int p2), .val (.int p3), .val (.int pn), .val (.int pm), .val (.int r30), .val (.int r37), .val (.int r45), .val (.int r55), .val (.int r63), .val (.long (jk q0 1)), .second, .val (.int (0 : Int32)), .val (.int (1 : Int32)), .val (.int (1 : Int32)), .val (.int (1 : Int32)), .val (.int (1 : Int32))] [])) (fun t k => XS.ifNo X5.here hx rfl (hb hby at_202) rfl ((if0 _ _).trans (feq (by decide)).1) k) ?_
        refine Goes.to (T' := T5.setTop (mkF m 207 #[.val (.long q0), .second, .val (.int p2), .val (.int p3), .val (.int pn), .val (.int pm), .val (.int r30), .val (.int r37), .val (.int r45), .val (.int r55), .val (.int r63), .val (.long (jk q0 1)), .second, .val (.int (0 : Int32)), .val (.int (1 : Int32)), .val (.int (1 : Int32)), .val (.int (1 : Int32)), .val (.int (1 : Int32))] [(.int (1 : Int32))])) (fun t k => XS.iload X5.here hx rfl (hb hby at_205) rfl k) ?_
        refine Goes.to (T' := T5.setTop (mkF m 210 #[.val (.long q0), .second, .val (.int p2), .val (.int p3), .val (.int pn), .val (.int pm), .val (.int r30), .val (.int r37), .val (.int r45), .val (.int r55), .val (.int r63), .val (.long (jk q0 1)), .second, .val (.int (0 : Int32)), .val (.int (1 : Int32)), .val (.int (1 : Int32)), .val (.int (1 : Int32)), .val (.int (1 : Int32))] [])) (fun t k => XS.ifNo X5.here hx rfl (hb hby at_207) rfl ((if0 _ _).trans (feq (by decide)).1) k) ?_
        refine Goes.to (T' := T5.setTop (mkF m 212 #[.val (.long q0), .second, .val (.int p2), .val (.int p3), .val (.int pn), .val (.int pm), .val (.int r30), .val (.int r37), .val (.int r45), .val (.int r55), .val (.int r63), .val (.long (jk q0 1)), .second, .val (.int (0 : Int32)), .val (.int (1 : Int32)), .val (.int (1 : Int32)), .val (.int (1 : Int32)), .val (.int (1 : Int32))] [(.int (1 : Int32))])) (fun t k => XS.iload X5.here hx rfl (hb hby at_210) rfl k) ?_
        refine Goes.to (T' := T5.setTop (mkF m 215 #[.val (.long q0), .second, .val (.int p2), .val (.int p3), .val (.int pn), .val (.int pm), .val (.int r30), .val (.int r37), .val (.int r45), .val (.int r55), .val (.int r63), .val (.long (jk q0 1)), .second, .val (.int (0 : Int32)), .val (.int (1 : Int32)), .val (.int (1 : Int32)), .val (.int (1 : Int32)), .val (.int (1 : Int32))] [])) (fun t k => XS.ifNo X5.here hx rfl (hb hby at_212) rfl ((if0 _ _).trans (feq (by decide)).1) k) ?_
        refine Goes.to (T' := T5.setTop (mkF m 216 #[.val (.long q0), .second, .val (.int p2), .val (.int p3), .val (.int pn), .val (.int pm), .val (.int r30), .val (.int r37), .val (.int r45), .val (.int r55), .val (.int r63), .val (.long (jk q0 1)), .second, .val (.int (0 : Int32)), .val (.int (1 : Int32)), .val (.int (1 : Int32)), .val (.int (1 : Int32)), .val (.int (1 : Int32))] [(.int (1 : Int32))])) (fun t k => XS.iconst X5.here hx rfl (hb hby at_215) k) ?_
        refine Goes.to (T' := T5.setTop (mkF m 220 #[.val (.long q0), .second, .val (.int p2), .val (.int p3), .val (.int pn), .val (.int pm), .val (.int r30), .val (.int r37), .val (.int r45), .val (.int r55), .val (.int r63), .val (.long (jk q0 1)), .second, .val (.int (0 : Int32)), .val (.int (1 : Int32)), .val (.int (1 : Int32)), .val (.int (1 : Int32)), .val (.int (1 : Int32))] [(.int (1 : Int32))])) (fun t k => XS.goto X5.here hx rfl (pc0 := 216) (pc' := 220) rfl (hb hby at_216) (by decide) (by decide) k) ?_
        obtain ⟨fs, hrL, hrun, hended, hW, hsame⟩ := X5.leave (v := some (.int (1 : Int32))) (fun h => by rw [Bd.returns] at h; cases h)
        subst hQf
        refine ⟨_, _, retN X5 hx (t := .boolean) Bd.returns (by simp) (hb hby at_220) hrL, hrun, hended, _, _, rfl, ?_, ⟨_, rfl⟩, hW, hsame.mono (by decide) (by decide)⟩
        show (fun (v : Option Value) (h : Heap) (L : List Loc) => v = some (.int 1) ∧ Fr n0 L) (some (.int (1 : Int32))) T5.heap _
        rw [e5]
        exact ⟨rfl, N5⟩
set_option maxRecDepth 65536 in
set_option maxHeartbeats 40000000 in
theorem comes_1 {Post : Tables → Env → Array Value → State → Outcome → State → Prop} (hpost : ∀ tb e args s v u, (limb_1_1.after args s (.returned v) u = true ∧ limb_1_2.after args s (.returned v) u = true ∧ True) → FrameEnd s (.returned v) u (Jvm.fieldLocs frame_1_writes args s ++ Jvm.arrayLocs frame_1_arrays args s ++ Jvm.staticLocs frame_1_statics s) 0 0 → Post tb e args s (.returned v) u) :
    ArmFor flags0 classFile x code maxLocals ret World_1 tables_1 room_1 Calls_1 rest_1 Pre_1 Post := by
  intro l hfl _ _ p e ha hc hk s m args below hf hA hF happ hP
  obtain ⟨hcalls, hrest, hpre⟩ := hP
  obtain ⟨-, -, -, hnamed, -, -, -, hat⟩ := (Spec.applies_iff hf).mp happ
  obtain ⟨hg, hn⟩ := and_e (Cond.before_iff.mp (show (Jvm.Cond.and given_1 narrow_1).before args s = true from hpre))
  obtain ⟨gc, gr0⟩ := and_e hg
  obtain ⟨w0, w1, w2, rfl⟩ : ∃ w0 w1 w2 : Value, args = #[w0, w1, w2] := by
    have hs : args.size = 3 := by simpa [Cond.value, given_1] using gc
    obtain ⟨L⟩ := args
    match L, hs with
    | [w0, w1, w2], _ => exact ⟨w0, w1, w2, rfl⟩
  have hw := fun d (hd : d ∈ tables_1) => atoms_spec (ws := Jvm.Cond.code x code maxLocals ret :: tables_1) hat d (List.mem_cons_of_mem _ hd)
  have hfit : Fit s := fun {y c} hc i hi => by
    obtain ⟨ha, rfl⟩ := Array.getElem?_eq_some_iff.mp hc
    have q := List.all_eq_true.mp ((Array.all_eq_true_iff_forall_mem.mp hF) _ (Array.getElem_mem ha)) i (List.mem_range.mpr hi)
    simpa [Array.getElem?_eq_getElem hi] using q
  obtain ⟨gv0, gr1⟩ := and_e gr0
  obtain ⟨i0, ei0⟩ := isL_v gv0
  obtain rfl : w0 = (.long i0) := Option.some.inj ei0
  obtain ⟨gv1, gr2⟩ := and_e gr1
  obtain ⟨i1, ei1⟩ := is_v gv1
  obtain rfl : w1 = (.int i1) := Option.some.inj ei1
  obtain ⟨i2, ei2⟩ := is_v gr2
  obtain rfl : w2 = (.int i2) := Option.some.inj ei2
  obtain ⟨n, o, h1, h2, h3, _, L, rfl, ⟨rfl, N⟩, hq⟩ := rm0 l s _ hw tables_1 i0 i1 i2 s.heap s.heap.size (Old.start s) p e ha hc hk s m _ below hf ((Spec.applies_iff_loose hf).mp happ).1 ⟨rfl, State.Warmed39.refl s, rfl⟩ trivial
  refine ⟨n, _, h1, h2, h3, hpost _ _ _ _ _ _ ⟨Cond.after_iff.mpr rfl, Cond.after_iff.mpr (eq_i res_at (Term.int_eval (1)) rfl), trivial⟩ ⟨hq.1, hq.2.1, (hq.2.2.sift fun y hy => Or.inr (N y hy)).mono (by decide) (by decide)⟩⟩
theorem main_1_1 : Claimed_1_1 := comes_1 fun _ _ _ _ _ _ h hF => ⟨h.1, hF⟩
theorem main_1_2 : Claimed_1_2 := comes_1 fun _ _ _ _ _ _ h hF => ⟨h.2.1, hF⟩
end Jvm.Pilot.@@N@@
namespace Jvm.Pilot.@@N@@
open Jvm Jvm.ClassFile Sem Op Lib Jvm.Free Jvm.Stand Jvm.Pilot.@@N@@.Jvm.D
/-! MADE BY PROGRAM (witnessworld.py) out of the Statement's table words and the real class files: 9 classes; the members and pool entries that the words name. The judged class is class 1, her method 1. -/
namespace start1
open Jvm.ClassFile
def u (s : String) : CpInfo := .utf8 (stringToUtf16 s)
/-- a pool by its gaps: so many unusable entries, then the entry; so many at the end -/
def gap : Nat → List CpInfo → List CpInfo
  | 0, r => r
  | n + 1, r => .unusable :: gap n r
def poolList (es : List (Nat × CpInfo)) (last : Nat) : List CpInfo := es.foldr (fun e r => gap e.1 (e.2 :: r)) (gap last [])
def pool (es : List (Nat × CpInfo)) (last : Nat) : Array CpInfo := ⟨poolList es last⟩
def fileOf (pool : Array CpInfo) (this : Nat) (attrs : Array Attribute := #[]) (ms : Array MethodInfo := #[]) (fl : Nat := 33) (sup : Nat := 0) (ifs : Array Nat := #[]) (fds : Array FieldInfo := #[]) : ClassFile where
  minorVersion := 0
  majorVersion := 65
  constantPool := pool
  accessFlags := fl
  thisClass := this
  superClass := sup
  interfaces := ifs
  fields := fds
  methods := ms
  attributes := attrs
def plain (name : String) (sup : Option ClassId) : Class where
  name := name
  kind := .ordinary
  loader := none
  accessFlags := 33
  super := sup
  interfaces := #[]
  cf := none
  fields := #[]
  methods := #[]
  instanceTypes := #[]
  staticTypes := #[]
  resolved := #[]
  callSites := []
  init := .initialized
  statics := none
  mirror := none

def pool0 : Array CpInfo := pool [(5, u "<init>"), (0, u "()V"), (1, .class_ 10), (1, u "java/lang/Object")] 113

def k0m0 : Method := { name := "<init>", desc := "()V", sig := { parameters := [], returnType := none }, accessFlags := 1, code := none }
/-- java/lang/Object -/
def k0 : Class := { plain "java/lang/Object" none with
  accessFlags := 33
  interfaces := #[]
  cf := some (fileOf pool0 8 #[] #[{ accessFlags := 1, nameIndex := 5, descriptorIndex := 6, attributes := #[] }] 33 0 #[] #[])
  fields := #[]
  methods := #[k0m0]
  instanceTypes := #[]
  staticTypes := #[]
  resolved := Array.replicate 124 none
  statics := none }

def pool1 : Array CpInfo := pool [(2, .class_ 4), (1, u "java/lang/Object"), (0, u "<init>"), (0, u "()V"), (0, .integer 2147483647), (0, .integer 2147483646), (2, .methodref 12 13), (0, .class_ 14), (0, .nameAndType 15 16), (0, u "com/example/inman/inman/Jump"), (0, u "bucket"), (0, u "(JI)I"), (0, .long 2862933555777941757), (1, .class_ 20), (0, u "com/example/inman/inman/JumpBucketPinLaw"), (2, u "law"), (0, u "(JII)Z")] 3

def k1m0 : Method := { name := "<init>", desc := "()V", sig := { parameters := [], returnType := none }, accessFlags := 2, code := none }
def k1c1 : Code := { maxStack := 4, maxLocals := 18, code := code, exceptionTable := #[], attributes := #[] }
def k1m1 : Method := { name := "law", desc := "(JII)Z", sig := { parameters := [.long, .int, .int], returnType := some .boolean }, accessFlags := 9, code := some k1c1 }
/-- com/example/inman/inman/JumpBucketPinLaw -/
def k1 : Class := { plain "com/example/inman/inman/JumpBucketPinLaw" (some 0) with
  accessFlags := 49
  interfaces := #[]
  cf := some (fileOf pool1 19 #[] #[{ accessFlags := 2, nameIndex := 5, descriptorIndex := 6, attributes := #[] }, { accessFlags := 9, nameIndex := 23, descriptorIndex := 24, attributes := #[] }] 49 2 #[] #[])
  fields := #[]
  methods := #[k1m0, k1m1]
  instanceTypes := #[]
  staticTypes := #[]
  resolved := Array.replicate 28 none
  statics := none }

def pool2 : Array CpInfo := pool [(2, .class_ 4), (1, u "java/lang/Object"), (0, u "<init>"), (0, u "()V"), (9, .long 18446744073709551615), (1, .class_ 19), (0, u "com/example/inman/inman/Jump"), (0, .long 2862933555777941757), (1, .double 4746794007248502784), (9, u "bucket"), (0, u "(JI)I"), (0, u "LCG_MULTIPLIER"), (0, u "J"), (1, u "TWO_TO_THE_31"), (0, u "D")] 21

def k2m0 : Method := { name := "<init>", desc := "()V", sig := { parameters := [], returnType := none }, accessFlags := 2, code := none }
def k2c1 : Code := { maxStack := 8, maxLocals := 9, code := prog_1_method_2_code, exceptionTable := #[], attributes := #[] }
def k2m1 : Method := { name := "bucket", desc := "(JI)I", sig := { parameters := [.long, .int], returnType := some .int }, accessFlags := 9, code := some k2c1 }
/-- com/example/inman/inman/Jump -/
def k2 : Class := { plain "com/example/inman/inman/Jump" (some 0) with
  accessFlags := 49
  interfaces := #[]
  cf := some (fileOf pool2 18 #[] #[{ accessFlags := 2, nameIndex := 5, descriptorIndex := 6, attributes := #[] }, { accessFlags := 9, nameIndex := 32, descriptorIndex := 33, attributes := #[] }] 49 2 #[] #[{ accessFlags := 26, nameIndex := 34, descriptorIndex := 35, attributes := #[] }, { accessFlags := 26, nameIndex := 37, descriptorIndex := 38, attributes := #[] }])
  fields := #[{ name := "LCG_MULTIPLIER", type := .long, accessFlags := 26, slot := 0, constantValue := 0 }, { name := "TWO_TO_THE_31", type := .double, accessFlags := 26, slot := 1, constantValue := 0 }]
  methods := #[k2m0, k2m1]
  instanceTypes := #[]
  staticTypes := #[.long, .double]
  resolved := Array.replicate 60 none
  statics := none }

def pool3 : Array CpInfo := pool [(1, u "java/lang/Cloneable"), (0, .class_ 1), (0, u "java/lang/Object"), (0, .class_ 3)] 3

/-- java/lang/Cloneable -/
def k3 : Class := { plain "java/lang/Cloneable" (some 0) with
  accessFlags := 1537
  interfaces := #[]
  cf := some (fileOf pool3 2 #[] #[] 1537 4 #[] #[])
  fields := #[]
  methods := #[]
  instanceTypes := #[]
  staticTypes := #[]
  resolved := Array.replicate 8 none
  statics := none }

def pool4 : Array CpInfo := pool [(1, u "java/io/Serializable"), (0, .class_ 1), (0, u "java/lang/Object"), (0, .class_ 3)] 3

/-- java/io/Serializable -/
def k4 : Class := { plain "java/io/Serializable" (some 0) with
  accessFlags := 1537
  interfaces := #[]
  cf := some (fileOf pool4 2 #[] #[] 1537 4 #[] #[])
  fields := #[]
  methods := #[]
  instanceTypes := #[]
  staticTypes := #[]
  resolved := Array.replicate 8 none
  statics := none }

/-- the primitive byte -/
def k5 : Class := { plain "byte" none with kind := .primitive 'B', accessFlags := 0x411 }
/-- [B -/
def k6 : Class := { plain "[B" (some 0) with kind := .array 5 .byte, interfaces := #[3, 4], accessFlags := 1041 }

/-- the primitive int -/
def k7 : Class := { plain "int" none with kind := .primitive 'I', accessFlags := 0x411 }
/-- [I -/
def k8 : Class := { plain "[I" (some 0) with kind := .array 7 .int, interfaces := #[3, 4], accessFlags := 1041 }

def heap : Heap := #[]
def classes : Array Class := #[k0, k1, k2, k3, k4, k5, k6, k7, k8]
def interned : List (Array UInt16 × Addr) := []
def slotsUsed : Nat := 0
def theMethod : MethodId := ⟨1, 1⟩
def args0 : Array Value := #[.long 5, .int 6, .int 7]
def aboutOver (below : List Frame) : State where
  vm := { classes := classes, interned := interned.toArray }
  heap := heap
  slotsUsed := slotsUsed
  threads := #[{ frames := .invoking theMethod args0 :: below }]
def below0 : List Frame := [.native { method := ⟨0, 0⟩, args := #[] }]
def about1 : State := aboutOver below0
def p0 : Program := .bare "" "" ""
def e0 : Env := launch0.env 0 0 0
theorem w_frames : about1.frames = Frame.invoking theMethod args0 :: below0 := rfl
set_option maxRecDepth 65536 in
theorem w_args : argsFit about1.vm theMethod args0 = true := by decide +kernel
set_option maxRecDepth 65536 in
theorem w_heap : heapFits about1 = true := by decide +kernel
set_option maxRecDepth 65536 in
theorem w_runnable : about1.curStatus? = some .runnable := by decide +kernel
set_option maxRecDepth 65536 in
theorem w_alone : about1.alone = true := by decide +kernel
set_option maxRecDepth 65536 in
theorem w_named : about1.methodNamed? x = some theMethod := by decide +kernel
set_option maxRecDepth 65536 in
theorem w_hears : about1.hears theMethod below0 = true := by decide +kernel
set_option maxRecDepth 65536 in
theorem w_ripe : about1.ripe theMethod args0 below0 = true := by decide +kernel
theorem w_running : about1.status = .running := rfl
set_option maxRecDepth 65536 in
theorem w_room : about1.hasRoom e0.platform room_1 = true :=
  launch0.hasRoom_least _ room_1 (by decide +kernel) (by decide +kernel) (by decide +kernel) (by decide +kernel) (by decide +kernel) (by decide +kernel)
theorem allAtoms_all (ts : List Jvm.Cond) (a : Array Jvm.Value) (st : Jvm.State) : (allAtoms ts).before a st = ts.all (fun c => c.before a st) := by
  induction ts with
  | nil => rfl
  | cons c t ih =>
    show (Jvm.Cond.and c (allAtoms t)).before a st = _
    rw [Jvm.Cond.before_and, ih, List.all_cons]
def words1 : List Jvm.Cond := Jvm.Cond.code x code maxLocals ret :: tables_1
/-- a 'code' word, met by the world's own term for the bytes: nothing is compared byte by byte -/
theorem code_word {y : MethodName} {bytes : ByteArray} {mx : Nat} {rt : Option FieldType} {a : Array Value} {s : State} {m : MethodId} {meth : Method} {c : Code} (h1 : s.methodNamed? y = some m) (h2 : s.vm.method? m = some meth) (h3 : meth.code = some c) (h4 : c.code = bytes)
    (h5 : (c.maxLocals == mx && c.exceptionTable.isEmpty && decide (c.maxStack ≤ mostOperands) && decide (meth.sig.returnType = rt) && !meth.locks && decide (parseMethodDescriptor y.desc = some meth.sig)) = true) : (Jvm.Cond.code y bytes mx rt).before a s = true := by
  simp only [Bool.and_eq_true, beq_iff_eq, Bool.not_eq_true', decide_eq_true_eq] at h5
  obtain ⟨⟨⟨⟨⟨g1, g2⟩, g3⟩, g4⟩, g5⟩, g6⟩ := h5
  simp [Cond.before, Cond.holds, Cond.value, h1, h2, h3, h4, g1, g2, g3, g4, g5, g6]
def isCode : Jvm.Cond → Bool
  | .code _ _ _ _ => true
  | _ => false
theorem all_split {L : List Jvm.Cond} {P : Jvm.Cond → Bool} (h1 : L.all (fun c => isCode c || P c) = true) (h2 : ∀ c ∈ L.filter isCode, P c = true) : L.all P = true := by
  refine List.all_eq_true.mpr fun c hc => ?_
  have h := List.all_eq_true.mp h1 c hc
  rcases Bool.eq_false_or_eq_true (isCode c) with hi | hi
  · exact h2 c (List.mem_filter.mpr ⟨hc, hi⟩)
  · simpa [hi] using h
set_option maxRecDepth 65536 in
theorem w_c0 : (Jvm.Cond.code x code maxLocals ret).before args0 about1 = true := code_word (m := ⟨1, 1⟩) (meth := k1m1) (c := k1c1) (by decide +kernel) rfl rfl rfl (by decide +kernel)
set_option maxRecDepth 65536 in
theorem w_c1 : (Jvm.Cond.code ({ cls := "com/example/inman/inman/Jump", name := "bucket", desc := "(JI)I" } : Jvm.MethodName) prog_1_method_2_code (9 : Nat) (Option.some Jvm.ClassFile.FieldType.int)).before args0 about1 = true := code_word (m := ⟨2, 1⟩) (meth := k2m1) (c := k2c1) (by decide +kernel) rfl rfl rfl (by decide +kernel)
def codes1 : List Jvm.Cond := [Jvm.Cond.code x code maxLocals ret, Jvm.Cond.code ({ cls := "com/example/inman/inman/Jump", name := "bucket", desc := "(JI)I" } : Jvm.MethodName) prog_1_method_2_code (9 : Nat) (Option.some Jvm.ClassFile.FieldType.int)]
set_option maxRecDepth 65536 in
theorem codes_eq : words1.filter isCode = codes1 := rfl
theorem w_codes : ∀ c ∈ words1.filter isCode, c.before args0 about1 = true := by
  rw [codes_eq]
  intro c hc
  simp only [codes1, List.mem_cons, List.not_mem_nil, or_false] at hc
  rcases hc with rfl | rfl
  · exact w_c0
  · exact w_c1
set_option maxRecDepth 65536 in
theorem w_t1 : words1.all (fun c => isCode c || c.before args0 about1) = true := by decide +kernel
theorem w_tables : (allAtoms (Jvm.Cond.code x code maxLocals ret :: tables_1)).before args0 about1 = true := by
  rw [allAtoms_all]
  show words1.all (fun c => c.before args0 about1) = true
  refine all_split ?_ w_codes
  rw [w_t1]
set_option maxRecDepth 65536 in
theorem w_case : (Jvm.Cond.and given_1 narrow_1).before args0 about1 = true := by decide +kernel
theorem w_applies : (headSpec (Jvm.Cond.code x code maxLocals ret :: tables_1) room_1).applies x e0.platform about1 = true :=
  (Spec.applies_iff w_frames).mpr ⟨w_running, w_runnable, w_alone, w_named, w_hears, w_ripe, w_room, w_tables⟩
theorem atStart : AtStart classFile x code maxLocals ret World_1 tables_1 room_1 Calls_1 rest_1 Pre_1 launch0 p0 e0 about1 theMethod args0 below0 :=
  ⟨lists_1, trivial, launch0.admits_env _ _ _, launch0.least_env, fairChoices_fair.cas, fairChoices_fair.clock, w_frames, w_args, w_heap, w_applies, trivial, trivial, w_case⟩
end start1
theorem witness_1 : WitnessClaimed_1 := ⟨start1.p0, start1.e0, start1.about1, start1.theMethod, start1.args0, start1.below0, start1.atStart⟩
end Jvm.Pilot.@@N@@
