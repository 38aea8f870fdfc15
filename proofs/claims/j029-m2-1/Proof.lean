import JvmDerived
import JvmDerived.Pilot.@@N@@Statement
import JvmDerived.Pilot.@@N@@Code
set_option linter.unusedVariables false
set_option linter.unusedSimpArgs false
namespace Jvm.Pilot.@@N@@
open Jvm Jvm.ClassFile Sem Op Lib Jvm.Free Jvm.Stand Jvm.LawKit Jvm.RoadKit Bundle Jvm.Pilot.@@N@@.Jvm.D
/-- from T the run goes on to an end of which Qf says what it is -/
def Goes (tb : Tables) (e : Env) (below : List Frame) (Qf : Outcome → State → Prop) (T : State) : Prop := ∃ s₂ o, Steps tb e below T s₂ ∧ s₂.status = .running ∧ Ended s₂ below o ∧ Qf o s₂
theorem Goes.to {tb : Tables} {e : Env} {below : List Frame} {Qf : Outcome → State → Prop} {T T' : State} (k : ∀ t, Steps tb e below T' t → Steps tb e below T t) (h : Goes tb e below Qf T') : Goes tb e below Qf T := by
  obtain ⟨s, o, h1, h2⟩ := h; exact ⟨s, o, k s h1, h2⟩
theorem Goes.thru {tb : Tables} {e : Env} {below : List Frame} {Qf : Outcome → State → Prop} {T T' : State} (k : Steps tb e below T T') (h : Goes tb e below Qf T') : Goes tb e below Qf T := by
  obtain ⟨s, o, h1, h2⟩ := h; exact ⟨s, o, k.trans h1, h2⟩
theorem own_old {Z : State} {n0 : Nat} {h : Heap} (O : Old Z n0 h) : n0 ≤ h.size := O.1 ▸ O.2.1
theorem own_ext_keep {h h' : Heap} (K : Keep h h' []) : Ext h h' := ⟨K.1, fun a c q => K.2.1 a c q nin0⟩
theorem own_nsroot {Z : State} {a0 : Array Value} {O K : String} {n : Nat} (w : (Jvm.Cond.noSuperclass O).before a0 Z = true) (wk : (Jvm.Cond.instantiable K n).before a0 Z = true) (hn : O ≠ K) : NS Z O K := by
  obtain ⟨c, k, h1, h2, h3, -, -⟩ := Cond.noSuperclass_spec w
  obtain ⟨t, k2, g1, -⟩ := Cond.instantiable_spec wk
  have ne := ids_ne h1 g1 hn
  refine ⟨c, t, h1, g1, fun fuel => ?_⟩
  cases fuel with
  | zero => rfl
  | succ f => simp [Vm.isSubclassAux, ne, h2, h3]
theorem own_nsno {Z : State} {a0 : Array Value} {C S K : String} {n : Nat} (w : (Jvm.Cond.superclass C S).before a0 Z = true) (wk : (Jvm.Cond.instantiable K n).before a0 Z = true) (ns : NS Z C K) (hn : C ≠ K) : ∃ c t, Z.vm.findClass C = some c ∧ Z.vm.findClass K = some t ∧ Z.vm.assignable c t = false := by
  obtain ⟨c, t, h0, g0, n3⟩ := ns
  obtain ⟨p, k, kp, h1, h2, h3, h4, h5, -, h7⟩ := Cond.superclass_spec h0 w
  obtain ⟨t', k', g1, g2, g5, g7, -⟩ := Cond.instantiable_spec wk
  cases g0.symm.trans g1
  have ne := ids_ne h0 g0 hn
  refine ⟨c, t, h0, g0, ?_⟩
  show Z.vm.assignableAux (255 + 1) c t = false
  simp [Vm.assignableAux, ne, h2, g2, h5, g5, (Bool.or_eq_false_iff.mp g7).1, Vm.isSubclass, n3]
theorem own_selp {s : State} {args : Array Value} {y : MethodName} {n : Nat} (wi : (Jvm.Cond.instantiable y.cls n).before args s = true) (hp : (Jvm.Cond.privateMethod y).before args s = true) (hinst : (Jvm.Cond.instanceMethod y).before args s = true) (hy : y.cls ≠ "java/lang/invoke/MethodHandle" ∧ y.cls ≠ "java/lang/invoke/VarHandle") : (Jvm.Cond.selects y.cls y y).before args s = true := by
  obtain ⟨c, k, h1, h2, -, h4, -⟩ := Cond.instantiable_spec wi
  exact selects_self_of_private h1 h2 (Bool.or_eq_false_iff.mp h4).1 (Cond.privateMethod_at hp) hinst hy
theorem own_keep_ext {h h' : Heap} (E : Ext h h') : Keep h h' [] := (Keep.refl h []).ext E
section OwnF
open Jvm.FP.Core Jvm.Free.Fl
/-- a finite double of sign + and of magnitude m, in least units -/
def Mg (x : UInt64) (m : Nat) : Prop := (∃ c q, val64 x = .fin false c q) ∧ zmag b64 (val64 x) = m
variable {a b x V W : UInt64} {m k v w : Nat}
theorem Mg.fin (h : Mg x m) : DFin x := by obtain ⟨⟨c, q, e⟩, -⟩ := h; exact ⟨_, c, q, e⟩
theorem Mg.nn (h : Mg x m) : val64 x ≠ .nan := h.fin.ne_nan
theorem Mg.no (h : Mg x m) : NoNaN64 x := noNaN64_no.mpr h.fin.notNaN
theorem mg_of {A B : Nat} {e : Int} (hx : val64 x = roundRatio b64 false A B e) (hW : Mg W w) (hle : zmag b64 (val64 x) ≤ w) : Mg x (zmag b64 (val64 x)) := by
  refine ⟨?_, rfl⟩
  rcases roundRatio_cases b64 false A B e with ⟨c, q, h⟩ | h
  · exact ⟨c, q, hx.trans h⟩
  · exfalso
    rw [hx, h] at hle
    obtain ⟨⟨c, q, e1⟩, rfl⟩ := hW
    have f1 := val64_fits W
    rw [e1] at f1 hle
    exact absurd hle (Nat.not_le_of_lt (zmag_lt_top good_b64 f1))
theorem pow2q : 2 ^ (b64.qmin - 2 * b64.qmin).toNat = one64 := by
  rw [show b64.qmin - 2 * b64.qmin = -b64.qmin by omega]; exact pow_qmin64
theorem mg_mul_raw (ha : Mg a m) (hb : Mg b k) : ∃ A e, val64 (FP.dmul a b) = roundRatio b64 false A 1 e ∧ 2 * b64.qmin ≤ e ∧ inUnits A e (2 * b64.qmin) = m * k := by
  obtain ⟨⟨c, q, e1⟩, h1⟩ := ha
  obtain ⟨⟨d, r, e2⟩, h2⟩ := hb
  have f1 := val64_fits a
  have f2 := val64_fits b
  rw [e1] at f1 h1
  rw [e2] at f2 h2
  obtain ⟨p1, p2, p3⟩ := product_units f1 f2
  refine ⟨c * d, q + r, ?_, p2, by rw [p3, h1, h2]⟩
  rw [val64_dmul, e1, e2, p1]; rfl
theorem mg_mul_ge (ha : Mg a m) (hb : Mg b k) (hV : Mg V v) (h : v * one64 ≤ m * k) : v ≤ zmag b64 (val64 (FP.dmul a b)) := by
  obtain ⟨A, e, q1, q2, q3⟩ := mg_mul_raw ha hb
  rw [q1, ← hV.2]
  have hq : b64.qmin < 0 := qmin_neg good_b64
  refine zmag_roundRatio_ge good_b64 (by decide) (val64_fits V) (e0 := 2 * b64.qmin) (by omega) q2 ?_
  rw [q3, hV.2, Nat.mul_one, pow2q]; exact h
theorem mg_mul_le (ha : Mg a m) (hb : Mg b k) (hV : Mg V v) (h : m * k ≤ v * one64) : zmag b64 (val64 (FP.dmul a b)) ≤ v := by
  obtain ⟨A, e, q1, q2, q3⟩ := mg_mul_raw ha hb
  rw [q1, ← hV.2]
  have hq : b64.qmin < 0 := qmin_neg good_b64
  refine zmag_roundRatio_le good_b64 (by decide) (val64_fits V) hV.nn (e0 := 2 * b64.qmin) (by omega) q2 ?_
  rw [q3, hV.2, Nat.mul_one, pow2q]; exact h
theorem mg_mul (ha : Mg a m) (hb : Mg b k) (hV : Mg V v) (hW : Mg W w) (h1 : v * one64 ≤ m * k) (h2 : m * k ≤ w * one64) : ∃ z, Mg (FP.dmul a b) z ∧ v ≤ z ∧ z ≤ w := by
  obtain ⟨A, e, q1, -⟩ := mg_mul_raw ha hb
  exact ⟨_, mg_of q1 hW (mg_mul_le ha hb hW h2), mg_mul_ge ha hb hV h1, mg_mul_le ha hb hW h2⟩
theorem mg_div_raw (ha : Mg a m) (hb : Mg b k) (hk : 0 < k) : ∃ A B e e0, val64 (FP.ddiv a b) = roundRatio b64 false A B e ∧ 0 < B ∧ e0 ≤ b64.qmin ∧ e0 ≤ e ∧ inUnits A e e0 = m * one64 ∧ 2 ^ (b64.qmin - e0).toNat * B = k := by
  obtain ⟨⟨c, q, e1⟩, h1⟩ := ha
  obtain ⟨⟨d, r, e2⟩, h2⟩ := hb
  have f1 := val64_fits a
  have f2 := val64_fits b
  rw [e1] at f1 h1
  rw [e2] at f2 h2
  have hd0 : d ≠ 0 := by
    rintro rfl
    have : zmag b64 (.fin false 0 r) = 0 := Nat.zero_mul _
    omega
  have x1 := f1.2.1
  have y1 := f2.2.1
  have hq : b64.qmin < 0 := qmin_neg good_b64
  refine ⟨c, d, q - r, 2 * b64.qmin - r, ?_, Nat.pos_of_ne_zero hd0, by omega, by omega, ?_, ?_⟩
  · rw [val64_ddiv, e1, e2]
    simp only [quotient, if_neg hd0]; rfl
  · rw [← h1, ← pow_qmin64]
    show c * _ = c * _ * _
    rw [Nat.mul_assoc, ← Nat.pow_add]; congr 2; omega
  · rw [← h2]
    show _ = d * _
    rw [Nat.mul_comm]; congr 2; omega
theorem mg_div_ge (ha : Mg a m) (hb : Mg b k) (hk : 0 < k) (hV : Mg V v) (h : v * k ≤ m * one64) : v ≤ zmag b64 (val64 (FP.ddiv a b)) := by
  obtain ⟨A, B, e, e0, q1, q2, q3, q4, q5, q6⟩ := mg_div_raw ha hb hk
  rw [q1, ← hV.2]
  refine zmag_roundRatio_ge good_b64 q2 (val64_fits V) q3 q4 ?_
  rw [q5, Nat.mul_assoc, q6, hV.2]; exact h
theorem mg_div_le (ha : Mg a m) (hb : Mg b k) (hk : 0 < k) (hV : Mg V v) (h : m * one64 ≤ v * k) : zmag b64 (val64 (FP.ddiv a b)) ≤ v := by
  obtain ⟨A, B, e, e0, q1, q2, q3, q4, q5, q6⟩ := mg_div_raw ha hb hk
  rw [q1, ← hV.2]
  refine zmag_roundRatio_le good_b64 q2 (val64_fits V) hV.nn q3 q4 ?_
  rw [q5, Nat.mul_assoc, q6, hV.2]; exact h
theorem mg_div (ha : Mg a m) (hb : Mg b k) (hk : 0 < k) (hV : Mg V v) (hW : Mg W w) (h1 : v * k ≤ m * one64) (h2 : m * one64 ≤ w * k) : ∃ z, Mg (FP.ddiv a b) z ∧ v ≤ z ∧ z ≤ w := by
  obtain ⟨A, B, e, e0, q1, -⟩ := mg_div_raw ha hb hk
  exact ⟨_, mg_of q1 hW (mg_div_le ha hb hk hW h2), mg_div_ge ha hb hk hV h1, mg_div_le ha hb hk hW h2⟩
theorem mg_l2d {n : Int64} (h0 : 0 ≤ n.toInt) (h1 : n.toInt ≤ 9007199254740992) : Mg (FP.l2d n) (n.toInt.toNat * one64) := by
  obtain ⟨c, q, e⟩ := l2d_shape n
  have hs : decide (n.toInt < 0) = false := decide_eq_false (by omega)
  rw [hs] at e
  have z := DInt_zval (l2d_int (a := n) (by omega))
  refine ⟨⟨c, q, e⟩, ?_⟩
  rw [e] at z ⊢
  have z2 : ((zmag b64 (.fin false c q) : Nat) : Int) = n.toInt * (one64 : Int) := z
  apply Int.ofNat.inj
  show ((zmag b64 (.fin false c q) : Nat) : Int) = ((n.toInt.toNat * one64 : Nat) : Int)
  rw [z2, Int.natCast_mul, Int.toNat_of_nonneg h0]
theorem mg_d2l (h : Mg x m) (hm : m ≤ 4611686018427387904 * one64) : (FP.d2l x).toInt = ((m / one64 : Nat) : Int) := by
  have q := d2l_val h.nn
  obtain ⟨⟨c, r, e⟩, h2⟩ := h
  rw [h2, e] at q
  have hb : m / one64 ≤ 4611686018427387904 := Nat.div_le_of_le_mul (by rw [Nat.mul_comm]; exact hm)
  rw [q]
  show max _ (min _ ((m / one64 : Nat) : Int)) = _
  clear q
  generalize m / one64 = t at hb ⊢
  omega
theorem mg_1 : Mg 4607182418800017408 one64 := ⟨⟨4503599627370496, -52, by decide +kernel⟩, by decide +kernel⟩
theorem mg_2 : Mg 4611686018427387904 (2 * one64) := ⟨⟨4503599627370496, -51, by decide +kernel⟩, by decide +kernel⟩
theorem mg_2m : Mg 4611686018427387903 (9007199254740991 * 2 ^ 1022) := ⟨⟨9007199254740991, -52, by decide +kernel⟩, by decide +kernel⟩
theorem mg_31 : Mg 4746794007248502784 (2147483648 * one64) := ⟨⟨4503599627370496, -21, by decide +kernel⟩, by decide +kernel⟩
theorem mg_62 : Mg 4886405595696988160 (4611686018427387904 * one64) := ⟨⟨4503599627370496, 10, by decide +kernel⟩, by decide +kernel⟩
theorem mg_ex (c : Nat) (q : Int) (hc : c < 2 ^ 53) (h1 : -1074 ≤ q) (h2 : q ≤ 971) : ∃ V, Mg V (c * 2 ^ (q + 1074).toNat) := by
  have e1 : b64.qmin = -1074 := qmin_b64
  have e2 : b64.qmax = 971 := by decide
  obtain ⟨c', q', r1, r2⟩ := round_exact good_b64 false (c := c) (q := q) hc (by rw [e1]; exact h1) (by rw [e2]; exact h2)
  have hv : val64 (of64 (round b64 (.fin false c q))) = .fin false c' q' := (val64_of64 (round_fits good_b64 _)).trans r1
  refine ⟨of64 (round b64 (.fin false c q)), ⟨c', q', hv⟩, ?_⟩
  rw [hv]
  show inUnits c' q' b64.qmin = _
  rw [r2]
  show c * 2 ^ (q - b64.qmin).toNat = _
  rw [e1, Int.sub_neg]
theorem mg_div_eq (ha : Mg a m) (hb : Mg b k) (hk : 0 < k) (hV : Mg V v) (h : v * k = m * one64) : Mg (FP.ddiv a b) v := by
  obtain ⟨z, Z, z1, z2⟩ := mg_div ha hb hk hV hV (Nat.le_of_eq h) (Nat.le_of_eq h.symm)
  rw [Nat.le_antisymm z2 z1] at Z; exact Z
theorem mg_mul_eq (ha : Mg a m) (hb : Mg b k) (hV : Mg V v) (h : v * one64 = m * k) : Mg (FP.dmul a b) v := by
  obtain ⟨z, Z, z1, z2⟩ := mg_mul ha hb hV hV (Nat.le_of_eq h) (Nat.le_of_eq h.symm)
  rw [Nat.le_antisymm z2 z1] at Z; exact Z
theorem mg_sub_raw (ha : Mg a m) (hb : Mg b k) (hkm : k ≤ m) : ∃ A e, val64 (FP.dsub a b) = roundRatio b64 false A 1 e ∧ b64.qmin ≤ e ∧ inUnits A e b64.qmin = m - k := by
  obtain ⟨⟨c, q, e1⟩, h1⟩ := ha
  obtain ⟨⟨d, r, e2⟩, h2⟩ := hb
  have f1 := val64_fits a
  have f2 := negate_fits (val64_fits b)
  rw [e1] at f1 h1
  rw [e2] at f2 h2
  have f2' : Jvm.FP.Core.fits b64 (Datum.fin true d r) := f2
  obtain ⟨sg, n, e, p1, p2, p3⟩ := sum_units f1 f2'
  have z1 : zval b64 (.fin false c q) = (m : Int) := by rw [← h1]; rfl
  have z2 : zval b64 (.fin true d r) = -(k : Int) := by rw [← h2]; rfl
  rw [z1, z2] at p3
  have hs : sg = false ∨ inUnits n e b64.qmin = 0 := by
    cases sg with
    | false => exact Or.inl rfl
    | true => right; simp only [signed, if_true] at p3; omega
  have hsg : sg = false := by
    have q1 : sg = sumSign false true (sumUnits false c q true d r (min q r)) := by
      have := p1
      simp only [exactSum, Datum.fin.injEq] at this
      exact this.1.symm
    have q2 : n = (sumUnits false c q true d r (min q r)).natAbs := by
      have := p1
      simp only [exactSum, Datum.fin.injEq] at this
      exact this.2.1.symm
    rcases hs with h | h
    · exact h
    · have hn : n = 0 := by
        have := Nat.two_pow_pos (e - b64.qmin).toNat
        rcases Nat.mul_eq_zero.mp (show n * 2 ^ (e - b64.qmin).toNat = 0 from h) with z | z <;> omega
      rw [q1]
      have : sumUnits false c q true d r (min q r) = 0 := by omega
      rw [this]; rfl
  subst hsg
  refine ⟨n, e, ?_, p2, ?_⟩
  · rw [val64_dsub, e1, e2]
    show round b64 (exactSum (.fin false c q) (.fin true d r)) = _
    rw [p1]; rfl
  · have : ((inUnits n e b64.qmin : Nat) : Int) = (m : Int) + -(k : Int) := p3
    omega
theorem mg_sub_eq (ha : Mg a m) (hb : Mg b k) (hkm : k ≤ m) (hV : Mg V (m - k)) : Mg (FP.dsub a b) (m - k) := by
  obtain ⟨A, e, q1, q2, q3⟩ := mg_sub_raw ha hb hkm
  have e0 : 2 ^ (b64.qmin - b64.qmin).toNat = 1 := by rw [Int.sub_self]; rfl
  have g : m - k ≤ zmag b64 (val64 (FP.dsub a b)) := by
    rw [q1, ← hV.2]
    refine zmag_roundRatio_ge good_b64 (by decide) (val64_fits V) (e0 := b64.qmin) (Int.le_refl _) q2 ?_
    rw [q3, hV.2, e0, Nat.mul_one, Nat.mul_one]; exact Nat.le_refl _
  have g2 : zmag b64 (val64 (FP.dsub a b)) ≤ m - k := by
    rw [q1, ← hV.2]
    refine zmag_roundRatio_le good_b64 (by decide) (val64_fits V) hV.nn (e0 := b64.qmin) (Int.le_refl _) q2 ?_
    rw [q3, hV.2, e0, Nat.mul_one, Nat.mul_one]; exact Nat.le_refl _
  have Z := mg_of q1 hV g2
  rw [Nat.le_antisymm g2 g] at Z; exact Z
theorem mg_zval (h : Mg x m) : zval b64 (val64 x) = (m : Int) := by
  obtain ⟨⟨c, q, e⟩, h2⟩ := h
  rw [← h2, e]; rfl
theorem mg_cmp (ha : Mg a m) (hb : Mg b k) (o : Jvm.ClassFile.CmpOp) : cmpValue (FP.dcmp a b) o = if m < k then -1 else if m = k then 0 else 1 := by
  have h : FP.dcmp a b = some (compare (m : Int) (k : Int)) := by
    have := dcmp_zval ha.nn hb.nn
    rw [mg_zval ha, mg_zval hb] at this; exact this
  rw [h, compare_ite]
  by_cases h1 : m < k
  · rw [if_pos h1, if_pos (by omega : (m : Int) < (k : Int))]; rfl
  · rw [if_neg h1, if_neg (by omega : ¬ (m : Int) < (k : Int))]
    by_cases h2 : m = k
    · rw [if_pos h2, if_pos (by omega : (m : Int) = (k : Int))]; rfl
    · rw [if_neg h2, if_neg (by omega : ¬ (m : Int) = (k : Int))]; rfl
theorem mg_i2d {n : Int32} (h0 : 0 ≤ n.toInt) : Mg (FP.i2d n) (n.toInt.toNat * one64) := by
  have e : FP.i2d n = FP.l2d n.toInt64 := i2d_l2d n
  have q := Int32.toInt_lt n
  have r := c_i2l n
  rw [e, ← r]
  exact mg_l2d (by omega) (by omega)
theorem mg_c0 : Mg FP.dconst0 0 := ⟨⟨0, -1074, by decide +kernel⟩, by decide +kernel⟩
theorem mg_c1 : Mg FP.dconst1 one64 := mg_1
theorem mg_26 : Mg 4724276009111650304 (67108864 * one64) := ⟨⟨4503599627370496, -26, by decide +kernel⟩, by decide +kernel⟩
theorem mg_52 : Mg 4841369599423283200 (4503599627370496 * one64) := ⟨⟨4503599627370496, 0, by decide +kernel⟩, by decide +kernel⟩
end OwnF
section OwnI
open Jvm.FP.Core Jvm.Free.Fl
def TOP : Nat := 2 ^ 2098
theorem top_eq : b64.tails * 2 ^ (b64.exps - 2) = TOP := by decide +kernel
/-- a double of sign + that is no NaN, of magnitude m in least units (infinity: the next one) -/
def Mi (x : UInt64) (m : Nat) : Prop := val64 x ≠ .nan ∧ sgn (val64 x) = false ∧ zmag b64 (val64 x) = m
variable {a b x V W U : UInt64} {m k v w u : Nat}
theorem Mg.mi (h : Mg x m) : Mi x m := by
  refine ⟨h.nn, ?_, h.2⟩
  obtain ⟨⟨c, q, e⟩, -⟩ := h; rw [e]; rfl
theorem Mi.no (h : Mi x m) : NoNaN64 x := val64_no.mpr h.1
theorem mi_of {A B : Nat} {e : Int} (hx : val64 x = roundRatio b64 false A B e) : Mi x (zmag b64 (val64 x)) :=
  ⟨by rw [hx]; exact roundRatio_ne_nan _ _ _ _ _, by rw [hx]; exact sgn_roundRatio _ _ _ _ _, rfl⟩
theorem mi_inf : Mi 9218868437227405312 TOP := ⟨by decide +kernel, by decide +kernel, by decide +kernel⟩
theorem mi_shape (h : Mi x m) : Mg x m ∨ (val64 x = .inf false ∧ m = TOP) := by
  obtain ⟨h1, h2, h3⟩ := h
  cases e : val64 x with
  | nan => exact absurd e h1
  | inf s => rw [e] at h2 h3; exact Or.inr ⟨congrArg Datum.inf h2, h3.symm.trans top_eq⟩
  | fin s c q => rw [e] at h2; exact Or.inl ⟨⟨c, q, by rw [e]; exact congrArg (Datum.fin · c q) h2⟩, h3⟩
theorem mi_le_top (h : Mi x m) : m ≤ TOP := by rw [← h.2.2, ← top_eq]; exact zmag_le_top good_b64 (val64_fits x)
theorem mi_div (ha : Mg a m) (hb : Mg b k) (hk : 0 < k) : ∃ z, Mi (FP.ddiv a b) z ∧ (∀ V v, Mi V v → v * k ≤ m * one64 → v ≤ z) ∧ (∀ V v, Mi V v → m * one64 ≤ v * k → z ≤ v) := by
  obtain ⟨A, B, e, e0, q1, q2, q3, q4, q5, q6⟩ := mg_div_raw ha hb hk
  refine ⟨_, mi_of q1, fun V v hV h => ?_, fun V v hV h => ?_⟩
  · rw [q1, ← hV.2.2]
    refine zmag_roundRatio_ge good_b64 q2 (val64_fits V) q3 q4 ?_
    rw [q5, Nat.mul_assoc, q6, hV.2.2]; exact h
  · rw [q1, ← hV.2.2]
    refine zmag_roundRatio_le good_b64 q2 (val64_fits V) hV.1 q3 q4 ?_
    rw [q5, Nat.mul_assoc, q6, hV.2.2]; exact h
theorem mi_add (ha : Mi a m) (hb : Mg b k) : ∃ z, Mi (FP.dadd a b) z ∧ (∀ V v, Mi V v → v ≤ m + k → v ≤ z) ∧ (∀ V v, Mi V v → m + k ≤ v → z ≤ v) := by
  rcases mi_shape ha with h | ⟨h, hT⟩
  · obtain ⟨⟨c, q, e1⟩, h1⟩ := h
    obtain ⟨⟨d, r, e2⟩, h2⟩ := hb
    have f1 := val64_fits a
    have f2 := val64_fits b
    rw [e1] at f1 h1
    rw [e2] at f2 h2
    obtain ⟨sg, n, e, p1, p2, p3⟩ := sum_units f1 f2
    have z1 : zval b64 (.fin false c q) = (m : Int) := by rw [← h1]; rfl
    have z2 : zval b64 (.fin false d r) = (k : Int) := by rw [← h2]; rfl
    rw [z1, z2] at p3
    have hsg : sg = false := by
      have q1 : sg = sumSign false false (sumUnits false c q false d r (min q r)) := by
        have := p1
        simp only [exactSum, Datum.fin.injEq] at this
        exact this.1.symm
      rw [q1]
      have : 0 ≤ sumUnits false c q false d r (min q r) := by simp only [sumUnits, signed]; simp only [Bool.false_eq_true, if_false]; omega
      unfold sumSign
      split
      · rfl
      · exact decide_eq_false (by omega)
    subst hsg
    have q1 : val64 (FP.dadd a b) = roundRatio b64 false n 1 e := by
      rw [val64_dadd, e1, e2, p1]; rfl
    have q3 : inUnits n e b64.qmin = m + k := by
      have : ((inUnits n e b64.qmin : Nat) : Int) = (m : Int) + (k : Int) := p3
      omega
    have e0 : 2 ^ (b64.qmin - b64.qmin).toNat = 1 := by rw [Int.sub_self]; rfl
    refine ⟨_, mi_of q1, fun V v hV h => ?_, fun V v hV h => ?_⟩
    · rw [q1, ← hV.2.2]
      refine zmag_roundRatio_ge good_b64 (by decide) (val64_fits V) (e0 := b64.qmin) (Int.le_refl _) p2 ?_
      rw [q3, hV.2.2, e0, Nat.mul_one, Nat.mul_one]; exact h
    · rw [q1, ← hV.2.2]
      refine zmag_roundRatio_le good_b64 (by decide) (val64_fits V) hV.1 (e0 := b64.qmin) (Int.le_refl _) p2 ?_
      rw [q3, hV.2.2, e0, Nat.mul_one, Nat.mul_one]; exact h
  · obtain ⟨⟨d, r, e2⟩, h2⟩ := hb
    have q1 : val64 (FP.dadd a b) = .inf false := by rw [val64_dadd, h, e2]; rfl
    have M : Mi (FP.dadd a b) TOP := ⟨by rw [q1]; exact Datum.noConfusion, by rw [q1]; rfl, by rw [q1]; exact top_eq⟩
    exact ⟨_, M, fun V v hV _ => mi_le_top hV, fun V v _ h => by omega⟩
theorem mi_mul (ha : Mg a m) (hm : one64 ≤ m) (hb : Mi b k) : ∃ z, Mi (FP.dmul a b) z ∧ (∀ V v, Mi V v → v * one64 ≤ m * k → v ≤ z) ∧ (∀ V v, Mi V v → m * k ≤ v * one64 → z ≤ v) := by
  rcases mi_shape hb with h | ⟨h, hT⟩
  · obtain ⟨A, e, q1, q2, q3⟩ := mg_mul_raw ha h
    have hq : b64.qmin < 0 := qmin_neg good_b64
    refine ⟨_, mi_of q1, fun V v hV h => ?_, fun V v hV h => ?_⟩
    · rw [q1, ← hV.2.2]
      refine zmag_roundRatio_ge good_b64 (by decide) (val64_fits V) (e0 := 2 * b64.qmin) (by omega) q2 ?_
      rw [q3, hV.2.2, Nat.mul_one, pow2q]; exact h
    · rw [q1, ← hV.2.2]
      refine zmag_roundRatio_le good_b64 (by decide) (val64_fits V) hV.1 (e0 := 2 * b64.qmin) (by omega) q2 ?_
      rw [q3, hV.2.2, Nat.mul_one, pow2q]; exact h
  · have one := one64_pos
    obtain ⟨⟨c, q, e1⟩, h1⟩ := ha
    rw [e1] at h1
    have hc : c ≠ 0 := by
      rintro rfl
      have : zmag b64 (.fin false 0 q) = 0 := Nat.zero_mul _
      omega
    have q1 : val64 (FP.dmul a b) = .inf false := by
      rw [val64_dmul, h, e1]
      simp only [exactProduct, if_neg hc]; rfl
    have M : Mi (FP.dmul a b) TOP := ⟨by rw [q1]; exact Datum.noConfusion, by rw [q1]; rfl, by rw [q1]; exact top_eq⟩
    refine ⟨_, M, fun V v hV _ => mi_le_top hV, fun V v _ h => ?_⟩
    rw [hT] at h
    have : one64 * TOP ≤ one64 * v := Nat.le_trans (Nat.mul_le_mul_right _ hm) (by rw [Nat.mul_comm one64 v]; exact h)
    exact Nat.le_of_mul_le_mul_left this one
theorem mi_cmp (ha : Mi a m) (hb : Mi b k) (o : Jvm.ClassFile.CmpOp) : cmpValue (FP.dcmp a b) o = if m < k then -1 else if m = k then 0 else 1 := by
  have z1 : zval b64 (val64 a) = (m : Int) := by unfold zval; rw [ha.2.1, ha.2.2]; rfl
  have z2 : zval b64 (val64 b) = (k : Int) := by unfold zval; rw [hb.2.1, hb.2.2]; rfl
  have h : FP.dcmp a b = some (compare (m : Int) (k : Int)) := by
    have := dcmp_zval ha.1 hb.1
    rw [z1, z2] at this; exact this
  rw [h, compare_ite]
  by_cases h1 : m < k
  · rw [if_pos h1, if_pos (by omega : (m : Int) < (k : Int))]; rfl
  · rw [if_neg h1, if_neg (by omega : ¬ (m : Int) < (k : Int))]
    by_cases h2 : m = k
    · rw [if_pos h2, if_pos (by omega : (m : Int) = (k : Int))]; rfl
    · rw [if_neg h2, if_neg (by omega : ¬ (m : Int) = (k : Int))]; rfl
theorem mg_l2d' {n : Int64} (h0 : 0 ≤ n.toInt) : ∃ m, Mg (FP.l2d n) m ∧ m ≤ 9223372036854775808 * one64 := by
  obtain ⟨c, q, e⟩ := l2d_shape n
  have hs : decide (n.toInt < 0) = false := decide_eq_false (by omega)
  rw [hs] at e
  obtain ⟨V, hV⟩ := mg_ex 1 63 (by decide) (by decide) (by decide)
  have hV' : Mg V (9223372036854775808 * one64) := by
    have q : 1 * 2 ^ ((63 : Int) + 1074).toNat = 9223372036854775808 * one64 := by decide +kernel
    rw [q] at hV; exact hV
  refine ⟨_, ⟨⟨c, q, e⟩, rfl⟩, ?_⟩
  have b1 := Int64.toInt_lt n
  have z := l2d_zval_le (n := n) hV'.nn (by
    rw [mg_zval hV', Int.natCast_mul]
    exact Int.mul_le_mul_of_nonneg_right (by omega) (Int.natCast_nonneg _))
  rw [mg_zval hV'] at z
  have z2 : zval b64 (val64 (FP.l2d n)) = ((zmag b64 (val64 (FP.l2d n)) : Nat) : Int) := by
    show zval b64 (val64 (FP.l2d n)) = _
    rw [e]; rfl
  rw [z2] at z
  omega
end OwnI
theorem own_and3 (x : Int32) : (x &&& (3 : Int32)) = (0 : Int32) ∨ (x &&& (3 : Int32)) = (1 : Int32) ∨ (x &&& (3 : Int32)) = (2 : Int32) ∨ (x &&& (3 : Int32)) = (3 : Int32) := by
  have h := c_mask x 3 2 (by decide) (by decide)
  have e0 : (0 : Int32).toInt = 0 := rfl
  have e1 : (1 : Int32).toInt = 1 := rfl
  have e2 : (2 : Int32).toInt = 2 := rfl
  have e3 : (3 : Int32).toInt = 3 := rfl
  simp only [← Int32.toInt_inj, h, e0, e1, e2, e3]
  omega
section OwnT
open Jvm.FP.Core Jvm.Free.Fl
theorem mg_74 : Mg (4634907704006017024 : UInt64) (74 * one64) := ⟨⟨5207287069147136, -46, by decide +kernel⟩, by decide +kernel⟩
theorem own_tsf {x y : UInt64} {k m : Nat} (hx : Mg x k) (hk : 0 < k) (hy : Mg y m) : NoNaN64 (FP.ddiv y x) ∧ NoNaN64 (FP.dadd (FP.ddiv y x) FP.dconst1) ∧ NoNaN64 (FP.dmul (4634907704006017024 : UInt64) (FP.dadd (FP.ddiv y x) FP.dconst1)) ∧
    (∀ V v W w U u, Mi V v → Mi W w → Mi U u → m * one64 ≤ v * k → v + one64 ≤ w → 74 * w ≤ u → u < TOP → cmpValue (FP.dcmp (FP.dmul (4634907704006017024 : UInt64) (FP.dadd (FP.ddiv y x) FP.dconst1)) (9218868437227405312 : UInt64)) .g = -1) ∧
    (∀ V v, Mi V v → v * k ≤ m * one64 → TOP ≤ 74 * v → cmpValue (FP.dcmp (FP.dmul (4634907704006017024 : UInt64) (FP.dadd (FP.ddiv y x) FP.dconst1)) (9218868437227405312 : UInt64)) .g = 0) := by
  obtain ⟨q, Q, q1, q2⟩ := mi_div hy hx hk
  obtain ⟨s, S, s1, s2⟩ := mi_add Q mg_c1
  obtain ⟨p, P, p1, p2⟩ := mi_mul mg_74 (by omega) S
  refine ⟨Q.no, S.no, P.no, fun V v W w U u hV hW hU h1 h2 h3 h4 => ?_, fun V v hV h1 h2 => ?_⟩
  · have a1 := q2 V v hV h1
    have a2 := s2 W w hW (by omega)
    have a3 := p2 U u hU (by
      rw [Nat.mul_right_comm]
      exact Nat.mul_le_mul_right _ (Nat.le_trans (Nat.mul_le_mul_left _ a2) h3))
    rw [mi_cmp P mi_inf, if_pos (by omega)]
  · have a1 := q1 V v hV h1
    have a2 := s1 V v hV (by omega)
    have a3 := p1 _ TOP mi_inf (by
      rw [Nat.mul_right_comm]
      exact Nat.mul_le_mul_right _ (Nat.le_trans h2 (Nat.mul_le_mul_left _ a2)))
    have a4 := mi_le_top P
    rw [mi_cmp P mi_inf, if_neg (by omega), if_pos (by omega)]
theorem own_pw (c : Nat) (e : Nat) (hc : c < 2 ^ 53) (he : e ≤ 2045) : ∃ V, Mi V (c * 2 ^ e) := by
  obtain ⟨V, hV⟩ := mg_ex c ((e : Int) - 1074) hc (by omega) (by omega)
  rw [show ((e : Int) - 1074 + 1074).toNat = e by omega] at hV
  exact ⟨V, hV.mi⟩
/-- a load of at least 2^-30 -/
theorem own_c0 {x y : UInt64} {k m : Nat} (hx : Mg x k) (hk : 2 ^ 1044 ≤ k) (hy : Mg y m) (hm : m ≤ 9223372036854775808 * one64) : cmpValue (FP.dcmp (FP.dmul (4634907704006017024 : UInt64) (FP.dadd (FP.ddiv y x) FP.dconst1)) (9218868437227405312 : UInt64)) .g = -1 := by
  obtain ⟨V, hV⟩ := own_pw 1 1167 (by decide) (by decide)
  obtain ⟨W, hW⟩ := own_pw 1 1168 (by decide) (by decide)
  obtain ⟨U, hU⟩ := own_pw 1 1175 (by decide) (by decide)
  rw [Nat.one_mul] at hV hW hU
  refine (own_tsf hx (Nat.lt_of_lt_of_le (Nat.two_pow_pos _) hk) hy).2.2.2.1 V _ W _ U _ hV hW hU ?_ ?_ ?_ ?_
  · refine Nat.le_trans (Nat.mul_le_mul_right _ hm) (Nat.le_trans (Nat.le_of_eq ?_) (Nat.mul_le_mul_left _ hk))
    decide +kernel
  · decide +kernel
  · decide +kernel
  · decide +kernel
/-- no arrivals -/
theorem own_c1 {x y : UInt64} {k : Nat} (hx : Mg x k) (hk : 0 < k) (hy : Mg y 0) : cmpValue (FP.dcmp (FP.dmul (4634907704006017024 : UInt64) (FP.dadd (FP.ddiv y x) FP.dconst1)) (9218868437227405312 : UInt64)) .g = -1 := by
  refine (own_tsf hx hk hy).2.2.2.1 _ 0 _ _ _ _ mg_c0.mi mg_c1.mi mg_74.mi (by omega) (by omega) (Nat.le_refl _) ?_
  decide +kernel
/-- a load of at most 65536 least units, an arrival -/
theorem own_c2 {x y : UInt64} {k m : Nat} (hx : Mg x k) (hk : 0 < k) (hk2 : k ≤ 65536) (hy : Mg y m) (hm : one64 ≤ m) : cmpValue (FP.dcmp (FP.dmul (4634907704006017024 : UInt64) (FP.dadd (FP.ddiv y x) FP.dconst1)) (9218868437227405312 : UInt64)) .g = 0 := by
  obtain ⟨V', hV'⟩ := own_pw 140737488355328 2045 (by decide) (by decide)
  refine (own_tsf hx hk hy).2.2.2.2 V' _ hV' ?_ ?_
  · refine Nat.le_trans (Nat.mul_le_mul_left _ hk2) (Nat.le_trans ?_ (Nat.mul_le_mul_right _ hm))
    decide +kernel
  · decide +kernel
/-- a load of l * 2^-1000 -/
theorem own_c3 {x y : UInt64} {l a : Nat} (hl : 0 < l) (hx : Mg x (l * 2 ^ 74)) (hy : Mg y (a * one64)) : (a ≤ l * 131072 → cmpValue (FP.dcmp (FP.dmul (4634907704006017024 : UInt64) (FP.dadd (FP.ddiv y x) FP.dconst1)) (9218868437227405312 : UInt64)) .g = -1) ∧ (l * 262144 ≤ a → cmpValue (FP.dcmp (FP.dmul (4634907704006017024 : UInt64) (FP.dadd (FP.ddiv y x) FP.dconst1)) (9218868437227405312 : UInt64)) .g = 0) := by
  have hk : 0 < l * 2 ^ 74 := Nat.mul_pos hl (Nat.two_pow_pos _)
  have T := (own_tsf hx hk hy).2.2.2
  have e1 : one64 * one64 = 2 ^ 2148 := by decide +kernel
  have e2 : (70368744177664 * 2 ^ 2045) * 2 ^ 74 = 131072 * 2 ^ 2148 := by decide +kernel
  have e3 : (140737488355328 * 2 ^ 2045) * 2 ^ 74 = 262144 * 2 ^ 2148 := by decide +kernel
  constructor
  · intro h
    obtain ⟨V, hV⟩ := own_pw 70368744177664 2045 (by decide) (by decide)
    obtain ⟨W, hW⟩ := own_pw 4503599627370497 2039 (by decide) (by decide)
    obtain ⟨U, hU⟩ := own_pw 6755399441055744 2045 (by decide) (by decide)
    refine T.1 V _ W _ U _ hV hW hU ?_ ?_ ?_ ?_
    · rw [Nat.mul_assoc, e1, Nat.mul_comm l, ← Nat.mul_assoc, e2, Nat.mul_right_comm, Nat.mul_comm 131072 l]
      exact Nat.mul_le_mul_right _ h
    · decide +kernel
    · decide +kernel
    · decide +kernel
  · intro h
    obtain ⟨V, hV⟩ := own_pw 140737488355328 2045 (by decide) (by decide)
    refine T.2 V _ hV ?_ ?_
    · rw [Nat.mul_assoc a, e1, Nat.mul_comm l, ← Nat.mul_assoc, e3, Nat.mul_right_comm, Nat.mul_comm 262144 l]
      exact Nat.mul_le_mul_right _ h
    · decide +kernel
/-- l times a power of 2 -/
theorem own_load {x : UInt64} {l e : Nat} (hl : l ≤ 65536) (hX : Mg x (2 ^ e)) (he : e ≤ 1044) {n : Int64} (hn : n.toInt = (l : Int)) : Mg (FP.dmul (FP.l2d n) x) (l * 2 ^ e) := by
  have L := mg_l2d (n := n) (by omega) (by omega)
  rw [hn, Int.toNat_natCast] at L
  obtain ⟨V, hV⟩ := mg_ex l ((e : Int) - 1074) (by omega) (by omega) (by omega)
  rw [show ((e : Int) - 1074 + 1074).toNat = e by omega] at hV
  exact mg_mul_eq L hX hV (by rw [Nat.mul_right_comm])
theorem mg_m30 : Mg 4472074429978902528 (2 ^ 1044) := ⟨⟨4503599627370496, -82, by decide +kernel⟩, by decide +kernel⟩
theorem mg_m1000 : Mg 103582791429521408 (2 ^ 74) := ⟨⟨4503599627370496, -1052, by decide +kernel⟩, by decide +kernel⟩
theorem mg_m1074 : Mg 1 (2 ^ 0) := ⟨⟨1, -1074, by decide +kernel⟩, by decide +kernel⟩
end OwnT
theorem own_ql (x : Int32) : ∃ l : Nat, 0 < l ∧ l ≤ 65536 ∧ (((x &&& (65535 : Int32)) + (1 : Int32)).toInt64).toInt = (l : Int) := by
  have h := c_mask x 65535 16 (by decide) (by decide)
  generalize x &&& (65535 : Int32) = y at *
  have c := c_iadd y 1
  have e1 : (1 : Int32).toInt = 1 := rfl
  have b1 := Int32.toInt_lt (y + 1)
  have b2 := Int32.le_toInt (y + 1)
  have r := c_i2l (y + 1)
  exact ⟨(y + 1).toInt.toNat, by omega, by omega, by omega⟩
theorem own_ql2 (x : Int32) : ∃ l : Nat, 0 < l ∧ l ≤ 256 ∧ (((x &&& (255 : Int32)) + (1 : Int32)).toInt64).toInt = (l : Int) := by
  have h := c_mask x 255 8 (by decide) (by decide)
  generalize x &&& (255 : Int32) = y at *
  have c := c_iadd y 1
  have e1 : (1 : Int32).toInt = 1 := rfl
  have b1 := Int32.toInt_lt (y + 1)
  have b2 := Int32.le_toInt (y + 1)
  have r := c_i2l (y + 1)
  exact ⟨(y + 1).toInt.toNat, by omega, by omega, by omega⟩
theorem own_qa (x : Int64) : 0 ≤ (x &&& (9223372036854775807 : Int64)).toInt := by
  have h := c_maskL x 9223372036854775807 63 (by decide) (by decide)
  rw [h]; omega
theorem own_qa1 (x : Int64) : 0 ≤ (x &&& (2147483647 : Int64)).toInt ∧ (x &&& (2147483647 : Int64)).toInt < 2147483648 := by
  have h := c_maskL x 2147483647 31 (by decide) (by decide)
  rw [h]; omega
theorem own_qa2 (x : Int64) : 0 ≤ (x &&& (67108863 : Int64)).toInt ∧ (x &&& (67108863 : Int64)).toInt < 67108864 := by
  have h := c_maskL x 67108863 26 (by decide) (by decide)
  rw [h]; omega
theorem own_sh {x : Int64} {l : Nat} (hl : l ≤ 256) (h : x.toInt = (l : Int)) : (x <<< ((17 : Int32) &&& 0x3f).toInt64).toInt = ((l * 131072 : Nat) : Int) ∧ (x <<< ((18 : Int32) &&& 0x3f).toInt64).toInt = ((l * 262144 : Nat) : Int) := by
  have c1 := c_lshl x 17 17 rfl
  have c2 := c_lshl x 18 18 rfl
  have b1 := Int64.toInt_lt (x <<< ((17 : Int32) &&& 0x3f).toInt64)
  have b2 := Int64.le_toInt (x <<< ((17 : Int32) &&& 0x3f).toInt64)
  have b3 := Int64.toInt_lt (x <<< ((18 : Int32) &&& 0x3f).toInt64)
  have b4 := Int64.le_toInt (x <<< ((18 : Int32) &&& 0x3f).toInt64)
  rw [h] at c1 c2
  generalize (x <<< ((17 : Int32) &&& 0x3f).toInt64).toInt = A at *
  generalize (x <<< ((18 : Int32) &&& 0x3f).toInt64).toInt = B at *
  rw [show ((2 ^ 17 : Nat) : Int) = 131072 from rfl] at c1
  rw [show ((2 ^ 18 : Nat) : Int) = 262144 from rfl] at c2
  omega
section OwnB
open Jvm.FP.Core Jvm.Free.Fl
/-- what timesStayFinite asks of its two numbers; rc: its comparison -/
def TT (x y : UInt64) (rc : Int32) : Prop := NoNaN64 (FP.ddiv y x) ∧ NoNaN64 (FP.dadd (FP.ddiv y x) FP.dconst1) ∧ NoNaN64 (FP.dmul (4634907704006017024 : UInt64) (FP.dadd (FP.ddiv y x) FP.dconst1)) ∧ cmpValue (FP.dcmp (FP.dmul (4634907704006017024 : UInt64) (FP.dadd (FP.ddiv y x) FP.dconst1)) (9218868437227405312 : UInt64)) .g = rc
theorem own_tt {x y : UInt64} {k m : Nat} {rc : Int32} (hx : Mg x k) (hk : 0 < k) (hy : Mg y m) (h : cmpValue (FP.dcmp (FP.dmul (4634907704006017024 : UInt64) (FP.dadd (FP.ddiv y x) FP.dconst1)) (9218868437227405312 : UInt64)) .g = rc) : TT x y rc := by
  obtain ⟨t1, t2, t3, -⟩ := own_tsf hx hk hy
  exact ⟨t1, t2, t3, h⟩
theorem own_b1044 : 2 ^ 1044 ≤ one64 := by decide +kernel
variable {ql qa : Int64} {ln : Nat}
theorem own_l2n (hl : ql.toInt = (ln : Int)) (h1 : ln ≤ 65536) : Mg (FP.l2d ql) (ln * one64) := by
  have L := mg_l2d (n := ql) (by omega) (by omega)
  rw [hl, Int.toNat_natCast] at L
  exact L
theorem own_l2d0 : Mg (FP.l2d (0 : Int64)) 0 := by
  have L := mg_l2d (n := (0 : Int64)) (by decide) (by decide)
  have e : (0 : Int64).toInt.toNat = 0 := rfl
  rw [e, Nat.zero_mul] at L
  exact L
theorem own_m0 (hl0 : 0 < ln) (hl1 : ln ≤ 65536) (hl : ql.toInt = (ln : Int)) (ha : 0 ≤ qa.toInt) : TT (FP.l2d ql) (FP.l2d qa) (-1) := by
  obtain ⟨my, hMy, hmy⟩ := mg_l2d' ha
  have hX := own_l2n hl hl1
  exact own_tt hX (Nat.mul_pos hl0 one64_pos) hMy (own_c0 hX (Nat.le_trans own_b1044 (Nat.le_mul_of_pos_left one64 hl0)) hMy hmy)
theorem own_x30 (hl1 : ln ≤ 65536) (hl : ql.toInt = (ln : Int)) : Mg (FP.dmul (FP.l2d ql) (4472074429978902528 : UInt64)) (ln * 2 ^ 1044) := own_load (e := 1044) hl1 mg_m30 (Nat.le_refl _) hl
theorem own_x74 (hl1 : ln ≤ 256) (hl : ql.toInt = (ln : Int)) : Mg (FP.dmul (FP.l2d ql) (103582791429521408 : UInt64)) (ln * 2 ^ 74) := own_load (e := 74) (Nat.le_trans hl1 (by decide)) mg_m1000 (by decide) hl
theorem own_x0 (hl1 : ln ≤ 65536) (hl : ql.toInt = (ln : Int)) : Mg (FP.dmul (FP.l2d ql) (1 : UInt64)) (ln * 2 ^ 0) := own_load (e := 0) hl1 mg_m1074 (Nat.zero_le _) hl
theorem own_m3 (hl0 : 0 < ln) (hl1 : ln ≤ 65536) (hl : ql.toInt = (ln : Int)) (ha : 0 ≤ qa.toInt) : TT (FP.dmul (FP.l2d ql) (4472074429978902528 : UInt64)) (FP.l2d qa) (-1) := by
  obtain ⟨my, hMy, hmy⟩ := mg_l2d' ha
  have hX := own_x30 hl1 hl
  exact own_tt hX (Nat.mul_pos hl0 (Nat.two_pow_pos 1044)) hMy (own_c0 hX (Nat.le_mul_of_pos_left (2 ^ 1044) hl0) hMy hmy)
theorem own_m1a (hl0 : 0 < ln) (hl1 : ln ≤ 65536) (hl : ql.toInt = (ln : Int)) : TT (FP.dmul (FP.l2d ql) (1 : UInt64)) (FP.l2d (0 : Int64)) (-1) := by
  have hX := own_x0 hl1 hl
  have hp : 0 < ln * 2 ^ 0 := Nat.mul_pos hl0 (Nat.two_pow_pos 0)
  exact own_tt hX hp own_l2d0 (own_c1 hX hp own_l2d0)
theorem own_m1b (hl0 : 0 < ln) (hl1 : ln ≤ 65536) (hl : ql.toInt = (ln : Int)) (ha : 0 ≤ qa.toInt ∧ qa.toInt < 2147483648) (h : ¬ qa = (0 : Int64)) : TT (FP.dmul (FP.l2d ql) (1 : UInt64)) (FP.l2d qa) 0 := by
  have e0 : (0 : Int64).toInt = 0 := rfl
  have hz : qa.toInt ≠ 0 := fun z => h (Int64.toInt_inj.mp (z.trans e0.symm))
  have h1 : 0 < qa.toInt.toNat := by omega
  have h2 : qa.toInt ≤ 9007199254740992 := by omega
  have hk : ln * 2 ^ 0 ≤ 65536 := by rw [Nat.pow_zero, Nat.mul_one]; exact hl1
  have hX := own_x0 hl1 hl
  have hp : 0 < ln * 2 ^ 0 := Nat.mul_pos hl0 (Nat.two_pow_pos 0)
  have hY := mg_l2d (n := qa) ha.1 h2
  exact own_tt hX hp hY (own_c2 hX hp hk hY (Nat.le_mul_of_pos_left one64 h1))
theorem own_m2 (hl0 : 0 < ln) (hl1 : ln ≤ 256) (hl : ql.toInt = (ln : Int)) (ha : 0 ≤ qa.toInt ∧ qa.toInt < 67108864) :
    (¬ (ql <<< ((17 : Int32) &&& 0x3f).toInt64) < qa → TT (FP.dmul (FP.l2d ql) (103582791429521408 : UInt64)) (FP.l2d qa) (-1)) ∧ (¬ qa < (ql <<< ((18 : Int32) &&& 0x3f).toInt64) → TT (FP.dmul (FP.l2d ql) (103582791429521408 : UInt64)) (FP.l2d qa) 0) ∧ ∃ rc, TT (FP.dmul (FP.l2d ql) (103582791429521408 : UInt64)) (FP.l2d qa) rc := by
  have h2 : qa.toInt ≤ 9007199254740992 := by omega
  have hsh := own_sh hl1 hl
  have k1 : ¬ (ql <<< ((17 : Int32) &&& 0x3f).toInt64) < qa → qa.toInt.toNat ≤ ln * 131072 := by
    intro h; rw [Int64.lt_iff_toInt_lt, hsh.1] at h; omega
  have k2 : ¬ qa < (ql <<< ((18 : Int32) &&& 0x3f).toInt64) → ln * 262144 ≤ qa.toInt.toNat := by
    intro h; rw [Int64.lt_iff_toInt_lt, hsh.2] at h; omega
  have hX := own_x74 hl1 hl
  have hY := mg_l2d (n := qa) ha.1 h2
  have hp : 0 < ln * 2 ^ 74 := Nat.mul_pos hl0 (Nat.two_pow_pos 74)
  have D := own_c3 hl0 hX hY
  exact ⟨fun h => own_tt hX hp hY (D.1 (k1 h)), fun h => own_tt hX hp hY (D.2 (k2 h)), _, own_tt hX hp hY rfl⟩
end OwnB
theorem d1_0 : decode prog_49_method_2_code 0 = .ok (.ldc2_w 61, 3) := by decide +kernel
theorem d1_3 : decode prog_49_method_2_code 3 = .ok (.dload_n 2, 1) := by decide +kernel
theorem d1_4 : decode prog_49_method_2_code 4 = .ok (.dload_n 0, 1) := by decide +kernel
theorem d1_5 : decode prog_49_method_2_code 5 = .ok (.ddiv, 1) := by decide +kernel
theorem d1_6 : decode prog_49_method_2_code 6 = .ok (.dconst 1, 1) := by decide +kernel
theorem d1_7 : decode prog_49_method_2_code 7 = .ok (.dadd, 1) := by decide +kernel
theorem d1_8 : decode prog_49_method_2_code 8 = .ok (.dmul, 1) := by decide +kernel
theorem d1_9 : decode prog_49_method_2_code 9 = .ok (.dstore 4, 2) := by decide +kernel
theorem d1_11 : decode prog_49_method_2_code 11 = .ok (.dload 4, 2) := by decide +kernel
theorem d1_13 : decode prog_49_method_2_code 13 = .ok (.ldc2_w 18, 3) := by decide +kernel
theorem d1_16 : decode prog_49_method_2_code 16 = .ok (.dcmp .g, 1) := by decide +kernel
theorem d1_17 : decode prog_49_method_2_code 17 = .ok (.ifCond .ge 7, 3) := by decide +kernel
theorem d1_20 : decode prog_49_method_2_code 20 = .ok (.iconst 1, 1) := by decide +kernel
theorem d1_21 : decode prog_49_method_2_code 21 = .ok (.goto 4, 3) := by decide +kernel
theorem d1_24 : decode prog_49_method_2_code 24 = .ok (.iconst 0, 1) := by decide +kernel
theorem d1_25 : decode prog_49_method_2_code 25 = .ok (.ireturn, 1) := by decide +kernel
theorem pn_1 : plainName "com/example/carve_spectrum/carvespectrum/PoissonTraffic" = true := by first | (simp [plainName, overriddenIn]; done) | decide +kernel
theorem ef_rmT (m : MethodId) (x0 : UInt64) (x1 : UInt64) : entryFrame m #[(.double x0), (.double x1)] 6 = mkF m 0 #[.val (.double x0), .second, .val (.double x1), .second, .unset, .unset] [] := by first | (simp [entryFrame, mkF, argsToLocals, Value.category]; done) | rfl
def Q_rmT (Z : State) (dx : UInt64) (dy : UInt64) (rc : Int32) (r : Int32) (h0 : Heap) (n0 : Nat) (v : Option Value) (h : Heap) (L : List Loc) : Prop := v = some (.int r) ∧ Fr n0 L ∧ h = h0
set_option maxRecDepth 65536 in
set_option maxHeartbeats 40000000 in
theorem rmT (l : Launch) (Z : State) (a0 : Array Value) (hw : ∀ d ∈ tables_1, d.before a0 Z = true) (ws : List Jvm.Cond) (dx : UInt64) (dy : UInt64) (rc : Int32) (r : Int32) (h0 : Heap) (n0 : Nat) (O0 : Old Z n0 h0) (hT : TT dx dy rc) (hr : r = if rc < (0 : Int32) then 1 else 0) :
    MetFree l (⟨"com/example/carve_spectrum/carvespectrum/PoissonTraffic", "timesStayFinite", "(DD)Z"⟩ : MethodName) (head1 (Jvm.Cond.code (⟨"com/example/carve_spectrum/carvespectrum/PoissonTraffic", "timesStayFinite", "(DD)Z"⟩ : MethodName) prog_49_method_2_code 6 (some .boolean) :: ws) ({ frames := 0, cells := 0, slots := 0, locals := 0 } : Room)) (fun a U => a = #[(.double dx), (.double dy)] ∧ Z.Warmed39 U.vm ∧ U.heap = h0) (fun _ _ _ _ _ => True) (fun _ U o U' => ∃ v L, o = .returned v ∧ Q_rmT Z dx dy rc r h0 n0 v U'.heap L ∧ FrameEnd U o U' L ({ frames := 0, cells := 0, slots := 0, locals := 0 } : Room).cells ({ frames := 0, cells := 0, slots := 0, locals := 0 } : Room).slots) := by
  refine MetFree.of_bodySF (plainFor_of_name pn_1) hisR ?_
  intro p e s m args below meth c s₁ Bd hml0 hP hK
  obtain ⟨rfl, hZ, hh⟩ := hP
  have hx := Bd.exec
  have hby := Bd.bytes
  have hml : c.maxLocals = 6 := hml0
  have hown : s.vm.findClass "com/example/carve_spectrum/carvespectrum/PoissonTraffic" = some m.cls := findClass_of_methodNamed Bd.named
  have hnm := (name_of_methodNamed Bd.named Bd.method).1
  have X0 : Stand p l e ({ frames := 0, cells := 0, slots := 0, locals := 0 } : Room) s m #[(.double dx), (.double dy)] below meth c s₁ [] 0 0 := Stand.of_body Bd
  have e0 : s₁.heap = h0 := by rw [← hh, Bd.state]; rfl
  have N0 := Fr.nil n0
  suffices G : ∀ (Qf : Outcome → State → Prop), Qf = (fun (_ : Array Value) (U : State) (o : Outcome) (U' : State) => ∃ v L, o = .returned v ∧ Q_rmT Z dx dy rc r h0 n0 v U'.heap L ∧ FrameEnd U o U' L ({ frames := 0, cells := 0, slots := 0, locals := 0 } : Room).cells ({ frames := 0, cells := 0, slots := 0, locals := 0 } : Room).slots) #[] s → Goes p.tables e below Qf (s₁.setTop (mkF m 0 #[.val (.double dx), .second, .val (.double dy), .second, .unset, .unset] [])) by
    obtain ⟨s₂, o, g1, g2, g3, g4⟩ := G _ rfl
    exact ⟨s₂, o, castTop (ef_rmT m _ _) g1, g2, g3, g4⟩
  intro Qf hQf
  obtain ⟨hn1, hn2, hn3, hz⟩ := hT
  refine Goes.to (T' := s₁.setTop (mkF m 3 #[.val (.double dx), .second, .val (.double dy), .second, .unset, .unset] [(.double (4634907704006017024 : UInt64))])) (X0.ldc2DoubleC hx hown (mvT hZ (hw _ (List.mem_of_getElem? (i := 6) rfl))) (g := (mkF m 0 #[.val (.double dx), .second, .val (.double dy), .second, .unset, .unset] [])) rfl (hb hby d1_0)) ?_
  refine Goes.to (T' := s₁.setTop (mkF m 4 #[.val (.double dx), .second, .val (.double dy), .second, .unset, .unset] [(.double dy), (.double (4634907704006017024 : UInt64))])) (fun t k => XS.dloadN X0.here hx rfl (hb hby d1_3) rfl k) ?_
  refine Goes.to (T' := s₁.setTop (mkF m 5 #[.val (.double dx), .second, .val (.double dy), .second, .unset, .unset] [(.double dx), (.double dy), (.double (4634907704006017024 : UInt64))])) (fun t k => XS.dloadN X0.here hx rfl (hb hby d1_4) rfl k) ?_
  refine Goes.to (T' := s₁.setTop (mkF m 6 #[.val (.double dx), .second, .val (.double dy), .second, .unset, .unset] [(.double (FP.ddiv dy dx)), (.double (4634907704006017024 : UInt64))])) (fun t k => XS.ddivS X0.here hx rfl (hb hby d1_5) rfl hn1 rfl k) ?_
  refine Goes.to (T' := s₁.setTop (mkF m 7 #[.val (.double dx), .second, .val (.double dy), .second, .unset, .unset] [(.double FP.dconst1), (.double (FP.ddiv dy dx)), (.double (4634907704006017024 : UInt64))])) (fun t k => XS.dconst1 X0.here hx rfl (hb hby d1_6) rfl k) ?_
  refine Goes.to (T' := s₁.setTop (mkF m 8 #[.val (.double dx), .second, .val (.double dy), .second, .unset, .unset] [(.double (FP.dadd (FP.ddiv dy dx) FP.dconst1)), (.double (4634907704006017024 : UInt64))])) (fun t k => XS.daddS X0.here hx rfl (hb hby d1_7) rfl hn2 rfl k) ?_
  refine Goes.to (T' := s₁.setTop (mkF m 9 #[.val (.double dx), .second, .val (.double dy), .second, .unset, .unset] [(.double (FP.dmul (4634907704006017024 : UInt64) (FP.dadd (FP.ddiv dy dx) FP.dconst1)))])) (fun t k => XS.dmulS X0.here hx rfl (hb hby d1_8) rfl hn3 rfl k) ?_
  refine Goes.to (T' := s₁.setTop (mkF m 11 #[.val (.double dx), .second, .val (.double dy), .second, .val (.double (FP.dmul (4634907704006017024 : UInt64) (FP.dadd (FP.ddiv dy dx) FP.dconst1))), .second] [])) (fun t k => XS.dstore X0.here hx rfl (hb hby d1_9) rfl (l' := #[.val (.double dx), .second, .val (.double dy), .second, .val (.double (FP.dmul (4634907704006017024 : UInt64) (FP.dadd (FP.ddiv dy dx) FP.dconst1))), .second]) rfl k) ?_
  refine Goes.to (T' := s₁.setTop (mkF m 13 #[.val (.double dx), .second, .val (.double dy), .second, .val (.double (FP.dmul (4634907704006017024 : UInt64) (FP.dadd (FP.ddiv dy dx) FP.dconst1))), .second] [(.double (FP.dmul (4634907704006017024 : UInt64) (FP.dadd (FP.ddiv dy dx) FP.dconst1)))])) (fun t k => XS.dload X0.here hx rfl (hb hby d1_11) rfl k) ?_
  refine Goes.to (T' := s₁.setTop (mkF m 16 #[.val (.double dx), .second, .val (.double dy), .second, .val (.double (FP.dmul (4634907704006017024 : UInt64) (FP.dadd (FP.ddiv dy dx) FP.dconst1))), .second] [(.double (9218868437227405312 : UInt64)), (.double (FP.dmul (4634907704006017024 : UInt64) (FP.dadd (FP.ddiv dy dx) FP.dconst1)))])) (X0.ldc2DoubleC hx hown (mvT hZ (hw _ (List.mem_of_getElem? (i := 7) rfl))) (g := (mkF m 13 #[.val (.double dx), .second, .val (.double dy), .second, .val (.double (FP.dmul (4634907704006017024 : UInt64) (FP.dadd (FP.ddiv dy dx) FP.dconst1))), .second] [(.double (FP.dmul (4634907704006017024 : UInt64) (FP.dadd (FP.ddiv dy dx) FP.dconst1)))])) rfl (hb hby d1_13)) ?_
  refine Goes.to (T' := s₁.setTop (mkF m 17 #[.val (.double dx), .second, .val (.double dy), .second, .val (.double (FP.dmul (4634907704006017024 : UInt64) (FP.dadd (FP.ddiv dy dx) FP.dconst1))), .second] [(.int rc)])) (fun t k => XS.dcmpS X0.here hx rfl (hb hby d1_16) rfl (v := rc) hz k) ?_
  rcases Decidable.em (rc < (0 : Int32)) with hc17_1 | hc17_1
  · skip
    refine Goes.to (T' := s₁.setTop (mkF m 20 #[.val (.double dx), .second, .val (.double dy), .second, .val (.double (FP.dmul (4634907704006017024 : UInt64) (FP.dadd (FP.ddiv dy dx) FP.dconst1))), .second] [])) (fun t k => XS.ifNo X0.here hx rfl (hb hby d1_17) rfl ((if0 _ _).trans (tlt hc17_1).2.1) k) ?_
    refine Goes.to (T' := s₁.setTop (mkF m 21 #[.val (.double dx), .second, .val (.double dy), .second, .val (.double (FP.dmul (4634907704006017024 : UInt64) (FP.dadd (FP.ddiv dy dx) FP.dconst1))), .second] [(.int (1 : Int32))])) (fun t k => XS.iconst X0.here hx rfl (hb hby d1_20) k) ?_
    refine Goes.to (T' := s₁.setTop (mkF m 25 #[.val (.double dx), .second, .val (.double dy), .second, .val (.double (FP.dmul (4634907704006017024 : UInt64) (FP.dadd (FP.ddiv dy dx) FP.dconst1))), .second] [(.int (1 : Int32))])) (fun t k => XS.goto X0.here hx rfl (pc0 := 21) (pc' := 25) rfl (hb hby d1_21) (by decide) (by decide) k) ?_
    obtain ⟨fs, hrL, hrun, hended, hW, hsame⟩ := X0.leave (v := some (.int (1 : Int32))) (fun h => by rw [Bd.returns] at h; cases h)
    subst hQf
    refine ⟨_, _, retN X0 hx (t := .boolean) Bd.returns (by simp) (hb hby d1_25) hrL, hrun, hended, _, _, rfl, ?_, ⟨_, rfl⟩, hW, hsame.mono (by decide) (by decide)⟩
    show (fun (v : Option Value) (h : Heap) (L : List Loc) => v = some (.int r) ∧ Fr n0 L ∧ h = h0) (some (.int (1 : Int32))) s₁.heap _
    rw [e0]
    have hv : (1 : Int32) = r := by rw [hr]; first | (simp [hc17_1]; done) | ((repeat' split) <;> first | rfl | contradiction | simp_all)
    exact ⟨by rw [hv], N0, rfl⟩
  · skip
    refine Goes.to (T' := s₁.setTop (mkF m 24 #[.val (.double dx), .second, .val (.double dy), .second, .val (.double (FP.dmul (4634907704006017024 : UInt64) (FP.dadd (FP.ddiv dy dx) FP.dconst1))), .second] [])) (fun t k => XS.ifYes X0.here hx rfl (pc0 := 17) (pc' := 24) rfl (hb hby d1_17) rfl ((if0 _ _).trans (flt hc17_1).2.1) (by decide) (by decide) k) ?_
    refine Goes.to (T' := s₁.setTop (mkF m 25 #[.val (.double dx), .second, .val (.double dy), .second, .val (.double (FP.dmul (4634907704006017024 : UInt64) (FP.dadd (FP.ddiv dy dx) FP.dconst1))), .second] [(.int (0 : Int32))])) (fun t k => XS.iconst X0.here hx rfl (hb hby d1_24) k) ?_
    obtain ⟨fs, hrL, hrun, hended, hW, hsame⟩ := X0.leave (v := some (.int (0 : Int32))) (fun h => by rw [Bd.returns] at h; cases h)
    subst hQf
    refine ⟨_, _, retN X0 hx (t := .boolean) Bd.returns (by simp) (hb hby d1_25) hrL, hrun, hended, _, _, rfl, ?_, ⟨_, rfl⟩, hW, hsame.mono (by decide) (by decide)⟩
    show (fun (v : Option Value) (h : Heap) (L : List Loc) => v = some (.int r) ∧ Fr n0 L ∧ h = h0) (some (.int (0 : Int32))) s₁.heap _
    rw [e0]
    have hv : (0 : Int32) = r := by rw [hr]; first | (simp [hc17_1]; done) | ((repeat' split) <;> first | rfl | contradiction | simp_all)
    exact ⟨by rw [hv], N0, rfl⟩
theorem pd_17 : parseMethodDescriptor "(DD)Z" = some ⟨[.double, .double], some .boolean⟩ := by decide +kernel
theorem pn_0 : plainName "com/example/carve_spectrum/carvespectrum/PoissonTrafficTimesStayFinitePinLaw" = true := by first | (simp [plainName, overriddenIn]; done) | decide +kernel
theorem ef_rm0 (m : MethodId) (x0 : Int32) (x1 : Int32) (x2 : Int64) : entryFrame m #[(.int x0), (.int x1), (.long x2)] maxLocals = mkF m 0 #[.val (.int x0), .val (.int x1), .val (.long x2), .second, .unset, .unset, .unset, .unset, .unset, .unset] [] := by first | (simp [entryFrame, mkF, argsToLocals, Value.category, maxLocals]; done) | rfl
def Q_rm0 (Z : State) (p0 : Int32) (p1 : Int32) (q2 : Int64) (h0 : Heap) (n0 : Nat) (v : Option Value) (h : Heap) (L : List Loc) : Prop := v = some (.int 1) ∧ Fr n0 L
set_option maxRecDepth 65536 in
set_option maxHeartbeats 40000000 in
theorem rm0 (l : Launch) (Z : State) (a0 : Array Value) (hw : ∀ d ∈ tables_1, d.before a0 Z = true) (ws : List Jvm.Cond) (p0 : Int32) (p1 : Int32) (q2 : Int64) (h0 : Heap) (n0 : Nat) (O0 : Old Z n0 h0) :
    MetFree l x (head1 (Jvm.Cond.code x code maxLocals ret :: ws) room_1) (fun a U => a = #[(.int p0), (.int p1), (.long q2)] ∧ Z.Warmed39 U.vm ∧ U.heap = h0) (fun _ _ _ _ _ => True) (fun _ U o U' => ∃ v L, o = .returned v ∧ Q_rm0 Z p0 p1 q2 h0 n0 v U'.heap L ∧ FrameEnd U o U' L room_1.cells room_1.slots) := by
  refine MetFree.of_bodySF (plainFor_of_name pn_0) hisR ?_
  intro p e s m args below meth c s₁ Bd hml0 hP hK
  obtain ⟨rfl, hZ, hh⟩ := hP
  have hx := Bd.exec
  have hby := Bd.bytes
  have hml : c.maxLocals = 10 := hml0
  have hown : s.vm.findClass "com/example/carve_spectrum/carvespectrum/PoissonTrafficTimesStayFinitePinLaw" = some m.cls := findClass_of_methodNamed Bd.named
  have hnm := (name_of_methodNamed Bd.named Bd.method).1
  have X0 : Stand p l e room_1 s m #[(.int p0), (.int p1), (.long q2)] below meth c s₁ [] 0 0 := Stand.of_body Bd
  have e0 : s₁.heap = h0 := by rw [← hh, Bd.state]; rfl
  have N0 := Fr.nil n0
  suffices G : ∀ (Qf : Outcome → State → Prop), Qf = (fun (_ : Array Value) (U : State) (o : Outcome) (U' : State) => ∃ v L, o = .returned v ∧ Q_rm0 Z p0 p1 q2 h0 n0 v U'.heap L ∧ FrameEnd U o U' L room_1.cells room_1.slots) #[] s → Goes p.tables e below Qf (s₁.setTop (mkF m 0 #[.val (.int p0), .val (.int p1), .val (.long q2), .second, .unset, .unset, .unset, .unset, .unset, .unset] [])) by
    obtain ⟨s₂, o, g1, g2, g3, g4⟩ := G _ rfl
    exact ⟨s₂, o, castTop (ef_rm0 m _ _ _) g1, g2, g3, g4⟩
  intro Qf hQf
  refine Goes.to (T' := s₁.setTop (mkF m 1 #[.val (.int p0), .val (.int p1), .val (.long q2), .second, .unset, .unset, .unset, .unset, .unset, .unset] [(.int p0)])) (fun t k => XS.iloadN X0.here hx rfl (hb hby at_0) rfl k) ?_
  refine Goes.to (T' := s₁.setTop (mkF m 2 #[.val (.int p0), .val (.int p1), .val (.long q2), .second, .unset, .unset, .unset, .unset, .unset, .unset] [(.int (3 : Int32)), (.int p0)])) (fun t k => XS.iconst X0.here hx rfl (hb hby at_1) k) ?_
  refine Goes.to (T' := s₁.setTop (mkF m 3 #[.val (.int p0), .val (.int p1), .val (.long q2), .second, .unset, .unset, .unset, .unset, .unset, .unset] [(.int (p0 &&& (3 : Int32)))])) (fun t k => XS.iand X0.here hx rfl (hb hby at_2) rfl k) ?_
  rcases own_and3 p0 with hv_1 | hv_1 | hv_1 | hv_1
  · rw [hv_1]
    refine Goes.to (T' := s₁.setTop (mkF m 5 #[.val (.int p0), .val (.int p1), .val (.long q2), .second, .val (.int (0 : Int32)), .unset, .unset, .unset, .unset, .unset] [])) (fun t k => XS.istore X0.here hx rfl (hb hby at_3) rfl (l' := #[.val (.int p0), .val (.int p1), .val (.long q2), .second, .val (.int (0 : Int32)), .unset, .unset, .unset, .unset, .unset]) rfl k) ?_
    refine Goes.to (T' := s₁.setTop (mkF m 7 #[.val (.int p0), .val (.int p1), .val (.long q2), .second, .val (.int (0 : Int32)), .unset, .unset, .unset, .unset, .unset] [(.int (0 : Int32))])) (fun t k => XS.iload X0.here hx rfl (hb hby at_5) rfl k) ?_
    refine Goes.to (T' := s₁.setTop (mkF m 10 #[.val (.int p0), .val (.int p1), .val (.long q2), .second, .val (.int (0 : Int32)), .unset, .unset, .unset, .unset, .unset] [])) (fun t k => XS.ifNo X0.here hx rfl (hb hby at_7) rfl ((if0 _ _).trans (teq (by decide)).2) k) ?_
    refine Goes.to (T' := s₁.setTop (mkF m 11 #[.val (.int p0), .val (.int p1), .val (.long q2), .second, .val (.int (0 : Int32)), .unset, .unset, .unset, .unset, .unset] [(.int p1)])) (fun t k => XS.iloadN X0.here hx rfl (hb hby at_10) rfl k) ?_
    refine Goes.to (T' := s₁.setTop (mkF m 13 #[.val (.int p0), .val (.int p1), .val (.long q2), .second, .val (.int (0 : Int32)), .unset, .unset, .unset, .unset, .unset] [(.int (65535 : Int32)), (.int p1)])) (X0.ldcInt hx hown (mvT hZ (hw _ (List.mem_of_getElem? (i := 0) rfl))) (g := (mkF m 11 #[.val (.int p0), .val (.int p1), .val (.long q2), .second, .val (.int (0 : Int32)), .unset, .unset, .unset, .unset, .unset] [(.int p1)])) rfl (hb hby at_11)) ?_
    refine Goes.to (T' := s₁.setTop (mkF m 14 #[.val (.int p0), .val (.int p1), .val (.long q2), .second, .val (.int (0 : Int32)), .unset, .unset, .unset, .unset, .unset] [(.int (p1 &&& (65535 : Int32)))])) (fun t k => XS.iand X0.here hx rfl (hb hby at_13) rfl k) ?_
    refine Goes.to (T' := s₁.setTop (mkF m 15 #[.val (.int p0), .val (.int p1), .val (.long q2), .second, .val (.int (0 : Int32)), .unset, .unset, .unset, .unset, .unset] [(.int (1 : Int32)), (.int (p1 &&& (65535 : Int32)))])) (fun t k => XS.iconst X0.here hx rfl (hb hby at_14) k) ?_
    refine Goes.to (T' := s₁.setTop (mkF m 16 #[.val (.int p0), .val (.int p1), .val (.long q2), .second, .val (.int (0 : Int32)), .unset, .unset, .unset, .unset, .unset] [(.int ((p1 &&& (65535 : Int32)) + (1 : Int32)))])) (fun t k => XS.iadd X0.here hx rfl (hb hby at_15) rfl k) ?_
    refine Goes.to (T' := s₁.setTop (mkF m 17 #[.val (.int p0), .val (.int p1), .val (.long q2), .second, .val (.int (0 : Int32)), .unset, .unset, .unset, .unset, .unset] [(.long (((p1 &&& (65535 : Int32)) + (1 : Int32)).toInt64))])) (fun t k => XS.i2l X0.here hx rfl (hb hby at_16) rfl k) ?_
    obtain ⟨ln, hl0, hl1, hl⟩ := own_ql p1
    obtain ⟨ql, hdl⟩ : ∃ z : Int64, z = (((p1 &&& (65535 : Int32)) + (1 : Int32)).toInt64) := ⟨_, rfl⟩
    rw [← hdl] at hl ⊢
    refine Goes.to (T' := s₁.setTop (mkF m 19 #[.val (.int p0), .val (.int p1), .val (.long q2), .second, .val (.int (0 : Int32)), .val (.long ql), .second, .unset, .unset, .unset] [])) (fun t k => XS.lstore X0.here hx rfl (hb hby at_17) rfl (l' := #[.val (.int p0), .val (.int p1), .val (.long q2), .second, .val (.int (0 : Int32)), .val (.long ql), .second, .unset, .unset, .unset]) rfl k) ?_
    refine Goes.to (T' := s₁.setTop (mkF m 20 #[.val (.int p0), .val (.int p1), .val (.long q2), .second, .val (.int (0 : Int32)), .val (.long ql), .second, .unset, .unset, .unset] [(.long q2)])) (fun t k => XS.lloadN X0.here hx rfl (hb hby at_19) rfl k) ?_
    refine Goes.to (T' := s₁.setTop (mkF m 23 #[.val (.int p0), .val (.int p1), .val (.long q2), .second, .val (.int (0 : Int32)), .val (.long ql), .second, .unset, .unset, .unset] [(.long (9223372036854775807 : Int64)), (.long q2)])) (X0.ldc2Long hx hown (mvT hZ (hw _ (List.mem_of_getElem? (i := 1) rfl))) (g := (mkF m 20 #[.val (.int p0), .val (.int p1), .val (.long q2), .second, .val (.int (0 : Int32)), .val (.long ql), .second, .unset, .unset, .unset] [(.long q2)])) rfl (hb hby at_20)) ?_
    refine Goes.to (T' := s₁.setTop (mkF m 24 #[.val (.int p0), .val (.int p1), .val (.long q2), .second, .val (.int (0 : Int32)), .val (.long ql), .second, .unset, .unset, .unset] [(.long (q2 &&& (9223372036854775807 : Int64)))])) (fun t k => XS.land X0.here hx rfl (hb hby at_23) rfl k) ?_
    have ha := own_qa q2
    obtain ⟨qa, hda⟩ : ∃ z : Int64, z = (q2 &&& (9223372036854775807 : Int64)) := ⟨_, rfl⟩
    rw [← hda] at ha ⊢
    refine Goes.to (T' := s₁.setTop (mkF m 26 #[.val (.int p0), .val (.int p1), .val (.long q2), .second, .val (.int (0 : Int32)), .val (.long ql), .second, .val (.long qa), .second, .unset] [])) (fun t k => XS.lstore X0.here hx rfl (hb hby at_24) rfl (l' := #[.val (.int p0), .val (.int p1), .val (.long q2), .second, .val (.int (0 : Int32)), .val (.long ql), .second, .val (.long qa), .second, .unset]) rfl k) ?_
    refine Goes.to (T' := s₁.setTop (mkF m 28 #[.val (.int p0), .val (.int p1), .val (.long q2), .second, .val (.int (0 : Int32)), .val (.long ql), .second, .val (.long qa), .second, .unset] [(.long ql)])) (fun t k => XS.lload X0.here hx rfl (hb hby at_26) rfl k) ?_
    refine Goes.to (T' := s₁.setTop (mkF m 29 #[.val (.int p0), .val (.int p1), .val (.long q2), .second, .val (.int (0 : Int32)), .val (.long ql), .second, .val (.long qa), .second, .unset] [(.double (FP.l2d ql))])) (fun t k => XS.l2dS X0.here hx rfl (hb hby at_28) rfl rfl k) ?_
    refine Goes.to (T' := s₁.setTop (mkF m 31 #[.val (.int p0), .val (.int p1), .val (.long q2), .second, .val (.int (0 : Int32)), .val (.long ql), .second, .val (.long qa), .second, .unset] [(.long qa), (.double (FP.l2d ql))])) (fun t k => XS.lload X0.here hx rfl (hb hby at_29) rfl k) ?_
    refine Goes.to (T' := s₁.setTop (mkF m 32 #[.val (.int p0), .val (.int p1), .val (.long q2), .second, .val (.int (0 : Int32)), .val (.long ql), .second, .val (.long qa), .second, .unset] [(.double (FP.l2d qa)), (.double (FP.l2d ql))])) (fun t k => XS.l2dS X0.here hx rfl (hb hby at_31) rfl rfl k) ?_
    obtain ⟨_, _, ⟨T2, L2, k2, n2⟩, -, X2, ⟨Lc2, hQ2, l2, y2, z2⟩, st2⟩ := Jvm.LawKit.callS X0 hx (y := (⟨"com/example/carve_spectrum/carvespectrum/PoissonTraffic", "timesStayFinite", "(DD)Z"⟩ : MethodName)) hown (mvT hZ (hw _ (List.mem_of_getElem? (i := 2) rfl))) (mvT hZ (hw _ (List.mem_of_getElem? (i := 3) rfl))) (mvT hZ (hw _ (List.mem_of_getElem? (i := 4) rfl))) (mvT hZ (hw _ (List.mem_of_getElem? (i := 5) rfl))) (by decide) (backOf (W := 0) (rmT l Z a0 hw [] (FP.l2d ql) (FP.l2d qa)  (-1 : Int32) (1 : Int32) h0 n0 O0  (own_m0 hl0 hl1 hl ha) (by decide)) hZ (hw _ (List.mem_of_getElem? (i := 5) rfl)) (hw _ (List.mem_of_getElem? (i := 4) rfl)) (by decide) (by decide)) (g := (mkF m 32 #[.val (.int p0), .val (.int p1), .val (.long q2), .second, .val (.int (0 : Int32)), .val (.long ql), .second, .val (.long qa), .second, .unset] [(.double (FP.l2d qa)), (.double (FP.l2d ql))])) rfl (by rw [hml]; rfl) (argsL := [(.double (FP.l2d ql)), (.double (FP.l2d qa))]) (rest := []) (lenOf pd_17 rfl) rfl (by show 2 * 0 + _ ≤ _; exact Nat.le_of_eq rfl) (hb hby at_32) (fun _ _ => ⟨rfl, e0, (by decide : 0 + 0 ≤ _), (by decide : 0 + 0 ≤ _)⟩)
    dsimp only [Pt.U, Pt.locs, Pt.cells, Pt.slots] at X2 l2 y2 z2 st2 hQ2
    subst l2 y2 z2
    obtain ⟨rfl, Nq2, e2⟩ := hQ2
    have N2 := Fr.app N0 Nq2
    refine Goes.to (T' := T2.setTop (mkF m 35 #[.val (.int p0), .val (.int p1), .val (.long q2), .second, .val (.int (0 : Int32)), .val (.long ql), .second, .val (.long qa), .second, .unset] [(.int (1 : Int32))])) st2 ?_
    obtain ⟨fs, hrL, hrun, hended, hW, hsame⟩ := X2.leave (v := some (.int (1 : Int32))) (fun h => by rw [Bd.returns] at h; cases h)
    subst hQf
    refine ⟨_, _, retN X2 hx (t := .boolean) Bd.returns (by simp) (hb hby at_35) hrL, hrun, hended, _, _, rfl, ?_, ⟨_, rfl⟩, hW, hsame.mono (by decide) (by decide)⟩
    show (fun (v : Option Value) (h : Heap) (L : List Loc) => v = some (.int 1) ∧ Fr n0 L) (some (.int (1 : Int32))) T2.heap _
    rw [e2]
    exact ⟨rfl, N2⟩
  · rw [hv_1]
    refine Goes.to (T' := s₁.setTop (mkF m 5 #[.val (.int p0), .val (.int p1), .val (.long q2), .second, .val (.int (1 : Int32)), .unset, .unset, .unset, .unset, .unset] [])) (fun t k => XS.istore X0.here hx rfl (hb hby at_3) rfl (l' := #[.val (.int p0), .val (.int p1), .val (.long q2), .second, .val (.int (1 : Int32)), .unset, .unset, .unset, .unset, .unset]) rfl k) ?_
    refine Goes.to (T' := s₁.setTop (mkF m 7 #[.val (.int p0), .val (.int p1), .val (.long q2), .second, .val (.int (1 : Int32)), .unset, .unset, .unset, .unset, .unset] [(.int (1 : Int32))])) (fun t k => XS.iload X0.here hx rfl (hb hby at_5) rfl k) ?_
    refine Goes.to (T' := s₁.setTop (mkF m 36 #[.val (.int p0), .val (.int p1), .val (.long q2), .second, .val (.int (1 : Int32)), .unset, .unset, .unset, .unset, .unset] [])) (fun t k => XS.ifYes X0.here hx rfl (pc0 := 7) (pc' := 36) rfl (hb hby at_7) rfl ((if0 _ _).trans (feq (by decide)).2) (by decide) (by decide) k) ?_
    refine Goes.to (T' := s₁.setTop (mkF m 38 #[.val (.int p0), .val (.int p1), .val (.long q2), .second, .val (.int (1 : Int32)), .unset, .unset, .unset, .unset, .unset] [(.int (1 : Int32))])) (fun t k => XS.iload X0.here hx rfl (hb hby at_36) rfl k) ?_
    refine Goes.to (T' := s₁.setTop (mkF m 39 #[.val (.int p0), .val (.int p1), .val (.long q2), .second, .val (.int (1 : Int32)), .unset, .unset, .unset, .unset, .unset] [(.int (1 : Int32)), (.int (1 : Int32))])) (fun t k => XS.iconst X0.here hx rfl (hb hby at_38) k) ?_
    refine Goes.to (T' := s₁.setTop (mkF m 42 #[.val (.int p0), .val (.int p1), .val (.long q2), .second, .val (.int (1 : Int32)), .unset, .unset, .unset, .unset, .unset] [])) (fun t k => XS.icmpNo X0.here hx rfl (hb hby at_39) rfl (teq (by decide)).2 k) ?_
    refine Goes.to (T' := s₁.setTop (mkF m 43 #[.val (.int p0), .val (.int p1), .val (.long q2), .second, .val (.int (1 : Int32)), .unset, .unset, .unset, .unset, .unset] [(.int p1)])) (fun t k => XS.iloadN X0.here hx rfl (hb hby at_42) rfl k) ?_
    refine Goes.to (T' := s₁.setTop (mkF m 45 #[.val (.int p0), .val (.int p1), .val (.long q2), .second, .val (.int (1 : Int32)), .unset, .unset, .unset, .unset, .unset] [(.int (65535 : Int32)), (.int p1)])) (X0.ldcInt hx hown (mvT hZ (hw _ (List.mem_of_getElem? (i := 0) rfl))) (g := (mkF m 43 #[.val (.int p0), .val (.int p1), .val (.long q2), .second, .val (.int (1 : Int32)), .unset, .unset, .unset, .unset, .unset] [(.int p1)])) rfl (hb hby at_43)) ?_
    refine Goes.to (T' := s₁.setTop (mkF m 46 #[.val (.int p0), .val (.int p1), .val (.long q2), .second, .val (.int (1 : Int32)), .unset, .unset, .unset, .unset, .unset] [(.int (p1 &&& (65535 : Int32)))])) (fun t k => XS.iand X0.here hx rfl (hb hby at_45) rfl k) ?_
    refine Goes.to (T' := s₁.setTop (mkF m 47 #[.val (.int p0), .val (.int p1), .val (.long q2), .second, .val (.int (1 : Int32)), .unset, .unset, .unset, .unset, .unset] [(.int (1 : Int32)), (.int (p1 &&& (65535 : Int32)))])) (fun t k => XS.iconst X0.here hx rfl (hb hby at_46) k) ?_
    refine Goes.to (T' := s₁.setTop (mkF m 48 #[.val (.int p0), .val (.int p1), .val (.long q2), .second, .val (.int (1 : Int32)), .unset, .unset, .unset, .unset, .unset] [(.int ((p1 &&& (65535 : Int32)) + (1 : Int32)))])) (fun t k => XS.iadd X0.here hx rfl (hb hby at_47) rfl k) ?_
    refine Goes.to (T' := s₁.setTop (mkF m 49 #[.val (.int p0), .val (.int p1), .val (.long q2), .second, .val (.int (1 : Int32)), .unset, .unset, .unset, .unset, .unset] [(.long (((p1 &&& (65535 : Int32)) + (1 : Int32)).toInt64))])) (fun t k => XS.i2l X0.here hx rfl (hb hby at_48) rfl k) ?_
    obtain ⟨ln, hl0, hl1, hl⟩ := own_ql p1
    obtain ⟨ql, hdl⟩ : ∃ z : Int64, z = (((p1 &&& (65535 : Int32)) + (1 : Int32)).toInt64) := ⟨_, rfl⟩
    rw [← hdl] at hl ⊢
    refine Goes.to (T' := s₁.setTop (mkF m 51 #[.val (.int p0), .val (.int p1), .val (.long q2), .second, .val (.int (1 : Int32)), .val (.long ql), .second, .unset, .unset, .unset] [])) (fun t k => XS.lstore X0.here hx rfl (hb hby at_49) rfl (l' := #[.val (.int p0), .val (.int p1), .val (.long q2), .second, .val (.int (1 : Int32)), .val (.long ql), .second, .unset, .unset, .unset]) rfl k) ?_
    have J70 : ∀ (TJ3 : State) (locsJ3 : List Loc) (qa : Int64) (XJ3 : Stand p l e room_1 s m #[(.int p0), (.int p1), (.long q2)] below meth c TJ3 locsJ3 0 0) (eJ3 : TJ3.heap = h0) (NJ3 : Fr n0 locsJ3) (ha : 0 ≤ qa.toInt ∧ qa.toInt < 2147483648), Goes p.tables e below Qf (TJ3.setTop (mkF m 70 #[.val (.int p0), .val (.int p1), .val (.long q2), .second, .val (.int (1 : Int32)), .val (.long ql), .second, .unset, .unset, .unset] [(.long qa)])) := by
      intro TJ3 locsJ3 qa XJ3 eJ3 NJ3 ha
      refine Goes.to (T' := TJ3.setTop (mkF m 72 #[.val (.int p0), .val (.int p1), .val (.long q2), .second, .val (.int (1 : Int32)), .val (.long ql), .second, .val (.long qa), .second, .unset] [])) (fun t k => XS.lstore XJ3.here hx rfl (hb hby at_70) rfl (l' := #[.val (.int p0), .val (.int p1), .val (.long q2), .second, .val (.int (1 : Int32)), .val (.long ql), .second, .val (.long qa), .second, .unset]) rfl k) ?_
      refine Goes.to (T' := TJ3.setTop (mkF m 74 #[.val (.int p0), .val (.int p1), .val (.long q2), .second, .val (.int (1 : Int32)), .val (.long ql), .second, .val (.long qa), .second, .unset] [(.long ql)])) (fun t k => XS.lload XJ3.here hx rfl (hb hby at_72) rfl k) ?_
      refine Goes.to (T' := TJ3.setTop (mkF m 75 #[.val (.int p0), .val (.int p1), .val (.long q2), .second, .val (.int (1 : Int32)), .val (.long ql), .second, .val (.long qa), .second, .unset] [(.double (FP.l2d ql))])) (fun t k => XS.l2dS XJ3.here hx rfl (hb hby at_74) rfl rfl k) ?_
      refine Goes.to (T' := TJ3.setTop (mkF m 78 #[.val (.int p0), .val (.int p1), .val (.long q2), .second, .val (.int (1 : Int32)), .val (.long ql), .second, .val (.long qa), .second, .unset] [(.double (1 : UInt64)), (.double (FP.l2d ql))])) (XJ3.ldc2DoubleC hx hown (mvT hZ (hw _ (List.mem_of_getElem? (i := 12) rfl))) (g := (mkF m 75 #[.val (.int p0), .val (.int p1), .val (.long q2), .second, .val (.int (1 : Int32)), .val (.long ql), .second, .val (.long qa), .second, .unset] [(.double (FP.l2d ql))])) rfl (hb hby at_75)) ?_
      refine Goes.to (T' := TJ3.setTop (mkF m 79 #[.val (.int p0), .val (.int p1), .val (.long q2), .second, .val (.int (1 : Int32)), .val (.long ql), .second, .val (.long qa), .second, .unset] [(.double (FP.dmul (FP.l2d ql) (1 : UInt64)))])) (fun t k => XS.dmulS XJ3.here hx rfl (hb hby at_78) rfl (own_x0 hl1 hl).no rfl k) ?_
      refine Goes.to (T' := TJ3.setTop (mkF m 81 #[.val (.int p0), .val (.int p1), .val (.long q2), .second, .val (.int (1 : Int32)), .val (.long ql), .second, .val (.long qa), .second, .unset] [(.long qa), (.double (FP.dmul (FP.l2d ql) (1 : UInt64)))])) (fun t k => XS.lload XJ3.here hx rfl (hb hby at_79) rfl k) ?_
      refine Goes.to (T' := TJ3.setTop (mkF m 82 #[.val (.int p0), .val (.int p1), .val (.long q2), .second, .val (.int (1 : Int32)), .val (.long ql), .second, .val (.long qa), .second, .unset] [(.double (FP.l2d qa)), (.double (FP.dmul (FP.l2d ql) (1 : UInt64)))])) (fun t k => XS.l2dS XJ3.here hx rfl (hb hby at_81) rfl rfl k) ?_
      rcases Decidable.em (qa = (0 : Int64)) with hk4 | hk4
      · skip
        obtain ⟨_, _, ⟨T5, L5, k5, n5⟩, -, X5, ⟨Lc5, hQ5, l5, y5, z5⟩, st5⟩ := Jvm.LawKit.callS XJ3 hx (y := (⟨"com/example/carve_spectrum/carvespectrum/PoissonTraffic", "timesStayFinite", "(DD)Z"⟩ : MethodName)) hown (mvT hZ (hw _ (List.mem_of_getElem? (i := 2) rfl))) (mvT hZ (hw _ (List.mem_of_getElem? (i := 3) rfl))) (mvT hZ (hw _ (List.mem_of_getElem? (i := 4) rfl))) (mvT hZ (hw _ (List.mem_of_getElem? (i := 5) rfl))) (by decide) (backOf (W := 0) (rmT l Z a0 hw [] (FP.dmul (FP.l2d ql) (1 : UInt64)) (FP.l2d qa)  (-1 : Int32) (1 : Int32) h0 n0 O0  (by rw [hk4]; exact own_m1a hl0 hl1 hl) (by decide)) hZ (hw _ (List.mem_of_getElem? (i := 5) rfl)) (hw _ (List.mem_of_getElem? (i := 4) rfl)) (by decide) (by decide)) (g := (mkF m 82 #[.val (.int p0), .val (.int p1), .val (.long q2), .second, .val (.int (1 : Int32)), .val (.long ql), .second, .val (.long qa), .second, .unset] [(.double (FP.l2d qa)), (.double (FP.dmul (FP.l2d ql) (1 : UInt64)))])) rfl (by rw [hml]; rfl) (argsL := [(.double (FP.dmul (FP.l2d ql) (1 : UInt64))), (.double (FP.l2d qa))]) (rest := []) (lenOf pd_17 rfl) rfl (by show 2 * 0 + _ ≤ _; exact Nat.le_of_eq rfl) (hb hby at_82) (fun _ _ => ⟨rfl, eJ3, (by decide : 0 + 0 ≤ _), (by decide : 0 + 0 ≤ _)⟩)
        dsimp only [Pt.U, Pt.locs, Pt.cells, Pt.slots] at X5 l5 y5 z5 st5 hQ5
        subst l5 y5 z5
        obtain ⟨rfl, Nq5, e5⟩ := hQ5
        have N5 := Fr.app NJ3 Nq5
        refine Goes.to (T' := T5.setTop (mkF m 85 #[.val (.int p0), .val (.int p1), .val (.long q2), .second, .val (.int (1 : Int32)), .val (.long ql), .second, .val (.long qa), .second, .unset] [(.int (1 : Int32))])) st5 ?_
        refine Goes.to (T' := T5.setTop (mkF m 87 #[.val (.int p0), .val (.int p1), .val (.long q2), .second, .val (.int (1 : Int32)), .val (.long ql), .second, .val (.long qa), .second, .val (.int (1 : Int32))] [])) (fun t k => XS.istore X5.here hx rfl (hb hby at_85) rfl (l' := #[.val (.int p0), .val (.int p1), .val (.long q2), .second, .val (.int (1 : Int32)), .val (.long ql), .second, .val (.long qa), .second, .val (.int (1 : Int32))]) rfl k) ?_
        refine Goes.to (T' := T5.setTop (mkF m 89 #[.val (.int p0), .val (.int p1), .val (.long q2), .second, .val (.int (1 : Int32)), .val (.long ql), .second, .val (.long qa), .second, .val (.int (1 : Int32))] [(.int (1 : Int32))])) (fun t k => XS.iload X5.here hx rfl (hb hby at_87) rfl k) ?_
        refine Goes.to (T' := T5.setTop (mkF m 91 #[.val (.int p0), .val (.int p1), .val (.long q2), .second, .val (.int (1 : Int32)), .val (.long ql), .second, .val (.long qa), .second, .val (.int (1 : Int32))] [(.long qa), (.int (1 : Int32))])) (fun t k => XS.lload X5.here hx rfl (hb hby at_89) rfl k) ?_
        refine Goes.to (T' := T5.setTop (mkF m 92 #[.val (.int p0), .val (.int p1), .val (.long q2), .second, .val (.int (1 : Int32)), .val (.long ql), .second, .val (.long qa), .second, .val (.int (1 : Int32))] [(.long (0 : Int64)), (.long qa), (.int (1 : Int32))])) (fun t k => XS.lconst X5.here hx rfl (hb hby at_91) k) ?_
        refine Goes.to (T' := T5.setTop (mkF m 93 #[.val (.int p0), .val (.int p1), .val (.long q2), .second, .val (.int (1 : Int32)), .val (.long ql), .second, .val (.long qa), .second, .val (.int (1 : Int32))] [(.int (lcmpW qa (0 : Int64))), (.int (1 : Int32))])) (fun t k => XS.lcmp X5.here hx rfl (hb hby at_92) rfl k) ?_
        refine Goes.to (T' := T5.setTop (mkF m 96 #[.val (.int p0), .val (.int p1), .val (.long q2), .second, .val (.int (1 : Int32)), .val (.long ql), .second, .val (.long qa), .second, .val (.int (1 : Int32))] [(.int (1 : Int32))])) (fun t k => XS.ifNo X5.here hx rfl (hb hby at_93) rfl ((if0 _ _).trans (teq ((lw_eq qa (0 : Int64)).mpr hk4)).2) k) ?_
        refine Goes.to (T' := T5.setTop (mkF m 97 #[.val (.int p0), .val (.int p1), .val (.long q2), .second, .val (.int (1 : Int32)), .val (.long ql), .second, .val (.long qa), .second, .val (.int (1 : Int32))] [(.int (1 : Int32)), (.int (1 : Int32))])) (fun t k => XS.iconst X5.here hx rfl (hb hby at_96) k) ?_
        refine Goes.to (T' := T5.setTop (mkF m 101 #[.val (.int p0), .val (.int p1), .val (.long q2), .second, .val (.int (1 : Int32)), .val (.long ql), .second, .val (.long qa), .second, .val (.int (1 : Int32))] [(.int (1 : Int32)), (.int (1 : Int32))])) (fun t k => XS.goto X5.here hx rfl (pc0 := 97) (pc' := 101) rfl (hb hby at_97) (by decide) (by decide) k) ?_
        refine Goes.to (T' := T5.setTop (mkF m 104 #[.val (.int p0), .val (.int p1), .val (.long q2), .second, .val (.int (1 : Int32)), .val (.long ql), .second, .val (.long qa), .second, .val (.int (1 : Int32))] [])) (fun t k => XS.icmpNo X5.here hx rfl (hb hby at_101) rfl (teq (by decide)).2 k) ?_
        refine Goes.to (T' := T5.setTop (mkF m 105 #[.val (.int p0), .val (.int p1), .val (.long q2), .second, .val (.int (1 : Int32)), .val (.long ql), .second, .val (.long qa), .second, .val (.int (1 : Int32))] [(.int (1 : Int32))])) (fun t k => XS.iconst X5.here hx rfl (hb hby at_104) k) ?_
        refine Goes.to (T' := T5.setTop (mkF m 109 #[.val (.int p0), .val (.int p1), .val (.long q2), .second, .val (.int (1 : Int32)), .val (.long ql), .second, .val (.long qa), .second, .val (.int (1 : Int32))] [(.int (1 : Int32))])) (fun t k => XS.goto X5.here hx rfl (pc0 := 105) (pc' := 109) rfl (hb hby at_105) (by decide) (by decide) k) ?_
        obtain ⟨fs, hrL, hrun, hended, hW, hsame⟩ := X5.leave (v := some (.int (1 : Int32))) (fun h => by rw [Bd.returns] at h; cases h)
        subst hQf
        refine ⟨_, _, retN X5 hx (t := .boolean) Bd.returns (by simp) (hb hby at_109) hrL, hrun, hended, _, _, rfl, ?_, ⟨_, rfl⟩, hW, hsame.mono (by decide) (by decide)⟩
        show (fun (v : Option Value) (h : Heap) (L : List Loc) => v = some (.int 1) ∧ Fr n0 L) (some (.int (1 : Int32))) T5.heap _
        rw [e5]
        exact ⟨rfl, N5⟩
      · skip
        obtain ⟨_, _, ⟨T6, L6, k6, n6⟩, -, X6, ⟨Lc6, hQ6, l6, y6, z6⟩, st6⟩ := Jvm.LawKit.callS XJ3 hx (y := (⟨"com/example/carve_spectrum/carvespectrum/PoissonTraffic", "timesStayFinite", "(DD)Z"⟩ : MethodName)) hown (mvT hZ (hw _ (List.mem_of_getElem? (i := 2) rfl))) (mvT hZ (hw _ (List.mem_of_getElem? (i := 3) rfl))) (mvT hZ (hw _ (List.mem_of_getElem? (i := 4) rfl))) (mvT hZ (hw _ (List.mem_of_getElem? (i := 5) rfl))) (by decide) (backOf (W := 0) (rmT l Z a0 hw [] (FP.dmul (FP.l2d ql) (1 : UInt64)) (FP.l2d qa)  (0 : Int32) (0 : Int32) h0 n0 O0  (own_m1b hl0 hl1 hl ha hk4) (by decide)) hZ (hw _ (List.mem_of_getElem? (i := 5) rfl)) (hw _ (List.mem_of_getElem? (i := 4) rfl)) (by decide) (by decide)) (g := (mkF m 82 #[.val (.int p0), .val (.int p1), .val (.long q2), .second, .val (.int (1 : Int32)), .val (.long ql), .second, .val (.long qa), .second, .unset] [(.double (FP.l2d qa)), (.double (FP.dmul (FP.l2d ql) (1 : UInt64)))])) rfl (by rw [hml]; rfl) (argsL := [(.double (FP.dmul (FP.l2d ql) (1 : UInt64))), (.double (FP.l2d qa))]) (rest := []) (lenOf pd_17 rfl) rfl (by show 2 * 0 + _ ≤ _; exact Nat.le_of_eq rfl) (hb hby at_82) (fun _ _ => ⟨rfl, eJ3, (by decide : 0 + 0 ≤ _), (by decide : 0 + 0 ≤ _)⟩)
        dsimp only [Pt.U, Pt.locs, Pt.cells, Pt.slots] at X6 l6 y6 z6 st6 hQ6
        subst l6 y6 z6
        obtain ⟨rfl, Nq6, e6⟩ := hQ6
        have N6 := Fr.app NJ3 Nq6
        refine Goes.to (T' := T6.setTop (mkF m 85 #[.val (.int p0), .val (.int p1), .val (.long q2), .second, .val (.int (1 : Int32)), .val (.long ql), .second, .val (.long qa), .second, .unset] [(.int (0 : Int32))])) st6 ?_
        refine Goes.to (T' := T6.setTop (mkF m 87 #[.val (.int p0), .val (.int p1), .val (.long q2), .second, .val (.int (1 : Int32)), .val (.long ql), .second, .val (.long qa), .second, .val (.int (0 : Int32))] [])) (fun t k => XS.istore X6.here hx rfl (hb hby at_85) rfl (l' := #[.val (.int p0), .val (.int p1), .val (.long q2), .second, .val (.int (1 : Int32)), .val (.long ql), .second, .val (.long qa), .second, .val (.int (0 : Int32))]) rfl k) ?_
        refine Goes.to (T' := T6.setTop (mkF m 89 #[.val (.int p0), .val (.int p1), .val (.long q2), .second, .val (.int (1 : Int32)), .val (.long ql), .second, .val (.long qa), .second, .val (.int (0 : Int32))] [(.int (0 : Int32))])) (fun t k => XS.iload X6.here hx rfl (hb hby at_87) rfl k) ?_
        refine Goes.to (T' := T6.setTop (mkF m 91 #[.val (.int p0), .val (.int p1), .val (.long q2), .second, .val (.int (1 : Int32)), .val (.long ql), .second, .val (.long qa), .second, .val (.int (0 : Int32))] [(.long qa), (.int (0 : Int32))])) (fun t k => XS.lload X6.here hx rfl (hb hby at_89) rfl k) ?_
        refine Goes.to (T' := T6.setTop (mkF m 92 #[.val (.int p0), .val (.int p1), .val (.long q2), .second, .val (.int (1 : Int32)), .val (.long ql), .second, .val (.long qa), .second, .val (.int (0 : Int32))] [(.long (0 : Int64)), (.long qa), (.int (0 : Int32))])) (fun t k => XS.lconst X6.here hx rfl (hb hby at_91) k) ?_
        refine Goes.to (T' := T6.setTop (mkF m 93 #[.val (.int p0), .val (.int p1), .val (.long q2), .second, .val (.int (1 : Int32)), .val (.long ql), .second, .val (.long qa), .second, .val (.int (0 : Int32))] [(.int (lcmpW qa (0 : Int64))), (.int (0 : Int32))])) (fun t k => XS.lcmp X6.here hx rfl (hb hby at_92) rfl k) ?_
        refine Goes.to (T' := T6.setTop (mkF m 100 #[.val (.int p0), .val (.int p1), .val (.long q2), .second, .val (.int (1 : Int32)), .val (.long ql), .second, .val (.long qa), .second, .val (.int (0 : Int32))] [(.int (0 : Int32))])) (fun t k => XS.ifYes X6.here hx rfl (pc0 := 93) (pc' := 100) rfl (hb hby at_93) rfl ((if0 _ _).trans (feq (fun q => hk4 ((lw_eq qa (0 : Int64)).mp q))).2) (by decide) (by decide) k) ?_
        refine Goes.to (T' := T6.setTop (mkF m 101 #[.val (.int p0), .val (.int p1), .val (.long q2), .second, .val (.int (1 : Int32)), .val (.long ql), .second, .val (.long qa), .second, .val (.int (0 : Int32))] [(.int (0 : Int32)), (.int (0 : Int32))])) (fun t k => XS.iconst X6.here hx rfl (hb hby at_100) k) ?_
        refine Goes.to (T' := T6.setTop (mkF m 104 #[.val (.int p0), .val (.int p1), .val (.long q2), .second, .val (.int (1 : Int32)), .val (.long ql), .second, .val (.long qa), .second, .val (.int (0 : Int32))] [])) (fun t k => XS.icmpNo X6.here hx rfl (hb hby at_101) rfl (teq (by decide)).2 k) ?_
        refine Goes.to (T' := T6.setTop (mkF m 105 #[.val (.int p0), .val (.int p1), .val (.long q2), .second, .val (.int (1 : Int32)), .val (.long ql), .second, .val (.long qa), .second, .val (.int (0 : Int32))] [(.int (1 : Int32))])) (fun t k => XS.iconst X6.here hx rfl (hb hby at_104) k) ?_
        refine Goes.to (T' := T6.setTop (mkF m 109 #[.val (.int p0), .val (.int p1), .val (.long q2), .second, .val (.int (1 : Int32)), .val (.long ql), .second, .val (.long qa), .second, .val (.int (0 : Int32))] [(.int (1 : Int32))])) (fun t k => XS.goto X6.here hx rfl (pc0 := 105) (pc' := 109) rfl (hb hby at_105) (by decide) (by decide) k) ?_
        obtain ⟨fs, hrL, hrun, hended, hW, hsame⟩ := X6.leave (v := some (.int (1 : Int32))) (fun h => by rw [Bd.returns] at h; cases h)
        subst hQf
        refine ⟨_, _, retN X6 hx (t := .boolean) Bd.returns (by simp) (hb hby at_109) hrL, hrun, hended, _, _, rfl, ?_, ⟨_, rfl⟩, hW, hsame.mono (by decide) (by decide)⟩
        show (fun (v : Option Value) (h : Heap) (L : List Loc) => v = some (.int 1) ∧ Fr n0 L) (some (.int (1 : Int32))) T6.heap _
        rw [e6]
        exact ⟨rfl, N6⟩
    refine Goes.to (T' := s₁.setTop (mkF m 52 #[.val (.int p0), .val (.int p1), .val (.long q2), .second, .val (.int (1 : Int32)), .val (.long ql), .second, .unset, .unset, .unset] [(.long q2)])) (fun t k => XS.lloadN X0.here hx rfl (hb hby at_51) rfl k) ?_
    refine Goes.to (T' := s₁.setTop (mkF m 53 #[.val (.int p0), .val (.int p1), .val (.long q2), .second, .val (.int (1 : Int32)), .val (.long ql), .second, .unset, .unset, .unset] [(.long (1 : Int64)), (.long q2)])) (fun t k => XS.lconst X0.here hx rfl (hb hby at_52) k) ?_
    refine Goes.to (T' := s₁.setTop (mkF m 54 #[.val (.int p0), .val (.int p1), .val (.long q2), .second, .val (.int (1 : Int32)), .val (.long ql), .second, .unset, .unset, .unset] [(.long (q2 &&& (1 : Int64)))])) (fun t k => XS.land X0.here hx rfl (hb hby at_53) rfl k) ?_
    refine Goes.to (T' := s₁.setTop (mkF m 55 #[.val (.int p0), .val (.int p1), .val (.long q2), .second, .val (.int (1 : Int32)), .val (.long ql), .second, .unset, .unset, .unset] [(.long (0 : Int64)), (.long (q2 &&& (1 : Int64)))])) (fun t k => XS.lconst X0.here hx rfl (hb hby at_54) k) ?_
    refine Goes.to (T' := s₁.setTop (mkF m 56 #[.val (.int p0), .val (.int p1), .val (.long q2), .second, .val (.int (1 : Int32)), .val (.long ql), .second, .unset, .unset, .unset] [(.int (lcmpW (q2 &&& (1 : Int64)) (0 : Int64)))])) (fun t k => XS.lcmp X0.here hx rfl (hb hby at_55) rfl k) ?_
    rcases Decidable.em ((q2 &&& (1 : Int64)) = (0 : Int64)) with hc56_7 | hc56_7
    · skip
      refine Goes.to (T' := s₁.setTop (mkF m 59 #[.val (.int p0), .val (.int p1), .val (.long q2), .second, .val (.int (1 : Int32)), .val (.long ql), .second, .unset, .unset, .unset] [])) (fun t k => XS.ifNo X0.here hx rfl (hb hby at_56) rfl ((if0 _ _).trans (teq ((lw_eq (q2 &&& (1 : Int64)) (0 : Int64)).mpr hc56_7)).2) k) ?_
      refine Goes.to (T' := s₁.setTop (mkF m 60 #[.val (.int p0), .val (.int p1), .val (.long q2), .second, .val (.int (1 : Int32)), .val (.long ql), .second, .unset, .unset, .unset] [(.long (0 : Int64))])) (fun t k => XS.lconst X0.here hx rfl (hb hby at_59) k) ?_
      refine Goes.to (T' := s₁.setTop (mkF m 70 #[.val (.int p0), .val (.int p1), .val (.long q2), .second, .val (.int (1 : Int32)), .val (.long ql), .second, .unset, .unset, .unset] [(.long (0 : Int64))])) (fun t k => XS.goto X0.here hx rfl (pc0 := 60) (pc' := 70) rfl (hb hby at_60) (by decide) (by decide) k) ?_
      exact J70 _ _ (0 : Int64) X0 e0 N0 (by decide)
    · skip
      refine Goes.to (T' := s₁.setTop (mkF m 63 #[.val (.int p0), .val (.int p1), .val (.long q2), .second, .val (.int (1 : Int32)), .val (.long ql), .second, .unset, .unset, .unset] [])) (fun t k => XS.ifYes X0.here hx rfl (pc0 := 56) (pc' := 63) rfl (hb hby at_56) rfl ((if0 _ _).trans (feq (fun q => hc56_7 ((lw_eq (q2 &&& (1 : Int64)) (0 : Int64)).mp q))).2) (by decide) (by decide) k) ?_
      refine Goes.to (T' := s₁.setTop (mkF m 64 #[.val (.int p0), .val (.int p1), .val (.long q2), .second, .val (.int (1 : Int32)), .val (.long ql), .second, .unset, .unset, .unset] [(.long q2)])) (fun t k => XS.lloadN X0.here hx rfl (hb hby at_63) rfl k) ?_
      refine Goes.to (T' := s₁.setTop (mkF m 65 #[.val (.int p0), .val (.int p1), .val (.long q2), .second, .val (.int (1 : Int32)), .val (.long ql), .second, .unset, .unset, .unset] [(.int (1 : Int32)), (.long q2)])) (fun t k => XS.iconst X0.here hx rfl (hb hby at_64) k) ?_
      refine Goes.to (T' := s₁.setTop (mkF m 66 #[.val (.int p0), .val (.int p1), .val (.long q2), .second, .val (.int (1 : Int32)), .val (.long ql), .second, .unset, .unset, .unset] [(.long ((q2.toUInt64 >>> ((1 : Int32) &&& 0x3f).toInt64.toUInt64).toInt64))])) (fun t k => XS.lushr X0.here hx rfl (hb hby at_65) rfl k) ?_
      refine Goes.to (T' := s₁.setTop (mkF m 69 #[.val (.int p0), .val (.int p1), .val (.long q2), .second, .val (.int (1 : Int32)), .val (.long ql), .second, .unset, .unset, .unset] [(.long (2147483647 : Int64)), (.long ((q2.toUInt64 >>> ((1 : Int32) &&& 0x3f).toInt64.toUInt64).toInt64))])) (X0.ldc2Long hx hown (mvT hZ (hw _ (List.mem_of_getElem? (i := 11) rfl))) (g := (mkF m 66 #[.val (.int p0), .val (.int p1), .val (.long q2), .second, .val (.int (1 : Int32)), .val (.long ql), .second, .unset, .unset, .unset] [(.long ((q2.toUInt64 >>> ((1 : Int32) &&& 0x3f).toInt64.toUInt64).toInt64))])) rfl (hb hby at_66)) ?_
      refine Goes.to (T' := s₁.setTop (mkF m 70 #[.val (.int p0), .val (.int p1), .val (.long q2), .second, .val (.int (1 : Int32)), .val (.long ql), .second, .unset, .unset, .unset] [(.long (((q2.toUInt64 >>> ((1 : Int32) &&& 0x3f).toInt64.toUInt64).toInt64) &&& (2147483647 : Int64)))])) (fun t k => XS.land X0.here hx rfl (hb hby at_69) rfl k) ?_
      exact J70 _ _ (((q2.toUInt64 >>> ((1 : Int32) &&& 0x3f).toInt64.toUInt64).toInt64) &&& (2147483647 : Int64)) X0 e0 N0 (own_qa1 _)
  · rw [hv_1]
    refine Goes.to (T' := s₁.setTop (mkF m 5 #[.val (.int p0), .val (.int p1), .val (.long q2), .second, .val (.int (2 : Int32)), .unset, .unset, .unset, .unset, .unset] [])) (fun t k => XS.istore X0.here hx rfl (hb hby at_3) rfl (l' := #[.val (.int p0), .val (.int p1), .val (.long q2), .second, .val (.int (2 : Int32)), .unset, .unset, .unset, .unset, .unset]) rfl k) ?_
    refine Goes.to (T' := s₁.setTop (mkF m 7 #[.val (.int p0), .val (.int p1), .val (.long q2), .second, .val (.int (2 : Int32)), .unset, .unset, .unset, .unset, .unset] [(.int (2 : Int32))])) (fun t k => XS.iload X0.here hx rfl (hb hby at_5) rfl k) ?_
    refine Goes.to (T' := s₁.setTop (mkF m 36 #[.val (.int p0), .val (.int p1), .val (.long q2), .second, .val (.int (2 : Int32)), .unset, .unset, .unset, .unset, .unset] [])) (fun t k => XS.ifYes X0.here hx rfl (pc0 := 7) (pc' := 36) rfl (hb hby at_7) rfl ((if0 _ _).trans (feq (by decide)).2) (by decide) (by decide) k) ?_
    refine Goes.to (T' := s₁.setTop (mkF m 38 #[.val (.int p0), .val (.int p1), .val (.long q2), .second, .val (.int (2 : Int32)), .unset, .unset, .unset, .unset, .unset] [(.int (2 : Int32))])) (fun t k => XS.iload X0.here hx rfl (hb hby at_36) rfl k) ?_
    refine Goes.to (T' := s₁.setTop (mkF m 39 #[.val (.int p0), .val (.int p1), .val (.long q2), .second, .val (.int (2 : Int32)), .unset, .unset, .unset, .unset, .unset] [(.int (1 : Int32)), (.int (2 : Int32))])) (fun t k => XS.iconst X0.here hx rfl (hb hby at_38) k) ?_
    refine Goes.to (T' := s₁.setTop (mkF m 110 #[.val (.int p0), .val (.int p1), .val (.long q2), .second, .val (.int (2 : Int32)), .unset, .unset, .unset, .unset, .unset] [])) (fun t k => XS.icmpYes X0.here hx rfl (pc0 := 39) (pc' := 110) rfl (hb hby at_39) rfl (feq (by decide)).2 (by decide) (by decide) k) ?_
    refine Goes.to (T' := s₁.setTop (mkF m 112 #[.val (.int p0), .val (.int p1), .val (.long q2), .second, .val (.int (2 : Int32)), .unset, .unset, .unset, .unset, .unset] [(.int (2 : Int32))])) (fun t k => XS.iload X0.here hx rfl (hb hby at_110) rfl k) ?_
    refine Goes.to (T' := s₁.setTop (mkF m 113 #[.val (.int p0), .val (.int p1), .val (.long q2), .second, .val (.int (2 : Int32)), .unset, .unset, .unset, .unset, .unset] [(.int (2 : Int32)), (.int (2 : Int32))])) (fun t k => XS.iconst X0.here hx rfl (hb hby at_112) k) ?_
    refine Goes.to (T' := s₁.setTop (mkF m 116 #[.val (.int p0), .val (.int p1), .val (.long q2), .second, .val (.int (2 : Int32)), .unset, .unset, .unset, .unset, .unset] [])) (fun t k => XS.icmpNo X0.here hx rfl (hb hby at_113) rfl (teq (by decide)).2 k) ?_
    refine Goes.to (T' := s₁.setTop (mkF m 117 #[.val (.int p0), .val (.int p1), .val (.long q2), .second, .val (.int (2 : Int32)), .unset, .unset, .unset, .unset, .unset] [(.int p1)])) (fun t k => XS.iloadN X0.here hx rfl (hb hby at_116) rfl k) ?_
    refine Goes.to (T' := s₁.setTop (mkF m 120 #[.val (.int p0), .val (.int p1), .val (.long q2), .second, .val (.int (2 : Int32)), .unset, .unset, .unset, .unset, .unset] [(.int (255 : Int32)), (.int p1)])) (fun t k => XS.sipush X0.here hx rfl (hb hby at_117) k) ?_
    refine Goes.to (T' := s₁.setTop (mkF m 121 #[.val (.int p0), .val (.int p1), .val (.long q2), .second, .val (.int (2 : Int32)), .unset, .unset, .unset, .unset, .unset] [(.int (p1 &&& (255 : Int32)))])) (fun t k => XS.iand X0.here hx rfl (hb hby at_120) rfl k) ?_
    refine Goes.to (T' := s₁.setTop (mkF m 122 #[.val (.int p0), .val (.int p1), .val (.long q2), .second, .val (.int (2 : Int32)), .unset, .unset, .unset, .unset, .unset] [(.int (1 : Int32)), (.int (p1 &&& (255 : Int32)))])) (fun t k => XS.iconst X0.here hx rfl (hb hby at_121) k) ?_
    refine Goes.to (T' := s₁.setTop (mkF m 123 #[.val (.int p0), .val (.int p1), .val (.long q2), .second, .val (.int (2 : Int32)), .unset, .unset, .unset, .unset, .unset] [(.int ((p1 &&& (255 : Int32)) + (1 : Int32)))])) (fun t k => XS.iadd X0.here hx rfl (hb hby at_122) rfl k) ?_
    refine Goes.to (T' := s₁.setTop (mkF m 124 #[.val (.int p0), .val (.int p1), .val (.long q2), .second, .val (.int (2 : Int32)), .unset, .unset, .unset, .unset, .unset] [(.long (((p1 &&& (255 : Int32)) + (1 : Int32)).toInt64))])) (fun t k => XS.i2l X0.here hx rfl (hb hby at_123) rfl k) ?_
    obtain ⟨ln, hl0, hl1, hl⟩ := own_ql2 p1
    obtain ⟨ql, hdl⟩ : ∃ z : Int64, z = (((p1 &&& (255 : Int32)) + (1 : Int32)).toInt64) := ⟨_, rfl⟩
    rw [← hdl] at hl ⊢
    refine Goes.to (T' := s₁.setTop (mkF m 126 #[.val (.int p0), .val (.int p1), .val (.long q2), .second, .val (.int (2 : Int32)), .val (.long ql), .second, .unset, .unset, .unset] [])) (fun t k => XS.lstore X0.here hx rfl (hb hby at_124) rfl (l' := #[.val (.int p0), .val (.int p1), .val (.long q2), .second, .val (.int (2 : Int32)), .val (.long ql), .second, .unset, .unset, .unset]) rfl k) ?_
    refine Goes.to (T' := s₁.setTop (mkF m 127 #[.val (.int p0), .val (.int p1), .val (.long q2), .second, .val (.int (2 : Int32)), .val (.long ql), .second, .unset, .unset, .unset] [(.long q2)])) (fun t k => XS.lloadN X0.here hx rfl (hb hby at_126) rfl k) ?_
    refine Goes.to (T' := s₁.setTop (mkF m 130 #[.val (.int p0), .val (.int p1), .val (.long q2), .second, .val (.int (2 : Int32)), .val (.long ql), .second, .unset, .unset, .unset] [(.long (67108863 : Int64)), (.long q2)])) (X0.ldc2Long hx hown (mvT hZ (hw _ (List.mem_of_getElem? (i := 9) rfl))) (g := (mkF m 127 #[.val (.int p0), .val (.int p1), .val (.long q2), .second, .val (.int (2 : Int32)), .val (.long ql), .second, .unset, .unset, .unset] [(.long q2)])) rfl (hb hby at_127)) ?_
    refine Goes.to (T' := s₁.setTop (mkF m 131 #[.val (.int p0), .val (.int p1), .val (.long q2), .second, .val (.int (2 : Int32)), .val (.long ql), .second, .unset, .unset, .unset] [(.long (q2 &&& (67108863 : Int64)))])) (fun t k => XS.land X0.here hx rfl (hb hby at_130) rfl k) ?_
    have ha := own_qa2 q2
    obtain ⟨qa, hda⟩ : ∃ z : Int64, z = (q2 &&& (67108863 : Int64)) := ⟨_, rfl⟩
    rw [← hda] at ha ⊢
    refine Goes.to (T' := s₁.setTop (mkF m 133 #[.val (.int p0), .val (.int p1), .val (.long q2), .second, .val (.int (2 : Int32)), .val (.long ql), .second, .val (.long qa), .second, .unset] [])) (fun t k => XS.lstore X0.here hx rfl (hb hby at_131) rfl (l' := #[.val (.int p0), .val (.int p1), .val (.long q2), .second, .val (.int (2 : Int32)), .val (.long ql), .second, .val (.long qa), .second, .unset]) rfl k) ?_
    refine Goes.to (T' := s₁.setTop (mkF m 135 #[.val (.int p0), .val (.int p1), .val (.long q2), .second, .val (.int (2 : Int32)), .val (.long ql), .second, .val (.long qa), .second, .unset] [(.long ql)])) (fun t k => XS.lload X0.here hx rfl (hb hby at_133) rfl k) ?_
    refine Goes.to (T' := s₁.setTop (mkF m 136 #[.val (.int p0), .val (.int p1), .val (.long q2), .second, .val (.int (2 : Int32)), .val (.long ql), .second, .val (.long qa), .second, .unset] [(.double (FP.l2d ql))])) (fun t k => XS.l2dS X0.here hx rfl (hb hby at_135) rfl rfl k) ?_
    refine Goes.to (T' := s₁.setTop (mkF m 139 #[.val (.int p0), .val (.int p1), .val (.long q2), .second, .val (.int (2 : Int32)), .val (.long ql), .second, .val (.long qa), .second, .unset] [(.double (103582791429521408 : UInt64)), (.double (FP.l2d ql))])) (X0.ldc2DoubleC hx hown (mvT hZ (hw _ (List.mem_of_getElem? (i := 10) rfl))) (g := (mkF m 136 #[.val (.int p0), .val (.int p1), .val (.long q2), .second, .val (.int (2 : Int32)), .val (.long ql), .second, .val (.long qa), .second, .unset] [(.double (FP.l2d ql))])) rfl (hb hby at_136)) ?_
    refine Goes.to (T' := s₁.setTop (mkF m 140 #[.val (.int p0), .val (.int p1), .val (.long q2), .second, .val (.int (2 : Int32)), .val (.long ql), .second, .val (.long qa), .second, .unset] [(.double (FP.dmul (FP.l2d ql) (103582791429521408 : UInt64)))])) (fun t k => XS.dmulS X0.here hx rfl (hb hby at_139) rfl (own_x74 hl1 hl).no rfl k) ?_
    refine Goes.to (T' := s₁.setTop (mkF m 142 #[.val (.int p0), .val (.int p1), .val (.long q2), .second, .val (.int (2 : Int32)), .val (.long ql), .second, .val (.long qa), .second, .unset] [(.long qa), (.double (FP.dmul (FP.l2d ql) (103582791429521408 : UInt64)))])) (fun t k => XS.lload X0.here hx rfl (hb hby at_140) rfl k) ?_
    refine Goes.to (T' := s₁.setTop (mkF m 143 #[.val (.int p0), .val (.int p1), .val (.long q2), .second, .val (.int (2 : Int32)), .val (.long ql), .second, .val (.long qa), .second, .unset] [(.double (FP.l2d qa)), (.double (FP.dmul (FP.l2d ql) (103582791429521408 : UInt64)))])) (fun t k => XS.l2dS X0.here hx rfl (hb hby at_142) rfl rfl k) ?_
    rcases Decidable.em ((ql <<< ((17 : Int32) &&& 0x3f).toInt64) < qa) with hk8 | hk8
    · skip
      rcases Decidable.em (qa < (ql <<< ((18 : Int32) &&& 0x3f).toInt64)) with hk9 | hk9
      · skip
        obtain ⟨rcc, hrcc⟩ := (own_m2 hl0 hl1 hl ha).2.2
        obtain ⟨_, _, ⟨T10, L10, k10, n10⟩, -, X10, ⟨Lc10, hQ10, l10, y10, z10⟩, st10⟩ := Jvm.LawKit.callS X0 hx (y := (⟨"com/example/carve_spectrum/carvespectrum/PoissonTraffic", "timesStayFinite", "(DD)Z"⟩ : MethodName)) hown (mvT hZ (hw _ (List.mem_of_getElem? (i := 2) rfl))) (mvT hZ (hw _ (List.mem_of_getElem? (i := 3) rfl))) (mvT hZ (hw _ (List.mem_of_getElem? (i := 4) rfl))) (mvT hZ (hw _ (List.mem_of_getElem? (i := 5) rfl))) (by decide) (backOf (W := 0) (rmT l Z a0 hw [] (FP.dmul (FP.l2d ql) (103582791429521408 : UInt64)) (FP.l2d qa)  rcc (if rcc < (0 : Int32) then (1 : Int32) else 0) h0 n0 O0  hrcc rfl) hZ (hw _ (List.mem_of_getElem? (i := 5) rfl)) (hw _ (List.mem_of_getElem? (i := 4) rfl)) (by decide) (by decide)) (g := (mkF m 143 #[.val (.int p0), .val (.int p1), .val (.long q2), .second, .val (.int (2 : Int32)), .val (.long ql), .second, .val (.long qa), .second, .unset] [(.double (FP.l2d qa)), (.double (FP.dmul (FP.l2d ql) (103582791429521408 : UInt64)))])) rfl (by rw [hml]; rfl) (argsL := [(.double (FP.dmul (FP.l2d ql) (103582791429521408 : UInt64))), (.double (FP.l2d qa))]) (rest := []) (lenOf pd_17 rfl) rfl (by show 2 * 0 + _ ≤ _; exact Nat.le_of_eq rfl) (hb hby at_143) (fun _ _ => ⟨rfl, e0, (by decide : 0 + 0 ≤ _), (by decide : 0 + 0 ≤ _)⟩)
        dsimp only [Pt.U, Pt.locs, Pt.cells, Pt.slots] at X10 l10 y10 z10 st10 hQ10
        subst l10 y10 z10
        obtain ⟨rfl, Nq10, e10⟩ := hQ10
        have N10 := Fr.app N0 Nq10
        refine Goes.to (T' := T10.setTop (mkF m 146 #[.val (.int p0), .val (.int p1), .val (.long q2), .second, .val (.int (2 : Int32)), .val (.long ql), .second, .val (.long qa), .second, .unset] [(.int (if rcc < (0 : Int32) then (1 : Int32) else 0))])) st10 ?_
        refine Goes.to (T' := T10.setTop (mkF m 148 #[.val (.int p0), .val (.int p1), .val (.long q2), .second, .val (.int (2 : Int32)), .val (.long ql), .second, .val (.long qa), .second, .val (.int (if rcc < (0 : Int32) then (1 : Int32) else 0))] [])) (fun t k => XS.istore X10.here hx rfl (hb hby at_146) rfl (l' := #[.val (.int p0), .val (.int p1), .val (.long q2), .second, .val (.int (2 : Int32)), .val (.long ql), .second, .val (.long qa), .second, .val (.int (if rcc < (0 : Int32) then (1 : Int32) else 0))]) rfl k) ?_
        refine Goes.to (T' := T10.setTop (mkF m 150 #[.val (.int p0), .val (.int p1), .val (.long q2), .second, .val (.int (2 : Int32)), .val (.long ql), .second, .val (.long qa), .second, .val (.int (if rcc < (0 : Int32) then (1 : Int32) else 0))] [(.long qa)])) (fun t k => XS.lload X10.here hx rfl (hb hby at_148) rfl k) ?_
        refine Goes.to (T' := T10.setTop (mkF m 152 #[.val (.int p0), .val (.int p1), .val (.long q2), .second, .val (.int (2 : Int32)), .val (.long ql), .second, .val (.long qa), .second, .val (.int (if rcc < (0 : Int32) then (1 : Int32) else 0))] [(.long ql), (.long qa)])) (fun t k => XS.lload X10.here hx rfl (hb hby at_150) rfl k) ?_
        refine Goes.to (T' := T10.setTop (mkF m 154 #[.val (.int p0), .val (.int p1), .val (.long q2), .second, .val (.int (2 : Int32)), .val (.long ql), .second, .val (.long qa), .second, .val (.int (if rcc < (0 : Int32) then (1 : Int32) else 0))] [(.int (17 : Int32)), (.long ql), (.long qa)])) (fun t k => XS.bipush X10.here hx rfl (hb hby at_152) k) ?_
        refine Goes.to (T' := T10.setTop (mkF m 155 #[.val (.int p0), .val (.int p1), .val (.long q2), .second, .val (.int (2 : Int32)), .val (.long ql), .second, .val (.long qa), .second, .val (.int (if rcc < (0 : Int32) then (1 : Int32) else 0))] [(.long (ql <<< ((17 : Int32) &&& 0x3f).toInt64)), (.long qa)])) (fun t k => XS.lshl X10.here hx rfl (hb hby at_154) rfl k) ?_
        refine Goes.to (T' := T10.setTop (mkF m 156 #[.val (.int p0), .val (.int p1), .val (.long q2), .second, .val (.int (2 : Int32)), .val (.long ql), .second, .val (.long qa), .second, .val (.int (if rcc < (0 : Int32) then (1 : Int32) else 0))] [(.int (lcmpW qa (ql <<< ((17 : Int32) &&& 0x3f).toInt64)))])) (fun t k => XS.lcmp X10.here hx rfl (hb hby at_155) rfl k) ?_
        refine Goes.to (T' := T10.setTop (mkF m 162 #[.val (.int p0), .val (.int p1), .val (.long q2), .second, .val (.int (2 : Int32)), .val (.long ql), .second, .val (.long qa), .second, .val (.int (if rcc < (0 : Int32) then (1 : Int32) else 0))] [])) (fun t k => XS.ifYes X10.here hx rfl (pc0 := 156) (pc' := 162) rfl (hb hby at_156) rfl ((if0 _ _).trans (tlt ((lw_gt qa (ql <<< ((17 : Int32) &&& 0x3f).toInt64)).mpr hk8)).2.2.1) (by decide) (by decide) k) ?_
        refine Goes.to (T' := T10.setTop (mkF m 164 #[.val (.int p0), .val (.int p1), .val (.long q2), .second, .val (.int (2 : Int32)), .val (.long ql), .second, .val (.long qa), .second, .val (.int (if rcc < (0 : Int32) then (1 : Int32) else 0))] [(.long qa)])) (fun t k => XS.lload X10.here hx rfl (hb hby at_162) rfl k) ?_
        refine Goes.to (T' := T10.setTop (mkF m 166 #[.val (.int p0), .val (.int p1), .val (.long q2), .second, .val (.int (2 : Int32)), .val (.long ql), .second, .val (.long qa), .second, .val (.int (if rcc < (0 : Int32) then (1 : Int32) else 0))] [(.long ql), (.long qa)])) (fun t k => XS.lload X10.here hx rfl (hb hby at_164) rfl k) ?_
        refine Goes.to (T' := T10.setTop (mkF m 168 #[.val (.int p0), .val (.int p1), .val (.long q2), .second, .val (.int (2 : Int32)), .val (.long ql), .second, .val (.long qa), .second, .val (.int (if rcc < (0 : Int32) then (1 : Int32) else 0))] [(.int (18 : Int32)), (.long ql), (.long qa)])) (fun t k => XS.bipush X10.here hx rfl (hb hby at_166) k) ?_
        refine Goes.to (T' := T10.setTop (mkF m 169 #[.val (.int p0), .val (.int p1), .val (.long q2), .second, .val (.int (2 : Int32)), .val (.long ql), .second, .val (.long qa), .second, .val (.int (if rcc < (0 : Int32) then (1 : Int32) else 0))] [(.long (ql <<< ((18 : Int32) &&& 0x3f).toInt64)), (.long qa)])) (fun t k => XS.lshl X10.here hx rfl (hb hby at_168) rfl k) ?_
        refine Goes.to (T' := T10.setTop (mkF m 170 #[.val (.int p0), .val (.int p1), .val (.long q2), .second, .val (.int (2 : Int32)), .val (.long ql), .second, .val (.long qa), .second, .val (.int (if rcc < (0 : Int32) then (1 : Int32) else 0))] [(.int (lcmpW qa (ql <<< ((18 : Int32) &&& 0x3f).toInt64)))])) (fun t k => XS.lcmp X10.here hx rfl (hb hby at_169) rfl k) ?_
        refine Goes.to (T' := T10.setTop (mkF m 184 #[.val (.int p0), .val (.int p1), .val (.long q2), .second, .val (.int (2 : Int32)), .val (.long ql), .second, .val (.long qa), .second, .val (.int (if rcc < (0 : Int32) then (1 : Int32) else 0))] [])) (fun t k => XS.ifYes X10.here hx rfl (pc0 := 170) (pc' := 184) rfl (hb hby at_170) rfl ((if0 _ _).trans (tlt ((lw_lt qa (ql <<< ((18 : Int32) &&& 0x3f).toInt64)).mpr hk9)).1) (by decide) (by decide) k) ?_
        refine Goes.to (T' := T10.setTop (mkF m 185 #[.val (.int p0), .val (.int p1), .val (.long q2), .second, .val (.int (2 : Int32)), .val (.long ql), .second, .val (.long qa), .second, .val (.int (if rcc < (0 : Int32) then (1 : Int32) else 0))] [(.int (1 : Int32))])) (fun t k => XS.iconst X10.here hx rfl (hb hby at_184) k) ?_
        obtain ⟨fs, hrL, hrun, hended, hW, hsame⟩ := X10.leave (v := some (.int (1 : Int32))) (fun h => by rw [Bd.returns] at h; cases h)
        subst hQf
        refine ⟨_, _, retN X10 hx (t := .boolean) Bd.returns (by simp) (hb hby at_185) hrL, hrun, hended, _, _, rfl, ?_, ⟨_, rfl⟩, hW, hsame.mono (by decide) (by decide)⟩
        show (fun (v : Option Value) (h : Heap) (L : List Loc) => v = some (.int 1) ∧ Fr n0 L) (some (.int (1 : Int32))) T10.heap _
        rw [e10]
        exact ⟨rfl, N10⟩
      · skip
        obtain ⟨_, _, ⟨T11, L11, k11, n11⟩, -, X11, ⟨Lc11, hQ11, l11, y11, z11⟩, st11⟩ := Jvm.LawKit.callS X0 hx (y := (⟨"com/example/carve_spectrum/carvespectrum/PoissonTraffic", "timesStayFinite", "(DD)Z"⟩ : MethodName)) hown (mvT hZ (hw _ (List.mem_of_getElem? (i := 2) rfl))) (mvT hZ (hw _ (List.mem_of_getElem? (i := 3) rfl))) (mvT hZ (hw _ (List.mem_of_getElem? (i := 4) rfl))) (mvT hZ (hw _ (List.mem_of_getElem? (i := 5) rfl))) (by decide) (backOf (W := 0) (rmT l Z a0 hw [] (FP.dmul (FP.l2d ql) (103582791429521408 : UInt64)) (FP.l2d qa)  (0 : Int32) (0 : Int32) h0 n0 O0  ((own_m2 hl0 hl1 hl ha).2.1 hk9) (by decide)) hZ (hw _ (List.mem_of_getElem? (i := 5) rfl)) (hw _ (List.mem_of_getElem? (i := 4) rfl)) (by decide) (by decide)) (g := (mkF m 143 #[.val (.int p0), .val (.int p1), .val (.long q2), .second, .val (.int (2 : Int32)), .val (.long ql), .second, .val (.long qa), .second, .unset] [(.double (FP.l2d qa)), (.double (FP.dmul (FP.l2d ql) (103582791429521408 : UInt64)))])) rfl (by rw [hml]; rfl) (argsL := [(.double (FP.dmul (FP.l2d ql) (103582791429521408 : UInt64))), (.double (FP.l2d qa))]) (rest := []) (lenOf pd_17 rfl) rfl (by show 2 * 0 + _ ≤ _; exact Nat.le_of_eq rfl) (hb hby at_143) (fun _ _ => ⟨rfl, e0, (by decide : 0 + 0 ≤ _), (by decide : 0 + 0 ≤ _)⟩)
        dsimp only [Pt.U, Pt.locs, Pt.cells, Pt.slots] at X11 l11 y11 z11 st11 hQ11
        subst l11 y11 z11
        obtain ⟨rfl, Nq11, e11⟩ := hQ11
        have N11 := Fr.app N0 Nq11
        refine Goes.to (T' := T11.setTop (mkF m 146 #[.val (.int p0), .val (.int p1), .val (.long q2), .second, .val (.int (2 : Int32)), .val (.long ql), .second, .val (.long qa), .second, .unset] [(.int (0 : Int32))])) st11 ?_
        refine Goes.to (T' := T11.setTop (mkF m 148 #[.val (.int p0), .val (.int p1), .val (.long q2), .second, .val (.int (2 : Int32)), .val (.long ql), .second, .val (.long qa), .second, .val (.int (0 : Int32))] [])) (fun t k => XS.istore X11.here hx rfl (hb hby at_146) rfl (l' := #[.val (.int p0), .val (.int p1), .val (.long q2), .second, .val (.int (2 : Int32)), .val (.long ql), .second, .val (.long qa), .second, .val (.int (0 : Int32))]) rfl k) ?_
        refine Goes.to (T' := T11.setTop (mkF m 150 #[.val (.int p0), .val (.int p1), .val (.long q2), .second, .val (.int (2 : Int32)), .val (.long ql), .second, .val (.long qa), .second, .val (.int (0 : Int32))] [(.long qa)])) (fun t k => XS.lload X11.here hx rfl (hb hby at_148) rfl k) ?_
        refine Goes.to (T' := T11.setTop (mkF m 152 #[.val (.int p0), .val (.int p1), .val (.long q2), .second, .val (.int (2 : Int32)), .val (.long ql), .second, .val (.long qa), .second, .val (.int (0 : Int32))] [(.long ql), (.long qa)])) (fun t k => XS.lload X11.here hx rfl (hb hby at_150) rfl k) ?_
        refine Goes.to (T' := T11.setTop (mkF m 154 #[.val (.int p0), .val (.int p1), .val (.long q2), .second, .val (.int (2 : Int32)), .val (.long ql), .second, .val (.long qa), .second, .val (.int (0 : Int32))] [(.int (17 : Int32)), (.long ql), (.long qa)])) (fun t k => XS.bipush X11.here hx rfl (hb hby at_152) k) ?_
        refine Goes.to (T' := T11.setTop (mkF m 155 #[.val (.int p0), .val (.int p1), .val (.long q2), .second, .val (.int (2 : Int32)), .val (.long ql), .second, .val (.long qa), .second, .val (.int (0 : Int32))] [(.long (ql <<< ((17 : Int32) &&& 0x3f).toInt64)), (.long qa)])) (fun t k => XS.lshl X11.here hx rfl (hb hby at_154) rfl k) ?_
        refine Goes.to (T' := T11.setTop (mkF m 156 #[.val (.int p0), .val (.int p1), .val (.long q2), .second, .val (.int (2 : Int32)), .val (.long ql), .second, .val (.long qa), .second, .val (.int (0 : Int32))] [(.int (lcmpW qa (ql <<< ((17 : Int32) &&& 0x3f).toInt64)))])) (fun t k => XS.lcmp X11.here hx rfl (hb hby at_155) rfl k) ?_
        refine Goes.to (T' := T11.setTop (mkF m 162 #[.val (.int p0), .val (.int p1), .val (.long q2), .second, .val (.int (2 : Int32)), .val (.long ql), .second, .val (.long qa), .second, .val (.int (0 : Int32))] [])) (fun t k => XS.ifYes X11.here hx rfl (pc0 := 156) (pc' := 162) rfl (hb hby at_156) rfl ((if0 _ _).trans (tlt ((lw_gt qa (ql <<< ((17 : Int32) &&& 0x3f).toInt64)).mpr hk8)).2.2.1) (by decide) (by decide) k) ?_
        refine Goes.to (T' := T11.setTop (mkF m 164 #[.val (.int p0), .val (.int p1), .val (.long q2), .second, .val (.int (2 : Int32)), .val (.long ql), .second, .val (.long qa), .second, .val (.int (0 : Int32))] [(.long qa)])) (fun t k => XS.lload X11.here hx rfl (hb hby at_162) rfl k) ?_
        refine Goes.to (T' := T11.setTop (mkF m 166 #[.val (.int p0), .val (.int p1), .val (.long q2), .second, .val (.int (2 : Int32)), .val (.long ql), .second, .val (.long qa), .second, .val (.int (0 : Int32))] [(.long ql), (.long qa)])) (fun t k => XS.lload X11.here hx rfl (hb hby at_164) rfl k) ?_
        refine Goes.to (T' := T11.setTop (mkF m 168 #[.val (.int p0), .val (.int p1), .val (.long q2), .second, .val (.int (2 : Int32)), .val (.long ql), .second, .val (.long qa), .second, .val (.int (0 : Int32))] [(.int (18 : Int32)), (.long ql), (.long qa)])) (fun t k => XS.bipush X11.here hx rfl (hb hby at_166) k) ?_
        refine Goes.to (T' := T11.setTop (mkF m 169 #[.val (.int p0), .val (.int p1), .val (.long q2), .second, .val (.int (2 : Int32)), .val (.long ql), .second, .val (.long qa), .second, .val (.int (0 : Int32))] [(.long (ql <<< ((18 : Int32) &&& 0x3f).toInt64)), (.long qa)])) (fun t k => XS.lshl X11.here hx rfl (hb hby at_168) rfl k) ?_
        refine Goes.to (T' := T11.setTop (mkF m 170 #[.val (.int p0), .val (.int p1), .val (.long q2), .second, .val (.int (2 : Int32)), .val (.long ql), .second, .val (.long qa), .second, .val (.int (0 : Int32))] [(.int (lcmpW qa (ql <<< ((18 : Int32) &&& 0x3f).toInt64)))])) (fun t k => XS.lcmp X11.here hx rfl (hb hby at_169) rfl k) ?_
        refine Goes.to (T' := T11.setTop (mkF m 173 #[.val (.int p0), .val (.int p1), .val (.long q2), .second, .val (.int (2 : Int32)), .val (.long ql), .second, .val (.long qa), .second, .val (.int (0 : Int32))] [])) (fun t k => XS.ifNo X11.here hx rfl (hb hby at_170) rfl ((if0 _ _).trans (flt (fun q => hk9 ((lw_lt qa (ql <<< ((18 : Int32) &&& 0x3f).toInt64)).mp q))).1) k) ?_
        refine Goes.to (T' := T11.setTop (mkF m 175 #[.val (.int p0), .val (.int p1), .val (.long q2), .second, .val (.int (2 : Int32)), .val (.long ql), .second, .val (.long qa), .second, .val (.int (0 : Int32))] [(.int (0 : Int32))])) (fun t k => XS.iload X11.here hx rfl (hb hby at_173) rfl k) ?_
        refine Goes.to (T' := T11.setTop (mkF m 178 #[.val (.int p0), .val (.int p1), .val (.long q2), .second, .val (.int (2 : Int32)), .val (.long ql), .second, .val (.long qa), .second, .val (.int (0 : Int32))] [])) (fun t k => XS.ifNo X11.here hx rfl (hb hby at_175) rfl ((if0 _ _).trans (teq (by decide)).2) k) ?_
        refine Goes.to (T' := T11.setTop (mkF m 179 #[.val (.int p0), .val (.int p1), .val (.long q2), .second, .val (.int (2 : Int32)), .val (.long ql), .second, .val (.long qa), .second, .val (.int (0 : Int32))] [(.int (1 : Int32))])) (fun t k => XS.iconst X11.here hx rfl (hb hby at_178) k) ?_
        refine Goes.to (T' := T11.setTop (mkF m 183 #[.val (.int p0), .val (.int p1), .val (.long q2), .second, .val (.int (2 : Int32)), .val (.long ql), .second, .val (.long qa), .second, .val (.int (0 : Int32))] [(.int (1 : Int32))])) (fun t k => XS.goto X11.here hx rfl (pc0 := 179) (pc' := 183) rfl (hb hby at_179) (by decide) (by decide) k) ?_
        obtain ⟨fs, hrL, hrun, hended, hW, hsame⟩ := X11.leave (v := some (.int (1 : Int32))) (fun h => by rw [Bd.returns] at h; cases h)
        subst hQf
        refine ⟨_, _, retN X11 hx (t := .boolean) Bd.returns (by simp) (hb hby at_183) hrL, hrun, hended, _, _, rfl, ?_, ⟨_, rfl⟩, hW, hsame.mono (by decide) (by decide)⟩
        show (fun (v : Option Value) (h : Heap) (L : List Loc) => v = some (.int 1) ∧ Fr n0 L) (some (.int (1 : Int32))) T11.heap _
        rw [e11]
        exact ⟨rfl, N11⟩
    · skip
      rcases Decidable.em (qa < (ql <<< ((18 : Int32) &&& 0x3f).toInt64)) with hk12 | hk12
      · skip
        obtain ⟨_, _, ⟨T13, L13, k13, n13⟩, -, X13, ⟨Lc13, hQ13, l13, y13, z13⟩, st13⟩ := Jvm.LawKit.callS X0 hx (y := (⟨"com/example/carve_spectrum/carvespectrum/PoissonTraffic", "timesStayFinite", "(DD)Z"⟩ : MethodName)) hown (mvT hZ (hw _ (List.mem_of_getElem? (i := 2) rfl))) (mvT hZ (hw _ (List.mem_of_getElem? (i := 3) rfl))) (mvT hZ (hw _ (List.mem_of_getElem? (i := 4) rfl))) (mvT hZ (hw _ (List.mem_of_getElem? (i := 5) rfl))) (by decide) (backOf (W := 0) (rmT l Z a0 hw [] (FP.dmul (FP.l2d ql) (103582791429521408 : UInt64)) (FP.l2d qa)  (-1 : Int32) (1 : Int32) h0 n0 O0  ((own_m2 hl0 hl1 hl ha).1 hk8) (by decide)) hZ (hw _ (List.mem_of_getElem? (i := 5) rfl)) (hw _ (List.mem_of_getElem? (i := 4) rfl)) (by decide) (by decide)) (g := (mkF m 143 #[.val (.int p0), .val (.int p1), .val (.long q2), .second, .val (.int (2 : Int32)), .val (.long ql), .second, .val (.long qa), .second, .unset] [(.double (FP.l2d qa)), (.double (FP.dmul (FP.l2d ql) (103582791429521408 : UInt64)))])) rfl (by rw [hml]; rfl) (argsL := [(.double (FP.dmul (FP.l2d ql) (103582791429521408 : UInt64))), (.double (FP.l2d qa))]) (rest := []) (lenOf pd_17 rfl) rfl (by show 2 * 0 + _ ≤ _; exact Nat.le_of_eq rfl) (hb hby at_143) (fun _ _ => ⟨rfl, e0, (by decide : 0 + 0 ≤ _), (by decide : 0 + 0 ≤ _)⟩)
        dsimp only [Pt.U, Pt.locs, Pt.cells, Pt.slots] at X13 l13 y13 z13 st13 hQ13
        subst l13 y13 z13
        obtain ⟨rfl, Nq13, e13⟩ := hQ13
        have N13 := Fr.app N0 Nq13
        refine Goes.to (T' := T13.setTop (mkF m 146 #[.val (.int p0), .val (.int p1), .val (.long q2), .second, .val (.int (2 : Int32)), .val (.long ql), .second, .val (.long qa), .second, .unset] [(.int (1 : Int32))])) st13 ?_
        refine Goes.to (T' := T13.setTop (mkF m 148 #[.val (.int p0), .val (.int p1), .val (.long q2), .second, .val (.int (2 : Int32)), .val (.long ql), .second, .val (.long qa), .second, .val (.int (1 : Int32))] [])) (fun t k => XS.istore X13.here hx rfl (hb hby at_146) rfl (l' := #[.val (.int p0), .val (.int p1), .val (.long q2), .second, .val (.int (2 : Int32)), .val (.long ql), .second, .val (.long qa), .second, .val (.int (1 : Int32))]) rfl k) ?_
        refine Goes.to (T' := T13.setTop (mkF m 150 #[.val (.int p0), .val (.int p1), .val (.long q2), .second, .val (.int (2 : Int32)), .val (.long ql), .second, .val (.long qa), .second, .val (.int (1 : Int32))] [(.long qa)])) (fun t k => XS.lload X13.here hx rfl (hb hby at_148) rfl k) ?_
        refine Goes.to (T' := T13.setTop (mkF m 152 #[.val (.int p0), .val (.int p1), .val (.long q2), .second, .val (.int (2 : Int32)), .val (.long ql), .second, .val (.long qa), .second, .val (.int (1 : Int32))] [(.long ql), (.long qa)])) (fun t k => XS.lload X13.here hx rfl (hb hby at_150) rfl k) ?_
        refine Goes.to (T' := T13.setTop (mkF m 154 #[.val (.int p0), .val (.int p1), .val (.long q2), .second, .val (.int (2 : Int32)), .val (.long ql), .second, .val (.long qa), .second, .val (.int (1 : Int32))] [(.int (17 : Int32)), (.long ql), (.long qa)])) (fun t k => XS.bipush X13.here hx rfl (hb hby at_152) k) ?_
        refine Goes.to (T' := T13.setTop (mkF m 155 #[.val (.int p0), .val (.int p1), .val (.long q2), .second, .val (.int (2 : Int32)), .val (.long ql), .second, .val (.long qa), .second, .val (.int (1 : Int32))] [(.long (ql <<< ((17 : Int32) &&& 0x3f).toInt64)), (.long qa)])) (fun t k => XS.lshl X13.here hx rfl (hb hby at_154) rfl k) ?_
        refine Goes.to (T' := T13.setTop (mkF m 156 #[.val (.int p0), .val (.int p1), .val (.long q2), .second, .val (.int (2 : Int32)), .val (.long ql), .second, .val (.long qa), .second, .val (.int (1 : Int32))] [(.int (lcmpW qa (ql <<< ((17 : Int32) &&& 0x3f).toInt64)))])) (fun t k => XS.lcmp X13.here hx rfl (hb hby at_155) rfl k) ?_
        refine Goes.to (T' := T13.setTop (mkF m 159 #[.val (.int p0), .val (.int p1), .val (.long q2), .second, .val (.int (2 : Int32)), .val (.long ql), .second, .val (.long qa), .second, .val (.int (1 : Int32))] [])) (fun t k => XS.ifNo X13.here hx rfl (hb hby at_156) rfl ((if0 _ _).trans (flt (fun q => hk8 ((lw_gt qa (ql <<< ((17 : Int32) &&& 0x3f).toInt64)).mp q))).2.2.1) k) ?_
        refine Goes.to (T' := T13.setTop (mkF m 161 #[.val (.int p0), .val (.int p1), .val (.long q2), .second, .val (.int (2 : Int32)), .val (.long ql), .second, .val (.long qa), .second, .val (.int (1 : Int32))] [(.int (1 : Int32))])) (fun t k => XS.iload X13.here hx rfl (hb hby at_159) rfl k) ?_
        obtain ⟨fs, hrL, hrun, hended, hW, hsame⟩ := X13.leave (v := some (.int (1 : Int32))) (fun h => by rw [Bd.returns] at h; cases h)
        subst hQf
        refine ⟨_, _, retN X13 hx (t := .boolean) Bd.returns (by simp) (hb hby at_161) hrL, hrun, hended, _, _, rfl, ?_, ⟨_, rfl⟩, hW, hsame.mono (by decide) (by decide)⟩
        show (fun (v : Option Value) (h : Heap) (L : List Loc) => v = some (.int 1) ∧ Fr n0 L) (some (.int (1 : Int32))) T13.heap _
        rw [e13]
        exact ⟨rfl, N13⟩
      · skip
        obtain ⟨_, _, ⟨T14, L14, k14, n14⟩, -, X14, ⟨Lc14, hQ14, l14, y14, z14⟩, st14⟩ := Jvm.LawKit.callS X0 hx (y := (⟨"com/example/carve_spectrum/carvespectrum/PoissonTraffic", "timesStayFinite", "(DD)Z"⟩ : MethodName)) hown (mvT hZ (hw _ (List.mem_of_getElem? (i := 2) rfl))) (mvT hZ (hw _ (List.mem_of_getElem? (i := 3) rfl))) (mvT hZ (hw _ (List.mem_of_getElem? (i := 4) rfl))) (mvT hZ (hw _ (List.mem_of_getElem? (i := 5) rfl))) (by decide) (backOf (W := 0) (rmT l Z a0 hw [] (FP.dmul (FP.l2d ql) (103582791429521408 : UInt64)) (FP.l2d qa)  (-1 : Int32) (1 : Int32) h0 n0 O0  ((own_m2 hl0 hl1 hl ha).1 hk8) (by decide)) hZ (hw _ (List.mem_of_getElem? (i := 5) rfl)) (hw _ (List.mem_of_getElem? (i := 4) rfl)) (by decide) (by decide)) (g := (mkF m 143 #[.val (.int p0), .val (.int p1), .val (.long q2), .second, .val (.int (2 : Int32)), .val (.long ql), .second, .val (.long qa), .second, .unset] [(.double (FP.l2d qa)), (.double (FP.dmul (FP.l2d ql) (103582791429521408 : UInt64)))])) rfl (by rw [hml]; rfl) (argsL := [(.double (FP.dmul (FP.l2d ql) (103582791429521408 : UInt64))), (.double (FP.l2d qa))]) (rest := []) (lenOf pd_17 rfl) rfl (by show 2 * 0 + _ ≤ _; exact Nat.le_of_eq rfl) (hb hby at_143) (fun _ _ => ⟨rfl, e0, (by decide : 0 + 0 ≤ _), (by decide : 0 + 0 ≤ _)⟩)
        dsimp only [Pt.U, Pt.locs, Pt.cells, Pt.slots] at X14 l14 y14 z14 st14 hQ14
        subst l14 y14 z14
        obtain ⟨rfl, Nq14, e14⟩ := hQ14
        have N14 := Fr.app N0 Nq14
        refine Goes.to (T' := T14.setTop (mkF m 146 #[.val (.int p0), .val (.int p1), .val (.long q2), .second, .val (.int (2 : Int32)), .val (.long ql), .second, .val (.long qa), .second, .unset] [(.int (1 : Int32))])) st14 ?_
        refine Goes.to (T' := T14.setTop (mkF m 148 #[.val (.int p0), .val (.int p1), .val (.long q2), .second, .val (.int (2 : Int32)), .val (.long ql), .second, .val (.long qa), .second, .val (.int (1 : Int32))] [])) (fun t k => XS.istore X14.here hx rfl (hb hby at_146) rfl (l' := #[.val (.int p0), .val (.int p1), .val (.long q2), .second, .val (.int (2 : Int32)), .val (.long ql), .second, .val (.long qa), .second, .val (.int (1 : Int32))]) rfl k) ?_
        refine Goes.to (T' := T14.setTop (mkF m 150 #[.val (.int p0), .val (.int p1), .val (.long q2), .second, .val (.int (2 : Int32)), .val (.long ql), .second, .val (.long qa), .second, .val (.int (1 : Int32))] [(.long qa)])) (fun t k => XS.lload X14.here hx rfl (hb hby at_148) rfl k) ?_
        refine Goes.to (T' := T14.setTop (mkF m 152 #[.val (.int p0), .val (.int p1), .val (.long q2), .second, .val (.int (2 : Int32)), .val (.long ql), .second, .val (.long qa), .second, .val (.int (1 : Int32))] [(.long ql), (.long qa)])) (fun t k => XS.lload X14.here hx rfl (hb hby at_150) rfl k) ?_
        refine Goes.to (T' := T14.setTop (mkF m 154 #[.val (.int p0), .val (.int p1), .val (.long q2), .second, .val (.int (2 : Int32)), .val (.long ql), .second, .val (.long qa), .second, .val (.int (1 : Int32))] [(.int (17 : Int32)), (.long ql), (.long qa)])) (fun t k => XS.bipush X14.here hx rfl (hb hby at_152) k) ?_
        refine Goes.to (T' := T14.setTop (mkF m 155 #[.val (.int p0), .val (.int p1), .val (.long q2), .second, .val (.int (2 : Int32)), .val (.long ql), .second, .val (.long qa), .second, .val (.int (1 : Int32))] [(.long (ql <<< ((17 : Int32) &&& 0x3f).toInt64)), (.long qa)])) (fun t k => XS.lshl X14.here hx rfl (hb hby at_154) rfl k) ?_
        refine Goes.to (T' := T14.setTop (mkF m 156 #[.val (.int p0), .val (.int p1), .val (.long q2), .second, .val (.int (2 : Int32)), .val (.long ql), .second, .val (.long qa), .second, .val (.int (1 : Int32))] [(.int (lcmpW qa (ql <<< ((17 : Int32) &&& 0x3f).toInt64)))])) (fun t k => XS.lcmp X14.here hx rfl (hb hby at_155) rfl k) ?_
        refine Goes.to (T' := T14.setTop (mkF m 159 #[.val (.int p0), .val (.int p1), .val (.long q2), .second, .val (.int (2 : Int32)), .val (.long ql), .second, .val (.long qa), .second, .val (.int (1 : Int32))] [])) (fun t k => XS.ifNo X14.here hx rfl (hb hby at_156) rfl ((if0 _ _).trans (flt (fun q => hk8 ((lw_gt qa (ql <<< ((17 : Int32) &&& 0x3f).toInt64)).mp q))).2.2.1) k) ?_
        refine Goes.to (T' := T14.setTop (mkF m 161 #[.val (.int p0), .val (.int p1), .val (.long q2), .second, .val (.int (2 : Int32)), .val (.long ql), .second, .val (.long qa), .second, .val (.int (1 : Int32))] [(.int (1 : Int32))])) (fun t k => XS.iload X14.here hx rfl (hb hby at_159) rfl k) ?_
        obtain ⟨fs, hrL, hrun, hended, hW, hsame⟩ := X14.leave (v := some (.int (1 : Int32))) (fun h => by rw [Bd.returns] at h; cases h)
        subst hQf
        refine ⟨_, _, retN X14 hx (t := .boolean) Bd.returns (by simp) (hb hby at_161) hrL, hrun, hended, _, _, rfl, ?_, ⟨_, rfl⟩, hW, hsame.mono (by decide) (by decide)⟩
        show (fun (v : Option Value) (h : Heap) (L : List Loc) => v = some (.int 1) ∧ Fr n0 L) (some (.int (1 : Int32))) T14.heap _
        rw [e14]
        exact ⟨rfl, N14⟩
  · rw [hv_1]
    refine Goes.to (T' := s₁.setTop (mkF m 5 #[.val (.int p0), .val (.int p1), .val (.long q2), .second, .val (.int (3 : Int32)), .unset, .unset, .unset, .unset, .unset] [])) (fun t k => XS.istore X0.here hx rfl (hb hby at_3) rfl (l' := #[.val (.int p0), .val (.int p1), .val (.long q2), .second, .val (.int (3 : Int32)), .unset, .unset, .unset, .unset, .unset]) rfl k) ?_
    refine Goes.to (T' := s₁.setTop (mkF m 7 #[.val (.int p0), .val (.int p1), .val (.long q2), .second, .val (.int (3 : Int32)), .unset, .unset, .unset, .unset, .unset] [(.int (3 : Int32))])) (fun t k => XS.iload X0.here hx rfl (hb hby at_5) rfl k) ?_
    refine Goes.to (T' := s₁.setTop (mkF m 36 #[.val (.int p0), .val (.int p1), .val (.long q2), .second, .val (.int (3 : Int32)), .unset, .unset, .unset, .unset, .unset] [])) (fun t k => XS.ifYes X0.here hx rfl (pc0 := 7) (pc' := 36) rfl (hb hby at_7) rfl ((if0 _ _).trans (feq (by decide)).2) (by decide) (by decide) k) ?_
    refine Goes.to (T' := s₁.setTop (mkF m 38 #[.val (.int p0), .val (.int p1), .val (.long q2), .second, .val (.int (3 : Int32)), .unset, .unset, .unset, .unset, .unset] [(.int (3 : Int32))])) (fun t k => XS.iload X0.here hx rfl (hb hby at_36) rfl k) ?_
    refine Goes.to (T' := s₁.setTop (mkF m 39 #[.val (.int p0), .val (.int p1), .val (.long q2), .second, .val (.int (3 : Int32)), .unset, .unset, .unset, .unset, .unset] [(.int (1 : Int32)), (.int (3 : Int32))])) (fun t k => XS.iconst X0.here hx rfl (hb hby at_38) k) ?_
    refine Goes.to (T' := s₁.setTop (mkF m 110 #[.val (.int p0), .val (.int p1), .val (.long q2), .second, .val (.int (3 : Int32)), .unset, .unset, .unset, .unset, .unset] [])) (fun t k => XS.icmpYes X0.here hx rfl (pc0 := 39) (pc' := 110) rfl (hb hby at_39) rfl (feq (by decide)).2 (by decide) (by decide) k) ?_
    refine Goes.to (T' := s₁.setTop (mkF m 112 #[.val (.int p0), .val (.int p1), .val (.long q2), .second, .val (.int (3 : Int32)), .unset, .unset, .unset, .unset, .unset] [(.int (3 : Int32))])) (fun t k => XS.iload X0.here hx rfl (hb hby at_110) rfl k) ?_
    refine Goes.to (T' := s₁.setTop (mkF m 113 #[.val (.int p0), .val (.int p1), .val (.long q2), .second, .val (.int (3 : Int32)), .unset, .unset, .unset, .unset, .unset] [(.int (2 : Int32)), (.int (3 : Int32))])) (fun t k => XS.iconst X0.here hx rfl (hb hby at_112) k) ?_
    refine Goes.to (T' := s₁.setTop (mkF m 186 #[.val (.int p0), .val (.int p1), .val (.long q2), .second, .val (.int (3 : Int32)), .unset, .unset, .unset, .unset, .unset] [])) (fun t k => XS.icmpYes X0.here hx rfl (pc0 := 113) (pc' := 186) rfl (hb hby at_113) rfl (feq (by decide)).2 (by decide) (by decide) k) ?_
    refine Goes.to (T' := s₁.setTop (mkF m 187 #[.val (.int p0), .val (.int p1), .val (.long q2), .second, .val (.int (3 : Int32)), .unset, .unset, .unset, .unset, .unset] [(.int p1)])) (fun t k => XS.iloadN X0.here hx rfl (hb hby at_186) rfl k) ?_
    refine Goes.to (T' := s₁.setTop (mkF m 189 #[.val (.int p0), .val (.int p1), .val (.long q2), .second, .val (.int (3 : Int32)), .unset, .unset, .unset, .unset, .unset] [(.int (65535 : Int32)), (.int p1)])) (X0.ldcInt hx hown (mvT hZ (hw _ (List.mem_of_getElem? (i := 0) rfl))) (g := (mkF m 187 #[.val (.int p0), .val (.int p1), .val (.long q2), .second, .val (.int (3 : Int32)), .unset, .unset, .unset, .unset, .unset] [(.int p1)])) rfl (hb hby at_187)) ?_
    refine Goes.to (T' := s₁.setTop (mkF m 190 #[.val (.int p0), .val (.int p1), .val (.long q2), .second, .val (.int (3 : Int32)), .unset, .unset, .unset, .unset, .unset] [(.int (p1 &&& (65535 : Int32)))])) (fun t k => XS.iand X0.here hx rfl (hb hby at_189) rfl k) ?_
    refine Goes.to (T' := s₁.setTop (mkF m 191 #[.val (.int p0), .val (.int p1), .val (.long q2), .second, .val (.int (3 : Int32)), .unset, .unset, .unset, .unset, .unset] [(.int (1 : Int32)), (.int (p1 &&& (65535 : Int32)))])) (fun t k => XS.iconst X0.here hx rfl (hb hby at_190) k) ?_
    refine Goes.to (T' := s₁.setTop (mkF m 192 #[.val (.int p0), .val (.int p1), .val (.long q2), .second, .val (.int (3 : Int32)), .unset, .unset, .unset, .unset, .unset] [(.int ((p1 &&& (65535 : Int32)) + (1 : Int32)))])) (fun t k => XS.iadd X0.here hx rfl (hb hby at_191) rfl k) ?_
    refine Goes.to (T' := s₁.setTop (mkF m 193 #[.val (.int p0), .val (.int p1), .val (.long q2), .second, .val (.int (3 : Int32)), .unset, .unset, .unset, .unset, .unset] [(.long (((p1 &&& (65535 : Int32)) + (1 : Int32)).toInt64))])) (fun t k => XS.i2l X0.here hx rfl (hb hby at_192) rfl k) ?_
    obtain ⟨ln, hl0, hl1, hl⟩ := own_ql p1
    obtain ⟨ql, hdl⟩ : ∃ z : Int64, z = (((p1 &&& (65535 : Int32)) + (1 : Int32)).toInt64) := ⟨_, rfl⟩
    rw [← hdl] at hl ⊢
    refine Goes.to (T' := s₁.setTop (mkF m 195 #[.val (.int p0), .val (.int p1), .val (.long q2), .second, .val (.int (3 : Int32)), .val (.long ql), .second, .unset, .unset, .unset] [])) (fun t k => XS.lstore X0.here hx rfl (hb hby at_193) rfl (l' := #[.val (.int p0), .val (.int p1), .val (.long q2), .second, .val (.int (3 : Int32)), .val (.long ql), .second, .unset, .unset, .unset]) rfl k) ?_
    refine Goes.to (T' := s₁.setTop (mkF m 196 #[.val (.int p0), .val (.int p1), .val (.long q2), .second, .val (.int (3 : Int32)), .val (.long ql), .second, .unset, .unset, .unset] [(.long q2)])) (fun t k => XS.lloadN X0.here hx rfl (hb hby at_195) rfl k) ?_
    refine Goes.to (T' := s₁.setTop (mkF m 199 #[.val (.int p0), .val (.int p1), .val (.long q2), .second, .val (.int (3 : Int32)), .val (.long ql), .second, .unset, .unset, .unset] [(.long (9223372036854775807 : Int64)), (.long q2)])) (X0.ldc2Long hx hown (mvT hZ (hw _ (List.mem_of_getElem? (i := 1) rfl))) (g := (mkF m 196 #[.val (.int p0), .val (.int p1), .val (.long q2), .second, .val (.int (3 : Int32)), .val (.long ql), .second, .unset, .unset, .unset] [(.long q2)])) rfl (hb hby at_196)) ?_
    refine Goes.to (T' := s₁.setTop (mkF m 200 #[.val (.int p0), .val (.int p1), .val (.long q2), .second, .val (.int (3 : Int32)), .val (.long ql), .second, .unset, .unset, .unset] [(.long (q2 &&& (9223372036854775807 : Int64)))])) (fun t k => XS.land X0.here hx rfl (hb hby at_199) rfl k) ?_
    have ha := own_qa q2
    obtain ⟨qa, hda⟩ : ∃ z : Int64, z = (q2 &&& (9223372036854775807 : Int64)) := ⟨_, rfl⟩
    rw [← hda] at ha ⊢
    refine Goes.to (T' := s₁.setTop (mkF m 202 #[.val (.int p0), .val (.int p1), .val (.long q2), .second, .val (.int (3 : Int32)), .val (.long ql), .second, .val (.long qa), .second, .unset] [])) (fun t k => XS.lstore X0.here hx rfl (hb hby at_200) rfl (l' := #[.val (.int p0), .val (.int p1), .val (.long q2), .second, .val (.int (3 : Int32)), .val (.long ql), .second, .val (.long qa), .second, .unset]) rfl k) ?_
    refine Goes.to (T' := s₁.setTop (mkF m 204 #[.val (.int p0), .val (.int p1), .val (.long q2), .second, .val (.int (3 : Int32)), .val (.long ql), .second, .val (.long qa), .second, .unset] [(.long ql)])) (fun t k => XS.lload X0.here hx rfl (hb hby at_202) rfl k) ?_
    refine Goes.to (T' := s₁.setTop (mkF m 205 #[.val (.int p0), .val (.int p1), .val (.long q2), .second, .val (.int (3 : Int32)), .val (.long ql), .second, .val (.long qa), .second, .unset] [(.double (FP.l2d ql))])) (fun t k => XS.l2dS X0.here hx rfl (hb hby at_204) rfl rfl k) ?_
    refine Goes.to (T' := s₁.setTop (mkF m 208 #[.val (.int p0), .val (.int p1), .val (.long q2), .second, .val (.int (3 : Int32)), .val (.long ql), .second, .val (.long qa), .second, .unset] [(.double (4472074429978902528 : UInt64)), (.double (FP.l2d ql))])) (X0.ldc2DoubleC hx hown (mvT hZ (hw _ (List.mem_of_getElem? (i := 8) rfl))) (g := (mkF m 205 #[.val (.int p0), .val (.int p1), .val (.long q2), .second, .val (.int (3 : Int32)), .val (.long ql), .second, .val (.long qa), .second, .unset] [(.double (FP.l2d ql))])) rfl (hb hby at_205)) ?_
    refine Goes.to (T' := s₁.setTop (mkF m 209 #[.val (.int p0), .val (.int p1), .val (.long q2), .second, .val (.int (3 : Int32)), .val (.long ql), .second, .val (.long qa), .second, .unset] [(.double (FP.dmul (FP.l2d ql) (4472074429978902528 : UInt64)))])) (fun t k => XS.dmulS X0.here hx rfl (hb hby at_208) rfl (own_x30 hl1 hl).no rfl k) ?_
    refine Goes.to (T' := s₁.setTop (mkF m 211 #[.val (.int p0), .val (.int p1), .val (.long q2), .second, .val (.int (3 : Int32)), .val (.long ql), .second, .val (.long qa), .second, .unset] [(.long qa), (.double (FP.dmul (FP.l2d ql) (4472074429978902528 : UInt64)))])) (fun t k => XS.lload X0.here hx rfl (hb hby at_209) rfl k) ?_
    refine Goes.to (T' := s₁.setTop (mkF m 212 #[.val (.int p0), .val (.int p1), .val (.long q2), .second, .val (.int (3 : Int32)), .val (.long ql), .second, .val (.long qa), .second, .unset] [(.double (FP.l2d qa)), (.double (FP.dmul (FP.l2d ql) (4472074429978902528 : UInt64)))])) (fun t k => XS.l2dS X0.here hx rfl (hb hby at_211) rfl rfl k) ?_
    obtain ⟨_, _, ⟨T15, L15, k15, n15⟩, -, X15, ⟨Lc15, hQ15, l15, y15, z15⟩, st15⟩ := Jvm.LawKit.callS X0 hx (y := (⟨"com/example/carve_spectrum/carvespectrum/PoissonTraffic", "timesStayFinite", "(DD)Z"⟩ : MethodName)) hown (mvT hZ (hw _ (List.mem_of_getElem? (i := 2) rfl))) (mvT hZ (hw _ (List.mem_of_getElem? (i := 3) rfl))) (mvT hZ (hw _ (List.mem_of_getElem? (i := 4) rfl))) (mvT hZ (hw _ (List.mem_of_getElem? (i := 5) rfl))) (by decide) (backOf (W := 0) (rmT l Z a0 hw [] (FP.dmul (FP.l2d ql) (4472074429978902528 : UInt64)) (FP.l2d qa)  (-1 : Int32) (1 : Int32) h0 n0 O0  (own_m3 hl0 hl1 hl ha) (by decide)) hZ (hw _ (List.mem_of_getElem? (i := 5) rfl)) (hw _ (List.mem_of_getElem? (i := 4) rfl)) (by decide) (by decide)) (g := (mkF m 212 #[.val (.int p0), .val (.int p1), .val (.long q2), .second, .val (.int (3 : Int32)), .val (.long ql), .second, .val (.long qa), .second, .unset] [(.double (FP.l2d qa)), (.double (FP.dmul (FP.l2d ql) (4472074429978902528 : UInt64)))])) rfl (by rw [hml]; rfl) (argsL := [(.double (FP.dmul (FP.l2d ql) (4472074429978902528 : UInt64))), (.double (FP.l2d qa))]) (rest := []) (lenOf pd_17 rfl) rfl (by show 2 * 0 + _ ≤ _; exact Nat.le_of_eq rfl) (hb hby at_212) (fun _ _ => ⟨rfl, e0, (by decide : 0 + 0 ≤ _), (by decide : 0 + 0 ≤ _)⟩)
    dsimp only [Pt.U, Pt.locs, Pt.cells, Pt.slots] at X15 l15 y15 z15 st15 hQ15
    subst l15 y15 z15
    obtain ⟨rfl, Nq15, e15⟩ := hQ15
    have N15 := Fr.app N0 Nq15
    refine Goes.to (T' := T15.setTop (mkF m 215 #[.val (.int p0), .val (.int p1), .val (.long q2), .second, .val (.int (3 : Int32)), .val (.long ql), .second, .val (.long qa), .second, .unset] [(.int (1 : Int32))])) st15 ?_
    obtain ⟨fs, hrL, hrun, hended, hW, hsame⟩ := X15.leave (v := some (.int (1 : Int32))) (fun h => by rw [Bd.returns] at h; cases h)
    subst hQf
    refine ⟨_, _, retN X15 hx (t := .boolean) Bd.returns (by simp) (hb hby at_215) hrL, hrun, hended, _, _, rfl, ?_, ⟨_, rfl⟩, hW, hsame.mono (by decide) (by decide)⟩
    show (fun (v : Option Value) (h : Heap) (L : List Loc) => v = some (.int 1) ∧ Fr n0 L) (some (.int (1 : Int32))) T15.heap _
    rw [e15]
    exact ⟨rfl, N15⟩
set_option maxRecDepth 65536 in
set_option maxHeartbeats 40000000 in
theorem comes_1 {Post : Tables → Env → Array Value → State → Outcome → State → Prop} (hpost : ∀ tb e args s v u, (limb_1_1.after args s (.returned v) u = true ∧ limb_1_2.after args s (.returned v) u = true ∧ True) → FrameEnd s (.returned v) u (Jvm.fieldLocs frame_1_writes args s ++ Jvm.arrayLocs frame_1_arrays args s ++ Jvm.staticLocs frame_1_statics s) 0 0 → Post tb e args s (.returned v) u) :
    ArmFor flags0 classFile x code maxLocals ret World_1 tables_1 room_1 Calls_1 rest_1 Pre_1 Post := by
  intro l hfl _ _ p e ha hc hk s m args below hf hA hF happ hP
  obtain ⟨hcalls, hrest, hpre⟩ := hP
  obtain ⟨-, -, -, hnamed, -, -, -, hat⟩ := (Spec.applies_iff hf).mp happ
  obtain ⟨hg, hn⟩ := and_e (Cond.before_iff.mp (show (Jvm.Cond.and given_1 narrow_1).before args s = true from hpre))
  obtain ⟨gc, gr0⟩ := and_e hg
  obtain ⟨w0, w1, w2, rfl⟩ : ∃ w0 w1 w2 : Value, args = #[w0, w1, w2] := by
    have hs : args.size = 3 := by simpa [Cond.value, given_1] using gc
    obtain ⟨L⟩ := args
    match L, hs with
    | [w0, w1, w2], _ => exact ⟨w0, w1, w2, rfl⟩
  have hw := fun d (hd : d ∈ tables_1) => atoms_spec (ws := Jvm.Cond.code x code maxLocals ret :: tables_1) hat d (List.mem_cons_of_mem _ hd)
  have hfit : Fit s := fun {y c} hc i hi => by
    obtain ⟨ha, rfl⟩ := Array.getElem?_eq_some_iff.mp hc
    have q := List.all_eq_true.mp ((Array.all_eq_true_iff_forall_mem.mp hF) _ (Array.getElem_mem ha)) i (List.mem_range.mpr hi)
    simpa [Array.getElem?_eq_getElem hi] using q
  obtain ⟨gv0, gr1⟩ := and_e gr0
  obtain ⟨i0, ei0⟩ := is_v gv0
  obtain rfl : w0 = (.int i0) := Option.some.inj ei0
  obtain ⟨gv1, gr2⟩ := and_e gr1
  obtain ⟨i1, ei1⟩ := is_v gv1
  obtain rfl : w1 = (.int i1) := Option.some.inj ei1
  obtain ⟨i2, ei2⟩ := isL_v gr2
  obtain rfl : w2 = (.long i2) := Option.some.inj ei2
  obtain ⟨n, o, h1, h2, h3, _, L, rfl, ⟨rfl, N⟩, hq⟩ := rm0 l s _ hw tables_1 i0 i1 i2 s.heap s.heap.size (Old.start s) p e ha hc hk s m _ below hf ((Spec.applies_iff_loose hf).mp happ).1 ⟨rfl, State.Warmed39.refl s, rfl⟩ trivial
  refine ⟨n, _, h1, h2, h3, hpost _ _ _ _ _ _ ⟨Cond.after_iff.mpr rfl, Cond.after_iff.mpr (eq_i res_at (Term.int_eval (1)) rfl), trivial⟩ ⟨hq.1, hq.2.1, (hq.2.2.sift fun y hy => Or.inr (N y hy)).mono (by decide) (by decide)⟩⟩
theorem main_1_1 : Claimed_1_1 := comes_1 fun _ _ _ _ _ _ h hF => ⟨h.1, hF⟩
theorem main_1_2 : Claimed_1_2 := comes_1 fun _ _ _ _ _ _ h hF => ⟨h.2.1, hF⟩
end Jvm.Pilot.@@N@@
namespace Jvm.Pilot.@@N@@
open Jvm Jvm.ClassFile Sem Op Lib Jvm.Free Jvm.Stand Jvm.Pilot.@@N@@.Jvm.D
/-! MADE BY PROGRAM (witnessworld.py) out of the Statement's table words and the real class files: 7 classes; the members and pool entries that the words name. The judged class is class 1, her method 1. -/
namespace start1
open Jvm.ClassFile
def u (s : String) : CpInfo := .utf8 (stringToUtf16 s)
/-- a pool by its gaps: so many unusable entries, then the entry; so many at the end -/
def gap : Nat → List CpInfo → List CpInfo
  | 0, r => r
  | n + 1, r => .unusable :: gap n r
def poolList (es : List (Nat × CpInfo)) (last : Nat) : List CpInfo := es.foldr (fun e r => gap e.1 (e.2 :: r)) (gap last [])
def pool (es : List (Nat × CpInfo)) (last : Nat) : Array CpInfo := ⟨poolList es last⟩
def fileOf (pool : Array CpInfo) (this : Nat) (attrs : Array Attribute := #[]) (ms : Array MethodInfo := #[]) (fl : Nat := 33) (sup : Nat := 0) (ifs : Array Nat := #[]) (fds : Array FieldInfo := #[]) : ClassFile where
  minorVersion := 0
  majorVersion := 65
  constantPool := pool
  accessFlags := fl
  thisClass := this
  superClass := sup
  interfaces := ifs
  fields := fds
  methods := ms
  attributes := attrs
def plain (name : String) (sup : Option ClassId) : Class where
  name := name
  kind := .ordinary
  loader := none
  accessFlags := 33
  super := sup
  interfaces := #[]
  cf := none
  fields := #[]
  methods := #[]
  instanceTypes := #[]
  staticTypes := #[]
  resolved := #[]
  callSites := []
  init := .initialized
  statics := none
  mirror := none

def pool0 : Array CpInfo := pool [(5, u "<init>"), (0, u "()V"), (1, .class_ 10), (1, u "java/lang/Object")] 113

def k0m0 : Method := { name := "<init>", desc := "()V", sig := { parameters := [], returnType := none }, accessFlags := 1, code := none }
/-- java/lang/Object -/
def k0 : Class := { plain "java/lang/Object" none with
  accessFlags := 33
  interfaces := #[]
  cf := some (fileOf pool0 8 #[] #[{ accessFlags := 1, nameIndex := 5, descriptorIndex := 6, attributes := #[] }] 33 0 #[] #[])
  fields := #[]
  methods := #[k0m0]
  instanceTypes := #[]
  staticTypes := #[]
  resolved := Array.replicate 124 none
  statics := none }

def pool1 : Array CpInfo := pool [(2, .class_ 4), (1, u "java/lang/Object"), (0, u "<init>"), (0, u "()V"), (0, .integer 65535), (2, .long 9223372036854775807), (1, .methodref 13 14), (0, .class_ 15), (0, .nameAndType 16 17), (0, u "com/example/carve_spectrum/carvespectrum/PoissonTraffic"), (0, u "timesStayFinite"), (0, u "(DD)Z"), (0, .long 2147483647), (1, .double 1), (1, .long 67108863), (1, .double 103582791429521408), (1, .double 4472074429978902528), (1, .class_ 29), (0, u "com/example/carve_spectrum/carvespectrum/PoissonTrafficTimesStayFinitePinLaw"), (2, u "law"), (0, u "(IIJ)Z")] 3

def k1m0 : Method := { name := "<init>", desc := "()V", sig := { parameters := [], returnType := none }, accessFlags := 1, code := none }
def k1c1 : Code := { maxStack := 5, maxLocals := 10, code := code, exceptionTable := #[], attributes := #[] }
def k1m1 : Method := { name := "law", desc := "(IIJ)Z", sig := { parameters := [.int, .int, .long], returnType := some .boolean }, accessFlags := 9, code := some k1c1 }
/-- com/example/carve_spectrum/carvespectrum/PoissonTrafficTimesStayFinitePinLaw -/
def k1 : Class := { plain "com/example/carve_spectrum/carvespectrum/PoissonTrafficTimesStayFinitePinLaw" (some 0) with
  accessFlags := 49
  interfaces := #[]
  cf := some (fileOf pool1 28 #[] #[{ accessFlags := 1, nameIndex := 5, descriptorIndex := 6, attributes := #[] }, { accessFlags := 9, nameIndex := 32, descriptorIndex := 33, attributes := #[] }] 49 2 #[] #[])
  fields := #[]
  methods := #[k1m0, k1m1]
  instanceTypes := #[]
  staticTypes := #[]
  resolved := Array.replicate 37 none
  statics := none }

def pool2 : Array CpInfo := pool [(2, .class_ 4), (1, u "java/lang/Object"), (13, .double 9218868437227405312), (5, .class_ 26), (1, u "com/example/carve_spectrum/carvespectrum/PoissonTraffic"), (0, u "nodeCount"), (0, u "I"), (2, u "loadErlang"), (0, u "D"), (7, u "gaps"), (0, u "Lcom/example/carve_spectrum/carvespectrum/RandomStream;"), (4, u "holdingTimes"), (4, u "endNodes"), (2, u "bitRateMix"), (0, u "Ljava/util/Optional;"), (4, u "bitRates"), (0, .double 4634907704006017024), (3, u "time"), (34, u "lastId"), (0, u "J"), (5, u "GAP_STREAM"), (3, u "HOLDING_STREAM"), (0, u "END_NODE_STREAM"), (0, u "BIT_RATE_STREAM"), (7, u "timesStayFinite"), (0, u "(DD)Z")] 21

def k2c0 : Code := { maxStack := 6, maxLocals := 6, code := prog_49_method_2_code, exceptionTable := #[], attributes := #[] }
def k2m0 : Method := { name := "timesStayFinite", desc := "(DD)Z", sig := { parameters := [.double, .double], returnType := some .boolean }, accessFlags := 8, code := some k2c0 }
/-- com/example/carve_spectrum/carvespectrum/PoissonTraffic -/
def k2 : Class := { plain "com/example/carve_spectrum/carvespectrum/PoissonTraffic" (some 0) with
  accessFlags := 48
  interfaces := #[]
  cf := some (fileOf pool2 24 #[] #[{ accessFlags := 8, nameIndex := 121, descriptorIndex := 122, attributes := #[] }] 48 2 #[] #[{ accessFlags := 26, nameIndex := 107, descriptorIndex := 101, attributes := #[] }, { accessFlags := 26, nameIndex := 111, descriptorIndex := 101, attributes := #[] }, { accessFlags := 26, nameIndex := 112, descriptorIndex := 101, attributes := #[] }, { accessFlags := 26, nameIndex := 113, descriptorIndex := 101, attributes := #[] }, { accessFlags := 18, nameIndex := 27, descriptorIndex := 28, attributes := #[] }, { accessFlags := 18, nameIndex := 31, descriptorIndex := 32, attributes := #[] }, { accessFlags := 18, nameIndex := 40, descriptorIndex := 41, attributes := #[] }, { accessFlags := 18, nameIndex := 46, descriptorIndex := 41, attributes := #[] }, { accessFlags := 18, nameIndex := 51, descriptorIndex := 41, attributes := #[] }, { accessFlags := 18, nameIndex := 54, descriptorIndex := 55, attributes := #[] }, { accessFlags := 18, nameIndex := 60, descriptorIndex := 41, attributes := #[] }, { accessFlags := 2, nameIndex := 100, descriptorIndex := 101, attributes := #[] }, { accessFlags := 2, nameIndex := 65, descriptorIndex := 32, attributes := #[] }])
  fields := #[{ name := "GAP_STREAM", type := .long, accessFlags := 26, slot := 0, constantValue := 0 }, { name := "HOLDING_STREAM", type := .long, accessFlags := 26, slot := 1, constantValue := 0 }, { name := "END_NODE_STREAM", type := .long, accessFlags := 26, slot := 2, constantValue := 0 }, { name := "BIT_RATE_STREAM", type := .long, accessFlags := 26, slot := 3, constantValue := 0 }, { name := "nodeCount", type := .int, accessFlags := 18, slot := 0, constantValue := 0 }, { name := "loadErlang", type := .double, accessFlags := 18, slot := 1, constantValue := 0 }, { name := "gaps", type := (.object "com/example/carve_spectrum/carvespectrum/RandomStream"), accessFlags := 18, slot := 2, constantValue := 0 }, { name := "holdingTimes", type := (.object "com/example/carve_spectrum/carvespectrum/RandomStream"), accessFlags := 18, slot := 3, constantValue := 0 }, { name := "endNodes", type := (.object "com/example/carve_spectrum/carvespectrum/RandomStream"), accessFlags := 18, slot := 4, constantValue := 0 }, { name := "bitRateMix", type := (.object "java/util/Optional"), accessFlags := 18, slot := 5, constantValue := 0 }, { name := "bitRates", type := (.object "com/example/carve_spectrum/carvespectrum/RandomStream"), accessFlags := 18, slot := 6, constantValue := 0 }, { name := "lastId", type := .long, accessFlags := 2, slot := 7, constantValue := 0 }, { name := "time", type := .double, accessFlags := 2, slot := 8, constantValue := 0 }]
  methods := #[k2m0]
  instanceTypes := #[.int, .double, (.object "com/example/carve_spectrum/carvespectrum/RandomStream"), (.object "com/example/carve_spectrum/carvespectrum/RandomStream"), (.object "com/example/carve_spectrum/carvespectrum/RandomStream"), (.object "java/util/Optional"), (.object "com/example/carve_spectrum/carvespectrum/RandomStream"), .long, .double]
  staticTypes := #[.long, .long, .long, .long]
  resolved := Array.replicate 144 none
  statics := none }

def pool3 : Array CpInfo := pool [(1, u "java/lang/Cloneable"), (0, .class_ 1), (0, u "java/lang/Object"), (0, .class_ 3)] 3

/-- java/lang/Cloneable -/
def k3 : Class := { plain "java/lang/Cloneable" (some 0) with
  accessFlags := 1537
  interfaces := #[]
  cf := some (fileOf pool3 2 #[] #[] 1537 4 #[] #[])
  fields := #[]
  methods := #[]
  instanceTypes := #[]
  staticTypes := #[]
  resolved := Array.replicate 8 none
  statics := none }

def pool4 : Array CpInfo := pool [(1, u "java/io/Serializable"), (0, .class_ 1), (0, u "java/lang/Object"), (0, .class_ 3)] 3

/-- java/io/Serializable -/
def k4 : Class := { plain "java/io/Serializable" (some 0) with
  accessFlags := 1537
  interfaces := #[]
  cf := some (fileOf pool4 2 #[] #[] 1537 4 #[] #[])
  fields := #[]
  methods := #[]
  instanceTypes := #[]
  staticTypes := #[]
  resolved := Array.replicate 8 none
  statics := none }

/-- the primitive byte -/
def k5 : Class := { plain "byte" none with kind := .primitive 'B', accessFlags := 0x411 }
/-- [B -/
def k6 : Class := { plain "[B" (some 0) with kind := .array 5 .byte, interfaces := #[3, 4], accessFlags := 1041 }

def heap : Heap := #[]
def classes : Array Class := #[k0, k1, k2, k3, k4, k5, k6]
def interned : List (Array UInt16 × Addr) := []
def slotsUsed : Nat := 0
def theMethod : MethodId := ⟨1, 1⟩
def args0 : Array Value := #[.int 5, .int 6, .long 7]
def aboutOver (below : List Frame) : State where
  vm := { classes := classes, interned := interned.toArray }
  heap := heap
  slotsUsed := slotsUsed
  threads := #[{ frames := .invoking theMethod args0 :: below }]
def below0 : List Frame := [.native { method := ⟨0, 0⟩, args := #[] }]
def about1 : State := aboutOver below0
def p0 : Program := .bare "" "" ""
def e0 : Env := launch0.env 0 0 0
theorem w_frames : about1.frames = Frame.invoking theMethod args0 :: below0 := rfl
set_option maxRecDepth 65536 in
theorem w_args : argsFit about1.vm theMethod args0 = true := by decide +kernel
set_option maxRecDepth 65536 in
theorem w_heap : heapFits about1 = true := by decide +kernel
set_option maxRecDepth 65536 in
theorem w_runnable : about1.curStatus? = some .runnable := by decide +kernel
set_option maxRecDepth 65536 in
theorem w_alone : about1.alone = true := by decide +kernel
set_option maxRecDepth 65536 in
theorem w_named : about1.methodNamed? x = some theMethod := by decide +kernel
set_option maxRecDepth 65536 in
theorem w_hears : about1.hears theMethod below0 = true := by decide +kernel
set_option maxRecDepth 65536 in
theorem w_ripe : about1.ripe theMethod args0 below0 = true := by decide +kernel
theorem w_running : about1.status = .running := rfl
set_option maxRecDepth 65536 in
theorem w_room : about1.hasRoom e0.platform room_1 = true :=
  launch0.hasRoom_least _ room_1 (by decide +kernel) (by decide +kernel) (by decide +kernel) (by decide +kernel) (by decide +kernel) (by decide +kernel)
theorem allAtoms_all (ts : List Jvm.Cond) (a : Array Jvm.Value) (st : Jvm.State) : (allAtoms ts).before a st = ts.all (fun c => c.before a st) := by
  induction ts with
  | nil => rfl
  | cons c t ih =>
    show (Jvm.Cond.and c (allAtoms t)).before a st = _
    rw [Jvm.Cond.before_and, ih, List.all_cons]
def words1 : List Jvm.Cond := Jvm.Cond.code x code maxLocals ret :: tables_1
/-- a 'code' word, met by the world's own term for the bytes: nothing is compared byte by byte -/
theorem code_word {y : MethodName} {bytes : ByteArray} {mx : Nat} {rt : Option FieldType} {a : Array Value} {s : State} {m : MethodId} {meth : Method} {c : Code} (h1 : s.methodNamed? y = some m) (h2 : s.vm.method? m = some meth) (h3 : meth.code = some c) (h4 : c.code = bytes)
    (h5 : (c.maxLocals == mx && c.exceptionTable.isEmpty && decide (c.maxStack ≤ mostOperands) && decide (meth.sig.returnType = rt) && !meth.locks && decide (parseMethodDescriptor y.desc = some meth.sig)) = true) : (Jvm.Cond.code y bytes mx rt).before a s = true := by
  simp only [Bool.and_eq_true, beq_iff_eq, Bool.not_eq_true', decide_eq_true_eq] at h5
  obtain ⟨⟨⟨⟨⟨g1, g2⟩, g3⟩, g4⟩, g5⟩, g6⟩ := h5
  simp [Cond.before, Cond.holds, Cond.value, h1, h2, h3, h4, g1, g2, g3, g4, g5, g6]
def isCode : Jvm.Cond → Bool
  | .code _ _ _ _ => true
  | _ => false
theorem all_split {L : List Jvm.Cond} {P : Jvm.Cond → Bool} (h1 : L.all (fun c => isCode c || P c) = true) (h2 : ∀ c ∈ L.filter isCode, P c = true) : L.all P = true := by
  refine List.all_eq_true.mpr fun c hc => ?_
  have h := List.all_eq_true.mp h1 c hc
  rcases Bool.eq_false_or_eq_true (isCode c) with hi | hi
  · exact h2 c (List.mem_filter.mpr ⟨hc, hi⟩)
  · simpa [hi] using h
set_option maxRecDepth 65536 in
theorem w_c0 : (Jvm.Cond.code x code maxLocals ret).before args0 about1 = true := code_word (m := ⟨1, 1⟩) (meth := k1m1) (c := k1c1) (by decide +kernel) rfl rfl rfl (by decide +kernel)
set_option maxRecDepth 65536 in
theorem w_c1 : (Jvm.Cond.code ({ cls := "com/example/carve_spectrum/carvespectrum/PoissonTraffic", name := "timesStayFinite", desc := "(DD)Z" } : Jvm.MethodName) prog_49_method_2_code (6 : Nat) (Option.some Jvm.ClassFile.FieldType.boolean)).before args0 about1 = true := code_word (m := ⟨2, 0⟩) (meth := k2m0) (c := k2c0) (by decide +kernel) rfl rfl rfl (by decide +kernel)
def codes1 : List Jvm.Cond := [Jvm.Cond.code x code maxLocals ret, Jvm.Cond.code ({ cls := "com/example/carve_spectrum/carvespectrum/PoissonTraffic", name := "timesStayFinite", desc := "(DD)Z" } : Jvm.MethodName) prog_49_method_2_code (6 : Nat) (Option.some Jvm.ClassFile.FieldType.boolean)]
set_option maxRecDepth 65536 in
theorem codes_eq : words1.filter isCode = codes1 := rfl
theorem w_codes : ∀ c ∈ words1.filter isCode, c.before args0 about1 = true := by
  rw [codes_eq]
  intro c hc
  simp only [codes1, List.mem_cons, List.not_mem_nil, or_false] at hc
  rcases hc with rfl | rfl
  · exact w_c0
  · exact w_c1
set_option maxRecDepth 65536 in
theorem w_t1 : words1.all (fun c => isCode c || c.before args0 about1) = true := by decide +kernel
theorem w_tables : (allAtoms (Jvm.Cond.code x code maxLocals ret :: tables_1)).before args0 about1 = true := by
  rw [allAtoms_all]
  show words1.all (fun c => c.before args0 about1) = true
  refine all_split ?_ w_codes
  rw [w_t1]
set_option maxRecDepth 65536 in
theorem w_case : (Jvm.Cond.and given_1 narrow_1).before args0 about1 = true := by decide +kernel
theorem w_applies : (headSpec (Jvm.Cond.code x code maxLocals ret :: tables_1) room_1).applies x e0.platform about1 = true :=
  (Spec.applies_iff w_frames).mpr ⟨w_running, w_runnable, w_alone, w_named, w_hears, w_ripe, w_room, w_tables⟩
theorem atStart : AtStart classFile x code maxLocals ret World_1 tables_1 room_1 Calls_1 rest_1 Pre_1 launch0 p0 e0 about1 theMethod args0 below0 :=
  ⟨lists_1, trivial, launch0.admits_env _ _ _, launch0.least_env, fairChoices_fair.cas, fairChoices_fair.clock, w_frames, w_args, w_heap, w_applies, trivial, trivial, w_case⟩
end start1
theorem witness_1 : WitnessClaimed_1 := ⟨start1.p0, start1.e0, start1.about1, start1.theMethod, start1.args0, start1.below0, start1.atStart⟩
end Jvm.Pilot.@@N@@
