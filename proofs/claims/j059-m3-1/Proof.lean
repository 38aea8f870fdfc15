import JvmDerived
import JvmDerived.Pilot.@@N@@Statement
import JvmDerived.Pilot.@@N@@Code
set_option linter.unusedVariables false
set_option linter.unusedSimpArgs false
namespace Jvm.Pilot.@@N@@
open Jvm Jvm.ClassFile Sem Op Lib Jvm.Free Jvm.Stand Jvm.LawKit Jvm.RoadKit Bundle Jvm.Pilot.@@N@@.Jvm.D
/-- from T the run goes on to an end of which Qf says what it is -/
def Goes (tb : Tables) (e : Env) (below : List Frame) (Qf : Outcome → State → Prop) (T : State) : Prop := ∃ s₂ o, Steps tb e below T s₂ ∧ s₂.status = .running ∧ Ended s₂ below o ∧ Qf o s₂
theorem Goes.to {tb : Tables} {e : Env} {below : List Frame} {Qf : Outcome → State → Prop} {T T' : State} (k : ∀ t, Steps tb e below T' t → Steps tb e below T t) (h : Goes tb e below Qf T') : Goes tb e below Qf T := by
  obtain ⟨s, o, h1, h2⟩ := h; exact ⟨s, o, k s h1, h2⟩
theorem Goes.thru {tb : Tables} {e : Env} {below : List Frame} {Qf : Outcome → State → Prop} {T T' : State} (k : Steps tb e below T T') (h : Goes tb e below Qf T') : Goes tb e below Qf T := by
  obtain ⟨s, o, h1, h2⟩ := h; exact ⟨s, o, k.trans h1, h2⟩
theorem own_old {Z : State} {n0 : Nat} {h : Heap} (O : Old Z n0 h) : n0 ≤ h.size := O.1 ▸ O.2.1
theorem own_ext_keep {h h' : Heap} (K : Keep h h' []) : Ext h h' := ⟨K.1, fun a c q => K.2.1 a c q nin0⟩
theorem own_nsroot {Z : State} {a0 : Array Value} {O K : String} {n : Nat} (w : (Jvm.Cond.noSuperclass O).before a0 Z = true) (wk : (Jvm.Cond.instantiable K n).before a0 Z = true) (hn : O ≠ K) : NS Z O K := by
  obtain ⟨c, k, h1, h2, h3, -, -⟩ := Cond.noSuperclass_spec w
  obtain ⟨t, k2, g1, -⟩ := Cond.instantiable_spec wk
  have ne := ids_ne h1 g1 hn
  refine ⟨c, t, h1, g1, fun fuel => ?_⟩
  cases fuel with
  | zero => rfl
  | succ f => simp [Vm.isSubclassAux, ne, h2, h3]
theorem own_nsno {Z : State} {a0 : Array Value} {C S K : String} {n : Nat} (w : (Jvm.Cond.superclass C S).before a0 Z = true) (wk : (Jvm.Cond.instantiable K n).before a0 Z = true) (ns : NS Z C K) (hn : C ≠ K) : ∃ c t, Z.vm.findClass C = some c ∧ Z.vm.findClass K = some t ∧ Z.vm.assignable c t = false := by
  obtain ⟨c, t, h0, g0, n3⟩ := ns
  obtain ⟨p, k, kp, h1, h2, h3, h4, h5, -, h7⟩ := Cond.superclass_spec h0 w
  obtain ⟨t', k', g1, g2, g5, g7, -⟩ := Cond.instantiable_spec wk
  cases g0.symm.trans g1
  have ne := ids_ne h0 g0 hn
  refine ⟨c, t, h0, g0, ?_⟩
  show Z.vm.assignableAux (255 + 1) c t = false
  simp [Vm.assignableAux, ne, h2, g2, h5, g5, (Bool.or_eq_false_iff.mp g7).1, Vm.isSubclass, n3]
theorem own_selp {s : State} {args : Array Value} {y : MethodName} {n : Nat} (wi : (Jvm.Cond.instantiable y.cls n).before args s = true) (hp : (Jvm.Cond.privateMethod y).before args s = true) (hinst : (Jvm.Cond.instanceMethod y).before args s = true) (hy : y.cls ≠ "java/lang/invoke/MethodHandle" ∧ y.cls ≠ "java/lang/invoke/VarHandle") : (Jvm.Cond.selects y.cls y y).before args s = true := by
  obtain ⟨c, k, h1, h2, -, h4, -⟩ := Cond.instantiable_spec wi
  exact selects_self_of_private h1 h2 (Bool.or_eq_false_iff.mp h4).1 (Cond.privateMethod_at hp) hinst hy
theorem own_keep_ext {h h' : Heap} (E : Ext h h') : Keep h h' [] := (Keep.refl h []).ext E
section OwnF
open Jvm.FP.Core Jvm.Free.Fl
/-- a finite double of sign + and of magnitude m, in least units -/
def Mg (x : UInt64) (m : Nat) : Prop := (∃ c q, val64 x = .fin false c q) ∧ zmag b64 (val64 x) = m
variable {a b x V W : UInt64} {m k v w : Nat}
theorem Mg.fin (h : Mg x m) : DFin x := by obtain ⟨⟨c, q, e⟩, -⟩ := h; exact ⟨_, c, q, e⟩
theorem Mg.nn (h : Mg x m) : val64 x ≠ .nan := h.fin.ne_nan
theorem Mg.no (h : Mg x m) : NoNaN64 x := noNaN64_no.mpr h.fin.notNaN
theorem mg_of {A B : Nat} {e : Int} (hx : val64 x = roundRatio b64 false A B e) (hW : Mg W w) (hle : zmag b64 (val64 x) ≤ w) : Mg x (zmag b64 (val64 x)) := by
  refine ⟨?_, rfl⟩
  rcases roundRatio_cases b64 false A B e with ⟨c, q, h⟩ | h
  · exact ⟨c, q, hx.trans h⟩
  · exfalso
    rw [hx, h] at hle
    obtain ⟨⟨c, q, e1⟩, rfl⟩ := hW
    have f1 := val64_fits W
    rw [e1] at f1 hle
    exact absurd hle (Nat.not_le_of_lt (zmag_lt_top good_b64 f1))
theorem pow2q : 2 ^ (b64.qmin - 2 * b64.qmin).toNat = one64 := by
  rw [show b64.qmin - 2 * b64.qmin = -b64.qmin by omega]; exact pow_qmin64
theorem mg_mul_raw (ha : Mg a m) (hb : Mg b k) : ∃ A e, val64 (FP.dmul a b) = roundRatio b64 false A 1 e ∧ 2 * b64.qmin ≤ e ∧ inUnits A e (2 * b64.qmin) = m * k := by
  obtain ⟨⟨c, q, e1⟩, h1⟩ := ha
  obtain ⟨⟨d, r, e2⟩, h2⟩ := hb
  have f1 := val64_fits a
  have f2 := val64_fits b
  rw [e1] at f1 h1
  rw [e2] at f2 h2
  obtain ⟨p1, p2, p3⟩ := product_units f1 f2
  refine ⟨c * d, q + r, ?_, p2, by rw [p3, h1, h2]⟩
  rw [val64_dmul, e1, e2, p1]; rfl
theorem mg_mul_ge (ha : Mg a m) (hb : Mg b k) (hV : Mg V v) (h : v * one64 ≤ m * k) : v ≤ zmag b64 (val64 (FP.dmul a b)) := by
  obtain ⟨A, e, q1, q2, q3⟩ := mg_mul_raw ha hb
  rw [q1, ← hV.2]
  have hq : b64.qmin < 0 := qmin_neg good_b64
  refine zmag_roundRatio_ge good_b64 (by decide) (val64_fits V) (e0 := 2 * b64.qmin) (by omega) q2 ?_
  rw [q3, hV.2, Nat.mul_one, pow2q]; exact h
theorem mg_mul_le (ha : Mg a m) (hb : Mg b k) (hV : Mg V v) (h : m * k ≤ v * one64) : zmag b64 (val64 (FP.dmul a b)) ≤ v := by
  obtain ⟨A, e, q1, q2, q3⟩ := mg_mul_raw ha hb
  rw [q1, ← hV.2]
  have hq : b64.qmin < 0 := qmin_neg good_b64
  refine zmag_roundRatio_le good_b64 (by decide) (val64_fits V) hV.nn (e0 := 2 * b64.qmin) (by omega) q2 ?_
  rw [q3, hV.2, Nat.mul_one, pow2q]; exact h
theorem mg_mul (ha : Mg a m) (hb : Mg b k) (hV : Mg V v) (hW : Mg W w) (h1 : v * one64 ≤ m * k) (h2 : m * k ≤ w * one64) : ∃ z, Mg (FP.dmul a b) z ∧ v ≤ z ∧ z ≤ w := by
  obtain ⟨A, e, q1, -⟩ := mg_mul_raw ha hb
  exact ⟨_, mg_of q1 hW (mg_mul_le ha hb hW h2), mg_mul_ge ha hb hV h1, mg_mul_le ha hb hW h2⟩
theorem mg_div_raw (ha : Mg a m) (hb : Mg b k) (hk : 0 < k) : ∃ A B e e0, val64 (FP.ddiv a b) = roundRatio b64 false A B e ∧ 0 < B ∧ e0 ≤ b64.qmin ∧ e0 ≤ e ∧ inUnits A e e0 = m * one64 ∧ 2 ^ (b64.qmin - e0).toNat * B = k := by
  obtain ⟨⟨c, q, e1⟩, h1⟩ := ha
  obtain ⟨⟨d, r, e2⟩, h2⟩ := hb
  have f1 := val64_fits a
  have f2 := val64_fits b
  rw [e1] at f1 h1
  rw [e2] at f2 h2
  have hd0 : d ≠ 0 := by
    rintro rfl
    have : zmag b64 (.fin false 0 r) = 0 := Nat.zero_mul _
    omega
  have x1 := f1.2.1
  have y1 := f2.2.1
  have hq : b64.qmin < 0 := qmin_neg good_b64
  refine ⟨c, d, q - r, 2 * b64.qmin - r, ?_, Nat.pos_of_ne_zero hd0, by omega, by omega, ?_, ?_⟩
  · rw [val64_ddiv, e1, e2]
    simp only [quotient, if_neg hd0]; rfl
  · rw [← h1, ← pow_qmin64]
    show c * _ = c * _ * _
    rw [Nat.mul_assoc, ← Nat.pow_add]; congr 2; omega
  · rw [← h2]
    show _ = d * _
    rw [Nat.mul_comm]; congr 2; omega
theorem mg_div_ge (ha : Mg a m) (hb : Mg b k) (hk : 0 < k) (hV : Mg V v) (h : v * k ≤ m * one64) : v ≤ zmag b64 (val64 (FP.ddiv a b)) := by
  obtain ⟨A, B, e, e0, q1, q2, q3, q4, q5, q6⟩ := mg_div_raw ha hb hk
  rw [q1, ← hV.2]
  refine zmag_roundRatio_ge good_b64 q2 (val64_fits V) q3 q4 ?_
  rw [q5, Nat.mul_assoc, q6, hV.2]; exact h
theorem mg_div_le (ha : Mg a m) (hb : Mg b k) (hk : 0 < k) (hV : Mg V v) (h : m * one64 ≤ v * k) : zmag b64 (val64 (FP.ddiv a b)) ≤ v := by
  obtain ⟨A, B, e, e0, q1, q2, q3, q4, q5, q6⟩ := mg_div_raw ha hb hk
  rw [q1, ← hV.2]
  refine zmag_roundRatio_le good_b64 q2 (val64_fits V) hV.nn q3 q4 ?_
  rw [q5, Nat.mul_assoc, q6, hV.2]; exact h
theorem mg_div (ha : Mg a m) (hb : Mg b k) (hk : 0 < k) (hV : Mg V v) (hW : Mg W w) (h1 : v * k ≤ m * one64) (h2 : m * one64 ≤ w * k) : ∃ z, Mg (FP.ddiv a b) z ∧ v ≤ z ∧ z ≤ w := by
  obtain ⟨A, B, e, e0, q1, -⟩ := mg_div_raw ha hb hk
  exact ⟨_, mg_of q1 hW (mg_div_le ha hb hk hW h2), mg_div_ge ha hb hk hV h1, mg_div_le ha hb hk hW h2⟩
theorem mg_l2d {n : Int64} (h0 : 0 ≤ n.toInt) (h1 : n.toInt ≤ 9007199254740992) : Mg (FP.l2d n) (n.toInt.toNat * one64) := by
  obtain ⟨c, q, e⟩ := l2d_shape n
  have hs : decide (n.toInt < 0) = false := decide_eq_false (by omega)
  rw [hs] at e
  have z := DInt_zval (l2d_int (a := n) (by omega))
  refine ⟨⟨c, q, e⟩, ?_⟩
  rw [e] at z ⊢
  have z2 : ((zmag b64 (.fin false c q) : Nat) : Int) = n.toInt * (one64 : Int) := z
  apply Int.ofNat.inj
  show ((zmag b64 (.fin false c q) : Nat) : Int) = ((n.toInt.toNat * one64 : Nat) : Int)
  rw [z2, Int.natCast_mul, Int.toNat_of_nonneg h0]
theorem mg_d2l (h : Mg x m) (hm : m ≤ 4611686018427387904 * one64) : (FP.d2l x).toInt = ((m / one64 : Nat) : Int) := by
  have q := d2l_val h.nn
  obtain ⟨⟨c, r, e⟩, h2⟩ := h
  rw [h2, e] at q
  have hb : m / one64 ≤ 4611686018427387904 := Nat.div_le_of_le_mul (by rw [Nat.mul_comm]; exact hm)
  rw [q]
  show max _ (min _ ((m / one64 : Nat) : Int)) = _
  clear q
  generalize m / one64 = t at hb ⊢
  omega
theorem mg_1 : Mg 4607182418800017408 one64 := ⟨⟨4503599627370496, -52, by decide +kernel⟩, by decide +kernel⟩
theorem mg_2 : Mg 4611686018427387904 (2 * one64) := ⟨⟨4503599627370496, -51, by decide +kernel⟩, by decide +kernel⟩
theorem mg_2m : Mg 4611686018427387903 (9007199254740991 * 2 ^ 1022) := ⟨⟨9007199254740991, -52, by decide +kernel⟩, by decide +kernel⟩
theorem mg_31 : Mg 4746794007248502784 (2147483648 * one64) := ⟨⟨4503599627370496, -21, by decide +kernel⟩, by decide +kernel⟩
theorem mg_62 : Mg 4886405595696988160 (4611686018427387904 * one64) := ⟨⟨4503599627370496, 10, by decide +kernel⟩, by decide +kernel⟩
theorem mg_ex (c : Nat) (q : Int) (hc : c < 2 ^ 53) (h1 : -1074 ≤ q) (h2 : q ≤ 971) : ∃ V, Mg V (c * 2 ^ (q + 1074).toNat) := by
  have e1 : b64.qmin = -1074 := qmin_b64
  have e2 : b64.qmax = 971 := by decide
  obtain ⟨c', q', r1, r2⟩ := round_exact good_b64 false (c := c) (q := q) hc (by rw [e1]; exact h1) (by rw [e2]; exact h2)
  have hv : val64 (of64 (round b64 (.fin false c q))) = .fin false c' q' := (val64_of64 (round_fits good_b64 _)).trans r1
  refine ⟨of64 (round b64 (.fin false c q)), ⟨c', q', hv⟩, ?_⟩
  rw [hv]
  show inUnits c' q' b64.qmin = _
  rw [r2]
  show c * 2 ^ (q - b64.qmin).toNat = _
  rw [e1, Int.sub_neg]
theorem mg_div_eq (ha : Mg a m) (hb : Mg b k) (hk : 0 < k) (hV : Mg V v) (h : v * k = m * one64) : Mg (FP.ddiv a b) v := by
  obtain ⟨z, Z, z1, z2⟩ := mg_div ha hb hk hV hV (Nat.le_of_eq h) (Nat.le_of_eq h.symm)
  rw [Nat.le_antisymm z2 z1] at Z; exact Z
theorem mg_mul_eq (ha : Mg a m) (hb : Mg b k) (hV : Mg V v) (h : v * one64 = m * k) : Mg (FP.dmul a b) v := by
  obtain ⟨z, Z, z1, z2⟩ := mg_mul ha hb hV hV (Nat.le_of_eq h) (Nat.le_of_eq h.symm)
  rw [Nat.le_antisymm z2 z1] at Z; exact Z
theorem mg_sub_raw (ha : Mg a m) (hb : Mg b k) (hkm : k ≤ m) : ∃ A e, val64 (FP.dsub a b) = roundRatio b64 false A 1 e ∧ b64.qmin ≤ e ∧ inUnits A e b64.qmin = m - k := by
  obtain ⟨⟨c, q, e1⟩, h1⟩ := ha
  obtain ⟨⟨d, r, e2⟩, h2⟩ := hb
  have f1 := val64_fits a
  have f2 := negate_fits (val64_fits b)
  rw [e1] at f1 h1
  rw [e2] at f2 h2
  have f2' : Jvm.FP.Core.fits b64 (Datum.fin true d r) := f2
  obtain ⟨sg, n, e, p1, p2, p3⟩ := sum_units f1 f2'
  have z1 : zval b64 (.fin false c q) = (m : Int) := by rw [← h1]; rfl
  have z2 : zval b64 (.fin true d r) = -(k : Int) := by rw [← h2]; rfl
  rw [z1, z2] at p3
  have hs : sg = false ∨ inUnits n e b64.qmin = 0 := by
    cases sg with
    | false => exact Or.inl rfl
    | true => right; simp only [signed, if_true] at p3; omega
  have hsg : sg = false := by
    have q1 : sg = sumSign false true (sumUnits false c q true d r (min q r)) := by
      have := p1
      simp only [exactSum, Datum.fin.injEq] at this
      exact this.1.symm
    have q2 : n = (sumUnits false c q true d r (min q r)).natAbs := by
      have := p1
      simp only [exactSum, Datum.fin.injEq] at this
      exact this.2.1.symm
    rcases hs with h | h
    · exact h
    · have hn : n = 0 := by
        have := Nat.two_pow_pos (e - b64.qmin).toNat
        rcases Nat.mul_eq_zero.mp (show n * 2 ^ (e - b64.qmin).toNat = 0 from h) with z | z <;> omega
      rw [q1]
      have : sumUnits false c q true d r (min q r) = 0 := by omega
      rw [this]; rfl
  subst hsg
  refine ⟨n, e, ?_, p2, ?_⟩
  · rw [val64_dsub, e1, e2]
    show round b64 (exactSum (.fin false c q) (.fin true d r)) = _
    rw [p1]; rfl
  · have : ((inUnits n e b64.qmin : Nat) : Int) = (m : Int) + -(k : Int) := p3
    omega
theorem mg_sub_eq (ha : Mg a m) (hb : Mg b k) (hkm : k ≤ m) (hV : Mg V (m - k)) : Mg (FP.dsub a b) (m - k) := by
  obtain ⟨A, e, q1, q2, q3⟩ := mg_sub_raw ha hb hkm
  have e0 : 2 ^ (b64.qmin - b64.qmin).toNat = 1 := by rw [Int.sub_self]; rfl
  have g : m - k ≤ zmag b64 (val64 (FP.dsub a b)) := by
    rw [q1, ← hV.2]
    refine zmag_roundRatio_ge good_b64 (by decide) (val64_fits V) (e0 := b64.qmin) (Int.le_refl _) q2 ?_
    rw [q3, hV.2, e0, Nat.mul_one, Nat.mul_one]; exact Nat.le_refl _
  have g2 : zmag b64 (val64 (FP.dsub a b)) ≤ m - k := by
    rw [q1, ← hV.2]
    refine zmag_roundRatio_le good_b64 (by decide) (val64_fits V) hV.nn (e0 := b64.qmin) (Int.le_refl _) q2 ?_
    rw [q3, hV.2, e0, Nat.mul_one, Nat.mul_one]; exact Nat.le_refl _
  have Z := mg_of q1 hV g2
  rw [Nat.le_antisymm g2 g] at Z; exact Z
theorem mg_zval (h : Mg x m) : zval b64 (val64 x) = (m : Int) := by
  obtain ⟨⟨c, q, e⟩, h2⟩ := h
  rw [← h2, e]; rfl
theorem mg_cmp (ha : Mg a m) (hb : Mg b k) (o : Jvm.ClassFile.CmpOp) : cmpValue (FP.dcmp a b) o = if m < k then -1 else if m = k then 0 else 1 := by
  have h : FP.dcmp a b = some (compare (m : Int) (k : Int)) := by
    have := dcmp_zval ha.nn hb.nn
    rw [mg_zval ha, mg_zval hb] at this; exact this
  rw [h, compare_ite]
  by_cases h1 : m < k
  · rw [if_pos h1, if_pos (by omega : (m : Int) < (k : Int))]; rfl
  · rw [if_neg h1, if_neg (by omega : ¬ (m : Int) < (k : Int))]
    by_cases h2 : m = k
    · rw [if_pos h2, if_pos (by omega : (m : Int) = (k : Int))]; rfl
    · rw [if_neg h2, if_neg (by omega : ¬ (m : Int) = (k : Int))]; rfl
theorem mg_i2d {n : Int32} (h0 : 0 ≤ n.toInt) : Mg (FP.i2d n) (n.toInt.toNat * one64) := by
  have e : FP.i2d n = FP.l2d n.toInt64 := i2d_l2d n
  have q := Int32.toInt_lt n
  have r := c_i2l n
  rw [e, ← r]
  exact mg_l2d (by omega) (by omega)
theorem mg_c0 : Mg FP.dconst0 0 := ⟨⟨0, -1074, by decide +kernel⟩, by decide +kernel⟩
theorem mg_c1 : Mg FP.dconst1 one64 := mg_1
theorem mg_26 : Mg 4724276009111650304 (67108864 * one64) := ⟨⟨4503599627370496, -26, by decide +kernel⟩, by decide +kernel⟩
theorem mg_52 : Mg 4841369599423283200 (4503599627370496 * one64) := ⟨⟨4503599627370496, 0, by decide +kernel⟩, by decide +kernel⟩
end OwnF
theorem d2_0 : decode jdk_30_method_1_code 0 = .ok (.aload_n 0, 1) := by decide +kernel
theorem d2_1 : decode jdk_30_method_1_code 1 = .ok (.invokespecial 1, 3) := by decide +kernel
theorem d2_4 : decode jdk_30_method_1_code 4 = .ok (.return_, 1) := by decide +kernel
theorem pn_2 : plainName "java/lang/Record" = true := by first | (simp [plainName, overriddenIn]; done) | decide +kernel
theorem ef_rmR (m : MethodId) (x0 : Addr) : entryFrame m #[(.ref x0)] 1 = mkF m 0 #[.val (.ref x0)] [] := by first | (simp [entryFrame, mkF, argsToLocals, Value.category]; done) | rfl
def Q_rmR (Z : State) (xa : Addr) (h0 : Heap) (n0 : Nat) (v : Option Value) (h : Heap) (L : List Loc) : Prop := v = none ∧ Fr n0 L ∧ h = h0
set_option maxRecDepth 65536 in
set_option maxHeartbeats 40000000 in
theorem rmR (l : Launch) (Z : State) (a0 : Array Value) (hw : ∀ d ∈ tables_1, d.before a0 Z = true) (ws : List Jvm.Cond) (xa : Addr) (h0 : Heap) (n0 : Nat) (O0 : Old Z n0 h0) :
    MetFree l (⟨"java/lang/Record", "<init>", "()V"⟩ : MethodName) (head1 (Jvm.Cond.code (⟨"java/lang/Record", "<init>", "()V"⟩ : MethodName) jdk_30_method_1_code 1 none :: ws) ({ frames := 1, cells := 0, slots := 0, locals := 12 } : Room)) (fun a U => a = #[(.ref xa)] ∧ Z.Warmed39 U.vm ∧ U.heap = h0) (fun _ _ _ _ _ => True) (fun _ U o U' => ∃ v L, o = .returned v ∧ Q_rmR Z xa h0 n0 v U'.heap L ∧ FrameEnd U o U' L ({ frames := 1, cells := 0, slots := 0, locals := 12 } : Room).cells ({ frames := 1, cells := 0, slots := 0, locals := 12 } : Room).slots) := by
  refine MetFree.of_bodySF (plainFor_of_name pn_2) hisR ?_
  intro p e s m args below meth c s₁ Bd hml0 hP hK
  obtain ⟨rfl, hZ, hh⟩ := hP
  have hx := Bd.exec
  have hby := Bd.bytes
  have hml : c.maxLocals = 1 := hml0
  have hown : s.vm.findClass "java/lang/Record" = some m.cls := findClass_of_methodNamed Bd.named
  have hnm := (name_of_methodNamed Bd.named Bd.method).1
  have X0 : Stand p l e ({ frames := 1, cells := 0, slots := 0, locals := 12 } : Room) s m #[(.ref xa)] below meth c s₁ [] 0 0 := Stand.of_body Bd
  have e0 : s₁.heap = h0 := by rw [← hh, Bd.state]; rfl
  have N0 := Fr.nil n0
  suffices G : ∀ (Qf : Outcome → State → Prop), Qf = (fun (_ : Array Value) (U : State) (o : Outcome) (U' : State) => ∃ v L, o = .returned v ∧ Q_rmR Z xa h0 n0 v U'.heap L ∧ FrameEnd U o U' L ({ frames := 1, cells := 0, slots := 0, locals := 12 } : Room).cells ({ frames := 1, cells := 0, slots := 0, locals := 12 } : Room).slots) #[] s → Goes p.tables e below Qf (s₁.setTop (mkF m 0 #[.val (.ref xa)] [])) by
    obtain ⟨s₂, o, g1, g2, g3, g4⟩ := G _ rfl
    exact ⟨s₂, o, castTop (ef_rmR m _) g1, g2, g3, g4⟩
  intro Qf hQf
  refine Goes.to (T' := s₁.setTop (mkF m 1 #[.val (.ref xa)] [(.ref xa)])) (fun t k => XS.aloadN X0.here hx rfl (hb hby d2_0) rfl rfl k) ?_
  obtain ⟨T1, X1, e1, st1⟩ := initO X0 hx hZ hown (hw _ (List.mem_of_getElem? (i := 13) rfl)) (hw _ (List.mem_of_getElem? (i := 14) rfl)) (hw _ (List.mem_of_getElem? (i := 15) rfl)) e0 (g := (mkF m 1 #[.val (.ref xa)] [(.ref xa)])) rfl (by rw [hml]; rfl) rfl (hb hby d2_1) (by decide) (W := 0) (by show 2 * 0 + _ ≤ _; exact Nat.le_of_eq rfl) (by decide)
  refine Goes.to (T' := T1.setTop (mkF m 4 #[.val (.ref xa)] [])) st1 ?_
  obtain ⟨fs, hrL, hrun, hended, hW, hsame⟩ := X1.leave (v := none) (fun _ => rfl)
  subst hQf
  refine ⟨_, _, X1.returnOut hx Bd.returns (hb hby d2_4) hrL, hrun, hended, _, _, rfl, ?_, ⟨_, rfl⟩, hW, hsame.mono (by decide) (by decide)⟩
  show (fun (v : Option Value) (h : Heap) (L : List Loc) => v = none ∧ Fr n0 L ∧ h = h0) (none) T1.heap _
  rw [e1]
  exact ⟨rfl, N0, rfl⟩
theorem pd_4 : parseMethodDescriptor "()V" = some ⟨[], none⟩ := by decide +kernel
theorem d1_0 : decode prog_13_method_1_code 0 = .ok (.aload_n 0, 1) := by decide +kernel
theorem d1_1 : decode prog_13_method_1_code 1 = .ok (.invokespecial 1, 3) := by decide +kernel
theorem d1_4 : decode prog_13_method_1_code 4 = .ok (.dload_n 1, 1) := by decide +kernel
theorem d1_5 : decode prog_13_method_1_code 5 = .ok (.dconst 0, 1) := by decide +kernel
theorem d1_6 : decode prog_13_method_1_code 6 = .ok (.dcmp .l, 1) := by decide +kernel
theorem d1_7 : decode prog_13_method_1_code 7 = .ok (.ifCond .lt 9, 3) := by decide +kernel
theorem d1_10 : decode prog_13_method_1_code 10 = .ok (.dload_n 1, 1) := by decide +kernel
theorem d1_11 : decode prog_13_method_1_code 11 = .ok (.dconst 1, 1) := by decide +kernel
theorem d1_12 : decode prog_13_method_1_code 12 = .ok (.dcmp .g, 1) := by decide +kernel
theorem d1_13 : decode prog_13_method_1_code 13 = .ok (.ifCond .lt 17, 3) := by decide +kernel
theorem d1_30 : decode prog_13_method_1_code 30 = .ok (.aload_n 0, 1) := by decide +kernel
theorem d1_31 : decode prog_13_method_1_code 31 = .ok (.dload_n 1, 1) := by decide +kernel
theorem d1_32 : decode prog_13_method_1_code 32 = .ok (.putfield 16, 3) := by decide +kernel
theorem d1_35 : decode prog_13_method_1_code 35 = .ok (.return_, 1) := by decide +kernel
theorem pn_1 : plainName "com/example/veilmatch/veilmatch/model/FailureRate" = true := by first | (simp [plainName, overriddenIn]; done) | decide +kernel
theorem ef_rmI (m : MethodId) (x0 : Addr) (x1 : UInt64) : entryFrame m #[(.ref x0), (.double x1)] 3 = mkF m 0 #[.val (.ref x0), .val (.double x1), .second] [] := by first | (simp [entryFrame, mkF, argsToLocals, Value.category]; done) | rfl
def Q_rmI (Z : State) (xa : Addr) (dv : UInt64) (mm : Nat) (h0 : Heap) (n0 : Nat) (v : Option Value) (h : Heap) (L : List Loc) : Prop := v = none ∧ Fr n0 L ∧ Keep h0 h [xa] ∧ Exa Z h xa "com/example/veilmatch/veilmatch/model/FailureRate" ∧ Fld Z h xa "com/example/veilmatch/veilmatch/model/FailureRate" "value" "D" (.double dv)
set_option maxRecDepth 65536 in
set_option maxHeartbeats 40000000 in
theorem rmI (l : Launch) (Z : State) (a0 : Array Value) (hw : ∀ d ∈ tables_1, d.before a0 Z = true) (ws : List Jvm.Cond) (xa : Addr) (dv : UInt64) (mm : Nat) (h0 : Heap) (n0 : Nat) (O0 : Old Z n0 h0) (E_xa : Exa Z h0 xa "com/example/veilmatch/veilmatch/model/FailureRate") (F_value_xa : Fld Z h0 xa "com/example/veilmatch/veilmatch/model/FailureRate" "value" "D" (.double (0 : UInt64))) (g_xa : n0 ≤ xa) (hm : Mg dv mm) (hlt : mm < Jvm.FP.Core.one64) :
    MetFree l (⟨"com/example/veilmatch/veilmatch/model/FailureRate", "<init>", "(D)V"⟩ : MethodName) (head1 (Jvm.Cond.code (⟨"com/example/veilmatch/veilmatch/model/FailureRate", "<init>", "(D)V"⟩ : MethodName) prog_13_method_1_code 3 none :: ws) ({ frames := 2, cells := 0, slots := 0, locals := 24 } : Room)) (fun a U => a = #[(.ref xa), (.double dv)] ∧ Z.Warmed39 U.vm ∧ U.heap = h0) (fun _ _ _ _ _ => True) (fun _ U o U' => ∃ v L, o = .returned v ∧ Q_rmI Z xa dv mm h0 n0 v U'.heap L ∧ FrameEnd U o U' L ({ frames := 2, cells := 0, slots := 0, locals := 24 } : Room).cells ({ frames := 2, cells := 0, slots := 0, locals := 24 } : Room).slots) := by
  refine MetFree.of_bodySF (plainFor_of_name pn_1) hisR ?_
  intro p e s m args below meth c s₁ Bd hml0 hP hK
  obtain ⟨rfl, hZ, hh⟩ := hP
  have hx := Bd.exec
  have hby := Bd.bytes
  have hml : c.maxLocals = 3 := hml0
  have hown : s.vm.findClass "com/example/veilmatch/veilmatch/model/FailureRate" = some m.cls := findClass_of_methodNamed Bd.named
  have hnm := (name_of_methodNamed Bd.named Bd.method).1
  have X0 : Stand p l e ({ frames := 2, cells := 0, slots := 0, locals := 24 } : Room) s m #[(.ref xa), (.double dv)] below meth c s₁ [] 0 0 := Stand.of_body Bd
  have e0 : s₁.heap = h0 := by rw [← hh, Bd.state]; rfl
  have N0 := Fr.nil n0
  have K0 := Keep.refl h0 [xa]
  suffices G : ∀ (Qf : Outcome → State → Prop), Qf = (fun (_ : Array Value) (U : State) (o : Outcome) (U' : State) => ∃ v L, o = .returned v ∧ Q_rmI Z xa dv mm h0 n0 v U'.heap L ∧ FrameEnd U o U' L ({ frames := 2, cells := 0, slots := 0, locals := 24 } : Room).cells ({ frames := 2, cells := 0, slots := 0, locals := 24 } : Room).slots) #[] s → Goes p.tables e below Qf (s₁.setTop (mkF m 0 #[.val (.ref xa), .val (.double dv), .second] [])) by
    obtain ⟨s₂, o, g1, g2, g3, g4⟩ := G _ rfl
    exact ⟨s₂, o, castTop (ef_rmI m _ _) g1, g2, g3, g4⟩
  intro Qf hQf
  refine Goes.to (T' := s₁.setTop (mkF m 1 #[.val (.ref xa), .val (.double dv), .second] [(.ref xa)])) (fun t k => XS.aloadN X0.here hx rfl (hb hby d1_0) rfl rfl k) ?_
  obtain ⟨_, _, ⟨T1, L1, k1, n1⟩, -, X1, ⟨Lc1, hQ1, l1, y1, z1⟩, st1⟩ := X0.specialBack hx (y := (⟨"java/lang/Record", "<init>", "()V"⟩ : MethodName)) rfl hown (mvT hZ (hw _ (List.mem_of_getElem? (i := 8) rfl))) (mvT hZ (hw _ (List.mem_of_getElem? (i := 9) rfl))) (mvT hZ (hw _ (List.mem_of_getElem? (i := 12) rfl))) (by decide) (backOf (W := 0) (rmR l Z a0 hw [] xa   h0 n0 O0  ) hZ (hw _ (List.mem_of_getElem? (i := 12) rfl)) (hw _ (List.mem_of_getElem? (i := 11) rfl)) (by decide) (by decide)) (g := (mkF m 1 #[.val (.ref xa), .val (.double dv), .second] [(.ref xa)])) rfl (by rw [hml]; rfl) (Steps.refl _) (a := xa) (argsL := []) (rest := []) (lenOf pd_4 rfl) rfl (by show 2 * 0 + _ ≤ _; exact Nat.le_of_eq rfl) (hb hby d1_1) (fun _ _ => ⟨rfl, e0, (by decide : 0 + 0 ≤ _), (by decide : 0 + 0 ≤ _)⟩)
  dsimp only [Pt.U, Pt.locs, Pt.cells, Pt.slots] at X1 l1 y1 z1 st1 hQ1
  subst l1 y1 z1
  obtain ⟨rfl, Nq1, e1⟩ := hQ1
  have N1 := Fr.app N0 Nq1
  refine Goes.thru (T' := T1.setTop (mkF m 4 #[.val (.ref xa), .val (.double dv), .second] [])) st1 ?_
  refine Goes.to (T' := T1.setTop (mkF m 5 #[.val (.ref xa), .val (.double dv), .second] [(.double dv)])) (fun t k => XS.dloadN X1.here hx rfl (hb hby d1_4) rfl k) ?_
  refine Goes.to (T' := T1.setTop (mkF m 6 #[.val (.ref xa), .val (.double dv), .second] [(.double FP.dconst0), (.double dv)])) (fun t k => XS.dconst0 X1.here hx rfl (hb hby d1_5) rfl k) ?_
  obtain ⟨zc, hzc⟩ : ∃ z : Int32, cmpValue (FP.dcmp dv FP.dconst0) .l = z := ⟨_, rfl⟩
  have hzn : ¬ zc < (0 : Int32) := by rw [← hzc, mg_cmp hm mg_c0, if_neg (Nat.not_lt_zero _)]; split <;> decide
  refine Goes.to (T' := T1.setTop (mkF m 7 #[.val (.ref xa), .val (.double dv), .second] [(.int zc)])) (fun t k => XS.dcmpS X1.here hx rfl (hb hby d1_6) rfl (v := zc) hzc k) ?_
  have hc7_2 : ¬ (zc < (0 : Int32)) := hzn
  refine Goes.to (T' := T1.setTop (mkF m 10 #[.val (.ref xa), .val (.double dv), .second] [])) (fun t k => XS.ifNo X1.here hx rfl (hb hby d1_7) rfl ((if0 _ _).trans (flt hc7_2).1) k) ?_
  refine Goes.to (T' := T1.setTop (mkF m 11 #[.val (.ref xa), .val (.double dv), .second] [(.double dv)])) (fun t k => XS.dloadN X1.here hx rfl (hb hby d1_10) rfl k) ?_
  refine Goes.to (T' := T1.setTop (mkF m 12 #[.val (.ref xa), .val (.double dv), .second] [(.double FP.dconst1), (.double dv)])) (fun t k => XS.dconst1 X1.here hx rfl (hb hby d1_11) rfl k) ?_
  refine Goes.to (T' := T1.setTop (mkF m 13 #[.val (.ref xa), .val (.double dv), .second] [(.int (-1 : Int32))])) (fun t k => XS.dcmpS X1.here hx rfl (hb hby d1_12) rfl (v := (-1 : Int32)) (by rw [mg_cmp hm mg_c1, if_pos hlt]) k) ?_
  refine Goes.to (T' := T1.setTop (mkF m 30 #[.val (.ref xa), .val (.double dv), .second] [])) (fun t k => XS.ifYes X1.here hx rfl (pc0 := 13) (pc' := 30) rfl (hb hby d1_13) rfl ((if0 _ _).trans (tlt (by decide)).1) (by decide) (by decide) k) ?_
  refine Goes.to (T' := T1.setTop (mkF m 31 #[.val (.ref xa), .val (.double dv), .second] [(.ref xa)])) (fun t k => XS.aloadN X1.here hx rfl (hb hby d1_30) rfl rfl k) ?_
  refine Goes.to (T' := T1.setTop (mkF m 32 #[.val (.ref xa), .val (.double dv), .second] [(.double dv), (.ref xa)])) (fun t k => XS.dloadN X1.here hx rfl (hb hby d1_31) rfl k) ?_
  obtain ⟨T3, h3, X3, e3, W3, st3⟩ := putF X1 hx hZ hown (host := "") (Or.inl (hw _ (List.mem_of_getElem? (i := 16) rfl))) Via.refl e1 F_value_xa E_xa (Or.inr ⟨(hw _ (List.mem_of_getElem? (i := 17) rfl)), rfl, hnm⟩) (hw _ (List.mem_of_getElem? (i := 3) rfl)) (ty := .double) (by decide) rfl rfl (g := (mkF m 32 #[.val (.ref xa), .val (.double dv), .second] [(.double dv), (.ref xa)])) rfl rfl (hb hby d1_32)
  have F_value_xa := F_value_xa.same W3
  have E_xa := E_xa.wr W3
  have O0 := O0.wr W3 g_xa
  have K0 := K0.wr W3 (Or.inl (List.mem_of_getElem? (i := 0) rfl))
  have N3 := Fr.snoc X3 N1 g_xa
  refine Goes.to (T' := T3.setTop (mkF m 35 #[.val (.ref xa), .val (.double dv), .second] [])) st3 ?_
  obtain ⟨fs, hrL, hrun, hended, hW, hsame⟩ := X3.leave (v := none) (fun _ => rfl)
  subst hQf
  refine ⟨_, _, X3.returnOut hx Bd.returns (hb hby d1_35) hrL, hrun, hended, _, _, rfl, ?_, ⟨_, rfl⟩, hW, hsame.mono (by decide) (by decide)⟩
  show (fun (v : Option Value) (h : Heap) (L : List Loc) => v = none ∧ Fr n0 L ∧ Keep h0 h [xa] ∧ Exa Z h xa "com/example/veilmatch/veilmatch/model/FailureRate" ∧ Fld Z h xa "com/example/veilmatch/veilmatch/model/FailureRate" "value" "D" (.double dv)) (none) T3.heap _
  rw [e3]
  exact ⟨rfl, N3, K0, E_xa, F_value_xa⟩
theorem d4_0 : decode prog_13_method_2_code 0 = .ok (.dconst 1, 1) := by decide +kernel
theorem d4_1 : decode prog_13_method_2_code 1 = .ok (.aload_n 0, 1) := by decide +kernel
theorem d4_2 : decode prog_13_method_2_code 2 = .ok (.getfield 16, 3) := by decide +kernel
theorem d4_5 : decode prog_13_method_2_code 5 = .ok (.dsub, 1) := by decide +kernel
theorem d4_6 : decode prog_13_method_2_code 6 = .ok (.dconst 1, 1) := by decide +kernel
theorem d4_7 : decode prog_13_method_2_code 7 = .ok (.aload_n 0, 1) := by decide +kernel
theorem d4_8 : decode prog_13_method_2_code 8 = .ok (.getfield 16, 3) := by decide +kernel
theorem d4_11 : decode prog_13_method_2_code 11 = .ok (.dsub, 1) := by decide +kernel
theorem d4_12 : decode prog_13_method_2_code 12 = .ok (.dmul, 1) := by decide +kernel
theorem d4_13 : decode prog_13_method_2_code 13 = .ok (.dreturn, 1) := by decide +kernel
theorem pn_4 : plainName "com/example/veilmatch/veilmatch/model/FailureRate" = true := by first | (simp [plainName, overriddenIn]; done) | decide +kernel
theorem ef_rmX (m : MethodId) (x0 : Addr) : entryFrame m #[(.ref x0)] 1 = mkF m 0 #[.val (.ref x0)] [] := by first | (simp [entryFrame, mkF, argsToLocals, Value.category]; done) | rfl
def Q_rmX (Z : State) (xa : Addr) (dv : UInt64) (h0 : Heap) (n0 : Nat) (v : Option Value) (h : Heap) (L : List Loc) : Prop := v = some (.double (FP.dmul (FP.dsub FP.dconst1 dv) (FP.dsub FP.dconst1 dv))) ∧ Fr n0 L ∧ h = h0
set_option maxRecDepth 65536 in
set_option maxHeartbeats 40000000 in
theorem rmX (l : Launch) (Z : State) (a0 : Array Value) (hw : ∀ d ∈ tables_1, d.before a0 Z = true) (ws : List Jvm.Cond) (xa : Addr) (dv : UInt64) (h0 : Heap) (n0 : Nat) (O0 : Old Z n0 h0) (F_value_xa : Fld Z h0 xa "com/example/veilmatch/veilmatch/model/FailureRate" "value" "D" (.double dv)) (hn1 : Jvm.Free.Fl.NoNaN64 (FP.dsub FP.dconst1 dv)) (hn2 : Jvm.Free.Fl.NoNaN64 (FP.dmul (FP.dsub FP.dconst1 dv) (FP.dsub FP.dconst1 dv))) :
    MetFree l (⟨"com/example/veilmatch/veilmatch/model/FailureRate", "exchangeChance", "()D"⟩ : MethodName) (head1 (Jvm.Cond.code (⟨"com/example/veilmatch/veilmatch/model/FailureRate", "exchangeChance", "()D"⟩ : MethodName) prog_13_method_2_code 1 (some .double) :: ws) ({ frames := 0, cells := 0, slots := 0, locals := 0 } : Room)) (fun a U => a = #[(.ref xa)] ∧ Z.Warmed39 U.vm ∧ U.heap = h0) (fun _ _ _ _ _ => True) (fun _ U o U' => ∃ v L, o = .returned v ∧ Q_rmX Z xa dv h0 n0 v U'.heap L ∧ FrameEnd U o U' L ({ frames := 0, cells := 0, slots := 0, locals := 0 } : Room).cells ({ frames := 0, cells := 0, slots := 0, locals := 0 } : Room).slots) := by
  refine MetFree.of_bodySF (plainFor_of_name pn_4) hisR ?_
  intro p e s m args below meth c s₁ Bd hml0 hP hK
  obtain ⟨rfl, hZ, hh⟩ := hP
  have hx := Bd.exec
  have hby := Bd.bytes
  have hml : c.maxLocals = 1 := hml0
  have hown : s.vm.findClass "com/example/veilmatch/veilmatch/model/FailureRate" = some m.cls := findClass_of_methodNamed Bd.named
  have hnm := (name_of_methodNamed Bd.named Bd.method).1
  have X0 : Stand p l e ({ frames := 0, cells := 0, slots := 0, locals := 0 } : Room) s m #[(.ref xa)] below meth c s₁ [] 0 0 := Stand.of_body Bd
  have e0 : s₁.heap = h0 := by rw [← hh, Bd.state]; rfl
  have N0 := Fr.nil n0
  suffices G : ∀ (Qf : Outcome → State → Prop), Qf = (fun (_ : Array Value) (U : State) (o : Outcome) (U' : State) => ∃ v L, o = .returned v ∧ Q_rmX Z xa dv h0 n0 v U'.heap L ∧ FrameEnd U o U' L ({ frames := 0, cells := 0, slots := 0, locals := 0 } : Room).cells ({ frames := 0, cells := 0, slots := 0, locals := 0 } : Room).slots) #[] s → Goes p.tables e below Qf (s₁.setTop (mkF m 0 #[.val (.ref xa)] [])) by
    obtain ⟨s₂, o, g1, g2, g3, g4⟩ := G _ rfl
    exact ⟨s₂, o, castTop (ef_rmX m _) g1, g2, g3, g4⟩
  intro Qf hQf
  refine Goes.to (T' := s₁.setTop (mkF m 1 #[.val (.ref xa)] [(.double FP.dconst1)])) (fun t k => XS.dconst1 X0.here hx rfl (hb hby d4_0) rfl k) ?_
  refine Goes.to (T' := s₁.setTop (mkF m 2 #[.val (.ref xa)] [(.ref xa), (.double FP.dconst1)])) (fun t k => XS.aloadN X0.here hx rfl (hb hby d4_1) rfl rfl k) ?_
  obtain ⟨T1, X1, e1, st1⟩ := getF X0 hx hZ hown (host := "") (Or.inl (hw _ (List.mem_of_getElem? (i := 16) rfl))) Via.refl e0 F_value_xa (g := (mkF m 2 #[.val (.ref xa)] [(.ref xa), (.double FP.dconst1)])) rfl rfl (hb hby d4_2)
  refine Goes.to (T' := T1.setTop (mkF m 5 #[.val (.ref xa)] [(.double dv), (.double FP.dconst1)])) st1 ?_
  refine Goes.to (T' := T1.setTop (mkF m 6 #[.val (.ref xa)] [(.double (FP.dsub FP.dconst1 dv))])) (fun t k => XS.dsubS X1.here hx rfl (hb hby d4_5) rfl hn1 rfl k) ?_
  refine Goes.to (T' := T1.setTop (mkF m 7 #[.val (.ref xa)] [(.double FP.dconst1), (.double (FP.dsub FP.dconst1 dv))])) (fun t k => XS.dconst1 X1.here hx rfl (hb hby d4_6) rfl k) ?_
  refine Goes.to (T' := T1.setTop (mkF m 8 #[.val (.ref xa)] [(.ref xa), (.double FP.dconst1), (.double (FP.dsub FP.dconst1 dv))])) (fun t k => XS.aloadN X1.here hx rfl (hb hby d4_7) rfl rfl k) ?_
  obtain ⟨T2, X2, e2, st2⟩ := getF X1 hx hZ hown (host := "") (Or.inl (hw _ (List.mem_of_getElem? (i := 16) rfl))) Via.refl e1 F_value_xa (g := (mkF m 8 #[.val (.ref xa)] [(.ref xa), (.double FP.dconst1), (.double (FP.dsub FP.dconst1 dv))])) rfl rfl (hb hby d4_8)
  refine Goes.to (T' := T2.setTop (mkF m 11 #[.val (.ref xa)] [(.double dv), (.double FP.dconst1), (.double (FP.dsub FP.dconst1 dv))])) st2 ?_
  refine Goes.to (T' := T2.setTop (mkF m 12 #[.val (.ref xa)] [(.double (FP.dsub FP.dconst1 dv)), (.double (FP.dsub FP.dconst1 dv))])) (fun t k => XS.dsubS X2.here hx rfl (hb hby d4_11) rfl hn1 rfl k) ?_
  refine Goes.to (T' := T2.setTop (mkF m 13 #[.val (.ref xa)] [(.double (FP.dmul (FP.dsub FP.dconst1 dv) (FP.dsub FP.dconst1 dv)))])) (fun t k => XS.dmulS X2.here hx rfl (hb hby d4_12) rfl hn2 rfl k) ?_
  obtain ⟨fs, hrL, hrun, hended, hW, hsame⟩ := X2.leave (v := some (.double (FP.dmul (FP.dsub FP.dconst1 dv) (FP.dsub FP.dconst1 dv)))) (fun h => by rw [Bd.returns] at h; cases h)
  subst hQf
  refine ⟨_, _, retOut X2 hx Bd.returns rfl (Or.inr (Or.inr (Or.inl ⟨rfl, rfl, _, rfl⟩))) (hb hby d4_13) hrL, hrun, hended, _, _, rfl, ?_, ⟨_, rfl⟩, hW, hsame.mono (by decide) (by decide)⟩
  show (fun (v : Option Value) (h : Heap) (L : List Loc) => v = some (.double (FP.dmul (FP.dsub FP.dconst1 dv) (FP.dsub FP.dconst1 dv))) ∧ Fr n0 L ∧ h = h0) (some (.double (FP.dmul (FP.dsub FP.dconst1 dv) (FP.dsub FP.dconst1 dv)))) T2.heap _
  rw [e2]
  exact ⟨rfl, N0, rfl⟩
theorem own_pa (x : Int32) : 0 ≤ (x &&& (67108863 : Int32)).toInt ∧ (x &&& (67108863 : Int32)).toInt < 67108864 := by
  have h := c_mask x 67108863 26 (by decide) (by decide)
  rw [h]; omega
theorem own_fl (pa : Int32) (h0 : 0 ≤ pa.toInt) (h1 : pa.toInt < 67108864) : ∃ mm, Mg (FP.ddiv (FP.i2d pa) (4724276009111650304 : UInt64)) mm ∧ mm < Jvm.FP.Core.one64 ∧ Jvm.Free.Fl.NoNaN64 (FP.dsub FP.dconst1 (FP.ddiv (FP.i2d pa) (4724276009111650304 : UInt64))) ∧ Jvm.Free.Fl.NoNaN64 (FP.dmul (FP.dsub FP.dconst1 (FP.ddiv (FP.i2d pa) (4724276009111650304 : UInt64))) (FP.dsub FP.dconst1 (FP.ddiv (FP.i2d pa) (4724276009111650304 : UInt64)))) ∧ Jvm.Free.Fl.NoNaN64 (FP.ddiv (FP.l2d (((67108864 : Int64) - (pa.toInt64)) * ((67108864 : Int64) - (pa.toInt64)))) (4841369599423283200 : UInt64)) ∧ cmpValue (FP.dcmp (FP.dmul (FP.dsub FP.dconst1 (FP.ddiv (FP.i2d pa) (4724276009111650304 : UInt64))) (FP.dsub FP.dconst1 (FP.ddiv (FP.i2d pa) (4724276009111650304 : UInt64)))) (FP.ddiv (FP.l2d (((67108864 : Int64) - (pa.toInt64)) * ((67108864 : Int64) - (pa.toInt64)))) (4841369599423283200 : UInt64))) .l = 0 := by
  have one := Jvm.FP.Core.one64_pos
  have o1 : Jvm.FP.Core.one64 = 67108864 * 2 ^ 1048 := by unfold Jvm.FP.Core.one64; rw [show 1074 = 26 + 1048 from rfl, Nat.pow_add]
  have o2 : Jvm.FP.Core.one64 = 4503599627370496 * 2 ^ 1022 := by unfold Jvm.FP.Core.one64; rw [show 1074 = 52 + 1022 from rfl, Nat.pow_add]
  have o3 : 2 ^ 1048 * 2 ^ 1048 = 2 ^ 1022 * Jvm.FP.Core.one64 := by unfold Jvm.FP.Core.one64; rw [← Nat.pow_add, ← Nat.pow_add]
  have A := mg_i2d h0
  obtain ⟨n, hn⟩ : ∃ n : Nat, n = pa.toInt.toNat := ⟨_, rfl⟩
  rw [← hn] at A
  have hs : (((67108864 : Int64) - (pa.toInt64))).toInt = ((67108864 - n : Nat) : Int) := by
    have c1 := c_lsub 67108864 pa.toInt64
    have c2 := c_i2l pa
    have e : (67108864 : Int64).toInt = 67108864 := rfl
    have b1 := Int64.toInt_lt (((67108864 : Int64) - (pa.toInt64)))
    have b2 := Int64.le_toInt (((67108864 : Int64) - (pa.toInt64)))
    omega
  generalize ((67108864 : Int64) - (pa.toInt64)) = S at *
  obtain ⟨t, ht⟩ : ∃ t : Nat, t = 67108864 - n := ⟨_, rfl⟩
  rw [← ht] at hs
  have ht2 : t ≤ 67108864 := by omega
  have htt : t * t ≤ 4503599627370496 := Nat.le_trans (Nat.mul_le_mul ht2 ht2) (by decide)
  have hss : (S * S).toInt = ((t * t : Nat) : Int) := by
    have c1 := c_lmul S S
    rw [hs] at c1
    have b1 := Int64.toInt_lt (S * S)
    have b2 := Int64.le_toInt (S * S)
    have e : (t : Int) * (t : Int) = ((t * t : Nat) : Int) := by simp
    rw [e] at c1
    generalize t * t = tt at *
    omega
  obtain ⟨V, hV⟩ := mg_ex n (-26) (by omega) (by decide) (by decide)
  have hV' : Mg V (n * 2 ^ 1048) := hV
  have D := mg_div_eq A mg_26 (Nat.mul_pos (by decide) one) hV' (by
    rw [Nat.mul_assoc n, ← Nat.mul_assoc (2 ^ 1048), Nat.mul_comm (2 ^ 1048) 67108864, ← o1, ← Nat.mul_assoc])
  have lt : n * 2 ^ 1048 < Jvm.FP.Core.one64 := by rw [o1]; exact Nat.mul_lt_mul_of_pos_right (by omega) (Nat.two_pow_pos _)
  obtain ⟨W, hW⟩ := mg_ex t (-26) (by omega) (by decide) (by decide)
  have hW' : Mg W (t * 2 ^ 1048) := hW
  have hd : Jvm.FP.Core.one64 - n * 2 ^ 1048 = t * 2 ^ 1048 := by rw [o1, ← Nat.sub_mul, ← ht]
  have B := mg_sub_eq mg_c1 D (Nat.le_of_lt lt) (by rw [hd]; exact hW')
  rw [hd] at B
  obtain ⟨U, hU⟩ := mg_ex (t * t) (-52) (by omega) (by decide) (by decide)
  have hU' : Mg U (t * t * 2 ^ 1022) := hU
  have P := mg_mul_eq B B hU' (by rw [Nat.mul_mul_mul_comm, o3, Nat.mul_assoc])
  have Q0 := mg_l2d (n := S * S) (by omega) (by rw [hss]; omega)
  rw [hss, Int.toNat_natCast] at Q0
  have Q := mg_div_eq Q0 mg_52 (Nat.mul_pos (by decide) one) hU' (by
    rw [Nat.mul_assoc (t * t), ← Nat.mul_assoc (2 ^ 1022), Nat.mul_comm (2 ^ 1022) 4503599627370496, ← o2, ← Nat.mul_assoc])
  exact ⟨_, D, lt, B.no, P.no, Q.no, by rw [mg_cmp P Q, if_neg (Nat.lt_irrefl _), if_pos rfl]⟩
theorem pd_31 : parseMethodDescriptor "(D)V" = some ⟨[.double], none⟩ := by decide +kernel
theorem pd_32 : parseMethodDescriptor "()D" = some ⟨[], some .double⟩ := by decide +kernel
theorem pn_0 : plainName "com/example/veilmatch/veilmatch/model/FailureRateExchangeChancePinLaw" = true := by first | (simp [plainName, overriddenIn]; done) | decide +kernel
theorem ef_rm0 (m : MethodId) (x0 : Int32) : entryFrame m #[(.int x0)] maxLocals = mkF m 0 #[.val (.int x0), .unset, .unset, .unset, .unset, .unset, .unset, .unset, .unset, .unset, .unset, .unset, .unset] [] := by first | (simp [entryFrame, mkF, argsToLocals, Value.category, maxLocals]; done) | rfl
def Q_rm0 (Z : State) (p0 : Int32) (h0 : Heap) (n0 : Nat) (v : Option Value) (h : Heap) (L : List Loc) : Prop := v = some (.int 1) ∧ Fr n0 L
set_option maxRecDepth 65536 in
set_option maxHeartbeats 40000000 in
theorem rm0 (l : Launch) (Z : State) (a0 : Array Value) (hw : ∀ d ∈ tables_1, d.before a0 Z = true) (ws : List Jvm.Cond) (p0 : Int32) (h0 : Heap) (n0 : Nat) (O0 : Old Z n0 h0) :
    MetFree l x (head1 (Jvm.Cond.code x code maxLocals ret :: ws) room_1) (fun a U => a = #[(.int p0)] ∧ Z.Warmed39 U.vm ∧ U.heap = h0) (fun _ _ _ _ _ => True) (fun _ U o U' => ∃ v L, o = .returned v ∧ Q_rm0 Z p0 h0 n0 v U'.heap L ∧ FrameEnd U o U' L room_1.cells room_1.slots) := by
  refine MetFree.of_bodySF (plainFor_of_name pn_0) hisR ?_
  intro p e s m args below meth c s₁ Bd hml0 hP hK
  obtain ⟨rfl, hZ, hh⟩ := hP
  have hx := Bd.exec
  have hby := Bd.bytes
  have hml : c.maxLocals = 13 := hml0
  have hown : s.vm.findClass "com/example/veilmatch/veilmatch/model/FailureRateExchangeChancePinLaw" = some m.cls := findClass_of_methodNamed Bd.named
  have hnm := (name_of_methodNamed Bd.named Bd.method).1
  have X0 : Stand p l e room_1 s m #[(.int p0)] below meth c s₁ [] 0 0 := Stand.of_body Bd
  have e0 : s₁.heap = h0 := by rw [← hh, Bd.state]; rfl
  have N0 := Fr.nil n0
  suffices G : ∀ (Qf : Outcome → State → Prop), Qf = (fun (_ : Array Value) (U : State) (o : Outcome) (U' : State) => ∃ v L, o = .returned v ∧ Q_rm0 Z p0 h0 n0 v U'.heap L ∧ FrameEnd U o U' L room_1.cells room_1.slots) #[] s → Goes p.tables e below Qf (s₁.setTop (mkF m 0 #[.val (.int p0), .unset, .unset, .unset, .unset, .unset, .unset, .unset, .unset, .unset, .unset, .unset, .unset] [])) by
    obtain ⟨s₂, o, g1, g2, g3, g4⟩ := G _ rfl
    exact ⟨s₂, o, castTop (ef_rm0 m _) g1, g2, g3, g4⟩
  intro Qf hQf
  refine Goes.to (T' := s₁.setTop (mkF m 1 #[.val (.int p0), .unset, .unset, .unset, .unset, .unset, .unset, .unset, .unset, .unset, .unset, .unset, .unset] [(.int p0)])) (fun t k => XS.iloadN X0.here hx rfl (hb hby at_0) rfl k) ?_
  refine Goes.to (T' := s₁.setTop (mkF m 3 #[.val (.int p0), .unset, .unset, .unset, .unset, .unset, .unset, .unset, .unset, .unset, .unset, .unset, .unset] [(.int (67108863 : Int32)), (.int p0)])) (X0.ldcInt hx hown (mvT hZ (hw _ (List.mem_of_getElem? (i := 0) rfl))) (g := (mkF m 1 #[.val (.int p0), .unset, .unset, .unset, .unset, .unset, .unset, .unset, .unset, .unset, .unset, .unset, .unset] [(.int p0)])) rfl (hb hby at_1)) ?_
  refine Goes.to (T' := s₁.setTop (mkF m 4 #[.val (.int p0), .unset, .unset, .unset, .unset, .unset, .unset, .unset, .unset, .unset, .unset, .unset, .unset] [(.int (p0 &&& (67108863 : Int32)))])) (fun t k => XS.iand X0.here hx rfl (hb hby at_3) rfl k) ?_
  have hpa := own_pa p0
  obtain ⟨pa, hda⟩ : ∃ z : Int32, z = (p0 &&& (67108863 : Int32)) := ⟨_, rfl⟩
  rw [← hda] at hpa ⊢
  obtain ⟨mm, hm, hmlt, hn1, hn2, hn3, hcm⟩ := own_fl pa hpa.1 hpa.2
  refine Goes.to (T' := s₁.setTop (mkF m 5 #[.val (.int p0), .val (.int pa), .unset, .unset, .unset, .unset, .unset, .unset, .unset, .unset, .unset, .unset, .unset] [])) (fun t k => XS.istoreN X0.here hx rfl (hb hby at_4) rfl (l' := #[.val (.int p0), .val (.int pa), .unset, .unset, .unset, .unset, .unset, .unset, .unset, .unset, .unset, .unset, .unset]) rfl k) ?_
  refine Goes.to (T' := s₁.setTop (mkF m 6 #[.val (.int p0), .val (.int pa), .unset, .unset, .unset, .unset, .unset, .unset, .unset, .unset, .unset, .unset, .unset] [(.int pa)])) (fun t k => XS.iloadN X0.here hx rfl (hb hby at_5) rfl k) ?_
  refine Goes.to (T' := s₁.setTop (mkF m 7 #[.val (.int p0), .val (.int pa), .unset, .unset, .unset, .unset, .unset, .unset, .unset, .unset, .unset, .unset, .unset] [(.double (FP.i2d pa))])) (fun t k => XS.i2dS X0.here hx rfl (hb hby at_6) rfl rfl k) ?_
  refine Goes.to (T' := s₁.setTop (mkF m 10 #[.val (.int p0), .val (.int pa), .unset, .unset, .unset, .unset, .unset, .unset, .unset, .unset, .unset, .unset, .unset] [(.double (4724276009111650304 : UInt64)), (.double (FP.i2d pa))])) (X0.ldc2DoubleC hx hown (mvT hZ (hw _ (List.mem_of_getElem? (i := 1) rfl))) (g := (mkF m 7 #[.val (.int p0), .val (.int pa), .unset, .unset, .unset, .unset, .unset, .unset, .unset, .unset, .unset, .unset, .unset] [(.double (FP.i2d pa))])) rfl (hb hby at_7)) ?_
  refine Goes.to (T' := s₁.setTop (mkF m 11 #[.val (.int p0), .val (.int pa), .unset, .unset, .unset, .unset, .unset, .unset, .unset, .unset, .unset, .unset, .unset] [(.double (FP.ddiv (FP.i2d pa) (4724276009111650304 : UInt64)))])) (fun t k => XS.ddivS X0.here hx rfl (hb hby at_10) rfl hm.no rfl k) ?_
  refine Goes.to (T' := s₁.setTop (mkF m 12 #[.val (.int p0), .val (.int pa), .val (.double (FP.ddiv (FP.i2d pa) (4724276009111650304 : UInt64))), .second, .unset, .unset, .unset, .unset, .unset, .unset, .unset, .unset, .unset] [])) (fun t k => XS.dstoreN X0.here hx rfl (hb hby at_11) rfl (l' := #[.val (.int p0), .val (.int pa), .val (.double (FP.ddiv (FP.i2d pa) (4724276009111650304 : UInt64))), .second, .unset, .unset, .unset, .unset, .unset, .unset, .unset, .unset, .unset]) rfl k) ?_
  obtain ⟨T1, h1, X1, e1, E1, A1, D1, -, st1⟩ := newO X0 hx hZ hown (hw _ (List.mem_of_getElem? (i := 2) rfl)) (hw _ (List.mem_of_getElem? (i := 3) rfl)) (hw _ (List.mem_of_getElem? (i := 4) rfl)) e0 (g := (mkF m 12 #[.val (.int p0), .val (.int pa), .val (.double (FP.ddiv (FP.i2d pa) (4724276009111650304 : UInt64))), .second, .unset, .unset, .unset, .unset, .unset, .unset, .unset, .unset, .unset] [])) rfl (hb hby at_12) (by decide) (by decide)
  obtain ⟨b1, g1⟩ : ∃ z, z = h0.size := ⟨_, rfl⟩
  rw [← g1] at A1 D1 st1
  have g_b1 : n0 ≤ b1 := Nat.le_trans (own_old O0) (Nat.le_of_eq g1.symm)
  have O0 := O0.ext E1
  have E_b1 := A1
  have F_value_b1 : Fld Z h1 b1 "com/example/veilmatch/veilmatch/model/FailureRate" "value" "D" (.double (0 : UInt64)) := D1 (Or.inr (hw _ (List.mem_of_getElem? (i := 17) rfl))) (ty := .double) (by decide)
  refine Goes.to (T' := T1.setTop (mkF m 15 #[.val (.int p0), .val (.int pa), .val (.double (FP.ddiv (FP.i2d pa) (4724276009111650304 : UInt64))), .second, .unset, .unset, .unset, .unset, .unset, .unset, .unset, .unset, .unset] [(.ref b1)])) st1 ?_
  refine Goes.to (T' := T1.setTop (mkF m 16 #[.val (.int p0), .val (.int pa), .val (.double (FP.ddiv (FP.i2d pa) (4724276009111650304 : UInt64))), .second, .unset, .unset, .unset, .unset, .unset, .unset, .unset, .unset, .unset] [(.ref b1), (.ref b1)])) (fun t k => XS.dup X1.here hx rfl (hb hby at_15) rfl rfl k) ?_
  refine Goes.to (T' := T1.setTop (mkF m 17 #[.val (.int p0), .val (.int pa), .val (.double (FP.ddiv (FP.i2d pa) (4724276009111650304 : UInt64))), .second, .unset, .unset, .unset, .unset, .unset, .unset, .unset, .unset, .unset] [(.double (FP.ddiv (FP.i2d pa) (4724276009111650304 : UInt64))), (.ref b1), (.ref b1)])) (fun t k => XS.dloadN X1.here hx rfl (hb hby at_16) rfl k) ?_
  obtain ⟨_, _, ⟨T2, L2, k2, n2⟩, -, X2, ⟨Lc2, hQ2, l2, y2, z2⟩, st2⟩ := X1.specialBack hx (y := (⟨"com/example/veilmatch/veilmatch/model/FailureRate", "<init>", "(D)V"⟩ : MethodName)) rfl hown (mvT hZ (hw _ (List.mem_of_getElem? (i := 5) rfl))) (mvT hZ (hw _ (List.mem_of_getElem? (i := 6) rfl))) (mvT hZ (hw _ (List.mem_of_getElem? (i := 7) rfl))) (by decide) (backOf (W := 1) (rmI l Z a0 hw [] b1 (FP.ddiv (FP.i2d pa) (4724276009111650304 : UInt64))  mm h1 n0 O0  E_b1 F_value_b1 g_b1 hm hmlt) hZ (hw _ (List.mem_of_getElem? (i := 7) rfl)) (hw _ (List.mem_of_getElem? (i := 4) rfl)) (by decide) (by decide)) (g := (mkF m 17 #[.val (.int p0), .val (.int pa), .val (.double (FP.ddiv (FP.i2d pa) (4724276009111650304 : UInt64))), .second, .unset, .unset, .unset, .unset, .unset, .unset, .unset, .unset, .unset] [(.double (FP.ddiv (FP.i2d pa) (4724276009111650304 : UInt64))), (.ref b1), (.ref b1)])) rfl (by rw [hml]; rfl) (Steps.refl _) (a := b1) (argsL := [(.double (FP.ddiv (FP.i2d pa) (4724276009111650304 : UInt64)))]) (rest := [(.ref b1)]) (lenOf pd_31 rfl) rfl (by show 2 * 0 + _ ≤ _; exact Nat.le_of_eq rfl) (hb hby at_17) (fun _ _ => ⟨rfl, e1, (by decide : 1 + 0 ≤ _), (by decide : 1 + 0 ≤ _)⟩)
  dsimp only [Pt.U, Pt.locs, Pt.cells, Pt.slots] at X2 l2 y2 z2 st2 hQ2
  subst l2 y2 z2
  obtain ⟨rfl, Nq2, K2, Ea2, Fa2⟩ := hQ2
  have N2 := Fr.app N0 Nq2
  have E_b1 := E_b1.keep K2
  have O0 := O0.keep K2 (allS g_b1 all0)
  have E_b1 := Ea2
  have F_value_b1 := Fa2
  refine Goes.thru (T' := T2.setTop (mkF m 20 #[.val (.int p0), .val (.int pa), .val (.double (FP.ddiv (FP.i2d pa) (4724276009111650304 : UInt64))), .second, .unset, .unset, .unset, .unset, .unset, .unset, .unset, .unset, .unset] [(.ref b1)])) st2 ?_
  refine Goes.to (T' := T2.setTop (mkF m 22 #[.val (.int p0), .val (.int pa), .val (.double (FP.ddiv (FP.i2d pa) (4724276009111650304 : UInt64))), .second, .val (.ref b1), .unset, .unset, .unset, .unset, .unset, .unset, .unset, .unset] [])) (fun t k => XS.astore X2.here hx rfl (hb hby at_20) rfl rfl (l' := #[.val (.int p0), .val (.int pa), .val (.double (FP.ddiv (FP.i2d pa) (4724276009111650304 : UInt64))), .second, .val (.ref b1), .unset, .unset, .unset, .unset, .unset, .unset, .unset, .unset]) rfl k) ?_
  refine Goes.to (T' := T2.setTop (mkF m 24 #[.val (.int p0), .val (.int pa), .val (.double (FP.ddiv (FP.i2d pa) (4724276009111650304 : UInt64))), .second, .val (.ref b1), .unset, .unset, .unset, .unset, .unset, .unset, .unset, .unset] [(.ref b1)])) (fun t k => XS.aload X2.here hx rfl (hb hby at_22) rfl rfl k) ?_
  obtain ⟨cq3, kq3, q3a, q3b, q3c⟩ := isOf hZ rfl E_b1
  obtain ⟨_, _, ⟨T3, L3, k3, n3⟩, -, X3, ⟨Lc3, hQ3, l3, y3, z3⟩, st3⟩ := X2.virtualBack hx (y := (⟨"com/example/veilmatch/veilmatch/model/FailureRate", "exchangeChance", "()D"⟩ : MethodName)) (z := (⟨"com/example/veilmatch/veilmatch/model/FailureRate", "exchangeChance", "()D"⟩ : MethodName)) hown (mvT hZ (hw _ (List.mem_of_getElem? (i := 18) rfl))) (mvT hZ (hw _ (List.mem_of_getElem? (i := 19) rfl))) (notFace_of_selects (args := #[]) (mvT hZ (hw _ (List.mem_of_getElem? (i := 21) rfl)))) (mvT hZ (hw _ (List.mem_of_getElem? (i := 21) rfl))) (mvT hZ (hw _ (List.mem_of_getElem? (i := 20) rfl))) (by decide) (backOf (W := 0) (rmX l Z a0 hw [] b1  (FP.ddiv (FP.i2d pa) (4724276009111650304 : UInt64)) T2.heap n0 O0  F_value_b1 hn1 hn2) hZ (hw _ (List.mem_of_getElem? (i := 22) rfl)) (hw _ (List.mem_of_getElem? (i := 4) rfl)) (by decide) (by decide)) q3a q3c (g := (mkF m 24 #[.val (.int p0), .val (.int pa), .val (.double (FP.ddiv (FP.i2d pa) (4724276009111650304 : UInt64))), .second, .val (.ref b1), .unset, .unset, .unset, .unset, .unset, .unset, .unset, .unset] [(.ref b1)])) rfl (by rw [hml]; rfl) (Steps.refl _) (argsL := []) (rest := []) (lenOf pd_32 rfl) rfl (by show 2 * 0 + _ ≤ _; exact Nat.le_of_eq rfl) (hb hby at_24) (fun _ _ => ⟨rfl, rfl, (by decide : 1 + 0 ≤ _), (by decide : 1 + 0 ≤ _)⟩)
  dsimp only [Pt.U, Pt.locs, Pt.cells, Pt.slots] at X3 l3 y3 z3 st3 hQ3
  subst l3 y3 z3
  obtain ⟨rfl, Nq3, e3⟩ := hQ3
  have N3 := Fr.app N2 Nq3
  refine Goes.thru (T' := T3.setTop (mkF m 27 #[.val (.int p0), .val (.int pa), .val (.double (FP.ddiv (FP.i2d pa) (4724276009111650304 : UInt64))), .second, .val (.ref b1), .unset, .unset, .unset, .unset, .unset, .unset, .unset, .unset] [(.double (FP.dmul (FP.dsub FP.dconst1 (FP.ddiv (FP.i2d pa) (4724276009111650304 : UInt64))) (FP.dsub FP.dconst1 (FP.ddiv (FP.i2d pa) (4724276009111650304 : UInt64)))))])) st3 ?_
  refine Goes.to (T' := T3.setTop (mkF m 29 #[.val (.int p0), .val (.int pa), .val (.double (FP.ddiv (FP.i2d pa) (4724276009111650304 : UInt64))), .second, .val (.ref b1), .val (.double (FP.dmul (FP.dsub FP.dconst1 (FP.ddiv (FP.i2d pa) (4724276009111650304 : UInt64))) (FP.dsub FP.dconst1 (FP.ddiv (FP.i2d pa) (4724276009111650304 : UInt64))))), .second, .unset, .unset, .unset, .unset, .unset, .unset] [])) (fun t k => XS.dstore X3.here hx rfl (hb hby at_27) rfl (l' := #[.val (.int p0), .val (.int pa), .val (.double (FP.ddiv (FP.i2d pa) (4724276009111650304 : UInt64))), .second, .val (.ref b1), .val (.double (FP.dmul (FP.dsub FP.dconst1 (FP.ddiv (FP.i2d pa) (4724276009111650304 : UInt64))) (FP.dsub FP.dconst1 (FP.ddiv (FP.i2d pa) (4724276009111650304 : UInt64))))), .second, .unset, .unset, .unset, .unset, .unset, .unset]) rfl k) ?_
  refine Goes.to (T' := T3.setTop (mkF m 32 #[.val (.int p0), .val (.int pa), .val (.double (FP.ddiv (FP.i2d pa) (4724276009111650304 : UInt64))), .second, .val (.ref b1), .val (.double (FP.dmul (FP.dsub FP.dconst1 (FP.ddiv (FP.i2d pa) (4724276009111650304 : UInt64))) (FP.dsub FP.dconst1 (FP.ddiv (FP.i2d pa) (4724276009111650304 : UInt64))))), .second, .unset, .unset, .unset, .unset, .unset, .unset] [(.long (67108864 : Int64))])) (X3.ldc2Long hx hown (mvT hZ (hw _ (List.mem_of_getElem? (i := 23) rfl))) (g := (mkF m 29 #[.val (.int p0), .val (.int pa), .val (.double (FP.ddiv (FP.i2d pa) (4724276009111650304 : UInt64))), .second, .val (.ref b1), .val (.double (FP.dmul (FP.dsub FP.dconst1 (FP.ddiv (FP.i2d pa) (4724276009111650304 : UInt64))) (FP.dsub FP.dconst1 (FP.ddiv (FP.i2d pa) (4724276009111650304 : UInt64))))), .second, .unset, .unset, .unset, .unset, .unset, .unset] [])) rfl (hb hby at_29)) ?_
  refine Goes.to (T' := T3.setTop (mkF m 33 #[.val (.int p0), .val (.int pa), .val (.double (FP.ddiv (FP.i2d pa) (4724276009111650304 : UInt64))), .second, .val (.ref b1), .val (.double (FP.dmul (FP.dsub FP.dconst1 (FP.ddiv (FP.i2d pa) (4724276009111650304 : UInt64))) (FP.dsub FP.dconst1 (FP.ddiv (FP.i2d pa) (4724276009111650304 : UInt64))))), .second, .unset, .unset, .unset, .unset, .unset, .unset] [(.int pa), (.long (67108864 : Int64))])) (fun t k => XS.iloadN X3.here hx rfl (hb hby at_32) rfl k) ?_
  refine Goes.to (T' := T3.setTop (mkF m 34 #[.val (.int p0), .val (.int pa), .val (.double (FP.ddiv (FP.i2d pa) (4724276009111650304 : UInt64))), .second, .val (.ref b1), .val (.double (FP.dmul (FP.dsub FP.dconst1 (FP.ddiv (FP.i2d pa) (4724276009111650304 : UInt64))) (FP.dsub FP.dconst1 (FP.ddiv (FP.i2d pa) (4724276009111650304 : UInt64))))), .second, .unset, .unset, .unset, .unset, .unset, .unset] [(.long (pa.toInt64)), (.long (67108864 : Int64))])) (fun t k => XS.i2l X3.here hx rfl (hb hby at_33) rfl k) ?_
  refine Goes.to (T' := T3.setTop (mkF m 35 #[.val (.int p0), .val (.int pa), .val (.double (FP.ddiv (FP.i2d pa) (4724276009111650304 : UInt64))), .second, .val (.ref b1), .val (.double (FP.dmul (FP.dsub FP.dconst1 (FP.ddiv (FP.i2d pa) (4724276009111650304 : UInt64))) (FP.dsub FP.dconst1 (FP.ddiv (FP.i2d pa) (4724276009111650304 : UInt64))))), .second, .unset, .unset, .unset, .unset, .unset, .unset] [(.long ((67108864 : Int64) - (pa.toInt64)))])) (fun t k => XS.lsub X3.here hx rfl (hb hby at_34) rfl k) ?_
  refine Goes.to (T' := T3.setTop (mkF m 37 #[.val (.int p0), .val (.int pa), .val (.double (FP.ddiv (FP.i2d pa) (4724276009111650304 : UInt64))), .second, .val (.ref b1), .val (.double (FP.dmul (FP.dsub FP.dconst1 (FP.ddiv (FP.i2d pa) (4724276009111650304 : UInt64))) (FP.dsub FP.dconst1 (FP.ddiv (FP.i2d pa) (4724276009111650304 : UInt64))))), .second, .val (.long ((67108864 : Int64) - (pa.toInt64))), .second, .unset, .unset, .unset, .unset] [])) (fun t k => XS.lstore X3.here hx rfl (hb hby at_35) rfl (l' := #[.val (.int p0), .val (.int pa), .val (.double (FP.ddiv (FP.i2d pa) (4724276009111650304 : UInt64))), .second, .val (.ref b1), .val (.double (FP.dmul (FP.dsub FP.dconst1 (FP.ddiv (FP.i2d pa) (4724276009111650304 : UInt64))) (FP.dsub FP.dconst1 (FP.ddiv (FP.i2d pa) (4724276009111650304 : UInt64))))), .second, .val (.long ((67108864 : Int64) - (pa.toInt64))), .second, .unset, .unset, .unset, .unset]) rfl k) ?_
  refine Goes.to (T' := T3.setTop (mkF m 39 #[.val (.int p0), .val (.int pa), .val (.double (FP.ddiv (FP.i2d pa) (4724276009111650304 : UInt64))), .second, .val (.ref b1), .val (.double (FP.dmul (FP.dsub FP.dconst1 (FP.ddiv (FP.i2d pa) (4724276009111650304 : UInt64))) (FP.dsub FP.dconst1 (FP.ddiv (FP.i2d pa) (4724276009111650304 : UInt64))))), .second, .val (.long ((67108864 : Int64) - (pa.toInt64))), .second, .unset, .unset, .unset, .unset] [(.long ((67108864 : Int64) - (pa.toInt64)))])) (fun t k => XS.lload X3.here hx rfl (hb hby at_37) rfl k) ?_
  refine Goes.to (T' := T3.setTop (mkF m 41 #[.val (.int p0), .val (.int pa), .val (.double (FP.ddiv (FP.i2d pa) (4724276009111650304 : UInt64))), .second, .val (.ref b1), .val (.double (FP.dmul (FP.dsub FP.dconst1 (FP.ddiv (FP.i2d pa) (4724276009111650304 : UInt64))) (FP.dsub FP.dconst1 (FP.ddiv (FP.i2d pa) (4724276009111650304 : UInt64))))), .second, .val (.long ((67108864 : Int64) - (pa.toInt64))), .second, .unset, .unset, .unset, .unset] [(.long ((67108864 : Int64) - (pa.toInt64))), (.long ((67108864 : Int64) - (pa.toInt64)))])) (fun t k => XS.lload X3.here hx rfl (hb hby at_39) rfl k) ?_
  refine Goes.to (T' := T3.setTop (mkF m 42 #[.val (.int p0), .val (.int pa), .val (.double (FP.ddiv (FP.i2d pa) (4724276009111650304 : UInt64))), .second, .val (.ref b1), .val (.double (FP.dmul (FP.dsub FP.dconst1 (FP.ddiv (FP.i2d pa) (4724276009111650304 : UInt64))) (FP.dsub FP.dconst1 (FP.ddiv (FP.i2d pa) (4724276009111650304 : UInt64))))), .second, .val (.long ((67108864 : Int64) - (pa.toInt64))), .second, .unset, .unset, .unset, .unset] [(.long (((67108864 : Int64) - (pa.toInt64)) * ((67108864 : Int64) - (pa.toInt64))))])) (fun t k => XS.lmul X3.here hx rfl (hb hby at_41) rfl k) ?_
  refine Goes.to (T' := T3.setTop (mkF m 44 #[.val (.int p0), .val (.int pa), .val (.double (FP.ddiv (FP.i2d pa) (4724276009111650304 : UInt64))), .second, .val (.ref b1), .val (.double (FP.dmul (FP.dsub FP.dconst1 (FP.ddiv (FP.i2d pa) (4724276009111650304 : UInt64))) (FP.dsub FP.dconst1 (FP.ddiv (FP.i2d pa) (4724276009111650304 : UInt64))))), .second, .val (.long ((67108864 : Int64) - (pa.toInt64))), .second, .val (.long (((67108864 : Int64) - (pa.toInt64)) * ((67108864 : Int64) - (pa.toInt64)))), .second, .unset, .unset] [])) (fun t k => XS.lstore X3.here hx rfl (hb hby at_42) rfl (l' := #[.val (.int p0), .val (.int pa), .val (.double (FP.ddiv (FP.i2d pa) (4724276009111650304 : UInt64))), .second, .val (.ref b1), .val (.double (FP.dmul (FP.dsub FP.dconst1 (FP.ddiv (FP.i2d pa) (4724276009111650304 : UInt64))) (FP.dsub FP.dconst1 (FP.ddiv (FP.i2d pa) (4724276009111650304 : UInt64))))), .second, .val (.long ((67108864 : Int64) - (pa.toInt64))), .second, .val (.long (((67108864 : Int64) - (pa.toInt64)) * ((67108864 : Int64) - (pa.toInt64)))), .second, .unset, .unset]) rfl k) ?_
  refine Goes.to (T' := T3.setTop (mkF m 46 #[.val (.int p0), .val (.int pa), .val (.double (FP.ddiv (FP.i2d pa) (4724276009111650304 : UInt64))), .second, .val (.ref b1), .val (.double (FP.dmul (FP.dsub FP.dconst1 (FP.ddiv (FP.i2d pa) (4724276009111650304 : UInt64))) (FP.dsub FP.dconst1 (FP.ddiv (FP.i2d pa) (4724276009111650304 : UInt64))))), .second, .val (.long ((67108864 : Int64) - (pa.toInt64))), .second, .val (.long (((67108864 : Int64) - (pa.toInt64)) * ((67108864 : Int64) - (pa.toInt64)))), .second, .unset, .unset] [(.long (((67108864 : Int64) - (pa.toInt64)) * ((67108864 : Int64) - (pa.toInt64))))])) (fun t k => XS.lload X3.here hx rfl (hb hby at_44) rfl k) ?_
  refine Goes.to (T' := T3.setTop (mkF m 47 #[.val (.int p0), .val (.int pa), .val (.double (FP.ddiv (FP.i2d pa) (4724276009111650304 : UInt64))), .second, .val (.ref b1), .val (.double (FP.dmul (FP.dsub FP.dconst1 (FP.ddiv (FP.i2d pa) (4724276009111650304 : UInt64))) (FP.dsub FP.dconst1 (FP.ddiv (FP.i2d pa) (4724276009111650304 : UInt64))))), .second, .val (.long ((67108864 : Int64) - (pa.toInt64))), .second, .val (.long (((67108864 : Int64) - (pa.toInt64)) * ((67108864 : Int64) - (pa.toInt64)))), .second, .unset, .unset] [(.double (FP.l2d (((67108864 : Int64) - (pa.toInt64)) * ((67108864 : Int64) - (pa.toInt64)))))])) (fun t k => XS.l2dS X3.here hx rfl (hb hby at_46) rfl rfl k) ?_
  refine Goes.to (T' := T3.setTop (mkF m 50 #[.val (.int p0), .val (.int pa), .val (.double (FP.ddiv (FP.i2d pa) (4724276009111650304 : UInt64))), .second, .val (.ref b1), .val (.double (FP.dmul (FP.dsub FP.dconst1 (FP.ddiv (FP.i2d pa) (4724276009111650304 : UInt64))) (FP.dsub FP.dconst1 (FP.ddiv (FP.i2d pa) (4724276009111650304 : UInt64))))), .second, .val (.long ((67108864 : Int64) - (pa.toInt64))), .second, .val (.long (((67108864 : Int64) - (pa.toInt64)) * ((67108864 : Int64) - (pa.toInt64)))), .second, .unset, .unset] [(.double (4841369599423283200 : UInt64)), (.double (FP.l2d (((67108864 : Int64) - (pa.toInt64)) * ((67108864 : Int64) - (pa.toInt64)))))])) (X3.ldc2DoubleC hx hown (mvT hZ (hw _ (List.mem_of_getElem? (i := 24) rfl))) (g := (mkF m 47 #[.val (.int p0), .val (.int pa), .val (.double (FP.ddiv (FP.i2d pa) (4724276009111650304 : UInt64))), .second, .val (.ref b1), .val (.double (FP.dmul (FP.dsub FP.dconst1 (FP.ddiv (FP.i2d pa) (4724276009111650304 : UInt64))) (FP.dsub FP.dconst1 (FP.ddiv (FP.i2d pa) (4724276009111650304 : UInt64))))), .second, .val (.long ((67108864 : Int64) - (pa.toInt64))), .second, .val (.long (((67108864 : Int64) - (pa.toInt64)) * ((67108864 : Int64) - (pa.toInt64)))), .second, .unset, .unset] [(.double (FP.l2d (((67108864 : Int64) - (pa.toInt64)) * ((67108864 : Int64) - (pa.toInt64)))))])) rfl (hb hby at_47)) ?_
  refine Goes.to (T' := T3.setTop (mkF m 51 #[.val (.int p0), .val (.int pa), .val (.double (FP.ddiv (FP.i2d pa) (4724276009111650304 : UInt64))), .second, .val (.ref b1), .val (.double (FP.dmul (FP.dsub FP.dconst1 (FP.ddiv (FP.i2d pa) (4724276009111650304 : UInt64))) (FP.dsub FP.dconst1 (FP.ddiv (FP.i2d pa) (4724276009111650304 : UInt64))))), .second, .val (.long ((67108864 : Int64) - (pa.toInt64))), .second, .val (.long (((67108864 : Int64) - (pa.toInt64)) * ((67108864 : Int64) - (pa.toInt64)))), .second, .unset, .unset] [(.double (FP.ddiv (FP.l2d (((67108864 : Int64) - (pa.toInt64)) * ((67108864 : Int64) - (pa.toInt64)))) (4841369599423283200 : UInt64)))])) (fun t k => XS.ddivS X3.here hx rfl (hb hby at_50) rfl hn3 rfl k) ?_
  refine Goes.to (T' := T3.setTop (mkF m 53 #[.val (.int p0), .val (.int pa), .val (.double (FP.ddiv (FP.i2d pa) (4724276009111650304 : UInt64))), .second, .val (.ref b1), .val (.double (FP.dmul (FP.dsub FP.dconst1 (FP.ddiv (FP.i2d pa) (4724276009111650304 : UInt64))) (FP.dsub FP.dconst1 (FP.ddiv (FP.i2d pa) (4724276009111650304 : UInt64))))), .second, .val (.long ((67108864 : Int64) - (pa.toInt64))), .second, .val (.long (((67108864 : Int64) - (pa.toInt64)) * ((67108864 : Int64) - (pa.toInt64)))), .second, .val (.double (FP.ddiv (FP.l2d (((67108864 : Int64) - (pa.toInt64)) * ((67108864 : Int64) - (pa.toInt64)))) (4841369599423283200 : UInt64))), .second] [])) (fun t k => XS.dstore X3.here hx rfl (hb hby at_51) rfl (l' := #[.val (.int p0), .val (.int pa), .val (.double (FP.ddiv (FP.i2d pa) (4724276009111650304 : UInt64))), .second, .val (.ref b1), .val (.double (FP.dmul (FP.dsub FP.dconst1 (FP.ddiv (FP.i2d pa) (4724276009111650304 : UInt64))) (FP.dsub FP.dconst1 (FP.ddiv (FP.i2d pa) (4724276009111650304 : UInt64))))), .second, .val (.long ((67108864 : Int64) - (pa.toInt64))), .second, .val (.long (((67108864 : Int64) - (pa.toInt64)) * ((67108864 : Int64) - (pa.toInt64)))), .second, .val (.double (FP.ddiv (FP.l2d (((67108864 : Int64) - (pa.toInt64)) * ((67108864 : Int64) - (pa.toInt64)))) (4841369599423283200 : UInt64))), .second]) rfl k) ?_
  refine Goes.to (T' := T3.setTop (mkF m 55 #[.val (.int p0), .val (.int pa), .val (.double (FP.ddiv (FP.i2d pa) (4724276009111650304 : UInt64))), .second, .val (.ref b1), .val (.double (FP.dmul (FP.dsub FP.dconst1 (FP.ddiv (FP.i2d pa) (4724276009111650304 : UInt64))) (FP.dsub FP.dconst1 (FP.ddiv (FP.i2d pa) (4724276009111650304 : UInt64))))), .second, .val (.long ((67108864 : Int64) - (pa.toInt64))), .second, .val (.long (((67108864 : Int64) - (pa.toInt64)) * ((67108864 : Int64) - (pa.toInt64)))), .second, .val (.double (FP.ddiv (FP.l2d (((67108864 : Int64) - (pa.toInt64)) * ((67108864 : Int64) - (pa.toInt64)))) (4841369599423283200 : UInt64))), .second] [(.double (FP.dmul (FP.dsub FP.dconst1 (FP.ddiv (FP.i2d pa) (4724276009111650304 : UInt64))) (FP.dsub FP.dconst1 (FP.ddiv (FP.i2d pa) (4724276009111650304 : UInt64)))))])) (fun t k => XS.dload X3.here hx rfl (hb hby at_53) rfl k) ?_
  refine Goes.to (T' := T3.setTop (mkF m 57 #[.val (.int p0), .val (.int pa), .val (.double (FP.ddiv (FP.i2d pa) (4724276009111650304 : UInt64))), .second, .val (.ref b1), .val (.double (FP.dmul (FP.dsub FP.dconst1 (FP.ddiv (FP.i2d pa) (4724276009111650304 : UInt64))) (FP.dsub FP.dconst1 (FP.ddiv (FP.i2d pa) (4724276009111650304 : UInt64))))), .second, .val (.long ((67108864 : Int64) - (pa.toInt64))), .second, .val (.long (((67108864 : Int64) - (pa.toInt64)) * ((67108864 : Int64) - (pa.toInt64)))), .second, .val (.double (FP.ddiv (FP.l2d (((67108864 : Int64) - (pa.toInt64)) * ((67108864 : Int64) - (pa.toInt64)))) (4841369599423283200 : UInt64))), .second] [(.double (FP.ddiv (FP.l2d (((67108864 : Int64) - (pa.toInt64)) * ((67108864 : Int64) - (pa.toInt64)))) (4841369599423283200 : UInt64))), (.double (FP.dmul (FP.dsub FP.dconst1 (FP.ddiv (FP.i2d pa) (4724276009111650304 : UInt64))) (FP.dsub FP.dconst1 (FP.ddiv (FP.i2d pa) (4724276009111650304 : UInt64)))))])) (fun t k => XS.dload X3.here hx rfl (hb hby at_55) rfl k) ?_
  refine Goes.to (T' := T3.setTop (mkF m 58 #[.val (.int p0), .val (.int pa), .val (.double (FP.ddiv (FP.i2d pa) (4724276009111650304 : UInt64))), .second, .val (.ref b1), .val (.double (FP.dmul (FP.dsub FP.dconst1 (FP.ddiv (FP.i2d pa) (4724276009111650304 : UInt64))) (FP.dsub FP.dconst1 (FP.ddiv (FP.i2d pa) (4724276009111650304 : UInt64))))), .second, .val (.long ((67108864 : Int64) - (pa.toInt64))), .second, .val (.long (((67108864 : Int64) - (pa.toInt64)) * ((67108864 : Int64) - (pa.toInt64)))), .second, .val (.double (FP.ddiv (FP.l2d (((67108864 : Int64) - (pa.toInt64)) * ((67108864 : Int64) - (pa.toInt64)))) (4841369599423283200 : UInt64))), .second] [(.int (0 : Int32))])) (fun t k => XS.dcmpS X3.here hx rfl (hb hby at_57) rfl (v := (0 : Int32)) hcm k) ?_
  refine Goes.to (T' := T3.setTop (mkF m 61 #[.val (.int p0), .val (.int pa), .val (.double (FP.ddiv (FP.i2d pa) (4724276009111650304 : UInt64))), .second, .val (.ref b1), .val (.double (FP.dmul (FP.dsub FP.dconst1 (FP.ddiv (FP.i2d pa) (4724276009111650304 : UInt64))) (FP.dsub FP.dconst1 (FP.ddiv (FP.i2d pa) (4724276009111650304 : UInt64))))), .second, .val (.long ((67108864 : Int64) - (pa.toInt64))), .second, .val (.long (((67108864 : Int64) - (pa.toInt64)) * ((67108864 : Int64) - (pa.toInt64)))), .second, .val (.double (FP.ddiv (FP.l2d (((67108864 : Int64) - (pa.toInt64)) * ((67108864 : Int64) - (pa.toInt64)))) (4841369599423283200 : UInt64))), .second] [])) (fun t k => XS.ifNo X3.here hx rfl (hb hby at_58) rfl ((if0 _ _).trans (teq (by decide)).2) k) ?_
  refine Goes.to (T' := T3.setTop (mkF m 62 #[.val (.int p0), .val (.int pa), .val (.double (FP.ddiv (FP.i2d pa) (4724276009111650304 : UInt64))), .second, .val (.ref b1), .val (.double (FP.dmul (FP.dsub FP.dconst1 (FP.ddiv (FP.i2d pa) (4724276009111650304 : UInt64))) (FP.dsub FP.dconst1 (FP.ddiv (FP.i2d pa) (4724276009111650304 : UInt64))))), .second, .val (.long ((67108864 : Int64) - (pa.toInt64))), .second, .val (.long (((67108864 : Int64) - (pa.toInt64)) * ((67108864 : Int64) - (pa.toInt64)))), .second, .val (.double (FP.ddiv (FP.l2d (((67108864 : Int64) - (pa.toInt64)) * ((67108864 : Int64) - (pa.toInt64)))) (4841369599423283200 : UInt64))), .second] [(.int (1 : Int32))])) (fun t k => XS.iconst X3.here hx rfl (hb hby at_61) k) ?_
  refine Goes.to (T' := T3.setTop (mkF m 66 #[.val (.int p0), .val (.int pa), .val (.double (FP.ddiv (FP.i2d pa) (4724276009111650304 : UInt64))), .second, .val (.ref b1), .val (.double (FP.dmul (FP.dsub FP.dconst1 (FP.ddiv (FP.i2d pa) (4724276009111650304 : UInt64))) (FP.dsub FP.dconst1 (FP.ddiv (FP.i2d pa) (4724276009111650304 : UInt64))))), .second, .val (.long ((67108864 : Int64) - (pa.toInt64))), .second, .val (.long (((67108864 : Int64) - (pa.toInt64)) * ((67108864 : Int64) - (pa.toInt64)))), .second, .val (.double (FP.ddiv (FP.l2d (((67108864 : Int64) - (pa.toInt64)) * ((67108864 : Int64) - (pa.toInt64)))) (4841369599423283200 : UInt64))), .second] [(.int (1 : Int32))])) (fun t k => XS.goto X3.here hx rfl (pc0 := 62) (pc' := 66) rfl (hb hby at_62) (by decide) (by decide) k) ?_
  obtain ⟨fs, hrL, hrun, hended, hW, hsame⟩ := X3.leave (v := some (.int (1 : Int32))) (fun h => by rw [Bd.returns] at h; cases h)
  subst hQf
  refine ⟨_, _, retN X3 hx (t := .boolean) Bd.returns (by simp) (hb hby at_66) hrL, hrun, hended, _, _, rfl, ?_, ⟨_, rfl⟩, hW, hsame.mono (by decide) (by decide)⟩
  show (fun (v : Option Value) (h : Heap) (L : List Loc) => v = some (.int 1) ∧ Fr n0 L) (some (.int (1 : Int32))) T3.heap _
  rw [e3]
  exact ⟨rfl, N3⟩
set_option maxRecDepth 65536 in
set_option maxHeartbeats 40000000 in
theorem comes_1 {Post : Tables → Env → Array Value → State → Outcome → State → Prop} (hpost : ∀ tb e args s v u, (limb_1_1.after args s (.returned v) u = true ∧ limb_1_2.after args s (.returned v) u = true ∧ True) → FrameEnd s (.returned v) u (Jvm.fieldLocs frame_1_writes args s ++ Jvm.arrayLocs frame_1_arrays args s ++ Jvm.staticLocs frame_1_statics s) 16 128 → Post tb e args s (.returned v) u) :
    ArmFor flags0 classFile x code maxLocals ret World_1 tables_1 room_1 Calls_1 rest_1 Pre_1 Post := by
  intro l hfl _ _ p e ha hc hk s m args below hf hA hF happ hP
  obtain ⟨hcalls, hrest, hpre⟩ := hP
  obtain ⟨-, -, -, hnamed, -, -, -, hat⟩ := (Spec.applies_iff hf).mp happ
  obtain ⟨hg, hn⟩ := and_e (Cond.before_iff.mp (show (Jvm.Cond.and given_1 narrow_1).before args s = true from hpre))
  obtain ⟨gc, gr0⟩ := and_e hg
  obtain ⟨w0, rfl⟩ : ∃ w0 : Value, args = #[w0] := by
    have hs : args.size = 1 := by simpa [Cond.value, given_1] using gc
    obtain ⟨L⟩ := args
    match L, hs with
    | [w0], _ => exact ⟨w0, rfl⟩
  have hw := fun d (hd : d ∈ tables_1) => atoms_spec (ws := Jvm.Cond.code x code maxLocals ret :: tables_1) hat d (List.mem_cons_of_mem _ hd)
  have hfit : Fit s := fun {y c} hc i hi => by
    obtain ⟨ha, rfl⟩ := Array.getElem?_eq_some_iff.mp hc
    have q := List.all_eq_true.mp ((Array.all_eq_true_iff_forall_mem.mp hF) _ (Array.getElem_mem ha)) i (List.mem_range.mpr hi)
    simpa [Array.getElem?_eq_getElem hi] using q
  obtain ⟨i0, ei0⟩ := is_v gr0
  obtain rfl : w0 = (.int i0) := Option.some.inj ei0
  obtain ⟨n, o, h1, h2, h3, _, L, rfl, ⟨rfl, N⟩, hq⟩ := rm0 l s _ hw tables_1 i0 s.heap s.heap.size (Old.start s) p e ha hc hk s m _ below hf ((Spec.applies_iff_loose hf).mp happ).1 ⟨rfl, State.Warmed39.refl s, rfl⟩ trivial
  refine ⟨n, _, h1, h2, h3, hpost _ _ _ _ _ _ ⟨Cond.after_iff.mpr rfl, Cond.after_iff.mpr (eq_i res_at (Term.int_eval (1)) rfl), trivial⟩ ⟨hq.1, hq.2.1, (hq.2.2.sift fun y hy => Or.inr (N y hy)).mono (by decide) (by decide)⟩⟩
theorem main_1_1 : Claimed_1_1 := comes_1 fun _ _ _ _ _ _ h hF => ⟨h.1, hF⟩
theorem main_1_2 : Claimed_1_2 := comes_1 fun _ _ _ _ _ _ h hF => ⟨h.2.1, hF⟩
end Jvm.Pilot.@@N@@
namespace Jvm.Pilot.@@N@@
open Jvm Jvm.ClassFile Sem Op Lib Jvm.Free Jvm.Stand Jvm.Pilot.@@N@@.Jvm.D
/-! MADE BY PROGRAM (witnessworld.py) out of the Statement's table words and the real class files: 10 classes; the members and pool entries that the words name. The judged class is class 1, her method 1. -/
namespace start1
open Jvm.ClassFile
def u (s : String) : CpInfo := .utf8 (stringToUtf16 s)
/-- a pool by its gaps: so many unusable entries, then the entry; so many at the end -/
def gap : Nat → List CpInfo → List CpInfo
  | 0, r => r
  | n + 1, r => .unusable :: gap n r
def poolList (es : List (Nat × CpInfo)) (last : Nat) : List CpInfo := es.foldr (fun e r => gap e.1 (e.2 :: r)) (gap last [])
def pool (es : List (Nat × CpInfo)) (last : Nat) : Array CpInfo := ⟨poolList es last⟩
def fileOf (pool : Array CpInfo) (this : Nat) (attrs : Array Attribute := #[]) (ms : Array MethodInfo := #[]) (fl : Nat := 33) (sup : Nat := 0) (ifs : Array Nat := #[]) (fds : Array FieldInfo := #[]) : ClassFile where
  minorVersion := 0
  majorVersion := 65
  constantPool := pool
  accessFlags := fl
  thisClass := this
  superClass := sup
  interfaces := ifs
  fields := fds
  methods := ms
  attributes := attrs
def plain (name : String) (sup : Option ClassId) : Class where
  name := name
  kind := .ordinary
  loader := none
  accessFlags := 33
  super := sup
  interfaces := #[]
  cf := none
  fields := #[]
  methods := #[]
  instanceTypes := #[]
  staticTypes := #[]
  resolved := #[]
  callSites := []
  init := .initialized
  statics := none
  mirror := none

def pool0 : Array CpInfo := pool [(5, u "<init>"), (0, u "()V"), (1, .class_ 10), (1, u "java/lang/Object")] 113

def k0c0 : Code := { maxStack := 0, maxLocals := 1, code := object_method_1_code, exceptionTable := #[], attributes := #[] }
def k0m0 : Method := { name := "<init>", desc := "()V", sig := { parameters := [], returnType := none }, accessFlags := 1, code := some k0c0 }
/-- java/lang/Object -/
def k0 : Class := { plain "java/lang/Object" none with
  accessFlags := 33
  interfaces := #[]
  cf := some (fileOf pool0 8 #[] #[{ accessFlags := 1, nameIndex := 5, descriptorIndex := 6, attributes := #[] }] 33 0 #[] #[])
  fields := #[]
  methods := #[k0m0]
  instanceTypes := #[]
  staticTypes := #[]
  resolved := Array.replicate 124 none
  statics := none }

def pool1 : Array CpInfo := pool [(2, .class_ 4), (1, u "java/lang/Object"), (0, u "<init>"), (0, u "()V"), (0, .integer 67108863), (0, .double 4724276009111650304), (1, .class_ 11), (0, u "com/example/veilmatch/veilmatch/model/FailureRate"), (0, .methodref 10 13), (0, .nameAndType 5 14), (0, u "(D)V"), (0, .methodref 10 16), (0, .nameAndType 17 18), (0, u "exchangeChance"), (0, u "()D"), (0, .long 67108864), (1, .double 4841369599423283200), (1, .class_ 24), (0, u "com/example/veilmatch/veilmatch/model/FailureRateExchangeChancePinLaw"), (2, u "law"), (0, u "(I)Z")] 3

def k1m0 : Method := { name := "<init>", desc := "()V", sig := { parameters := [], returnType := none }, accessFlags := 1, code := none }
def k1c1 : Code := { maxStack := 4, maxLocals := 13, code := code, exceptionTable := #[], attributes := #[] }
def k1m1 : Method := { name := "law", desc := "(I)Z", sig := { parameters := [.int], returnType := some .boolean }, accessFlags := 9, code := some k1c1 }
/-- com/example/veilmatch/veilmatch/model/FailureRateExchangeChancePinLaw -/
def k1 : Class := { plain "com/example/veilmatch/veilmatch/model/FailureRateExchangeChancePinLaw" (some 0) with
  accessFlags := 49
  interfaces := #[]
  cf := some (fileOf pool1 23 #[] #[{ accessFlags := 1, nameIndex := 5, descriptorIndex := 6, attributes := #[] }, { accessFlags := 9, nameIndex := 27, descriptorIndex := 28, attributes := #[] }] 49 2 #[] #[])
  fields := #[]
  methods := #[k1m0, k1m1]
  instanceTypes := #[]
  staticTypes := #[]
  resolved := Array.replicate 32 none
  statics := none }

def pool2 : Array CpInfo := pool [(1, .methodref 2 3), (0, .class_ 4), (0, .nameAndType 5 6), (0, u "java/lang/Object"), (0, u "<init>"), (0, u "()V"), (0, .class_ 8), (0, u "java/lang/Record")] 13

def k2c0 : Code := { maxStack := 1, maxLocals := 1, code := jdk_30_method_1_code, exceptionTable := #[], attributes := #[] }
def k2m0 : Method := { name := "<init>", desc := "()V", sig := { parameters := [], returnType := none }, accessFlags := 4, code := some k2c0 }
/-- java/lang/Record -/
def k2 : Class := { plain "java/lang/Record" (some 0) with
  accessFlags := 1057
  interfaces := #[]
  cf := some (fileOf pool2 7 #[] #[{ accessFlags := 4, nameIndex := 5, descriptorIndex := 6, attributes := #[] }] 1057 2 #[] #[])
  fields := #[]
  methods := #[k2m0]
  instanceTypes := #[]
  staticTypes := #[]
  resolved := Array.replicate 22 none
  statics := none }

def pool3 : Array CpInfo := pool [(1, .methodref 2 3), (0, .class_ 4), (0, .nameAndType 5 6), (0, u "java/lang/Record"), (0, u "<init>"), (0, u "()V"), (9, .fieldref 17 18), (0, .class_ 19), (0, .nameAndType 20 21), (0, u "com/example/veilmatch/veilmatch/model/FailureRate"), (0, u "value"), (0, u "D"), (2, u "exchangeChance"), (0, u "()D"), (42, u "(D)V")] 37

def k3c0 : Code := { maxStack := 4, maxLocals := 3, code := prog_13_method_1_code, exceptionTable := #[], attributes := #[] }
def k3m0 : Method := { name := "<init>", desc := "(D)V", sig := { parameters := [.double], returnType := none }, accessFlags := 1, code := some k3c0 }
def k3c1 : Code := { maxStack := 6, maxLocals := 1, code := prog_13_method_2_code, exceptionTable := #[], attributes := #[] }
def k3m1 : Method := { name := "exchangeChance", desc := "()D", sig := { parameters := [], returnType := some .double }, accessFlags := 1, code := some k3c1 }
/-- com/example/veilmatch/veilmatch/model/FailureRate -/
def k3 : Class := { plain "com/example/veilmatch/veilmatch/model/FailureRate" (some 2) with
  accessFlags := 49
  interfaces := #[]
  cf := some (fileOf pool3 17 #[] #[{ accessFlags := 1, nameIndex := 5, descriptorIndex := 68, attributes := #[] }, { accessFlags := 1, nameIndex := 24, descriptorIndex := 25, attributes := #[] }] 49 2 #[] #[{ accessFlags := 18, nameIndex := 20, descriptorIndex := 21, attributes := #[] }])
  fields := #[{ name := "value", type := .double, accessFlags := 18, slot := 0, constantValue := 0 }]
  methods := #[k3m0, k3m1]
  instanceTypes := #[.double]
  staticTypes := #[]
  resolved := Array.replicate 106 none
  statics := none }

def pool4 : Array CpInfo := pool [(1, u "java/lang/Cloneable"), (0, .class_ 1), (0, u "java/lang/Object"), (0, .class_ 3)] 3

/-- java/lang/Cloneable -/
def k4 : Class := { plain "java/lang/Cloneable" (some 0) with
  accessFlags := 1537
  interfaces := #[]
  cf := some (fileOf pool4 2 #[] #[] 1537 4 #[] #[])
  fields := #[]
  methods := #[]
  instanceTypes := #[]
  staticTypes := #[]
  resolved := Array.replicate 8 none
  statics := none }

def pool5 : Array CpInfo := pool [(1, u "java/io/Serializable"), (0, .class_ 1), (0, u "java/lang/Object"), (0, .class_ 3)] 3

/-- java/io/Serializable -/
def k5 : Class := { plain "java/io/Serializable" (some 0) with
  accessFlags := 1537
  interfaces := #[]
  cf := some (fileOf pool5 2 #[] #[] 1537 4 #[] #[])
  fields := #[]
  methods := #[]
  instanceTypes := #[]
  staticTypes := #[]
  resolved := Array.replicate 8 none
  statics := none }

/-- the primitive byte -/
def k6 : Class := { plain "byte" none with kind := .primitive 'B', accessFlags := 0x411 }
/-- [B -/
def k7 : Class := { plain "[B" (some 0) with kind := .array 6 .byte, interfaces := #[4, 5], accessFlags := 1041 }

/-- the primitive int -/
def k8 : Class := { plain "int" none with kind := .primitive 'I', accessFlags := 0x411 }
/-- [I -/
def k9 : Class := { plain "[I" (some 0) with kind := .array 8 .int, interfaces := #[4, 5], accessFlags := 1041 }

def heap : Heap := #[]
def classes : Array Class := #[k0, k1, k2, k3, k4, k5, k6, k7, k8, k9]
def interned : List (Array UInt16 × Addr) := []
def slotsUsed : Nat := 0
def theMethod : MethodId := ⟨1, 1⟩
def args0 : Array Value := #[.int 5]
def aboutOver (below : List Frame) : State where
  vm := { classes := classes, interned := interned.toArray }
  heap := heap
  slotsUsed := slotsUsed
  threads := #[{ frames := .invoking theMethod args0 :: below }]
def below0 : List Frame := [.native { method := ⟨0, 0⟩, args := #[] }]
def about1 : State := aboutOver below0
def p0 : Program := .bare "" "" ""
def e0 : Env := launch0.env 0 0 0
theorem w_frames : about1.frames = Frame.invoking theMethod args0 :: below0 := rfl
set_option maxRecDepth 65536 in
theorem w_args : argsFit about1.vm theMethod args0 = true := by decide +kernel
set_option maxRecDepth 65536 in
theorem w_heap : heapFits about1 = true := by decide +kernel
set_option maxRecDepth 65536 in
theorem w_runnable : about1.curStatus? = some .runnable := by decide +kernel
set_option maxRecDepth 65536 in
theorem w_alone : about1.alone = true := by decide +kernel
set_option maxRecDepth 65536 in
theorem w_named : about1.methodNamed? x = some theMethod := by decide +kernel
set_option maxRecDepth 65536 in
theorem w_hears : about1.hears theMethod below0 = true := by decide +kernel
set_option maxRecDepth 65536 in
theorem w_ripe : about1.ripe theMethod args0 below0 = true := by decide +kernel
theorem w_running : about1.status = .running := rfl
set_option maxRecDepth 65536 in
theorem w_room : about1.hasRoom e0.platform room_1 = true :=
  launch0.hasRoom_least _ room_1 (by decide +kernel) (by decide +kernel) (by decide +kernel) (by decide +kernel) (by decide +kernel) (by decide +kernel)
theorem allAtoms_all (ts : List Jvm.Cond) (a : Array Jvm.Value) (st : Jvm.State) : (allAtoms ts).before a st = ts.all (fun c => c.before a st) := by
  induction ts with
  | nil => rfl
  | cons c t ih =>
    show (Jvm.Cond.and c (allAtoms t)).before a st = _
    rw [Jvm.Cond.before_and, ih, List.all_cons]
def words1 : List Jvm.Cond := Jvm.Cond.code x code maxLocals ret :: tables_1
/-- a 'code' word, met by the world's own term for the bytes: nothing is compared byte by byte -/
theorem code_word {y : MethodName} {bytes : ByteArray} {mx : Nat} {rt : Option FieldType} {a : Array Value} {s : State} {m : MethodId} {meth : Method} {c : Code} (h1 : s.methodNamed? y = some m) (h2 : s.vm.method? m = some meth) (h3 : meth.code = some c) (h4 : c.code = bytes)
    (h5 : (c.maxLocals == mx && c.exceptionTable.isEmpty && decide (c.maxStack ≤ mostOperands) && decide (meth.sig.returnType = rt) && !meth.locks && decide (parseMethodDescriptor y.desc = some meth.sig)) = true) : (Jvm.Cond.code y bytes mx rt).before a s = true := by
  simp only [Bool.and_eq_true, beq_iff_eq, Bool.not_eq_true', decide_eq_true_eq] at h5
  obtain ⟨⟨⟨⟨⟨g1, g2⟩, g3⟩, g4⟩, g5⟩, g6⟩ := h5
  simp [Cond.before, Cond.holds, Cond.value, h1, h2, h3, h4, g1, g2, g3, g4, g5, g6]
def isCode : Jvm.Cond → Bool
  | .code _ _ _ _ => true
  | _ => false
theorem all_split {L : List Jvm.Cond} {P : Jvm.Cond → Bool} (h1 : L.all (fun c => isCode c || P c) = true) (h2 : ∀ c ∈ L.filter isCode, P c = true) : L.all P = true := by
  refine List.all_eq_true.mpr fun c hc => ?_
  have h := List.all_eq_true.mp h1 c hc
  rcases Bool.eq_false_or_eq_true (isCode c) with hi | hi
  · exact h2 c (List.mem_filter.mpr ⟨hc, hi⟩)
  · simpa [hi] using h
set_option maxRecDepth 65536 in
theorem w_c0 : (Jvm.Cond.code x code maxLocals ret).before args0 about1 = true := code_word (m := ⟨1, 1⟩) (meth := k1m1) (c := k1c1) (by decide +kernel) rfl rfl rfl (by decide +kernel)
set_option maxRecDepth 65536 in
theorem w_c1 : (Jvm.Cond.code ({ cls := "com/example/veilmatch/veilmatch/model/FailureRate", name := "<init>", desc := "(D)V" } : Jvm.MethodName) prog_13_method_1_code (3 : Nat) (Option.none : Option Jvm.ClassFile.FieldType)).before args0 about1 = true := code_word (m := ⟨3, 0⟩) (meth := k3m0) (c := k3c0) (by decide +kernel) rfl rfl rfl (by decide +kernel)
set_option maxRecDepth 65536 in
theorem w_c2 : (Jvm.Cond.code ({ cls := "java/lang/Record", name := "<init>", desc := "()V" } : Jvm.MethodName) jdk_30_method_1_code (1 : Nat) (Option.none : Option Jvm.ClassFile.FieldType)).before args0 about1 = true := code_word (m := ⟨2, 0⟩) (meth := k2m0) (c := k2c0) (by decide +kernel) rfl rfl rfl (by decide +kernel)
set_option maxRecDepth 65536 in
theorem w_c3 : (Jvm.Cond.code ({ cls := "java/lang/Object", name := "<init>", desc := "()V" } : Jvm.MethodName) object_method_1_code (1 : Nat) (Option.none : Option Jvm.ClassFile.FieldType)).before args0 about1 = true := code_word (m := ⟨0, 0⟩) (meth := k0m0) (c := k0c0) (by decide +kernel) rfl rfl rfl (by decide +kernel)
set_option maxRecDepth 65536 in
theorem w_c4 : (Jvm.Cond.code ({ cls := "com/example/veilmatch/veilmatch/model/FailureRate", name := "exchangeChance", desc := "()D" } : Jvm.MethodName) prog_13_method_2_code (1 : Nat) (Option.some Jvm.ClassFile.FieldType.double)).before args0 about1 = true := code_word (m := ⟨3, 1⟩) (meth := k3m1) (c := k3c1) (by decide +kernel) rfl rfl rfl (by decide +kernel)
def codes1 : List Jvm.Cond := [Jvm.Cond.code x code maxLocals ret, Jvm.Cond.code ({ cls := "com/example/veilmatch/veilmatch/model/FailureRate", name := "<init>", desc := "(D)V" } : Jvm.MethodName) prog_13_method_1_code (3 : Nat) (Option.none : Option Jvm.ClassFile.FieldType), Jvm.Cond.code ({ cls := "java/lang/Record", name := "<init>", desc := "()V" } : Jvm.MethodName) jdk_30_method_1_code (1 : Nat) (Option.none : Option Jvm.ClassFile.FieldType), Jvm.Cond.code ({ cls := "java/lang/Object", name := "<init>", desc := "()V" } : Jvm.MethodName) object_method_1_code (1 : Nat) (Option.none : Option Jvm.ClassFile.FieldType), Jvm.Cond.code ({ cls := "com/example/veilmatch/veilmatch/model/FailureRate", name := "exchangeChance", desc := "()D" } : Jvm.MethodName) prog_13_method_2_code (1 : Nat) (Option.some Jvm.ClassFile.FieldType.double)]
set_option maxRecDepth 65536 in
theorem codes_eq : words1.filter isCode = codes1 := rfl
theorem w_codes : ∀ c ∈ words1.filter isCode, c.before args0 about1 = true := by
  rw [codes_eq]
  intro c hc
  simp only [codes1, List.mem_cons, List.not_mem_nil, or_false] at hc
  rcases hc with rfl | rfl | rfl | rfl | rfl
  · exact w_c0
  · exact w_c1
  · exact w_c2
  · exact w_c3
  · exact w_c4
set_option maxRecDepth 65536 in
theorem w_t1 : (words1.take 24).all (fun c => isCode c || c.before args0 about1) = true := by decide +kernel
set_option maxRecDepth 65536 in
theorem w_t2 : (words1.drop 24).all (fun c => isCode c || c.before args0 about1) = true := by decide +kernel
theorem w_tables : (allAtoms (Jvm.Cond.code x code maxLocals ret :: tables_1)).before args0 about1 = true := by
  rw [allAtoms_all]
  show words1.all (fun c => c.before args0 about1) = true
  refine all_split ?_ w_codes
  rw [← List.take_append_drop 24 words1, List.all_append, w_t1, w_t2]
  rfl
set_option maxRecDepth 65536 in
theorem w_case : (Jvm.Cond.and given_1 narrow_1).before args0 about1 = true := by decide +kernel
theorem w_applies : (headSpec (Jvm.Cond.code x code maxLocals ret :: tables_1) room_1).applies x e0.platform about1 = true :=
  (Spec.applies_iff w_frames).mpr ⟨w_running, w_runnable, w_alone, w_named, w_hears, w_ripe, w_room, w_tables⟩
theorem atStart : AtStart classFile x code maxLocals ret World_1 tables_1 room_1 Calls_1 rest_1 Pre_1 launch0 p0 e0 about1 theMethod args0 below0 :=
  ⟨lists_1, trivial, launch0.admits_env _ _ _, launch0.least_env, fairChoices_fair.cas, fairChoices_fair.clock, w_frames, w_args, w_heap, w_applies, trivial, trivial, w_case⟩
end start1
theorem witness_1 : WitnessClaimed_1 := ⟨start1.p0, start1.e0, start1.about1, start1.theMethod, start1.args0, start1.below0, start1.atStart⟩
end Jvm.Pilot.@@N@@
