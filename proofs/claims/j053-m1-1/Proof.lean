import JvmDerived
import JvmDerived.Pilot.@@N@@Statement
import JvmDerived.Pilot.@@N@@Code
set_option linter.unusedVariables false
set_option linter.unusedSimpArgs false
namespace Jvm.Pilot.@@N@@
open Jvm Jvm.ClassFile Sem Op Lib Jvm.Free Jvm.Stand Jvm.LawKit Jvm.RoadKit Bundle Jvm.Pilot.@@N@@.Jvm.D
/-- from T the run goes on to an end of which Qf says what it is -/
def Goes (tb : Tables) (e : Env) (below : List Frame) (Qf : Outcome → State → Prop) (T : State) : Prop := ∃ s₂ o, Steps tb e below T s₂ ∧ s₂.status = .running ∧ Ended s₂ below o ∧ Qf o s₂
theorem Goes.to {tb : Tables} {e : Env} {below : List Frame} {Qf : Outcome → State → Prop} {T T' : State} (k : ∀ t, Steps tb e below T' t → Steps tb e below T t) (h : Goes tb e below Qf T') : Goes tb e below Qf T := by
  obtain ⟨s, o, h1, h2⟩ := h; exact ⟨s, o, k s h1, h2⟩
theorem Goes.thru {tb : Tables} {e : Env} {below : List Frame} {Qf : Outcome → State → Prop} {T T' : State} (k : Steps tb e below T T') (h : Goes tb e below Qf T') : Goes tb e below Qf T := by
  obtain ⟨s, o, h1, h2⟩ := h; exact ⟨s, o, k.trans h1, h2⟩
theorem own_old {Z : State} {n0 : Nat} {h : Heap} (O : Old Z n0 h) : n0 ≤ h.size := O.1 ▸ O.2.1
theorem own_ext_keep {h h' : Heap} (K : Keep h h' []) : Ext h h' := ⟨K.1, fun a c q => K.2.1 a c q nin0⟩
theorem own_nsroot {Z : State} {a0 : Array Value} {O K : String} {n : Nat} (w : (Jvm.Cond.noSuperclass O).before a0 Z = true) (wk : (Jvm.Cond.instantiable K n).before a0 Z = true) (hn : O ≠ K) : NS Z O K := by
  obtain ⟨c, k, h1, h2, h3, -, -⟩ := Cond.noSuperclass_spec w
  obtain ⟨t, k2, g1, -⟩ := Cond.instantiable_spec wk
  have ne := ids_ne h1 g1 hn
  refine ⟨c, t, h1, g1, fun fuel => ?_⟩
  cases fuel with
  | zero => rfl
  | succ f => simp [Vm.isSubclassAux, ne, h2, h3]
theorem own_nsno {Z : State} {a0 : Array Value} {C S K : String} {n : Nat} (w : (Jvm.Cond.superclass C S).before a0 Z = true) (wk : (Jvm.Cond.instantiable K n).before a0 Z = true) (ns : NS Z C K) (hn : C ≠ K) : ∃ c t, Z.vm.findClass C = some c ∧ Z.vm.findClass K = some t ∧ Z.vm.assignable c t = false := by
  obtain ⟨c, t, h0, g0, n3⟩ := ns
  obtain ⟨p, k, kp, h1, h2, h3, h4, h5, -, h7⟩ := Cond.superclass_spec h0 w
  obtain ⟨t', k', g1, g2, g5, g7, -⟩ := Cond.instantiable_spec wk
  cases g0.symm.trans g1
  have ne := ids_ne h0 g0 hn
  refine ⟨c, t, h0, g0, ?_⟩
  show Z.vm.assignableAux (255 + 1) c t = false
  simp [Vm.assignableAux, ne, h2, g2, h5, g5, (Bool.or_eq_false_iff.mp g7).1, Vm.isSubclass, n3]
theorem own_selp {s : State} {args : Array Value} {y : MethodName} {n : Nat} (wi : (Jvm.Cond.instantiable y.cls n).before args s = true) (hp : (Jvm.Cond.privateMethod y).before args s = true) (hinst : (Jvm.Cond.instanceMethod y).before args s = true) (hy : y.cls ≠ "java/lang/invoke/MethodHandle" ∧ y.cls ≠ "java/lang/invoke/VarHandle") : (Jvm.Cond.selects y.cls y y).before args s = true := by
  obtain ⟨c, k, h1, h2, -, h4, -⟩ := Cond.instantiable_spec wi
  exact selects_self_of_private h1 h2 (Bool.or_eq_false_iff.mp h4).1 (Cond.privateMethod_at hp) hinst hy
theorem own_keep_ext {h h' : Heap} (E : Ext h h') : Keep h h' [] := (Keep.refl h []).ext E
theorem mi {d : Jvm.Cond} (i : Nat) (h : tables_1[i]? = some d) : d ∈ tables_1 := List.mem_of_getElem? h
theorem own_len {s : State} {args : Array Value} {t : Term} {a : Addr} {cl : Cell} {ty : FieldType} {k : Int32} (ht : t.eval args s none [] s = some (.ref a)) (A : Arr s s.heap a cl ty) (h : (Cond.eq (.length t) (.int k)).value args s none s [] = some true) : cl.slots.size < 2 ^ 31 ∧ cl.slots.size.toInt32 = k := by
  obtain ⟨x, y, e1, e2, -, k2⟩ := cmp_v (Or.inl h)
  obtain rfl : Value.int k = y := Option.some.inj e2
  obtain ⟨z, rfl⟩ := k2
  have q : (z = k) := gotT (P := z = k) (by simp [Cond.value, e1, e2]) h
  subst q
  have hA := A.fin (Vm.Alike.refl _)
  by_cases hl : cl.slots.size < 2 ^ 31
  · rw [len_f ht hA hl] at e1
    exact ⟨hl, by simpa using e1⟩
  · simp [Term.eval, ht, hA, hl] at e1
theorem own_stR {s : State} {args : Array Value} {t u : Term} {b : Addr} (h : (Cond.eq t u).value args s none s [] = some true) (hu : u.eval args s none [] s = some (.ref b)) : t.eval args s none [] s = some (.ref b) := by
  obtain ⟨x, y, e1, e2, k1, k2⟩ := cmp_v (Or.inl h)
  obtain rfl : y = Value.ref b := Option.some.inj (e2.symm.trans hu)
  have hx : x.isRef = true := by cases x <;> simp [Kin, Value.isRef] at k1 k2 ⊢
  have q : x = Value.ref b := gotT (eq_R e1 e2 hx rfl) h
  subst q; exact e1
theorem own_fldI {s : State} {args : Array Value} {t : Term} {a : Addr} {C n d : String} {k : Int32} (ht : t.eval args s none [] s = some (.ref a)) (h : (Cond.eq (.field t C n d) (.int k)).value args s none s [] = some true) : Fld s s.heap a C n d (.int k) := by
  obtain ⟨x, y, e1, e2, -, k2⟩ := cmp_v (Or.inl h)
  obtain rfl : Value.int k = y := Option.some.inj e2
  obtain ⟨z, rfl⟩ := k2
  have q : (z = k) := gotT (P := z = k) (by simp [Cond.value, e1, e2]) h
  subst q
  exact Fld.start (by rw [← fld_at ht]; exact e1)
theorem own_fldL {s : State} {args : Array Value} {t : Term} {a : Addr} {C n d : String} {k : Int64} (ht : t.eval args s none [] s = some (.ref a)) (h : (Cond.eq (.field t C n d) (.long k)).value args s none s [] = some true) : Fld s s.heap a C n d (.long k) := by
  obtain ⟨x, y, e1, e2, -, k2⟩ := cmp_v (Or.inl h)
  obtain rfl : Value.long k = y := Option.some.inj e2
  obtain ⟨z, rfl⟩ := k2
  have q : (z = k) := gotT (P := z = k) (by simp [Cond.value, e1, e2]) h
  subst q
  exact Fld.start (by rw [← fld_at ht]; exact e1)
theorem own_fldN {s : State} {args : Array Value} {t : Term} {a : Addr} {C n d : String} (ht : t.eval args s none [] s = some (.ref a)) (h : (Cond.eq (.field t C n d) .null).value args s none s [] = some true) : Fld s s.heap a C n d .null :=
  Fld.start (by rw [← fld_at ht]; exact null_v h)
theorem own_fldR {s : State} {args : Array Value} {t : Term} {a b : Addr} {C n d : String} (ht : t.eval args s none [] s = some (.ref a)) (h : (Term.field t C n d).eval args s none [] s = some (.ref b)) : Fld s s.heap a C n d (.ref b) :=
  Fld.start (by rw [← fld_at ht]; exact h)
theorem own_stI {s : State} {args : Array Value} {t : Term} {k : Int32} (h : (Cond.eq t (.int k)).value args s none s [] = some true) : t.eval args s none [] s = some (.int k) := by
  obtain ⟨x, y, e1, e2, -, k2⟩ := cmp_v (Or.inl h)
  obtain rfl : Value.int k = y := Option.some.inj e2
  obtain ⟨z, rfl⟩ := k2
  have q : (z = k) := gotT (P := z = k) (by simp [Cond.value, e1, e2]) h
  subst q; exact e1
def Nar (Z : State) (w0 : Addr) (k_w0 : ClassId) : Prop := (Sta Z Z.heap "com/example/suretyline/suretyline/Sums" "NONE" "[J" (.ref w0)) ∧ (Exa Z Z.heap w0 "[J") ∧ (Arv Z Z.heap w0 k_w0 .long (0 : Int32) [] (.long (0 : Int64)))
def upd (f : Nat → Int64) (n : Nat) (x : Int64) : Nat → Int64 := fun i => if i = n then x else f i
/-- an array of longs: its length z, what it holds (f i beyond its end is 0) -/
def La (Z : State) (h : Heap) (a : Addr) (z : Int32) (f : Nat → Int64) : Prop := ∃ c : Cell, RoadKit.Arr Z h a c .long ∧ c.slots.size = z.toNatClampNeg ∧ ¬ z < 0 ∧ (∀ i, i < z.toNatClampNeg → c.slots[i]? = some (.long (f i))) ∧ ∀ i, z.toNatClampNeg ≤ i → f i = 0
section LaS
variable {Z : State} {h h' : Heap} {a b : Addr} {z j : Int32} {f : Nat → Int64} {x : Int64} {sl : Nat} {v : Value} {ws : List Addr}
theorem La.lt (F : La Z h a z f) : a < h.size := by obtain ⟨c, A, -⟩ := F; exact A.lt
theorem La.ext (F : La Z h a z f) (E : Ext h h') : La Z h' a z f := by obtain ⟨c, A, r⟩ := F; exact ⟨c, A.ext E, r⟩
theorem La.other (F : La Z h b z f) (W : Wr h h' a sl v) (q : b ≠ a) : La Z h' b z f := by obtain ⟨c, A, r⟩ := F; exact ⟨c, A.other W q, r⟩
theorem La.keep (F : La Z h a z f) (K : Keep h h' ws) (q : a ∉ ws) : La Z h' a z f := by obtain ⟨c, A, r⟩ := F; exact ⟨c, ⟨K.2.1 a c A.1 q, A.2⟩, r⟩
theorem La.set {c : Cell} (A : RoadKit.Arr Z h a c .long) (S : c.slots.size = z.toNatClampNeg) (Ng : ¬ z < 0) (H : ∀ i, i < z.toNatClampNeg → c.slots[i]? = some (.long (f i))) (Hz : ∀ i, z.toNatClampNeg ≤ i → f i = 0) (W : Wr h h' a j.toNatClampNeg (.long x)) (bd : ¬ j < 0 ∧ j < z) : La Z h' a z (upd f j.toNatClampNeg x) := by
  have hin := inb_of S bd
  have hlt : j.toNatClampNeg < c.slots.size := Nat.lt_of_not_le fun q => hin (Or.inr q)
  refine ⟨_, A.same W, by rw [sz_set]; exact S, Ng, fun i hi => ?_, fun i hi => ?_⟩
  · by_cases e : i = j.toNatClampNeg
    · subst e
      simp [Cell.setSlot, upd, hlt]
    · show (c.slots.setIfInBounds j.toNatClampNeg (.long x))[i]? = _
      rw [Array.getElem?_setIfInBounds_ne (Ne.symm e), H i hi]
      simp [upd, e]
  · have e : i ≠ j.toNatClampNeg := by omega
    simp only [upd, if_neg e]
    exact Hz i hi
theorem own_la0 {k : ClassId} {d : Value} (F : Arv Z h a k .long 0 [] d) : La Z h a 0 (fun _ => 0) := by
  obtain ⟨c, A, -, S, q, -, -⟩ := F
  exact ⟨c, A, S, q, fun i hi => absurd hi (by simp [show (0 : Int32).toNatClampNeg = 0 from rfl]), fun _ _ => rfl⟩
def laL (z : Int32) (f : Nat → Int64) : List Value := (List.range z.toNatClampNeg).map fun i => Value.long (f i)
theorem laL_get (z : Int32) (f : Nat → Int64) {i : Nat} (hi : i < z.toNatClampNeg) (d : Value) : (laL z f).getD i d = .long (f i) := by
  simp [laL, List.getD_eq_getElem?_getD, hi]
theorem own_la_arv (F : La Z h a z f) : ∃ k, Arv Z h a k .long z (laL z f) (.long 0) := by
  obtain ⟨c, A, S, q, H, Hz⟩ := F
  refine ⟨c.cls, c, A, rfl, S, q, fun i hi => ?_, fun i hi => ?_⟩
  · rw [laL_get z f (by omega), H i (by omega)]
  · rw [laL_get z f (by omega)]; rfl
theorem own_cp {k : ClassId} {z' : Int32} (hz : z.toNatClampNeg ≤ z'.toNatClampNeg) (Hz : ∀ i, z.toNatClampNeg ≤ i → f i = 0)
    (F : Arv Z h b k .long z' (([] ++ List.replicate z'.toNatClampNeg (Value.long 0)).take (0 : Int32).toNatClampNeg ++ (List.range z.toNatClampNeg).map (fun i => (laL z f).getD ((0 : Int32).toNatClampNeg + i) (.long 0)) ++ ([] ++ List.replicate z'.toNatClampNeg (Value.long 0)).drop ((0 : Int32).toNatClampNeg + z.toNatClampNeg)) (.long 0)) : La Z h b z' f := by
  obtain ⟨c, A, -, S, q, H, -⟩ := F
  have e0 : (0 : Int32).toNatClampNeg = 0 := rfl
  refine ⟨c, A, S, q, fun i hi => ?_, fun i hi => Hz i (by omega)⟩
  rw [H i (by omega)]
  congr 1
  simp only [e0, List.take_zero, List.nil_append, Nat.zero_add, List.getD_eq_getElem?_getD]
  by_cases hl : i < z.toNatClampNeg
  · rw [List.getElem?_append_left (by simpa using hl)]
    have := laL_get z f hl (.long 0)
    simp [hl, ← List.getD_eq_getElem?_getD, this]
  · rw [List.getElem?_append_right (by simpa using hl)]
    rw [Hz i (by omega)]
    simp only [List.length_map, List.length_range, List.drop_replicate, List.getElem?_replicate]
    split <;> rfl
end LaS
/-- a Sums: its two columns -/
def SA (Z : State) (h : Heap) (n0 : Nat) (xa : Addr) (f g : Nat → Int64) : Prop := ∃ (lo hi : Addr) (zl zh : Int32), Exa Z h xa "com/example/suretyline/suretyline/Sums" ∧ n0 ≤ xa ∧ Fld Z h xa "com/example/suretyline/suretyline/Sums" "lows" "[J" (.ref lo) ∧ Fld Z h xa "com/example/suretyline/suretyline/Sums" "highs" "[J" (.ref hi) ∧ La Z h lo zl f ∧ La Z h hi zh g ∧ lo ≠ xa ∧ hi ≠ xa ∧ (n0 ≤ lo ∨ zl = 0) ∧ (n0 ≤ hi ∨ zh = 0) ∧ (lo ≠ hi ∨ (zl = 0 ∧ zh = 0)) ∧ zl < (25 : Int32)
theorem own_pos {p z : Int32} (h1 : ¬ p < 0) (h2 : p < z) : ¬ z = 0 := fun e => by subst e; exact h1 h2
theorem own_nat {p z : Int32} (h1 : ¬ p < 0) (hz : ¬ z < 0) : (p < z ↔ p.toNatClampNeg < z.toNatClampNeg) := by
  have e0 : (0 : Int32).toInt = 0 := rfl
  rw [Int32.lt_iff_toInt_lt] at h1 hz
  rw [Int32.lt_iff_toInt_lt]
  simp only [Int32.toNatClampNeg]; omega
theorem d4_0 : decode jdk_29_method_65_code 0 = .ok (.iload_n 0, 1) := by decide +kernel
theorem d4_1 : decode jdk_29_method_65_code 1 = .ok (.iload_n 1, 1) := by decide +kernel
theorem d4_2 : decode jdk_29_method_65_code 2 = .ok (.if_icmp .lt 7, 3) := by decide +kernel
theorem d4_5 : decode jdk_29_method_65_code 5 = .ok (.iload_n 0, 1) := by decide +kernel
theorem d4_6 : decode jdk_29_method_65_code 6 = .ok (.goto 4, 3) := by decide +kernel
theorem d4_9 : decode jdk_29_method_65_code 9 = .ok (.iload_n 1, 1) := by decide +kernel
theorem d4_10 : decode jdk_29_method_65_code 10 = .ok (.ireturn, 1) := by decide +kernel
theorem ef_rmMax (m : MethodId) (x0 : Int32) (x1 : Int32) : entryFrame m #[(.int x0), (.int x1)] 2 = mkF m 0 #[.val (.int x0), .val (.int x1)] [] := by first | (simp [entryFrame, mkF, argsToLocals, Value.category]; done) | rfl
def Q_rmMax (Z : State) (p0 : Int32) (p1 : Int32) (w0 : Addr) (k_w0 : ClassId) (r : Int32) (h0 : Heap) (n0 : Nat) (v : Option Value) (h : Heap) (L : List Loc) : Prop := v = some (.int r) ∧ Fr n0 L ∧ h = h0
set_option maxRecDepth 65536 in
set_option maxHeartbeats 40000000 in
theorem rmMax (l : Launch) (Z : State) (a0 : Array Value) (hw : ∀ d ∈ tables_1, d.before a0 Z = true) (ws : List Jvm.Cond) (p0 : Int32) (p1 : Int32) (w0 : Addr) (k_w0 : ClassId) (r : Int32) (h0 : Heap) (n0 : Nat) (O0 : Old Z n0 h0) (NF : Nar Z w0 k_w0) (hr : r = if p0 < p1 then p1 else p0) :
    MetFree l (⟨"java/lang/Math", "max", "(II)I"⟩ : MethodName) (head1 (Jvm.Cond.code (⟨"java/lang/Math", "max", "(II)I"⟩ : MethodName) jdk_29_method_65_code 2 (some .int) :: ws) ({ frames := 0, cells := 0, slots := 0, locals := 0 } : Room)) (fun a U => a = #[(.int p0), (.int p1)] ∧ Z.Warmed39 U.vm ∧ U.heap = h0) (fun _ _ _ _ _ => True) (fun _ U o U' => ∃ v L, o = .returned v ∧ Q_rmMax Z p0 p1 w0 k_w0 r h0 n0 v U'.heap L ∧ FrameEnd U o U' L ({ frames := 0, cells := 0, slots := 0, locals := 0 } : Room).cells ({ frames := 0, cells := 0, slots := 0, locals := 0 } : Room).slots) := by
  refine MetFree.of_bodySF (Jvm.Free.JP.mathPlain rfl (by decide +kernel)) hisR ?_
  intro p e s m args below meth c s₁ Bd hml0 hP hK
  obtain ⟨rfl, hZ, hh⟩ := hP
  have hx := Bd.exec
  have hby := Bd.bytes
  have hml : c.maxLocals = 2 := hml0
  have hown : s.vm.findClass "java/lang/Math" = some m.cls := findClass_of_methodNamed Bd.named
  have hnm := (name_of_methodNamed Bd.named Bd.method).1
  have X0 : Stand p l e ({ frames := 0, cells := 0, slots := 0, locals := 0 } : Room) s m #[(.int p0), (.int p1)] below meth c s₁ [] 0 0 := Stand.of_body Bd
  have e0 : s₁.heap = h0 := by rw [← hh, Bd.state]; rfl
  have N0 := Fr.nil n0
  suffices G : ∀ (Qf : Outcome → State → Prop), Qf = (fun (_ : Array Value) (U : State) (o : Outcome) (U' : State) => ∃ v L, o = .returned v ∧ Q_rmMax Z p0 p1 w0 k_w0 r h0 n0 v U'.heap L ∧ FrameEnd U o U' L ({ frames := 0, cells := 0, slots := 0, locals := 0 } : Room).cells ({ frames := 0, cells := 0, slots := 0, locals := 0 } : Room).slots) #[] s → Goes p.tables e below Qf (s₁.setTop (mkF m 0 #[.val (.int p0), .val (.int p1)] [])) by
    obtain ⟨s₂, o, g1, g2, g3, g4⟩ := G _ rfl
    exact ⟨s₂, o, castTop (ef_rmMax m _ _) g1, g2, g3, g4⟩
  intro Qf hQf
  obtain ⟨S_w0, E_w0, V_w0⟩ := id NF
  refine Goes.to (T' := s₁.setTop (mkF m 1 #[.val (.int p0), .val (.int p1)] [(.int p0)])) (fun t k => XS.iloadN X0.here hx rfl (hb hby d4_0) rfl k) ?_
  refine Goes.to (T' := s₁.setTop (mkF m 2 #[.val (.int p0), .val (.int p1)] [(.int p1), (.int p0)])) (fun t k => XS.iloadN X0.here hx rfl (hb hby d4_1) rfl k) ?_
  rcases Decidable.em (p0 < p1) with hc2_1 | hc2_1
  · skip
    refine Goes.to (T' := s₁.setTop (mkF m 9 #[.val (.int p0), .val (.int p1)] [])) (fun t k => XS.icmpYes X0.here hx rfl (pc0 := 2) (pc' := 9) rfl (hb hby d4_2) rfl (tlt hc2_1).1 (by decide) (by decide) k) ?_
    refine Goes.to (T' := s₁.setTop (mkF m 10 #[.val (.int p0), .val (.int p1)] [(.int p1)])) (fun t k => XS.iloadN X0.here hx rfl (hb hby d4_9) rfl k) ?_
    obtain ⟨fs, hrL, hrun, hended, hW, hsame⟩ := X0.leave (v := some (.int p1)) (fun h => by rw [Bd.returns] at h; cases h)
    subst hQf
    refine ⟨_, _, retOut X0 hx Bd.returns rfl (Or.inl ⟨rfl, Or.inl rfl, _, rfl⟩) (hb hby d4_10) hrL, hrun, hended, _, _, rfl, ?_, ⟨_, rfl⟩, hW, hsame.mono (by decide) (by decide)⟩
    show (fun (v : Option Value) (h : Heap) (L : List Loc) => v = some (.int r) ∧ Fr n0 L ∧ h = h0) (some (.int p1)) s₁.heap _
    rw [e0]
    have hv : p1 = r := by rw [hr]; first | (simp [hc2_1]; done) | ((repeat' split) <;> first | rfl | contradiction | simp_all)
    exact ⟨by rw [hv], N0, rfl⟩
  · skip
    refine Goes.to (T' := s₁.setTop (mkF m 5 #[.val (.int p0), .val (.int p1)] [])) (fun t k => XS.icmpNo X0.here hx rfl (hb hby d4_2) rfl (flt hc2_1).1 k) ?_
    refine Goes.to (T' := s₁.setTop (mkF m 6 #[.val (.int p0), .val (.int p1)] [(.int p0)])) (fun t k => XS.iloadN X0.here hx rfl (hb hby d4_5) rfl k) ?_
    refine Goes.to (T' := s₁.setTop (mkF m 10 #[.val (.int p0), .val (.int p1)] [(.int p0)])) (fun t k => XS.goto X0.here hx rfl (pc0 := 6) (pc' := 10) rfl (hb hby d4_6) (by decide) (by decide) k) ?_
    obtain ⟨fs, hrL, hrun, hended, hW, hsame⟩ := X0.leave (v := some (.int p0)) (fun h => by rw [Bd.returns] at h; cases h)
    subst hQf
    refine ⟨_, _, retOut X0 hx Bd.returns rfl (Or.inl ⟨rfl, Or.inl rfl, _, rfl⟩) (hb hby d4_10) hrL, hrun, hended, _, _, rfl, ?_, ⟨_, rfl⟩, hW, hsame.mono (by decide) (by decide)⟩
    show (fun (v : Option Value) (h : Heap) (L : List Loc) => v = some (.int r) ∧ Fr n0 L ∧ h = h0) (some (.int p0)) s₁.heap _
    rw [e0]
    have hv : p0 = r := by rw [hr]; first | (simp [hc2_1]; done) | ((repeat' split) <;> first | rfl | contradiction | simp_all)
    exact ⟨by rw [hv], N0, rfl⟩
theorem d6_0 : decode jdk_29_method_69_code 0 = .ok (.iload_n 0, 1) := by decide +kernel
theorem d6_1 : decode jdk_29_method_69_code 1 = .ok (.iload_n 1, 1) := by decide +kernel
theorem d6_2 : decode jdk_29_method_69_code 2 = .ok (.if_icmp .gt 7, 3) := by decide +kernel
theorem d6_5 : decode jdk_29_method_69_code 5 = .ok (.iload_n 0, 1) := by decide +kernel
theorem d6_6 : decode jdk_29_method_69_code 6 = .ok (.goto 4, 3) := by decide +kernel
theorem d6_9 : decode jdk_29_method_69_code 9 = .ok (.iload_n 1, 1) := by decide +kernel
theorem d6_10 : decode jdk_29_method_69_code 10 = .ok (.ireturn, 1) := by decide +kernel
theorem ef_rmMin (m : MethodId) (x0 : Int32) (x1 : Int32) : entryFrame m #[(.int x0), (.int x1)] 2 = mkF m 0 #[.val (.int x0), .val (.int x1)] [] := by first | (simp [entryFrame, mkF, argsToLocals, Value.category]; done) | rfl
def Q_rmMin (Z : State) (p0 : Int32) (p1 : Int32) (w0 : Addr) (k_w0 : ClassId) (r : Int32) (h0 : Heap) (n0 : Nat) (v : Option Value) (h : Heap) (L : List Loc) : Prop := v = some (.int r) ∧ Fr n0 L ∧ h = h0
set_option maxRecDepth 65536 in
set_option maxHeartbeats 40000000 in
theorem rmMin (l : Launch) (Z : State) (a0 : Array Value) (hw : ∀ d ∈ tables_1, d.before a0 Z = true) (ws : List Jvm.Cond) (p0 : Int32) (p1 : Int32) (w0 : Addr) (k_w0 : ClassId) (r : Int32) (h0 : Heap) (n0 : Nat) (O0 : Old Z n0 h0) (NF : Nar Z w0 k_w0) (hr : r = if p1 < p0 then p1 else p0) :
    MetFree l (⟨"java/lang/Math", "min", "(II)I"⟩ : MethodName) (head1 (Jvm.Cond.code (⟨"java/lang/Math", "min", "(II)I"⟩ : MethodName) jdk_29_method_69_code 2 (some .int) :: ws) ({ frames := 0, cells := 0, slots := 0, locals := 0 } : Room)) (fun a U => a = #[(.int p0), (.int p1)] ∧ Z.Warmed39 U.vm ∧ U.heap = h0) (fun _ _ _ _ _ => True) (fun _ U o U' => ∃ v L, o = .returned v ∧ Q_rmMin Z p0 p1 w0 k_w0 r h0 n0 v U'.heap L ∧ FrameEnd U o U' L ({ frames := 0, cells := 0, slots := 0, locals := 0 } : Room).cells ({ frames := 0, cells := 0, slots := 0, locals := 0 } : Room).slots) := by
  refine MetFree.of_bodySF (Jvm.Free.JP.mathPlain rfl (by decide +kernel)) hisR ?_
  intro p e s m args below meth c s₁ Bd hml0 hP hK
  obtain ⟨rfl, hZ, hh⟩ := hP
  have hx := Bd.exec
  have hby := Bd.bytes
  have hml : c.maxLocals = 2 := hml0
  have hown : s.vm.findClass "java/lang/Math" = some m.cls := findClass_of_methodNamed Bd.named
  have hnm := (name_of_methodNamed Bd.named Bd.method).1
  have X0 : Stand p l e ({ frames := 0, cells := 0, slots := 0, locals := 0 } : Room) s m #[(.int p0), (.int p1)] below meth c s₁ [] 0 0 := Stand.of_body Bd
  have e0 : s₁.heap = h0 := by rw [← hh, Bd.state]; rfl
  have N0 := Fr.nil n0
  suffices G : ∀ (Qf : Outcome → State → Prop), Qf = (fun (_ : Array Value) (U : State) (o : Outcome) (U' : State) => ∃ v L, o = .returned v ∧ Q_rmMin Z p0 p1 w0 k_w0 r h0 n0 v U'.heap L ∧ FrameEnd U o U' L ({ frames := 0, cells := 0, slots := 0, locals := 0 } : Room).cells ({ frames := 0, cells := 0, slots := 0, locals := 0 } : Room).slots) #[] s → Goes p.tables e below Qf (s₁.setTop (mkF m 0 #[.val (.int p0), .val (.int p1)] [])) by
    obtain ⟨s₂, o, g1, g2, g3, g4⟩ := G _ rfl
    exact ⟨s₂, o, castTop (ef_rmMin m _ _) g1, g2, g3, g4⟩
  intro Qf hQf
  obtain ⟨S_w0, E_w0, V_w0⟩ := id NF
  refine Goes.to (T' := s₁.setTop (mkF m 1 #[.val (.int p0), .val (.int p1)] [(.int p0)])) (fun t k => XS.iloadN X0.here hx rfl (hb hby d6_0) rfl k) ?_
  refine Goes.to (T' := s₁.setTop (mkF m 2 #[.val (.int p0), .val (.int p1)] [(.int p1), (.int p0)])) (fun t k => XS.iloadN X0.here hx rfl (hb hby d6_1) rfl k) ?_
  rcases Decidable.em (p1 < p0) with hc2_1 | hc2_1
  · skip
    refine Goes.to (T' := s₁.setTop (mkF m 9 #[.val (.int p0), .val (.int p1)] [])) (fun t k => XS.icmpYes X0.here hx rfl (pc0 := 2) (pc' := 9) rfl (hb hby d6_2) rfl (tlt hc2_1).2.2.1 (by decide) (by decide) k) ?_
    refine Goes.to (T' := s₁.setTop (mkF m 10 #[.val (.int p0), .val (.int p1)] [(.int p1)])) (fun t k => XS.iloadN X0.here hx rfl (hb hby d6_9) rfl k) ?_
    obtain ⟨fs, hrL, hrun, hended, hW, hsame⟩ := X0.leave (v := some (.int p1)) (fun h => by rw [Bd.returns] at h; cases h)
    subst hQf
    refine ⟨_, _, retOut X0 hx Bd.returns rfl (Or.inl ⟨rfl, Or.inl rfl, _, rfl⟩) (hb hby d6_10) hrL, hrun, hended, _, _, rfl, ?_, ⟨_, rfl⟩, hW, hsame.mono (by decide) (by decide)⟩
    show (fun (v : Option Value) (h : Heap) (L : List Loc) => v = some (.int r) ∧ Fr n0 L ∧ h = h0) (some (.int p1)) s₁.heap _
    rw [e0]
    have hv : p1 = r := by rw [hr]; first | (simp [hc2_1]; done) | ((repeat' split) <;> first | rfl | contradiction | simp_all)
    exact ⟨by rw [hv], N0, rfl⟩
  · skip
    refine Goes.to (T' := s₁.setTop (mkF m 5 #[.val (.int p0), .val (.int p1)] [])) (fun t k => XS.icmpNo X0.here hx rfl (hb hby d6_2) rfl (flt hc2_1).2.2.1 k) ?_
    refine Goes.to (T' := s₁.setTop (mkF m 6 #[.val (.int p0), .val (.int p1)] [(.int p0)])) (fun t k => XS.iloadN X0.here hx rfl (hb hby d6_5) rfl k) ?_
    refine Goes.to (T' := s₁.setTop (mkF m 10 #[.val (.int p0), .val (.int p1)] [(.int p0)])) (fun t k => XS.goto X0.here hx rfl (pc0 := 6) (pc' := 10) rfl (hb hby d6_6) (by decide) (by decide) k) ?_
    obtain ⟨fs, hrL, hrun, hended, hW, hsame⟩ := X0.leave (v := some (.int p0)) (fun h => by rw [Bd.returns] at h; cases h)
    subst hQf
    refine ⟨_, _, retOut X0 hx Bd.returns rfl (Or.inl ⟨rfl, Or.inl rfl, _, rfl⟩) (hb hby d6_10) hrL, hrun, hended, _, _, rfl, ?_, ⟨_, rfl⟩, hW, hsame.mono (by decide) (by decide)⟩
    show (fun (v : Option Value) (h : Heap) (L : List Loc) => v = some (.int r) ∧ Fr n0 L ∧ h = h0) (some (.int p0)) s₁.heap _
    rw [e0]
    have hv : p0 = r := by rw [hr]; first | (simp [hc2_1]; done) | ((repeat' split) <;> first | rfl | contradiction | simp_all)
    exact ⟨by rw [hv], N0, rfl⟩
theorem own_mh (q0 : Int64) : ((((q0 >>> ((32 : Int32) &&& 0x3f).toInt64) * (0 : Int64)) + ((((q0 >>> ((32 : Int32) &&& 0x3f).toInt64) * (1 : Int64)) + ((((q0 &&& (4294967295 : Int64)) * (1 : Int64)).toUInt64 >>> ((32 : Int32) &&& 0x3f).toInt64.toUInt64).toInt64)) >>> ((32 : Int32) &&& 0x3f).toInt64)) + ((((((q0 >>> ((32 : Int32) &&& 0x3f).toInt64) * (1 : Int64)) + ((((q0 &&& (4294967295 : Int64)) * (1 : Int64)).toUInt64 >>> ((32 : Int32) &&& 0x3f).toInt64.toUInt64).toInt64)) &&& (4294967295 : Int64)) + ((q0 &&& (4294967295 : Int64)) * (0 : Int64))) >>> ((32 : Int32) &&& 0x3f).toInt64)) = if q0 < 0 then -1 else 0 := by
  simp only [Int64.mul_one, Int64.mul_zero, Int64.zero_add, Int64.add_zero]
  have a1 := c_lshr q0 32 32 rfl
  generalize q0 >>> ((32 : Int32) &&& 0x3f).toInt64 = A at *
  have b1 := c_maskL q0 4294967295 32 (by decide) rfl
  generalize q0 &&& (4294967295 : Int64) = B at *
  have u1 := c_lushr B 32 32 rfl (by decide)
  generalize (B.toUInt64 >>> ((32 : Int32) &&& 0x3f).toInt64.toUInt64).toInt64 = U at *
  have t1 := c_ladd A U
  generalize A + U = T at *
  have v1 := c_lshr T 32 32 rfl
  have w1 := c_maskL T 4294967295 32 (by decide) rfl
  generalize T &&& (4294967295 : Int64) = M at *
  have m1 := c_lshr M 32 32 rfl
  generalize T >>> ((32 : Int32) &&& 0x3f).toInt64 = V at *
  generalize M >>> ((32 : Int32) &&& 0x3f).toInt64 = X at *
  have s1 := c_ladd V X
  have q1 := Int64.toInt_lt q0
  have q2 := Int64.le_toInt q0
  have r1 := Int64.toInt_lt (V + X)
  have r2 := Int64.le_toInt (V + X)
  have r3 := Int64.toInt_lt T
  have r4 := Int64.le_toInt T
  have e0 : (0 : Int64).toInt = 0 := rfl
  have em : (-1 : Int64).toInt = -1 := rfl
  simp only [Int64.lt_iff_toInt_lt, e0]
  split
  · rw [← Int64.toInt_inj, em]; omega
  · rw [← Int64.toInt_inj, e0]; omega
theorem d8_0 : decode jdk_29_method_45_code 0 = .ok (.lload_n 0, 1) := by decide +kernel
theorem d8_1 : decode jdk_29_method_45_code 1 = .ok (.bipush 32, 2) := by decide +kernel
theorem d8_3 : decode jdk_29_method_45_code 3 = .ok (.lshr, 1) := by decide +kernel
theorem d8_4 : decode jdk_29_method_45_code 4 = .ok (.lstore 4, 2) := by decide +kernel
theorem d8_6 : decode jdk_29_method_45_code 6 = .ok (.lload_n 0, 1) := by decide +kernel
theorem d8_7 : decode jdk_29_method_45_code 7 = .ok (.ldc2_w 138, 3) := by decide +kernel
theorem d8_10 : decode jdk_29_method_45_code 10 = .ok (.land, 1) := by decide +kernel
theorem d8_11 : decode jdk_29_method_45_code 11 = .ok (.lstore 6, 2) := by decide +kernel
theorem d8_13 : decode jdk_29_method_45_code 13 = .ok (.lload_n 2, 1) := by decide +kernel
theorem d8_14 : decode jdk_29_method_45_code 14 = .ok (.bipush 32, 2) := by decide +kernel
theorem d8_16 : decode jdk_29_method_45_code 16 = .ok (.lshr, 1) := by decide +kernel
theorem d8_17 : decode jdk_29_method_45_code 17 = .ok (.lstore 8, 2) := by decide +kernel
theorem d8_19 : decode jdk_29_method_45_code 19 = .ok (.lload_n 2, 1) := by decide +kernel
theorem d8_20 : decode jdk_29_method_45_code 20 = .ok (.ldc2_w 138, 3) := by decide +kernel
theorem d8_23 : decode jdk_29_method_45_code 23 = .ok (.land, 1) := by decide +kernel
theorem d8_24 : decode jdk_29_method_45_code 24 = .ok (.lstore 10, 2) := by decide +kernel
theorem d8_26 : decode jdk_29_method_45_code 26 = .ok (.lload 6, 2) := by decide +kernel
theorem d8_28 : decode jdk_29_method_45_code 28 = .ok (.lload 10, 2) := by decide +kernel
theorem d8_30 : decode jdk_29_method_45_code 30 = .ok (.lmul, 1) := by decide +kernel
theorem d8_31 : decode jdk_29_method_45_code 31 = .ok (.lstore 12, 2) := by decide +kernel
theorem d8_33 : decode jdk_29_method_45_code 33 = .ok (.lload 4, 2) := by decide +kernel
theorem d8_35 : decode jdk_29_method_45_code 35 = .ok (.lload 10, 2) := by decide +kernel
theorem d8_37 : decode jdk_29_method_45_code 37 = .ok (.lmul, 1) := by decide +kernel
theorem d8_38 : decode jdk_29_method_45_code 38 = .ok (.lload 12, 2) := by decide +kernel
theorem d8_40 : decode jdk_29_method_45_code 40 = .ok (.bipush 32, 2) := by decide +kernel
theorem d8_42 : decode jdk_29_method_45_code 42 = .ok (.lushr, 1) := by decide +kernel
theorem d8_43 : decode jdk_29_method_45_code 43 = .ok (.ladd, 1) := by decide +kernel
theorem d8_44 : decode jdk_29_method_45_code 44 = .ok (.lstore 14, 2) := by decide +kernel
theorem d8_46 : decode jdk_29_method_45_code 46 = .ok (.lload 14, 2) := by decide +kernel
theorem d8_48 : decode jdk_29_method_45_code 48 = .ok (.ldc2_w 138, 3) := by decide +kernel
theorem d8_51 : decode jdk_29_method_45_code 51 = .ok (.land, 1) := by decide +kernel
theorem d8_52 : decode jdk_29_method_45_code 52 = .ok (.lstore 16, 2) := by decide +kernel
theorem d8_54 : decode jdk_29_method_45_code 54 = .ok (.lload 14, 2) := by decide +kernel
theorem d8_56 : decode jdk_29_method_45_code 56 = .ok (.bipush 32, 2) := by decide +kernel
theorem d8_58 : decode jdk_29_method_45_code 58 = .ok (.lshr, 1) := by decide +kernel
theorem d8_59 : decode jdk_29_method_45_code 59 = .ok (.lstore 18, 2) := by decide +kernel
theorem d8_61 : decode jdk_29_method_45_code 61 = .ok (.lload 16, 2) := by decide +kernel
theorem d8_63 : decode jdk_29_method_45_code 63 = .ok (.lload 6, 2) := by decide +kernel
theorem d8_65 : decode jdk_29_method_45_code 65 = .ok (.lload 8, 2) := by decide +kernel
theorem d8_67 : decode jdk_29_method_45_code 67 = .ok (.lmul, 1) := by decide +kernel
theorem d8_68 : decode jdk_29_method_45_code 68 = .ok (.ladd, 1) := by decide +kernel
theorem d8_69 : decode jdk_29_method_45_code 69 = .ok (.lstore 16, 2) := by decide +kernel
theorem d8_71 : decode jdk_29_method_45_code 71 = .ok (.lload 4, 2) := by decide +kernel
theorem d8_73 : decode jdk_29_method_45_code 73 = .ok (.lload 8, 2) := by decide +kernel
theorem d8_75 : decode jdk_29_method_45_code 75 = .ok (.lmul, 1) := by decide +kernel
theorem d8_76 : decode jdk_29_method_45_code 76 = .ok (.lload 18, 2) := by decide +kernel
theorem d8_78 : decode jdk_29_method_45_code 78 = .ok (.ladd, 1) := by decide +kernel
theorem d8_79 : decode jdk_29_method_45_code 79 = .ok (.lload 16, 2) := by decide +kernel
theorem d8_81 : decode jdk_29_method_45_code 81 = .ok (.bipush 32, 2) := by decide +kernel
theorem d8_83 : decode jdk_29_method_45_code 83 = .ok (.lshr, 1) := by decide +kernel
theorem d8_84 : decode jdk_29_method_45_code 84 = .ok (.ladd, 1) := by decide +kernel
theorem d8_85 : decode jdk_29_method_45_code 85 = .ok (.lreturn, 1) := by decide +kernel
theorem ef_rmMH (m : MethodId) (x0 : Int64) (x1 : Int64) : entryFrame m #[(.long x0), (.long x1)] 20 = mkF m 0 #[.val (.long x0), .second, .val (.long x1), .second, .unset, .unset, .unset, .unset, .unset, .unset, .unset, .unset, .unset, .unset, .unset, .unset, .unset, .unset, .unset, .unset] [] := by first | (simp [entryFrame, mkF, argsToLocals, Value.category]; done) | rfl
def Q_rmMH (Z : State) (q0 : Int64) (w0 : Addr) (k_w0 : ClassId) (h0 : Heap) (n0 : Nat) (v : Option Value) (h : Heap) (L : List Loc) : Prop := v = some (.long (if q0 < 0 then -1 else 0)) ∧ Fr n0 L ∧ h = h0
set_option maxRecDepth 65536 in
set_option maxHeartbeats 40000000 in
theorem rmMH (l : Launch) (Z : State) (a0 : Array Value) (hw : ∀ d ∈ tables_1, d.before a0 Z = true) (ws : List Jvm.Cond) (q0 : Int64) (w0 : Addr) (k_w0 : ClassId) (h0 : Heap) (n0 : Nat) (O0 : Old Z n0 h0) (NF : Nar Z w0 k_w0) :
    MetFree l (⟨"java/lang/Math", "multiplyHigh", "(JJ)J"⟩ : MethodName) (head1 (Jvm.Cond.code (⟨"java/lang/Math", "multiplyHigh", "(JJ)J"⟩ : MethodName) jdk_29_method_45_code 20 (some .long) :: ws) ({ frames := 0, cells := 0, slots := 0, locals := 0 } : Room)) (fun a U => a = #[(.long q0), (.long (1 : Int64))] ∧ Z.Warmed39 U.vm ∧ U.heap = h0) (fun _ _ _ _ _ => True) (fun _ U o U' => ∃ v L, o = .returned v ∧ Q_rmMH Z q0 w0 k_w0 h0 n0 v U'.heap L ∧ FrameEnd U o U' L ({ frames := 0, cells := 0, slots := 0, locals := 0 } : Room).cells ({ frames := 0, cells := 0, slots := 0, locals := 0 } : Room).slots) := by
  refine MetFree.of_bodySF (Jvm.Free.JP.mathPlain rfl (by decide +kernel)) hisR ?_
  intro p e s m args below meth c s₁ Bd hml0 hP hK
  obtain ⟨rfl, hZ, hh⟩ := hP
  have hx := Bd.exec
  have hby := Bd.bytes
  have hml : c.maxLocals = 20 := hml0
  have hown : s.vm.findClass "java/lang/Math" = some m.cls := findClass_of_methodNamed Bd.named
  have hnm := (name_of_methodNamed Bd.named Bd.method).1
  have X0 : Stand p l e ({ frames := 0, cells := 0, slots := 0, locals := 0 } : Room) s m #[(.long q0), (.long (1 : Int64))] below meth c s₁ [] 0 0 := Stand.of_body Bd
  have e0 : s₁.heap = h0 := by rw [← hh, Bd.state]; rfl
  have N0 := Fr.nil n0
  suffices G : ∀ (Qf : Outcome → State → Prop), Qf = (fun (_ : Array Value) (U : State) (o : Outcome) (U' : State) => ∃ v L, o = .returned v ∧ Q_rmMH Z q0 w0 k_w0 h0 n0 v U'.heap L ∧ FrameEnd U o U' L ({ frames := 0, cells := 0, slots := 0, locals := 0 } : Room).cells ({ frames := 0, cells := 0, slots := 0, locals := 0 } : Room).slots) #[] s → Goes p.tables e below Qf (s₁.setTop (mkF m 0 #[.val (.long q0), .second, .val (.long (1 : Int64)), .second, .unset, .unset, .unset, .unset, .unset, .unset, .unset, .unset, .unset, .unset, .unset, .unset, .unset, .unset, .unset, .unset] [])) by
    obtain ⟨s₂, o, g1, g2, g3, g4⟩ := G _ rfl
    exact ⟨s₂, o, castTop (ef_rmMH m _ _) g1, g2, g3, g4⟩
  intro Qf hQf
  obtain ⟨S_w0, E_w0, V_w0⟩ := id NF
  refine Goes.to (T' := s₁.setTop (mkF m 1 #[.val (.long q0), .second, .val (.long (1 : Int64)), .second, .unset, .unset, .unset, .unset, .unset, .unset, .unset, .unset, .unset, .unset, .unset, .unset, .unset, .unset, .unset, .unset] [(.long q0)])) (fun t k => XS.lloadN X0.here hx rfl (hb hby d8_0) rfl k) ?_
  refine Goes.to (T' := s₁.setTop (mkF m 3 #[.val (.long q0), .second, .val (.long (1 : Int64)), .second, .unset, .unset, .unset, .unset, .unset, .unset, .unset, .unset, .unset, .unset, .unset, .unset, .unset, .unset, .unset, .unset] [(.int (32 : Int32)), (.long q0)])) (fun t k => XS.bipush X0.here hx rfl (hb hby d8_1) k) ?_
  refine Goes.to (T' := s₁.setTop (mkF m 4 #[.val (.long q0), .second, .val (.long (1 : Int64)), .second, .unset, .unset, .unset, .unset, .unset, .unset, .unset, .unset, .unset, .unset, .unset, .unset, .unset, .unset, .unset, .unset] [(.long (q0 >>> ((32 : Int32) &&& 0x3f).toInt64))])) (fun t k => XS.lshr X0.here hx rfl (hb hby d8_3) rfl k) ?_
  refine Goes.to (T' := s₁.setTop (mkF m 6 #[.val (.long q0), .second, .val (.long (1 : Int64)), .second, .val (.long (q0 >>> ((32 : Int32) &&& 0x3f).toInt64)), .second, .unset, .unset, .unset, .unset, .unset, .unset, .unset, .unset, .unset, .unset, .unset, .unset, .unset, .unset] [])) (fun t k => XS.lstore X0.here hx rfl (hb hby d8_4) rfl (l' := #[.val (.long q0), .second, .val (.long (1 : Int64)), .second, .val (.long (q0 >>> ((32 : Int32) &&& 0x3f).toInt64)), .second, .unset, .unset, .unset, .unset, .unset, .unset, .unset, .unset, .unset, .unset, .unset, .unset, .unset, .unset]) rfl k) ?_
  refine Goes.to (T' := s₁.setTop (mkF m 7 #[.val (.long q0), .second, .val (.long (1 : Int64)), .second, .val (.long (q0 >>> ((32 : Int32) &&& 0x3f).toInt64)), .second, .unset, .unset, .unset, .unset, .unset, .unset, .unset, .unset, .unset, .unset, .unset, .unset, .unset, .unset] [(.long q0)])) (fun t k => XS.lloadN X0.here hx rfl (hb hby d8_6) rfl k) ?_
  refine Goes.to (T' := s₁.setTop (mkF m 10 #[.val (.long q0), .second, .val (.long (1 : Int64)), .second, .val (.long (q0 >>> ((32 : Int32) &&& 0x3f).toInt64)), .second, .unset, .unset, .unset, .unset, .unset, .unset, .unset, .unset, .unset, .unset, .unset, .unset, .unset, .unset] [(.long (4294967295 : Int64)), (.long q0)])) (X0.ldc2Long hx hown (mvT hZ (hw _ (mi 44 rfl))) (g := (mkF m 7 #[.val (.long q0), .second, .val (.long (1 : Int64)), .second, .val (.long (q0 >>> ((32 : Int32) &&& 0x3f).toInt64)), .second, .unset, .unset, .unset, .unset, .unset, .unset, .unset, .unset, .unset, .unset, .unset, .unset, .unset, .unset] [(.long q0)])) rfl (hb hby d8_7)) ?_
  refine Goes.to (T' := s₁.setTop (mkF m 11 #[.val (.long q0), .second, .val (.long (1 : Int64)), .second, .val (.long (q0 >>> ((32 : Int32) &&& 0x3f).toInt64)), .second, .unset, .unset, .unset, .unset, .unset, .unset, .unset, .unset, .unset, .unset, .unset, .unset, .unset, .unset] [(.long (q0 &&& (4294967295 : Int64)))])) (fun t k => XS.land X0.here hx rfl (hb hby d8_10) rfl k) ?_
  refine Goes.to (T' := s₁.setTop (mkF m 13 #[.val (.long q0), .second, .val (.long (1 : Int64)), .second, .val (.long (q0 >>> ((32 : Int32) &&& 0x3f).toInt64)), .second, .val (.long (q0 &&& (4294967295 : Int64))), .second, .unset, .unset, .unset, .unset, .unset, .unset, .unset, .unset, .unset, .unset, .unset, .unset] [])) (fun t k => XS.lstore X0.here hx rfl (hb hby d8_11) rfl (l' := #[.val (.long q0), .second, .val (.long (1 : Int64)), .second, .val (.long (q0 >>> ((32 : Int32) &&& 0x3f).toInt64)), .second, .val (.long (q0 &&& (4294967295 : Int64))), .second, .unset, .unset, .unset, .unset, .unset, .unset, .unset, .unset, .unset, .unset, .unset, .unset]) rfl k) ?_
  refine Goes.to (T' := s₁.setTop (mkF m 14 #[.val (.long q0), .second, .val (.long (1 : Int64)), .second, .val (.long (q0 >>> ((32 : Int32) &&& 0x3f).toInt64)), .second, .val (.long (q0 &&& (4294967295 : Int64))), .second, .unset, .unset, .unset, .unset, .unset, .unset, .unset, .unset, .unset, .unset, .unset, .unset] [(.long (1 : Int64))])) (fun t k => XS.lloadN X0.here hx rfl (hb hby d8_13) rfl k) ?_
  refine Goes.to (T' := s₁.setTop (mkF m 16 #[.val (.long q0), .second, .val (.long (1 : Int64)), .second, .val (.long (q0 >>> ((32 : Int32) &&& 0x3f).toInt64)), .second, .val (.long (q0 &&& (4294967295 : Int64))), .second, .unset, .unset, .unset, .unset, .unset, .unset, .unset, .unset, .unset, .unset, .unset, .unset] [(.int (32 : Int32)), (.long (1 : Int64))])) (fun t k => XS.bipush X0.here hx rfl (hb hby d8_14) k) ?_
  refine Goes.to (T' := s₁.setTop (mkF m 17 #[.val (.long q0), .second, .val (.long (1 : Int64)), .second, .val (.long (q0 >>> ((32 : Int32) &&& 0x3f).toInt64)), .second, .val (.long (q0 &&& (4294967295 : Int64))), .second, .unset, .unset, .unset, .unset, .unset, .unset, .unset, .unset, .unset, .unset, .unset, .unset] [(.long ((1 : Int64) >>> ((32 : Int32) &&& 0x3f).toInt64))])) (fun t k => XS.lshr X0.here hx rfl (hb hby d8_16) rfl k) ?_
  rw [show ((1 : Int64) >>> ((32 : Int32) &&& 0x3f).toInt64) = (0 : Int64) from by decide +kernel]
  refine Goes.to (T' := s₁.setTop (mkF m 19 #[.val (.long q0), .second, .val (.long (1 : Int64)), .second, .val (.long (q0 >>> ((32 : Int32) &&& 0x3f).toInt64)), .second, .val (.long (q0 &&& (4294967295 : Int64))), .second, .val (.long (0 : Int64)), .second, .unset, .unset, .unset, .unset, .unset, .unset, .unset, .unset, .unset, .unset] [])) (fun t k => XS.lstore X0.here hx rfl (hb hby d8_17) rfl (l' := #[.val (.long q0), .second, .val (.long (1 : Int64)), .second, .val (.long (q0 >>> ((32 : Int32) &&& 0x3f).toInt64)), .second, .val (.long (q0 &&& (4294967295 : Int64))), .second, .val (.long (0 : Int64)), .second, .unset, .unset, .unset, .unset, .unset, .unset, .unset, .unset, .unset, .unset]) rfl k) ?_
  refine Goes.to (T' := s₁.setTop (mkF m 20 #[.val (.long q0), .second, .val (.long (1 : Int64)), .second, .val (.long (q0 >>> ((32 : Int32) &&& 0x3f).toInt64)), .second, .val (.long (q0 &&& (4294967295 : Int64))), .second, .val (.long (0 : Int64)), .second, .unset, .unset, .unset, .unset, .unset, .unset, .unset, .unset, .unset, .unset] [(.long (1 : Int64))])) (fun t k => XS.lloadN X0.here hx rfl (hb hby d8_19) rfl k) ?_
  refine Goes.to (T' := s₁.setTop (mkF m 23 #[.val (.long q0), .second, .val (.long (1 : Int64)), .second, .val (.long (q0 >>> ((32 : Int32) &&& 0x3f).toInt64)), .second, .val (.long (q0 &&& (4294967295 : Int64))), .second, .val (.long (0 : Int64)), .second, .unset, .unset, .unset, .unset, .unset, .unset, .unset, .unset, .unset, .unset] [(.long (4294967295 : Int64)), (.long (1 : Int64))])) (X0.ldc2Long hx hown (mvT hZ (hw _ (mi 44 rfl))) (g := (mkF m 20 #[.val (.long q0), .second, .val (.long (1 : Int64)), .second, .val (.long (q0 >>> ((32 : Int32) &&& 0x3f).toInt64)), .second, .val (.long (q0 &&& (4294967295 : Int64))), .second, .val (.long (0 : Int64)), .second, .unset, .unset, .unset, .unset, .unset, .unset, .unset, .unset, .unset, .unset] [(.long (1 : Int64))])) rfl (hb hby d8_20)) ?_
  refine Goes.to (T' := s₁.setTop (mkF m 24 #[.val (.long q0), .second, .val (.long (1 : Int64)), .second, .val (.long (q0 >>> ((32 : Int32) &&& 0x3f).toInt64)), .second, .val (.long (q0 &&& (4294967295 : Int64))), .second, .val (.long (0 : Int64)), .second, .unset, .unset, .unset, .unset, .unset, .unset, .unset, .unset, .unset, .unset] [(.long ((1 : Int64) &&& (4294967295 : Int64)))])) (fun t k => XS.land X0.here hx rfl (hb hby d8_23) rfl k) ?_
  rw [show ((1 : Int64) &&& (4294967295 : Int64)) = (1 : Int64) from by decide +kernel]
  refine Goes.to (T' := s₁.setTop (mkF m 26 #[.val (.long q0), .second, .val (.long (1 : Int64)), .second, .val (.long (q0 >>> ((32 : Int32) &&& 0x3f).toInt64)), .second, .val (.long (q0 &&& (4294967295 : Int64))), .second, .val (.long (0 : Int64)), .second, .val (.long (1 : Int64)), .second, .unset, .unset, .unset, .unset, .unset, .unset, .unset, .unset] [])) (fun t k => XS.lstore X0.here hx rfl (hb hby d8_24) rfl (l' := #[.val (.long q0), .second, .val (.long (1 : Int64)), .second, .val (.long (q0 >>> ((32 : Int32) &&& 0x3f).toInt64)), .second, .val (.long (q0 &&& (4294967295 : Int64))), .second, .val (.long (0 : Int64)), .second, .val (.long (1 : Int64)), .second, .unset, .unset, .unset, .unset, .unset, .unset, .unset, .unset]) rfl k) ?_
  refine Goes.to (T' := s₁.setTop (mkF m 28 #[.val (.long q0), .second, .val (.long (1 : Int64)), .second, .val (.long (q0 >>> ((32 : Int32) &&& 0x3f).toInt64)), .second, .val (.long (q0 &&& (4294967295 : Int64))), .second, .val (.long (0 : Int64)), .second, .val (.long (1 : Int64)), .second, .unset, .unset, .unset, .unset, .unset, .unset, .unset, .unset] [(.long (q0 &&& (4294967295 : Int64)))])) (fun t k => XS.lload X0.here hx rfl (hb hby d8_26) rfl k) ?_
  refine Goes.to (T' := s₁.setTop (mkF m 30 #[.val (.long q0), .second, .val (.long (1 : Int64)), .second, .val (.long (q0 >>> ((32 : Int32) &&& 0x3f).toInt64)), .second, .val (.long (q0 &&& (4294967295 : Int64))), .second, .val (.long (0 : Int64)), .second, .val (.long (1 : Int64)), .second, .unset, .unset, .unset, .unset, .unset, .unset, .unset, .unset] [(.long (1 : Int64)), (.long (q0 &&& (4294967295 : Int64)))])) (fun t k => XS.lload X0.here hx rfl (hb hby d8_28) rfl k) ?_
  refine Goes.to (T' := s₁.setTop (mkF m 31 #[.val (.long q0), .second, .val (.long (1 : Int64)), .second, .val (.long (q0 >>> ((32 : Int32) &&& 0x3f).toInt64)), .second, .val (.long (q0 &&& (4294967295 : Int64))), .second, .val (.long (0 : Int64)), .second, .val (.long (1 : Int64)), .second, .unset, .unset, .unset, .unset, .unset, .unset, .unset, .unset] [(.long ((q0 &&& (4294967295 : Int64)) * (1 : Int64)))])) (fun t k => XS.lmul X0.here hx rfl (hb hby d8_30) rfl k) ?_
  refine Goes.to (T' := s₁.setTop (mkF m 33 #[.val (.long q0), .second, .val (.long (1 : Int64)), .second, .val (.long (q0 >>> ((32 : Int32) &&& 0x3f).toInt64)), .second, .val (.long (q0 &&& (4294967295 : Int64))), .second, .val (.long (0 : Int64)), .second, .val (.long (1 : Int64)), .second, .val (.long ((q0 &&& (4294967295 : Int64)) * (1 : Int64))), .second, .unset, .unset, .unset, .unset, .unset, .unset] [])) (fun t k => XS.lstore X0.here hx rfl (hb hby d8_31) rfl (l' := #[.val (.long q0), .second, .val (.long (1 : Int64)), .second, .val (.long (q0 >>> ((32 : Int32) &&& 0x3f).toInt64)), .second, .val (.long (q0 &&& (4294967295 : Int64))), .second, .val (.long (0 : Int64)), .second, .val (.long (1 : Int64)), .second, .val (.long ((q0 &&& (4294967295 : Int64)) * (1 : Int64))), .second, .unset, .unset, .unset, .unset, .unset, .unset]) rfl k) ?_
  refine Goes.to (T' := s₁.setTop (mkF m 35 #[.val (.long q0), .second, .val (.long (1 : Int64)), .second, .val (.long (q0 >>> ((32 : Int32) &&& 0x3f).toInt64)), .second, .val (.long (q0 &&& (4294967295 : Int64))), .second, .val (.long (0 : Int64)), .second, .val (.long (1 : Int64)), .second, .val (.long ((q0 &&& (4294967295 : Int64)) * (1 : Int64))), .second, .unset, .unset, .unset, .unset, .unset, .unset] [(.long (q0 >>> ((32 : Int32) &&& 0x3f).toInt64))])) (fun t k => XS.lload X0.here hx rfl (hb hby d8_33) rfl k) ?_
  refine Goes.to (T' := s₁.setTop (mkF m 37 #[.val (.long q0), .second, .val (.long (1 : Int64)), .second, .val (.long (q0 >>> ((32 : Int32) &&& 0x3f).toInt64)), .second, .val (.long (q0 &&& (4294967295 : Int64))), .second, .val (.long (0 : Int64)), .second, .val (.long (1 : Int64)), .second, .val (.long ((q0 &&& (4294967295 : Int64)) * (1 : Int64))), .second, .unset, .unset, .unset, .unset, .unset, .unset] [(.long (1 : Int64)), (.long (q0 >>> ((32 : Int32) &&& 0x3f).toInt64))])) (fun t k => XS.lload X0.here hx rfl (hb hby d8_35) rfl k) ?_
  refine Goes.to (T' := s₁.setTop (mkF m 38 #[.val (.long q0), .second, .val (.long (1 : Int64)), .second, .val (.long (q0 >>> ((32 : Int32) &&& 0x3f).toInt64)), .second, .val (.long (q0 &&& (4294967295 : Int64))), .second, .val (.long (0 : Int64)), .second, .val (.long (1 : Int64)), .second, .val (.long ((q0 &&& (4294967295 : Int64)) * (1 : Int64))), .second, .unset, .unset, .unset, .unset, .unset, .unset] [(.long ((q0 >>> ((32 : Int32) &&& 0x3f).toInt64) * (1 : Int64)))])) (fun t k => XS.lmul X0.here hx rfl (hb hby d8_37) rfl k) ?_
  refine Goes.to (T' := s₁.setTop (mkF m 40 #[.val (.long q0), .second, .val (.long (1 : Int64)), .second, .val (.long (q0 >>> ((32 : Int32) &&& 0x3f).toInt64)), .second, .val (.long (q0 &&& (4294967295 : Int64))), .second, .val (.long (0 : Int64)), .second, .val (.long (1 : Int64)), .second, .val (.long ((q0 &&& (4294967295 : Int64)) * (1 : Int64))), .second, .unset, .unset, .unset, .unset, .unset, .unset] [(.long ((q0 &&& (4294967295 : Int64)) * (1 : Int64))), (.long ((q0 >>> ((32 : Int32) &&& 0x3f).toInt64) * (1 : Int64)))])) (fun t k => XS.lload X0.here hx rfl (hb hby d8_38) rfl k) ?_
  refine Goes.to (T' := s₁.setTop (mkF m 42 #[.val (.long q0), .second, .val (.long (1 : Int64)), .second, .val (.long (q0 >>> ((32 : Int32) &&& 0x3f).toInt64)), .second, .val (.long (q0 &&& (4294967295 : Int64))), .second, .val (.long (0 : Int64)), .second, .val (.long (1 : Int64)), .second, .val (.long ((q0 &&& (4294967295 : Int64)) * (1 : Int64))), .second, .unset, .unset, .unset, .unset, .unset, .unset] [(.int (32 : Int32)), (.long ((q0 &&& (4294967295 : Int64)) * (1 : Int64))), (.long ((q0 >>> ((32 : Int32) &&& 0x3f).toInt64) * (1 : Int64)))])) (fun t k => XS.bipush X0.here hx rfl (hb hby d8_40) k) ?_
  refine Goes.to (T' := s₁.setTop (mkF m 43 #[.val (.long q0), .second, .val (.long (1 : Int64)), .second, .val (.long (q0 >>> ((32 : Int32) &&& 0x3f).toInt64)), .second, .val (.long (q0 &&& (4294967295 : Int64))), .second, .val (.long (0 : Int64)), .second, .val (.long (1 : Int64)), .second, .val (.long ((q0 &&& (4294967295 : Int64)) * (1 : Int64))), .second, .unset, .unset, .unset, .unset, .unset, .unset] [(.long ((((q0 &&& (4294967295 : Int64)) * (1 : Int64)).toUInt64 >>> ((32 : Int32) &&& 0x3f).toInt64.toUInt64).toInt64)), (.long ((q0 >>> ((32 : Int32) &&& 0x3f).toInt64) * (1 : Int64)))])) (fun t k => XS.lushr X0.here hx rfl (hb hby d8_42) rfl k) ?_
  refine Goes.to (T' := s₁.setTop (mkF m 44 #[.val (.long q0), .second, .val (.long (1 : Int64)), .second, .val (.long (q0 >>> ((32 : Int32) &&& 0x3f).toInt64)), .second, .val (.long (q0 &&& (4294967295 : Int64))), .second, .val (.long (0 : Int64)), .second, .val (.long (1 : Int64)), .second, .val (.long ((q0 &&& (4294967295 : Int64)) * (1 : Int64))), .second, .unset, .unset, .unset, .unset, .unset, .unset] [(.long (((q0 >>> ((32 : Int32) &&& 0x3f).toInt64) * (1 : Int64)) + ((((q0 &&& (4294967295 : Int64)) * (1 : Int64)).toUInt64 >>> ((32 : Int32) &&& 0x3f).toInt64.toUInt64).toInt64)))])) (fun t k => XS.ladd X0.here hx rfl (hb hby d8_43) rfl k) ?_
  refine Goes.to (T' := s₁.setTop (mkF m 46 #[.val (.long q0), .second, .val (.long (1 : Int64)), .second, .val (.long (q0 >>> ((32 : Int32) &&& 0x3f).toInt64)), .second, .val (.long (q0 &&& (4294967295 : Int64))), .second, .val (.long (0 : Int64)), .second, .val (.long (1 : Int64)), .second, .val (.long ((q0 &&& (4294967295 : Int64)) * (1 : Int64))), .second, .val (.long (((q0 >>> ((32 : Int32) &&& 0x3f).toInt64) * (1 : Int64)) + ((((q0 &&& (4294967295 : Int64)) * (1 : Int64)).toUInt64 >>> ((32 : Int32) &&& 0x3f).toInt64.toUInt64).toInt64))), .second, .unset, .unset, .unset, .unset] [])) (fun t k => XS.lstore X0.here hx rfl (hb hby d8_44) rfl (l' := #[.val (.long q0), .second, .val (.long (1 : Int64)), .second, .val (.long (q0 >>> ((32 : Int32) &&& 0x3f).toInt64)), .second, .val (.long (q0 &&& (4294967295 : Int64))), .second, .val (.long (0 : Int64)), .second, .val (.long (1 : Int64)), .second, .val (.long ((q0 &&& (4294967295 : Int64)) * (1 : Int64))), .second, .val (.long (((q0 >>> ((32 : Int32) &&& 0x3f).toInt64) * (1 : Int64)) + ((((q0 &&& (4294967295 : Int64)) * (1 : Int64)).toUInt64 >>> ((32 : Int32) &&& 0x3f).toInt64.toUInt64).toInt64))), .second, .unset, .unset, .unset, .unset]) rfl k) ?_
  refine Goes.to (T' := s₁.setTop (mkF m 48 #[.val (.long q0), .second, .val (.long (1 : Int64)), .second, .val (.long (q0 >>> ((32 : Int32) &&& 0x3f).toInt64)), .second, .val (.long (q0 &&& (4294967295 : Int64))), .second, .val (.long (0 : Int64)), .second, .val (.long (1 : Int64)), .second, .val (.long ((q0 &&& (4294967295 : Int64)) * (1 : Int64))), .second, .val (.long (((q0 >>> ((32 : Int32) &&& 0x3f).toInt64) * (1 : Int64)) + ((((q0 &&& (4294967295 : Int64)) * (1 : Int64)).toUInt64 >>> ((32 : Int32) &&& 0x3f).toInt64.toUInt64).toInt64))), .second, .unset, .unset, .unset, .unset] [(.long (((q0 >>> ((32 : Int32) &&& 0x3f).toInt64) * (1 : Int64)) + ((((q0 &&& (4294967295 : Int64)) * (1 : Int64)).toUInt64 >>> ((32 : Int32) &&& 0x3f).toInt64.toUInt64).toInt64)))])) (fun t k => XS.lload X0.here hx rfl (hb hby d8_46) rfl k) ?_
  refine Goes.to (T' := s₁.setTop (mkF m 51 #[.val (.long q0), .second, .val (.long (1 : Int64)), .second, .val (.long (q0 >>> ((32 : Int32) &&& 0x3f).toInt64)), .second, .val (.long (q0 &&& (4294967295 : Int64))), .second, .val (.long (0 : Int64)), .second, .val (.long (1 : Int64)), .second, .val (.long ((q0 &&& (4294967295 : Int64)) * (1 : Int64))), .second, .val (.long (((q0 >>> ((32 : Int32) &&& 0x3f).toInt64) * (1 : Int64)) + ((((q0 &&& (4294967295 : Int64)) * (1 : Int64)).toUInt64 >>> ((32 : Int32) &&& 0x3f).toInt64.toUInt64).toInt64))), .second, .unset, .unset, .unset, .unset] [(.long (4294967295 : Int64)), (.long (((q0 >>> ((32 : Int32) &&& 0x3f).toInt64) * (1 : Int64)) + ((((q0 &&& (4294967295 : Int64)) * (1 : Int64)).toUInt64 >>> ((32 : Int32) &&& 0x3f).toInt64.toUInt64).toInt64)))])) (X0.ldc2Long hx hown (mvT hZ (hw _ (mi 44 rfl))) (g := (mkF m 48 #[.val (.long q0), .second, .val (.long (1 : Int64)), .second, .val (.long (q0 >>> ((32 : Int32) &&& 0x3f).toInt64)), .second, .val (.long (q0 &&& (4294967295 : Int64))), .second, .val (.long (0 : Int64)), .second, .val (.long (1 : Int64)), .second, .val (.long ((q0 &&& (4294967295 : Int64)) * (1 : Int64))), .second, .val (.long (((q0 >>> ((32 : Int32) &&& 0x3f).toInt64) * (1 : Int64)) + ((((q0 &&& (4294967295 : Int64)) * (1 : Int64)).toUInt64 >>> ((32 : Int32) &&& 0x3f).toInt64.toUInt64).toInt64))), .second, .unset, .unset, .unset, .unset] [(.long (((q0 >>> ((32 : Int32) &&& 0x3f).toInt64) * (1 : Int64)) + ((((q0 &&& (4294967295 : Int64)) * (1 : Int64)).toUInt64 >>> ((32 : Int32) &&& 0x3f).toInt64.toUInt64).toInt64)))])) rfl (hb hby d8_48)) ?_
  refine Goes.to (T' := s₁.setTop (mkF m 52 #[.val (.long q0), .second, .val (.long (1 : Int64)), .second, .val (.long (q0 >>> ((32 : Int32) &&& 0x3f).toInt64)), .second, .val (.long (q0 &&& (4294967295 : Int64))), .second, .val (.long (0 : Int64)), .second, .val (.long (1 : Int64)), .second, .val (.long ((q0 &&& (4294967295 : Int64)) * (1 : Int64))), .second, .val (.long (((q0 >>> ((32 : Int32) &&& 0x3f).toInt64) * (1 : Int64)) + ((((q0 &&& (4294967295 : Int64)) * (1 : Int64)).toUInt64 >>> ((32 : Int32) &&& 0x3f).toInt64.toUInt64).toInt64))), .second, .unset, .unset, .unset, .unset] [(.long ((((q0 >>> ((32 : Int32) &&& 0x3f).toInt64) * (1 : Int64)) + ((((q0 &&& (4294967295 : Int64)) * (1 : Int64)).toUInt64 >>> ((32 : Int32) &&& 0x3f).toInt64.toUInt64).toInt64)) &&& (4294967295 : Int64)))])) (fun t k => XS.land X0.here hx rfl (hb hby d8_51) rfl k) ?_
  refine Goes.to (T' := s₁.setTop (mkF m 54 #[.val (.long q0), .second, .val (.long (1 : Int64)), .second, .val (.long (q0 >>> ((32 : Int32) &&& 0x3f).toInt64)), .second, .val (.long (q0 &&& (4294967295 : Int64))), .second, .val (.long (0 : Int64)), .second, .val (.long (1 : Int64)), .second, .val (.long ((q0 &&& (4294967295 : Int64)) * (1 : Int64))), .second, .val (.long (((q0 >>> ((32 : Int32) &&& 0x3f).toInt64) * (1 : Int64)) + ((((q0 &&& (4294967295 : Int64)) * (1 : Int64)).toUInt64 >>> ((32 : Int32) &&& 0x3f).toInt64.toUInt64).toInt64))), .second, .val (.long ((((q0 >>> ((32 : Int32) &&& 0x3f).toInt64) * (1 : Int64)) + ((((q0 &&& (4294967295 : Int64)) * (1 : Int64)).toUInt64 >>> ((32 : Int32) &&& 0x3f).toInt64.toUInt64).toInt64)) &&& (4294967295 : Int64))), .second, .unset, .unset] [])) (fun t k => XS.lstore X0.here hx rfl (hb hby d8_52) rfl (l' := #[.val (.long q0), .second, .val (.long (1 : Int64)), .second, .val (.long (q0 >>> ((32 : Int32) &&& 0x3f).toInt64)), .second, .val (.long (q0 &&& (4294967295 : Int64))), .second, .val (.long (0 : Int64)), .second, .val (.long (1 : Int64)), .second, .val (.long ((q0 &&& (4294967295 : Int64)) * (1 : Int64))), .second, .val (.long (((q0 >>> ((32 : Int32) &&& 0x3f).toInt64) * (1 : Int64)) + ((((q0 &&& (4294967295 : Int64)) * (1 : Int64)).toUInt64 >>> ((32 : Int32) &&& 0x3f).toInt64.toUInt64).toInt64))), .second, .val (.long ((((q0 >>> ((32 : Int32) &&& 0x3f).toInt64) * (1 : Int64)) + ((((q0 &&& (4294967295 : Int64)) * (1 : Int64)).toUInt64 >>> ((32 : Int32) &&& 0x3f).toInt64.toUInt64).toInt64)) &&& (4294967295 : Int64))), .second, .unset, .unset]) rfl k) ?_
  refine Goes.to (T' := s₁.setTop (mkF m 56 #[.val (.long q0), .second, .val (.long (1 : Int64)), .second, .val (.long (q0 >>> ((32 : Int32) &&& 0x3f).toInt64)), .second, .val (.long (q0 &&& (4294967295 : Int64))), .second, .val (.long (0 : Int64)), .second, .val (.long (1 : Int64)), .second, .val (.long ((q0 &&& (4294967295 : Int64)) * (1 : Int64))), .second, .val (.long (((q0 >>> ((32 : Int32) &&& 0x3f).toInt64) * (1 : Int64)) + ((((q0 &&& (4294967295 : Int64)) * (1 : Int64)).toUInt64 >>> ((32 : Int32) &&& 0x3f).toInt64.toUInt64).toInt64))), .second, .val (.long ((((q0 >>> ((32 : Int32) &&& 0x3f).toInt64) * (1 : Int64)) + ((((q0 &&& (4294967295 : Int64)) * (1 : Int64)).toUInt64 >>> ((32 : Int32) &&& 0x3f).toInt64.toUInt64).toInt64)) &&& (4294967295 : Int64))), .second, .unset, .unset] [(.long (((q0 >>> ((32 : Int32) &&& 0x3f).toInt64) * (1 : Int64)) + ((((q0 &&& (4294967295 : Int64)) * (1 : Int64)).toUInt64 >>> ((32 : Int32) &&& 0x3f).toInt64.toUInt64).toInt64)))])) (fun t k => XS.lload X0.here hx rfl (hb hby d8_54) rfl k) ?_
  refine Goes.to (T' := s₁.setTop (mkF m 58 #[.val (.long q0), .second, .val (.long (1 : Int64)), .second, .val (.long (q0 >>> ((32 : Int32) &&& 0x3f).toInt64)), .second, .val (.long (q0 &&& (4294967295 : Int64))), .second, .val (.long (0 : Int64)), .second, .val (.long (1 : Int64)), .second, .val (.long ((q0 &&& (4294967295 : Int64)) * (1 : Int64))), .second, .val (.long (((q0 >>> ((32 : Int32) &&& 0x3f).toInt64) * (1 : Int64)) + ((((q0 &&& (4294967295 : Int64)) * (1 : Int64)).toUInt64 >>> ((32 : Int32) &&& 0x3f).toInt64.toUInt64).toInt64))), .second, .val (.long ((((q0 >>> ((32 : Int32) &&& 0x3f).toInt64) * (1 : Int64)) + ((((q0 &&& (4294967295 : Int64)) * (1 : Int64)).toUInt64 >>> ((32 : Int32) &&& 0x3f).toInt64.toUInt64).toInt64)) &&& (4294967295 : Int64))), .second, .unset, .unset] [(.int (32 : Int32)), (.long (((q0 >>> ((32 : Int32) &&& 0x3f).toInt64) * (1 : Int64)) + ((((q0 &&& (4294967295 : Int64)) * (1 : Int64)).toUInt64 >>> ((32 : Int32) &&& 0x3f).toInt64.toUInt64).toInt64)))])) (fun t k => XS.bipush X0.here hx rfl (hb hby d8_56) k) ?_
  refine Goes.to (T' := s₁.setTop (mkF m 59 #[.val (.long q0), .second, .val (.long (1 : Int64)), .second, .val (.long (q0 >>> ((32 : Int32) &&& 0x3f).toInt64)), .second, .val (.long (q0 &&& (4294967295 : Int64))), .second, .val (.long (0 : Int64)), .second, .val (.long (1 : Int64)), .second, .val (.long ((q0 &&& (4294967295 : Int64)) * (1 : Int64))), .second, .val (.long (((q0 >>> ((32 : Int32) &&& 0x3f).toInt64) * (1 : Int64)) + ((((q0 &&& (4294967295 : Int64)) * (1 : Int64)).toUInt64 >>> ((32 : Int32) &&& 0x3f).toInt64.toUInt64).toInt64))), .second, .val (.long ((((q0 >>> ((32 : Int32) &&& 0x3f).toInt64) * (1 : Int64)) + ((((q0 &&& (4294967295 : Int64)) * (1 : Int64)).toUInt64 >>> ((32 : Int32) &&& 0x3f).toInt64.toUInt64).toInt64)) &&& (4294967295 : Int64))), .second, .unset, .unset] [(.long ((((q0 >>> ((32 : Int32) &&& 0x3f).toInt64) * (1 : Int64)) + ((((q0 &&& (4294967295 : Int64)) * (1 : Int64)).toUInt64 >>> ((32 : Int32) &&& 0x3f).toInt64.toUInt64).toInt64)) >>> ((32 : Int32) &&& 0x3f).toInt64))])) (fun t k => XS.lshr X0.here hx rfl (hb hby d8_58) rfl k) ?_
  refine Goes.to (T' := s₁.setTop (mkF m 61 #[.val (.long q0), .second, .val (.long (1 : Int64)), .second, .val (.long (q0 >>> ((32 : Int32) &&& 0x3f).toInt64)), .second, .val (.long (q0 &&& (4294967295 : Int64))), .second, .val (.long (0 : Int64)), .second, .val (.long (1 : Int64)), .second, .val (.long ((q0 &&& (4294967295 : Int64)) * (1 : Int64))), .second, .val (.long (((q0 >>> ((32 : Int32) &&& 0x3f).toInt64) * (1 : Int64)) + ((((q0 &&& (4294967295 : Int64)) * (1 : Int64)).toUInt64 >>> ((32 : Int32) &&& 0x3f).toInt64.toUInt64).toInt64))), .second, .val (.long ((((q0 >>> ((32 : Int32) &&& 0x3f).toInt64) * (1 : Int64)) + ((((q0 &&& (4294967295 : Int64)) * (1 : Int64)).toUInt64 >>> ((32 : Int32) &&& 0x3f).toInt64.toUInt64).toInt64)) &&& (4294967295 : Int64))), .second, .val (.long ((((q0 >>> ((32 : Int32) &&& 0x3f).toInt64) * (1 : Int64)) + ((((q0 &&& (4294967295 : Int64)) * (1 : Int64)).toUInt64 >>> ((32 : Int32) &&& 0x3f).toInt64.toUInt64).toInt64)) >>> ((32 : Int32) &&& 0x3f).toInt64)), .second] [])) (fun t k => XS.lstore X0.here hx rfl (hb hby d8_59) rfl (l' := #[.val (.long q0), .second, .val (.long (1 : Int64)), .second, .val (.long (q0 >>> ((32 : Int32) &&& 0x3f).toInt64)), .second, .val (.long (q0 &&& (4294967295 : Int64))), .second, .val (.long (0 : Int64)), .second, .val (.long (1 : Int64)), .second, .val (.long ((q0 &&& (4294967295 : Int64)) * (1 : Int64))), .second, .val (.long (((q0 >>> ((32 : Int32) &&& 0x3f).toInt64) * (1 : Int64)) + ((((q0 &&& (4294967295 : Int64)) * (1 : Int64)).toUInt64 >>> ((32 : Int32) &&& 0x3f).toInt64.toUInt64).toInt64))), .second, .val (.long ((((q0 >>> ((32 : Int32) &&& 0x3f).toInt64) * (1 : Int64)) + ((((q0 &&& (4294967295 : Int64)) * (1 : Int64)).toUInt64 >>> ((32 : Int32) &&& 0x3f).toInt64.toUInt64).toInt64)) &&& (4294967295 : Int64))), .second, .val (.long ((((q0 >>> ((32 : Int32) &&& 0x3f).toInt64) * (1 : Int64)) + ((((q0 &&& (4294967295 : Int64)) * (1 : Int64)).toUInt64 >>> ((32 : Int32) &&& 0x3f).toInt64.toUInt64).toInt64)) >>> ((32 : Int32) &&& 0x3f).toInt64)), .second]) rfl k) ?_
  refine Goes.to (T' := s₁.setTop (mkF m 63 #[.val (.long q0), .second, .val (.long (1 : Int64)), .second, .val (.long (q0 >>> ((32 : Int32) &&& 0x3f).toInt64)), .second, .val (.long (q0 &&& (4294967295 : Int64))), .second, .val (.long (0 : Int64)), .second, .val (.long (1 : Int64)), .second, .val (.long ((q0 &&& (4294967295 : Int64)) * (1 : Int64))), .second, .val (.long (((q0 >>> ((32 : Int32) &&& 0x3f).toInt64) * (1 : Int64)) + ((((q0 &&& (4294967295 : Int64)) * (1 : Int64)).toUInt64 >>> ((32 : Int32) &&& 0x3f).toInt64.toUInt64).toInt64))), .second, .val (.long ((((q0 >>> ((32 : Int32) &&& 0x3f).toInt64) * (1 : Int64)) + ((((q0 &&& (4294967295 : Int64)) * (1 : Int64)).toUInt64 >>> ((32 : Int32) &&& 0x3f).toInt64.toUInt64).toInt64)) &&& (4294967295 : Int64))), .second, .val (.long ((((q0 >>> ((32 : Int32) &&& 0x3f).toInt64) * (1 : Int64)) + ((((q0 &&& (4294967295 : Int64)) * (1 : Int64)).toUInt64 >>> ((32 : Int32) &&& 0x3f).toInt64.toUInt64).toInt64)) >>> ((32 : Int32) &&& 0x3f).toInt64)), .second] [(.long ((((q0 >>> ((32 : Int32) &&& 0x3f).toInt64) * (1 : Int64)) + ((((q0 &&& (4294967295 : Int64)) * (1 : Int64)).toUInt64 >>> ((32 : Int32) &&& 0x3f).toInt64.toUInt64).toInt64)) &&& (4294967295 : Int64)))])) (fun t k => XS.lload X0.here hx rfl (hb hby d8_61) rfl k) ?_
  refine Goes.to (T' := s₁.setTop (mkF m 65 #[.val (.long q0), .second, .val (.long (1 : Int64)), .second, .val (.long (q0 >>> ((32 : Int32) &&& 0x3f).toInt64)), .second, .val (.long (q0 &&& (4294967295 : Int64))), .second, .val (.long (0 : Int64)), .second, .val (.long (1 : Int64)), .second, .val (.long ((q0 &&& (4294967295 : Int64)) * (1 : Int64))), .second, .val (.long (((q0 >>> ((32 : Int32) &&& 0x3f).toInt64) * (1 : Int64)) + ((((q0 &&& (4294967295 : Int64)) * (1 : Int64)).toUInt64 >>> ((32 : Int32) &&& 0x3f).toInt64.toUInt64).toInt64))), .second, .val (.long ((((q0 >>> ((32 : Int32) &&& 0x3f).toInt64) * (1 : Int64)) + ((((q0 &&& (4294967295 : Int64)) * (1 : Int64)).toUInt64 >>> ((32 : Int32) &&& 0x3f).toInt64.toUInt64).toInt64)) &&& (4294967295 : Int64))), .second, .val (.long ((((q0 >>> ((32 : Int32) &&& 0x3f).toInt64) * (1 : Int64)) + ((((q0 &&& (4294967295 : Int64)) * (1 : Int64)).toUInt64 >>> ((32 : Int32) &&& 0x3f).toInt64.toUInt64).toInt64)) >>> ((32 : Int32) &&& 0x3f).toInt64)), .second] [(.long (q0 &&& (4294967295 : Int64))), (.long ((((q0 >>> ((32 : Int32) &&& 0x3f).toInt64) * (1 : Int64)) + ((((q0 &&& (4294967295 : Int64)) * (1 : Int64)).toUInt64 >>> ((32 : Int32) &&& 0x3f).toInt64.toUInt64).toInt64)) &&& (4294967295 : Int64)))])) (fun t k => XS.lload X0.here hx rfl (hb hby d8_63) rfl k) ?_
  refine Goes.to (T' := s₁.setTop (mkF m 67 #[.val (.long q0), .second, .val (.long (1 : Int64)), .second, .val (.long (q0 >>> ((32 : Int32) &&& 0x3f).toInt64)), .second, .val (.long (q0 &&& (4294967295 : Int64))), .second, .val (.long (0 : Int64)), .second, .val (.long (1 : Int64)), .second, .val (.long ((q0 &&& (4294967295 : Int64)) * (1 : Int64))), .second, .val (.long (((q0 >>> ((32 : Int32) &&& 0x3f).toInt64) * (1 : Int64)) + ((((q0 &&& (4294967295 : Int64)) * (1 : Int64)).toUInt64 >>> ((32 : Int32) &&& 0x3f).toInt64.toUInt64).toInt64))), .second, .val (.long ((((q0 >>> ((32 : Int32) &&& 0x3f).toInt64) * (1 : Int64)) + ((((q0 &&& (4294967295 : Int64)) * (1 : Int64)).toUInt64 >>> ((32 : Int32) &&& 0x3f).toInt64.toUInt64).toInt64)) &&& (4294967295 : Int64))), .second, .val (.long ((((q0 >>> ((32 : Int32) &&& 0x3f).toInt64) * (1 : Int64)) + ((((q0 &&& (4294967295 : Int64)) * (1 : Int64)).toUInt64 >>> ((32 : Int32) &&& 0x3f).toInt64.toUInt64).toInt64)) >>> ((32 : Int32) &&& 0x3f).toInt64)), .second] [(.long (0 : Int64)), (.long (q0 &&& (4294967295 : Int64))), (.long ((((q0 >>> ((32 : Int32) &&& 0x3f).toInt64) * (1 : Int64)) + ((((q0 &&& (4294967295 : Int64)) * (1 : Int64)).toUInt64 >>> ((32 : Int32) &&& 0x3f).toInt64.toUInt64).toInt64)) &&& (4294967295 : Int64)))])) (fun t k => XS.lload X0.here hx rfl (hb hby d8_65) rfl k) ?_
  refine Goes.to (T' := s₁.setTop (mkF m 68 #[.val (.long q0), .second, .val (.long (1 : Int64)), .second, .val (.long (q0 >>> ((32 : Int32) &&& 0x3f).toInt64)), .second, .val (.long (q0 &&& (4294967295 : Int64))), .second, .val (.long (0 : Int64)), .second, .val (.long (1 : Int64)), .second, .val (.long ((q0 &&& (4294967295 : Int64)) * (1 : Int64))), .second, .val (.long (((q0 >>> ((32 : Int32) &&& 0x3f).toInt64) * (1 : Int64)) + ((((q0 &&& (4294967295 : Int64)) * (1 : Int64)).toUInt64 >>> ((32 : Int32) &&& 0x3f).toInt64.toUInt64).toInt64))), .second, .val (.long ((((q0 >>> ((32 : Int32) &&& 0x3f).toInt64) * (1 : Int64)) + ((((q0 &&& (4294967295 : Int64)) * (1 : Int64)).toUInt64 >>> ((32 : Int32) &&& 0x3f).toInt64.toUInt64).toInt64)) &&& (4294967295 : Int64))), .second, .val (.long ((((q0 >>> ((32 : Int32) &&& 0x3f).toInt64) * (1 : Int64)) + ((((q0 &&& (4294967295 : Int64)) * (1 : Int64)).toUInt64 >>> ((32 : Int32) &&& 0x3f).toInt64.toUInt64).toInt64)) >>> ((32 : Int32) &&& 0x3f).toInt64)), .second] [(.long ((q0 &&& (4294967295 : Int64)) * (0 : Int64))), (.long ((((q0 >>> ((32 : Int32) &&& 0x3f).toInt64) * (1 : Int64)) + ((((q0 &&& (4294967295 : Int64)) * (1 : Int64)).toUInt64 >>> ((32 : Int32) &&& 0x3f).toInt64.toUInt64).toInt64)) &&& (4294967295 : Int64)))])) (fun t k => XS.lmul X0.here hx rfl (hb hby d8_67) rfl k) ?_
  refine Goes.to (T' := s₁.setTop (mkF m 69 #[.val (.long q0), .second, .val (.long (1 : Int64)), .second, .val (.long (q0 >>> ((32 : Int32) &&& 0x3f).toInt64)), .second, .val (.long (q0 &&& (4294967295 : Int64))), .second, .val (.long (0 : Int64)), .second, .val (.long (1 : Int64)), .second, .val (.long ((q0 &&& (4294967295 : Int64)) * (1 : Int64))), .second, .val (.long (((q0 >>> ((32 : Int32) &&& 0x3f).toInt64) * (1 : Int64)) + ((((q0 &&& (4294967295 : Int64)) * (1 : Int64)).toUInt64 >>> ((32 : Int32) &&& 0x3f).toInt64.toUInt64).toInt64))), .second, .val (.long ((((q0 >>> ((32 : Int32) &&& 0x3f).toInt64) * (1 : Int64)) + ((((q0 &&& (4294967295 : Int64)) * (1 : Int64)).toUInt64 >>> ((32 : Int32) &&& 0x3f).toInt64.toUInt64).toInt64)) &&& (4294967295 : Int64))), .second, .val (.long ((((q0 >>> ((32 : Int32) &&& 0x3f).toInt64) * (1 : Int64)) + ((((q0 &&& (4294967295 : Int64)) * (1 : Int64)).toUInt64 >>> ((32 : Int32) &&& 0x3f).toInt64.toUInt64).toInt64)) >>> ((32 : Int32) &&& 0x3f).toInt64)), .second] [(.long (((((q0 >>> ((32 : Int32) &&& 0x3f).toInt64) * (1 : Int64)) + ((((q0 &&& (4294967295 : Int64)) * (1 : Int64)).toUInt64 >>> ((32 : Int32) &&& 0x3f).toInt64.toUInt64).toInt64)) &&& (4294967295 : Int64)) + ((q0 &&& (4294967295 : Int64)) * (0 : Int64))))])) (fun t k => XS.ladd X0.here hx rfl (hb hby d8_68) rfl k) ?_
  refine Goes.to (T' := s₁.setTop (mkF m 71 #[.val (.long q0), .second, .val (.long (1 : Int64)), .second, .val (.long (q0 >>> ((32 : Int32) &&& 0x3f).toInt64)), .second, .val (.long (q0 &&& (4294967295 : Int64))), .second, .val (.long (0 : Int64)), .second, .val (.long (1 : Int64)), .second, .val (.long ((q0 &&& (4294967295 : Int64)) * (1 : Int64))), .second, .val (.long (((q0 >>> ((32 : Int32) &&& 0x3f).toInt64) * (1 : Int64)) + ((((q0 &&& (4294967295 : Int64)) * (1 : Int64)).toUInt64 >>> ((32 : Int32) &&& 0x3f).toInt64.toUInt64).toInt64))), .second, .val (.long (((((q0 >>> ((32 : Int32) &&& 0x3f).toInt64) * (1 : Int64)) + ((((q0 &&& (4294967295 : Int64)) * (1 : Int64)).toUInt64 >>> ((32 : Int32) &&& 0x3f).toInt64.toUInt64).toInt64)) &&& (4294967295 : Int64)) + ((q0 &&& (4294967295 : Int64)) * (0 : Int64)))), .second, .val (.long ((((q0 >>> ((32 : Int32) &&& 0x3f).toInt64) * (1 : Int64)) + ((((q0 &&& (4294967295 : Int64)) * (1 : Int64)).toUInt64 >>> ((32 : Int32) &&& 0x3f).toInt64.toUInt64).toInt64)) >>> ((32 : Int32) &&& 0x3f).toInt64)), .second] [])) (fun t k => XS.lstore X0.here hx rfl (hb hby d8_69) rfl (l' := #[.val (.long q0), .second, .val (.long (1 : Int64)), .second, .val (.long (q0 >>> ((32 : Int32) &&& 0x3f).toInt64)), .second, .val (.long (q0 &&& (4294967295 : Int64))), .second, .val (.long (0 : Int64)), .second, .val (.long (1 : Int64)), .second, .val (.long ((q0 &&& (4294967295 : Int64)) * (1 : Int64))), .second, .val (.long (((q0 >>> ((32 : Int32) &&& 0x3f).toInt64) * (1 : Int64)) + ((((q0 &&& (4294967295 : Int64)) * (1 : Int64)).toUInt64 >>> ((32 : Int32) &&& 0x3f).toInt64.toUInt64).toInt64))), .second, .val (.long (((((q0 >>> ((32 : Int32) &&& 0x3f).toInt64) * (1 : Int64)) + ((((q0 &&& (4294967295 : Int64)) * (1 : Int64)).toUInt64 >>> ((32 : Int32) &&& 0x3f).toInt64.toUInt64).toInt64)) &&& (4294967295 : Int64)) + ((q0 &&& (4294967295 : Int64)) * (0 : Int64)))), .second, .val (.long ((((q0 >>> ((32 : Int32) &&& 0x3f).toInt64) * (1 : Int64)) + ((((q0 &&& (4294967295 : Int64)) * (1 : Int64)).toUInt64 >>> ((32 : Int32) &&& 0x3f).toInt64.toUInt64).toInt64)) >>> ((32 : Int32) &&& 0x3f).toInt64)), .second]) rfl k) ?_
  refine Goes.to (T' := s₁.setTop (mkF m 73 #[.val (.long q0), .second, .val (.long (1 : Int64)), .second, .val (.long (q0 >>> ((32 : Int32) &&& 0x3f).toInt64)), .second, .val (.long (q0 &&& (4294967295 : Int64))), .second, .val (.long (0 : Int64)), .second, .val (.long (1 : Int64)), .second, .val (.long ((q0 &&& (4294967295 : Int64)) * (1 : Int64))), .second, .val (.long (((q0 >>> ((32 : Int32) &&& 0x3f).toInt64) * (1 : Int64)) + ((((q0 &&& (4294967295 : Int64)) * (1 : Int64)).toUInt64 >>> ((32 : Int32) &&& 0x3f).toInt64.toUInt64).toInt64))), .second, .val (.long (((((q0 >>> ((32 : Int32) &&& 0x3f).toInt64) * (1 : Int64)) + ((((q0 &&& (4294967295 : Int64)) * (1 : Int64)).toUInt64 >>> ((32 : Int32) &&& 0x3f).toInt64.toUInt64).toInt64)) &&& (4294967295 : Int64)) + ((q0 &&& (4294967295 : Int64)) * (0 : Int64)))), .second, .val (.long ((((q0 >>> ((32 : Int32) &&& 0x3f).toInt64) * (1 : Int64)) + ((((q0 &&& (4294967295 : Int64)) * (1 : Int64)).toUInt64 >>> ((32 : Int32) &&& 0x3f).toInt64.toUInt64).toInt64)) >>> ((32 : Int32) &&& 0x3f).toInt64)), .second] [(.long (q0 >>> ((32 : Int32) &&& 0x3f).toInt64))])) (fun t k => XS.lload X0.here hx rfl (hb hby d8_71) rfl k) ?_
  refine Goes.to (T' := s₁.setTop (mkF m 75 #[.val (.long q0), .second, .val (.long (1 : Int64)), .second, .val (.long (q0 >>> ((32 : Int32) &&& 0x3f).toInt64)), .second, .val (.long (q0 &&& (4294967295 : Int64))), .second, .val (.long (0 : Int64)), .second, .val (.long (1 : Int64)), .second, .val (.long ((q0 &&& (4294967295 : Int64)) * (1 : Int64))), .second, .val (.long (((q0 >>> ((32 : Int32) &&& 0x3f).toInt64) * (1 : Int64)) + ((((q0 &&& (4294967295 : Int64)) * (1 : Int64)).toUInt64 >>> ((32 : Int32) &&& 0x3f).toInt64.toUInt64).toInt64))), .second, .val (.long (((((q0 >>> ((32 : Int32) &&& 0x3f).toInt64) * (1 : Int64)) + ((((q0 &&& (4294967295 : Int64)) * (1 : Int64)).toUInt64 >>> ((32 : Int32) &&& 0x3f).toInt64.toUInt64).toInt64)) &&& (4294967295 : Int64)) + ((q0 &&& (4294967295 : Int64)) * (0 : Int64)))), .second, .val (.long ((((q0 >>> ((32 : Int32) &&& 0x3f).toInt64) * (1 : Int64)) + ((((q0 &&& (4294967295 : Int64)) * (1 : Int64)).toUInt64 >>> ((32 : Int32) &&& 0x3f).toInt64.toUInt64).toInt64)) >>> ((32 : Int32) &&& 0x3f).toInt64)), .second] [(.long (0 : Int64)), (.long (q0 >>> ((32 : Int32) &&& 0x3f).toInt64))])) (fun t k => XS.lload X0.here hx rfl (hb hby d8_73) rfl k) ?_
  refine Goes.to (T' := s₁.setTop (mkF m 76 #[.val (.long q0), .second, .val (.long (1 : Int64)), .second, .val (.long (q0 >>> ((32 : Int32) &&& 0x3f).toInt64)), .second, .val (.long (q0 &&& (4294967295 : Int64))), .second, .val (.long (0 : Int64)), .second, .val (.long (1 : Int64)), .second, .val (.long ((q0 &&& (4294967295 : Int64)) * (1 : Int64))), .second, .val (.long (((q0 >>> ((32 : Int32) &&& 0x3f).toInt64) * (1 : Int64)) + ((((q0 &&& (4294967295 : Int64)) * (1 : Int64)).toUInt64 >>> ((32 : Int32) &&& 0x3f).toInt64.toUInt64).toInt64))), .second, .val (.long (((((q0 >>> ((32 : Int32) &&& 0x3f).toInt64) * (1 : Int64)) + ((((q0 &&& (4294967295 : Int64)) * (1 : Int64)).toUInt64 >>> ((32 : Int32) &&& 0x3f).toInt64.toUInt64).toInt64)) &&& (4294967295 : Int64)) + ((q0 &&& (4294967295 : Int64)) * (0 : Int64)))), .second, .val (.long ((((q0 >>> ((32 : Int32) &&& 0x3f).toInt64) * (1 : Int64)) + ((((q0 &&& (4294967295 : Int64)) * (1 : Int64)).toUInt64 >>> ((32 : Int32) &&& 0x3f).toInt64.toUInt64).toInt64)) >>> ((32 : Int32) &&& 0x3f).toInt64)), .second] [(.long ((q0 >>> ((32 : Int32) &&& 0x3f).toInt64) * (0 : Int64)))])) (fun t k => XS.lmul X0.here hx rfl (hb hby d8_75) rfl k) ?_
  refine Goes.to (T' := s₁.setTop (mkF m 78 #[.val (.long q0), .second, .val (.long (1 : Int64)), .second, .val (.long (q0 >>> ((32 : Int32) &&& 0x3f).toInt64)), .second, .val (.long (q0 &&& (4294967295 : Int64))), .second, .val (.long (0 : Int64)), .second, .val (.long (1 : Int64)), .second, .val (.long ((q0 &&& (4294967295 : Int64)) * (1 : Int64))), .second, .val (.long (((q0 >>> ((32 : Int32) &&& 0x3f).toInt64) * (1 : Int64)) + ((((q0 &&& (4294967295 : Int64)) * (1 : Int64)).toUInt64 >>> ((32 : Int32) &&& 0x3f).toInt64.toUInt64).toInt64))), .second, .val (.long (((((q0 >>> ((32 : Int32) &&& 0x3f).toInt64) * (1 : Int64)) + ((((q0 &&& (4294967295 : Int64)) * (1 : Int64)).toUInt64 >>> ((32 : Int32) &&& 0x3f).toInt64.toUInt64).toInt64)) &&& (4294967295 : Int64)) + ((q0 &&& (4294967295 : Int64)) * (0 : Int64)))), .second, .val (.long ((((q0 >>> ((32 : Int32) &&& 0x3f).toInt64) * (1 : Int64)) + ((((q0 &&& (4294967295 : Int64)) * (1 : Int64)).toUInt64 >>> ((32 : Int32) &&& 0x3f).toInt64.toUInt64).toInt64)) >>> ((32 : Int32) &&& 0x3f).toInt64)), .second] [(.long ((((q0 >>> ((32 : Int32) &&& 0x3f).toInt64) * (1 : Int64)) + ((((q0 &&& (4294967295 : Int64)) * (1 : Int64)).toUInt64 >>> ((32 : Int32) &&& 0x3f).toInt64.toUInt64).toInt64)) >>> ((32 : Int32) &&& 0x3f).toInt64)), (.long ((q0 >>> ((32 : Int32) &&& 0x3f).toInt64) * (0 : Int64)))])) (fun t k => XS.lload X0.here hx rfl (hb hby d8_76) rfl k) ?_
  refine Goes.to (T' := s₁.setTop (mkF m 79 #[.val (.long q0), .second, .val (.long (1 : Int64)), .second, .val (.long (q0 >>> ((32 : Int32) &&& 0x3f).toInt64)), .second, .val (.long (q0 &&& (4294967295 : Int64))), .second, .val (.long (0 : Int64)), .second, .val (.long (1 : Int64)), .second, .val (.long ((q0 &&& (4294967295 : Int64)) * (1 : Int64))), .second, .val (.long (((q0 >>> ((32 : Int32) &&& 0x3f).toInt64) * (1 : Int64)) + ((((q0 &&& (4294967295 : Int64)) * (1 : Int64)).toUInt64 >>> ((32 : Int32) &&& 0x3f).toInt64.toUInt64).toInt64))), .second, .val (.long (((((q0 >>> ((32 : Int32) &&& 0x3f).toInt64) * (1 : Int64)) + ((((q0 &&& (4294967295 : Int64)) * (1 : Int64)).toUInt64 >>> ((32 : Int32) &&& 0x3f).toInt64.toUInt64).toInt64)) &&& (4294967295 : Int64)) + ((q0 &&& (4294967295 : Int64)) * (0 : Int64)))), .second, .val (.long ((((q0 >>> ((32 : Int32) &&& 0x3f).toInt64) * (1 : Int64)) + ((((q0 &&& (4294967295 : Int64)) * (1 : Int64)).toUInt64 >>> ((32 : Int32) &&& 0x3f).toInt64.toUInt64).toInt64)) >>> ((32 : Int32) &&& 0x3f).toInt64)), .second] [(.long (((q0 >>> ((32 : Int32) &&& 0x3f).toInt64) * (0 : Int64)) + ((((q0 >>> ((32 : Int32) &&& 0x3f).toInt64) * (1 : Int64)) + ((((q0 &&& (4294967295 : Int64)) * (1 : Int64)).toUInt64 >>> ((32 : Int32) &&& 0x3f).toInt64.toUInt64).toInt64)) >>> ((32 : Int32) &&& 0x3f).toInt64)))])) (fun t k => XS.ladd X0.here hx rfl (hb hby d8_78) rfl k) ?_
  refine Goes.to (T' := s₁.setTop (mkF m 81 #[.val (.long q0), .second, .val (.long (1 : Int64)), .second, .val (.long (q0 >>> ((32 : Int32) &&& 0x3f).toInt64)), .second, .val (.long (q0 &&& (4294967295 : Int64))), .second, .val (.long (0 : Int64)), .second, .val (.long (1 : Int64)), .second, .val (.long ((q0 &&& (4294967295 : Int64)) * (1 : Int64))), .second, .val (.long (((q0 >>> ((32 : Int32) &&& 0x3f).toInt64) * (1 : Int64)) + ((((q0 &&& (4294967295 : Int64)) * (1 : Int64)).toUInt64 >>> ((32 : Int32) &&& 0x3f).toInt64.toUInt64).toInt64))), .second, .val (.long (((((q0 >>> ((32 : Int32) &&& 0x3f).toInt64) * (1 : Int64)) + ((((q0 &&& (4294967295 : Int64)) * (1 : Int64)).toUInt64 >>> ((32 : Int32) &&& 0x3f).toInt64.toUInt64).toInt64)) &&& (4294967295 : Int64)) + ((q0 &&& (4294967295 : Int64)) * (0 : Int64)))), .second, .val (.long ((((q0 >>> ((32 : Int32) &&& 0x3f).toInt64) * (1 : Int64)) + ((((q0 &&& (4294967295 : Int64)) * (1 : Int64)).toUInt64 >>> ((32 : Int32) &&& 0x3f).toInt64.toUInt64).toInt64)) >>> ((32 : Int32) &&& 0x3f).toInt64)), .second] [(.long (((((q0 >>> ((32 : Int32) &&& 0x3f).toInt64) * (1 : Int64)) + ((((q0 &&& (4294967295 : Int64)) * (1 : Int64)).toUInt64 >>> ((32 : Int32) &&& 0x3f).toInt64.toUInt64).toInt64)) &&& (4294967295 : Int64)) + ((q0 &&& (4294967295 : Int64)) * (0 : Int64)))), (.long (((q0 >>> ((32 : Int32) &&& 0x3f).toInt64) * (0 : Int64)) + ((((q0 >>> ((32 : Int32) &&& 0x3f).toInt64) * (1 : Int64)) + ((((q0 &&& (4294967295 : Int64)) * (1 : Int64)).toUInt64 >>> ((32 : Int32) &&& 0x3f).toInt64.toUInt64).toInt64)) >>> ((32 : Int32) &&& 0x3f).toInt64)))])) (fun t k => XS.lload X0.here hx rfl (hb hby d8_79) rfl k) ?_
  refine Goes.to (T' := s₁.setTop (mkF m 83 #[.val (.long q0), .second, .val (.long (1 : Int64)), .second, .val (.long (q0 >>> ((32 : Int32) &&& 0x3f).toInt64)), .second, .val (.long (q0 &&& (4294967295 : Int64))), .second, .val (.long (0 : Int64)), .second, .val (.long (1 : Int64)), .second, .val (.long ((q0 &&& (4294967295 : Int64)) * (1 : Int64))), .second, .val (.long (((q0 >>> ((32 : Int32) &&& 0x3f).toInt64) * (1 : Int64)) + ((((q0 &&& (4294967295 : Int64)) * (1 : Int64)).toUInt64 >>> ((32 : Int32) &&& 0x3f).toInt64.toUInt64).toInt64))), .second, .val (.long (((((q0 >>> ((32 : Int32) &&& 0x3f).toInt64) * (1 : Int64)) + ((((q0 &&& (4294967295 : Int64)) * (1 : Int64)).toUInt64 >>> ((32 : Int32) &&& 0x3f).toInt64.toUInt64).toInt64)) &&& (4294967295 : Int64)) + ((q0 &&& (4294967295 : Int64)) * (0 : Int64)))), .second, .val (.long ((((q0 >>> ((32 : Int32) &&& 0x3f).toInt64) * (1 : Int64)) + ((((q0 &&& (4294967295 : Int64)) * (1 : Int64)).toUInt64 >>> ((32 : Int32) &&& 0x3f).toInt64.toUInt64).toInt64)) >>> ((32 : Int32) &&& 0x3f).toInt64)), .second] [(.int (32 : Int32)), (.long (((((q0 >>> ((32 : Int32) &&& 0x3f).toInt64) * (1 : Int64)) + ((((q0 &&& (4294967295 : Int64)) * (1 : Int64)).toUInt64 >>> ((32 : Int32) &&& 0x3f).toInt64.toUInt64).toInt64)) &&& (4294967295 : Int64)) + ((q0 &&& (4294967295 : Int64)) * (0 : Int64)))), (.long (((q0 >>> ((32 : Int32) &&& 0x3f).toInt64) * (0 : Int64)) + ((((q0 >>> ((32 : Int32) &&& 0x3f).toInt64) * (1 : Int64)) + ((((q0 &&& (4294967295 : Int64)) * (1 : Int64)).toUInt64 >>> ((32 : Int32) &&& 0x3f).toInt64.toUInt64).toInt64)) >>> ((32 : Int32) &&& 0x3f).toInt64)))])) (fun t k => XS.bipush X0.here hx rfl (hb hby d8_81) k) ?_
  refine Goes.to (T' := s₁.setTop (mkF m 84 #[.val (.long q0), .second, .val (.long (1 : Int64)), .second, .val (.long (q0 >>> ((32 : Int32) &&& 0x3f).toInt64)), .second, .val (.long (q0 &&& (4294967295 : Int64))), .second, .val (.long (0 : Int64)), .second, .val (.long (1 : Int64)), .second, .val (.long ((q0 &&& (4294967295 : Int64)) * (1 : Int64))), .second, .val (.long (((q0 >>> ((32 : Int32) &&& 0x3f).toInt64) * (1 : Int64)) + ((((q0 &&& (4294967295 : Int64)) * (1 : Int64)).toUInt64 >>> ((32 : Int32) &&& 0x3f).toInt64.toUInt64).toInt64))), .second, .val (.long (((((q0 >>> ((32 : Int32) &&& 0x3f).toInt64) * (1 : Int64)) + ((((q0 &&& (4294967295 : Int64)) * (1 : Int64)).toUInt64 >>> ((32 : Int32) &&& 0x3f).toInt64.toUInt64).toInt64)) &&& (4294967295 : Int64)) + ((q0 &&& (4294967295 : Int64)) * (0 : Int64)))), .second, .val (.long ((((q0 >>> ((32 : Int32) &&& 0x3f).toInt64) * (1 : Int64)) + ((((q0 &&& (4294967295 : Int64)) * (1 : Int64)).toUInt64 >>> ((32 : Int32) &&& 0x3f).toInt64.toUInt64).toInt64)) >>> ((32 : Int32) &&& 0x3f).toInt64)), .second] [(.long ((((((q0 >>> ((32 : Int32) &&& 0x3f).toInt64) * (1 : Int64)) + ((((q0 &&& (4294967295 : Int64)) * (1 : Int64)).toUInt64 >>> ((32 : Int32) &&& 0x3f).toInt64.toUInt64).toInt64)) &&& (4294967295 : Int64)) + ((q0 &&& (4294967295 : Int64)) * (0 : Int64))) >>> ((32 : Int32) &&& 0x3f).toInt64)), (.long (((q0 >>> ((32 : Int32) &&& 0x3f).toInt64) * (0 : Int64)) + ((((q0 >>> ((32 : Int32) &&& 0x3f).toInt64) * (1 : Int64)) + ((((q0 &&& (4294967295 : Int64)) * (1 : Int64)).toUInt64 >>> ((32 : Int32) &&& 0x3f).toInt64.toUInt64).toInt64)) >>> ((32 : Int32) &&& 0x3f).toInt64)))])) (fun t k => XS.lshr X0.here hx rfl (hb hby d8_83) rfl k) ?_
  refine Goes.to (T' := s₁.setTop (mkF m 85 #[.val (.long q0), .second, .val (.long (1 : Int64)), .second, .val (.long (q0 >>> ((32 : Int32) &&& 0x3f).toInt64)), .second, .val (.long (q0 &&& (4294967295 : Int64))), .second, .val (.long (0 : Int64)), .second, .val (.long (1 : Int64)), .second, .val (.long ((q0 &&& (4294967295 : Int64)) * (1 : Int64))), .second, .val (.long (((q0 >>> ((32 : Int32) &&& 0x3f).toInt64) * (1 : Int64)) + ((((q0 &&& (4294967295 : Int64)) * (1 : Int64)).toUInt64 >>> ((32 : Int32) &&& 0x3f).toInt64.toUInt64).toInt64))), .second, .val (.long (((((q0 >>> ((32 : Int32) &&& 0x3f).toInt64) * (1 : Int64)) + ((((q0 &&& (4294967295 : Int64)) * (1 : Int64)).toUInt64 >>> ((32 : Int32) &&& 0x3f).toInt64.toUInt64).toInt64)) &&& (4294967295 : Int64)) + ((q0 &&& (4294967295 : Int64)) * (0 : Int64)))), .second, .val (.long ((((q0 >>> ((32 : Int32) &&& 0x3f).toInt64) * (1 : Int64)) + ((((q0 &&& (4294967295 : Int64)) * (1 : Int64)).toUInt64 >>> ((32 : Int32) &&& 0x3f).toInt64.toUInt64).toInt64)) >>> ((32 : Int32) &&& 0x3f).toInt64)), .second] [(.long ((((q0 >>> ((32 : Int32) &&& 0x3f).toInt64) * (0 : Int64)) + ((((q0 >>> ((32 : Int32) &&& 0x3f).toInt64) * (1 : Int64)) + ((((q0 &&& (4294967295 : Int64)) * (1 : Int64)).toUInt64 >>> ((32 : Int32) &&& 0x3f).toInt64.toUInt64).toInt64)) >>> ((32 : Int32) &&& 0x3f).toInt64)) + ((((((q0 >>> ((32 : Int32) &&& 0x3f).toInt64) * (1 : Int64)) + ((((q0 &&& (4294967295 : Int64)) * (1 : Int64)).toUInt64 >>> ((32 : Int32) &&& 0x3f).toInt64.toUInt64).toInt64)) &&& (4294967295 : Int64)) + ((q0 &&& (4294967295 : Int64)) * (0 : Int64))) >>> ((32 : Int32) &&& 0x3f).toInt64)))])) (fun t k => XS.ladd X0.here hx rfl (hb hby d8_84) rfl k) ?_
  obtain ⟨fs, hrL, hrun, hended, hW, hsame⟩ := X0.leave (v := some (.long ((((q0 >>> ((32 : Int32) &&& 0x3f).toInt64) * (0 : Int64)) + ((((q0 >>> ((32 : Int32) &&& 0x3f).toInt64) * (1 : Int64)) + ((((q0 &&& (4294967295 : Int64)) * (1 : Int64)).toUInt64 >>> ((32 : Int32) &&& 0x3f).toInt64.toUInt64).toInt64)) >>> ((32 : Int32) &&& 0x3f).toInt64)) + ((((((q0 >>> ((32 : Int32) &&& 0x3f).toInt64) * (1 : Int64)) + ((((q0 &&& (4294967295 : Int64)) * (1 : Int64)).toUInt64 >>> ((32 : Int32) &&& 0x3f).toInt64.toUInt64).toInt64)) &&& (4294967295 : Int64)) + ((q0 &&& (4294967295 : Int64)) * (0 : Int64))) >>> ((32 : Int32) &&& 0x3f).toInt64)))) (fun h => by rw [Bd.returns] at h; cases h)
  subst hQf
  refine ⟨_, _, retOut X0 hx Bd.returns rfl (Or.inr (Or.inl ⟨rfl, rfl, _, rfl⟩)) (hb hby d8_85) hrL, hrun, hended, _, _, rfl, ?_, ⟨_, rfl⟩, hW, hsame.mono (by decide) (by decide)⟩
  show (fun (v : Option Value) (h : Heap) (L : List Loc) => v = some (.long (if q0 < 0 then -1 else 0)) ∧ Fr n0 L ∧ h = h0) (some (.long ((((q0 >>> ((32 : Int32) &&& 0x3f).toInt64) * (0 : Int64)) + ((((q0 >>> ((32 : Int32) &&& 0x3f).toInt64) * (1 : Int64)) + ((((q0 &&& (4294967295 : Int64)) * (1 : Int64)).toUInt64 >>> ((32 : Int32) &&& 0x3f).toInt64.toUInt64).toInt64)) >>> ((32 : Int32) &&& 0x3f).toInt64)) + ((((((q0 >>> ((32 : Int32) &&& 0x3f).toInt64) * (1 : Int64)) + ((((q0 &&& (4294967295 : Int64)) * (1 : Int64)).toUInt64 >>> ((32 : Int32) &&& 0x3f).toInt64.toUInt64).toInt64)) &&& (4294967295 : Int64)) + ((q0 &&& (4294967295 : Int64)) * (0 : Int64))) >>> ((32 : Int32) &&& 0x3f).toInt64)))) s₁.heap _
  rw [e0]
  exact ⟨by rw [own_mh], N0, rfl⟩
theorem pd_69 : parseMethodDescriptor "(JJ)J" = some ⟨[.long, .long], some .long⟩ := by decide +kernel
theorem own_umh (q0 : Int64) : ((if q0 < 0 then (-1 : Int64) else 0) + ((q0 >>> ((63 : Int32) &&& 0x3f).toInt64) &&& (1 : Int64))) = 0 := by
  have a1 := c_lshr q0 63 63 rfl
  generalize q0 >>> ((63 : Int32) &&& 0x3f).toInt64 = A at *
  have b1 := c_maskL A 1 1 (by decide) rfl
  generalize A &&& (1 : Int64) = B at *
  have q1 := Int64.toInt_lt q0
  have q2 := Int64.le_toInt q0
  have e0 : (0 : Int64).toInt = 0 := rfl
  have em : (-1 : Int64).toInt = -1 := rfl
  simp only [Int64.lt_iff_toInt_lt, e0]
  split
  · have s1 := c_ladd (-1) B
    have r1 := Int64.toInt_lt (-1 + B)
    have r2 := Int64.le_toInt (-1 + B)
    rw [← Int64.toInt_inj, e0]; rw [em] at s1; omega
  · have s1 := c_ladd 0 B
    have r1 := Int64.toInt_lt (0 + B)
    have r2 := Int64.le_toInt (0 + B)
    rw [← Int64.toInt_inj, e0]; rw [e0] at s1; omega
theorem d7_0 : decode prog_38_method_8_code 0 = .ok (.lload_n 0, 1) := by decide +kernel
theorem d7_1 : decode prog_38_method_8_code 1 = .ok (.lload_n 2, 1) := by decide +kernel
theorem d7_2 : decode prog_38_method_8_code 2 = .ok (.invokestatic 120, 3) := by decide +kernel
theorem d7_5 : decode prog_38_method_8_code 5 = .ok (.lload_n 0, 1) := by decide +kernel
theorem d7_6 : decode prog_38_method_8_code 6 = .ok (.bipush 63, 2) := by decide +kernel
theorem d7_8 : decode prog_38_method_8_code 8 = .ok (.lshr, 1) := by decide +kernel
theorem d7_9 : decode prog_38_method_8_code 9 = .ok (.lload_n 2, 1) := by decide +kernel
theorem d7_10 : decode prog_38_method_8_code 10 = .ok (.land, 1) := by decide +kernel
theorem d7_11 : decode prog_38_method_8_code 11 = .ok (.ladd, 1) := by decide +kernel
theorem d7_12 : decode prog_38_method_8_code 12 = .ok (.lreturn, 1) := by decide +kernel
theorem pn_7 : plainName "com/example/suretyline/suretyline/Sums" = true := by first | (simp [plainName, overriddenIn]; done) | decide +kernel
theorem ef_rmU (m : MethodId) (x0 : Int64) (x1 : Int64) : entryFrame m #[(.long x0), (.long x1)] 4 = mkF m 0 #[.val (.long x0), .second, .val (.long x1), .second] [] := by first | (simp [entryFrame, mkF, argsToLocals, Value.category]; done) | rfl
def Q_rmU (Z : State) (q0 : Int64) (w0 : Addr) (k_w0 : ClassId) (h0 : Heap) (n0 : Nat) (v : Option Value) (h : Heap) (L : List Loc) : Prop := v = some (.long 0) ∧ Fr n0 L ∧ h = h0
set_option maxRecDepth 65536 in
set_option maxHeartbeats 40000000 in
theorem rmU (l : Launch) (Z : State) (a0 : Array Value) (hw : ∀ d ∈ tables_1, d.before a0 Z = true) (ws : List Jvm.Cond) (q0 : Int64) (w0 : Addr) (k_w0 : ClassId) (h0 : Heap) (n0 : Nat) (O0 : Old Z n0 h0) (NF : Nar Z w0 k_w0) :
    MetFree l (⟨"com/example/suretyline/suretyline/Sums", "unsignedMultiplyHigh", "(JJ)J"⟩ : MethodName) (head1 (Jvm.Cond.code (⟨"com/example/suretyline/suretyline/Sums", "unsignedMultiplyHigh", "(JJ)J"⟩ : MethodName) prog_38_method_8_code 4 (some .long) :: ws) ({ frames := 1, cells := 0, slots := 0, locals := 40 } : Room)) (fun a U => a = #[(.long q0), (.long (1 : Int64))] ∧ Z.Warmed39 U.vm ∧ U.heap = h0) (fun _ _ _ _ _ => True) (fun _ U o U' => ∃ v L, o = .returned v ∧ Q_rmU Z q0 w0 k_w0 h0 n0 v U'.heap L ∧ FrameEnd U o U' L ({ frames := 1, cells := 0, slots := 0, locals := 40 } : Room).cells ({ frames := 1, cells := 0, slots := 0, locals := 40 } : Room).slots) := by
  refine MetFree.of_bodySF (plainFor_of_name pn_7) hisR ?_
  intro p e s m args below meth c s₁ Bd hml0 hP hK
  obtain ⟨rfl, hZ, hh⟩ := hP
  have hx := Bd.exec
  have hby := Bd.bytes
  have hml : c.maxLocals = 4 := hml0
  have hown : s.vm.findClass "com/example/suretyline/suretyline/Sums" = some m.cls := findClass_of_methodNamed Bd.named
  have hnm := (name_of_methodNamed Bd.named Bd.method).1
  have X0 : Stand p l e ({ frames := 1, cells := 0, slots := 0, locals := 40 } : Room) s m #[(.long q0), (.long (1 : Int64))] below meth c s₁ [] 0 0 := Stand.of_body Bd
  have e0 : s₁.heap = h0 := by rw [← hh, Bd.state]; rfl
  have N0 := Fr.nil n0
  suffices G : ∀ (Qf : Outcome → State → Prop), Qf = (fun (_ : Array Value) (U : State) (o : Outcome) (U' : State) => ∃ v L, o = .returned v ∧ Q_rmU Z q0 w0 k_w0 h0 n0 v U'.heap L ∧ FrameEnd U o U' L ({ frames := 1, cells := 0, slots := 0, locals := 40 } : Room).cells ({ frames := 1, cells := 0, slots := 0, locals := 40 } : Room).slots) #[] s → Goes p.tables e below Qf (s₁.setTop (mkF m 0 #[.val (.long q0), .second, .val (.long (1 : Int64)), .second] [])) by
    obtain ⟨s₂, o, g1, g2, g3, g4⟩ := G _ rfl
    exact ⟨s₂, o, castTop (ef_rmU m _ _) g1, g2, g3, g4⟩
  intro Qf hQf
  obtain ⟨S_w0, E_w0, V_w0⟩ := id NF
  refine Goes.to (T' := s₁.setTop (mkF m 1 #[.val (.long q0), .second, .val (.long (1 : Int64)), .second] [(.long q0)])) (fun t k => XS.lloadN X0.here hx rfl (hb hby d7_0) rfl k) ?_
  refine Goes.to (T' := s₁.setTop (mkF m 2 #[.val (.long q0), .second, .val (.long (1 : Int64)), .second] [(.long (1 : Int64)), (.long q0)])) (fun t k => XS.lloadN X0.here hx rfl (hb hby d7_1) rfl k) ?_
  obtain ⟨_, _, ⟨T1, L1, k1, n1⟩, -, X1, ⟨Lc1, hQ1, l1, y1, z1⟩, st1⟩ := Jvm.LawKit.callS X0 hx (y := (⟨"java/lang/Math", "multiplyHigh", "(JJ)J"⟩ : MethodName)) hown (mvT hZ (hw _ (mi 41 rfl))) (mvT hZ (hw _ (mi 42 rfl))) (mvT hZ (hw _ (mi 24 rfl))) (mvT hZ (hw _ (mi 43 rfl))) (by decide) (backOf (W := 0) (rmMH l Z a0 hw [] q0 w0 k_w0  h0 n0 O0 NF ) hZ (hw _ (mi 43 rfl)) (hw _ (mi 24 rfl)) (by decide) (by decide)) (g := (mkF m 2 #[.val (.long q0), .second, .val (.long (1 : Int64)), .second] [(.long (1 : Int64)), (.long q0)])) rfl (by rw [hml]; rfl) (argsL := [(.long q0), (.long (1 : Int64))]) (rest := []) (lenOf pd_69 rfl) rfl (by show 2 * 0 + _ ≤ _; exact Nat.le_of_eq rfl) (hb hby d7_2) (fun _ _ => ⟨rfl, e0, (by decide : 0 + 0 ≤ _), (by decide : 0 + 0 ≤ _)⟩)
  dsimp only [Pt.U, Pt.locs, Pt.cells, Pt.slots] at X1 l1 y1 z1 st1 hQ1
  subst l1 y1 z1
  obtain ⟨rfl, Nq1, e1⟩ := hQ1
  have N1 := Fr.app N0 Nq1
  refine Goes.to (T' := T1.setTop (mkF m 5 #[.val (.long q0), .second, .val (.long (1 : Int64)), .second] [(.long (if q0 < 0 then (-1 : Int64) else 0))])) st1 ?_
  refine Goes.to (T' := T1.setTop (mkF m 6 #[.val (.long q0), .second, .val (.long (1 : Int64)), .second] [(.long q0), (.long (if q0 < 0 then (-1 : Int64) else 0))])) (fun t k => XS.lloadN X1.here hx rfl (hb hby d7_5) rfl k) ?_
  refine Goes.to (T' := T1.setTop (mkF m 8 #[.val (.long q0), .second, .val (.long (1 : Int64)), .second] [(.int (63 : Int32)), (.long q0), (.long (if q0 < 0 then (-1 : Int64) else 0))])) (fun t k => XS.bipush X1.here hx rfl (hb hby d7_6) k) ?_
  refine Goes.to (T' := T1.setTop (mkF m 9 #[.val (.long q0), .second, .val (.long (1 : Int64)), .second] [(.long (q0 >>> ((63 : Int32) &&& 0x3f).toInt64)), (.long (if q0 < 0 then (-1 : Int64) else 0))])) (fun t k => XS.lshr X1.here hx rfl (hb hby d7_8) rfl k) ?_
  refine Goes.to (T' := T1.setTop (mkF m 10 #[.val (.long q0), .second, .val (.long (1 : Int64)), .second] [(.long (1 : Int64)), (.long (q0 >>> ((63 : Int32) &&& 0x3f).toInt64)), (.long (if q0 < 0 then (-1 : Int64) else 0))])) (fun t k => XS.lloadN X1.here hx rfl (hb hby d7_9) rfl k) ?_
  refine Goes.to (T' := T1.setTop (mkF m 11 #[.val (.long q0), .second, .val (.long (1 : Int64)), .second] [(.long ((q0 >>> ((63 : Int32) &&& 0x3f).toInt64) &&& (1 : Int64))), (.long (if q0 < 0 then (-1 : Int64) else 0))])) (fun t k => XS.land X1.here hx rfl (hb hby d7_10) rfl k) ?_
  refine Goes.to (T' := T1.setTop (mkF m 12 #[.val (.long q0), .second, .val (.long (1 : Int64)), .second] [(.long ((if q0 < 0 then (-1 : Int64) else 0) + ((q0 >>> ((63 : Int32) &&& 0x3f).toInt64) &&& (1 : Int64))))])) (fun t k => XS.ladd X1.here hx rfl (hb hby d7_11) rfl k) ?_
  obtain ⟨fs, hrL, hrun, hended, hW, hsame⟩ := X1.leave (v := some (.long ((if q0 < 0 then (-1 : Int64) else 0) + ((q0 >>> ((63 : Int32) &&& 0x3f).toInt64) &&& (1 : Int64))))) (fun h => by rw [Bd.returns] at h; cases h)
  subst hQf
  refine ⟨_, _, retOut X1 hx Bd.returns rfl (Or.inr (Or.inl ⟨rfl, rfl, _, rfl⟩)) (hb hby d7_12) hrL, hrun, hended, _, _, rfl, ?_, ⟨_, rfl⟩, hW, hsame.mono (by decide) (by decide)⟩
  show (fun (v : Option Value) (h : Heap) (L : List Loc) => v = some (.long 0) ∧ Fr n0 L ∧ h = h0) (some (.long ((if q0 < 0 then (-1 : Int64) else 0) + ((q0 >>> ((63 : Int32) &&& 0x3f).toInt64) &&& (1 : Int64))))) T1.heap _
  rw [e1]
  exact ⟨by rw [own_umh], N1, rfl⟩
theorem d10_0 : decode jdk_35_method_42_code 0 = .ok (.lload_n 0, 1) := by decide +kernel
theorem d10_1 : decode jdk_35_method_42_code 1 = .ok (.lload_n 2, 1) := by decide +kernel
theorem d10_2 : decode jdk_35_method_42_code 2 = .ok (.lcmp, 1) := by decide +kernel
theorem d10_3 : decode jdk_35_method_42_code 3 = .ok (.ifCond .ge 7, 3) := by decide +kernel
theorem d10_6 : decode jdk_35_method_42_code 6 = .ok (.iconst (-1), 1) := by decide +kernel
theorem d10_7 : decode jdk_35_method_42_code 7 = .ok (.goto 14, 3) := by decide +kernel
theorem d10_10 : decode jdk_35_method_42_code 10 = .ok (.lload_n 0, 1) := by decide +kernel
theorem d10_11 : decode jdk_35_method_42_code 11 = .ok (.lload_n 2, 1) := by decide +kernel
theorem d10_12 : decode jdk_35_method_42_code 12 = .ok (.lcmp, 1) := by decide +kernel
theorem d10_13 : decode jdk_35_method_42_code 13 = .ok (.ifCond .ne 7, 3) := by decide +kernel
theorem d10_16 : decode jdk_35_method_42_code 16 = .ok (.iconst 0, 1) := by decide +kernel
theorem d10_17 : decode jdk_35_method_42_code 17 = .ok (.goto 4, 3) := by decide +kernel
theorem d10_20 : decode jdk_35_method_42_code 20 = .ok (.iconst 1, 1) := by decide +kernel
theorem d10_21 : decode jdk_35_method_42_code 21 = .ok (.ireturn, 1) := by decide +kernel
theorem pn_10 : plainName "java/lang/Long" = true := by first | (simp [plainName, overriddenIn]; done) | decide +kernel
theorem ef_rmCmp (m : MethodId) (x0 : Int64) (x1 : Int64) : entryFrame m #[(.long x0), (.long x1)] 4 = mkF m 0 #[.val (.long x0), .second, .val (.long x1), .second] [] := by first | (simp [entryFrame, mkF, argsToLocals, Value.category]; done) | rfl
def Q_rmCmp (Z : State) (q0 : Int64) (q1 : Int64) (w0 : Addr) (k_w0 : ClassId) (h0 : Heap) (n0 : Nat) (v : Option Value) (h : Heap) (L : List Loc) : Prop := (∃ r : Int32, v = some (.int r) ∧ (r < 0 ↔ q0 < q1)) ∧ Fr n0 L ∧ h = h0
set_option maxRecDepth 65536 in
set_option maxHeartbeats 40000000 in
theorem rmCmp (l : Launch) (Z : State) (a0 : Array Value) (hw : ∀ d ∈ tables_1, d.before a0 Z = true) (ws : List Jvm.Cond) (q0 : Int64) (q1 : Int64) (w0 : Addr) (k_w0 : ClassId) (h0 : Heap) (n0 : Nat) (O0 : Old Z n0 h0) (NF : Nar Z w0 k_w0) :
    MetFree l (⟨"java/lang/Long", "compare", "(JJ)I"⟩ : MethodName) (head1 (Jvm.Cond.code (⟨"java/lang/Long", "compare", "(JJ)I"⟩ : MethodName) jdk_35_method_42_code 4 (some .int) :: ws) ({ frames := 0, cells := 0, slots := 0, locals := 0 } : Room)) (fun a U => a = #[(.long q0), (.long q1)] ∧ Z.Warmed39 U.vm ∧ U.heap = h0) (fun _ _ _ _ _ => True) (fun _ U o U' => ∃ v L, o = .returned v ∧ Q_rmCmp Z q0 q1 w0 k_w0 h0 n0 v U'.heap L ∧ FrameEnd U o U' L ({ frames := 0, cells := 0, slots := 0, locals := 0 } : Room).cells ({ frames := 0, cells := 0, slots := 0, locals := 0 } : Room).slots) := by
  refine MetFree.of_bodySF (plainFor_of_name pn_10) hisR ?_
  intro p e s m args below meth c s₁ Bd hml0 hP hK
  obtain ⟨rfl, hZ, hh⟩ := hP
  have hx := Bd.exec
  have hby := Bd.bytes
  have hml : c.maxLocals = 4 := hml0
  have hown : s.vm.findClass "java/lang/Long" = some m.cls := findClass_of_methodNamed Bd.named
  have hnm := (name_of_methodNamed Bd.named Bd.method).1
  have X0 : Stand p l e ({ frames := 0, cells := 0, slots := 0, locals := 0 } : Room) s m #[(.long q0), (.long q1)] below meth c s₁ [] 0 0 := Stand.of_body Bd
  have e0 : s₁.heap = h0 := by rw [← hh, Bd.state]; rfl
  have N0 := Fr.nil n0
  suffices G : ∀ (Qf : Outcome → State → Prop), Qf = (fun (_ : Array Value) (U : State) (o : Outcome) (U' : State) => ∃ v L, o = .returned v ∧ Q_rmCmp Z q0 q1 w0 k_w0 h0 n0 v U'.heap L ∧ FrameEnd U o U' L ({ frames := 0, cells := 0, slots := 0, locals := 0 } : Room).cells ({ frames := 0, cells := 0, slots := 0, locals := 0 } : Room).slots) #[] s → Goes p.tables e below Qf (s₁.setTop (mkF m 0 #[.val (.long q0), .second, .val (.long q1), .second] [])) by
    obtain ⟨s₂, o, g1, g2, g3, g4⟩ := G _ rfl
    exact ⟨s₂, o, castTop (ef_rmCmp m _ _) g1, g2, g3, g4⟩
  intro Qf hQf
  obtain ⟨S_w0, E_w0, V_w0⟩ := id NF
  refine Goes.to (T' := s₁.setTop (mkF m 1 #[.val (.long q0), .second, .val (.long q1), .second] [(.long q0)])) (fun t k => XS.lloadN X0.here hx rfl (hb hby d10_0) rfl k) ?_
  refine Goes.to (T' := s₁.setTop (mkF m 2 #[.val (.long q0), .second, .val (.long q1), .second] [(.long q1), (.long q0)])) (fun t k => XS.lloadN X0.here hx rfl (hb hby d10_1) rfl k) ?_
  refine Goes.to (T' := s₁.setTop (mkF m 3 #[.val (.long q0), .second, .val (.long q1), .second] [(.int (lcmpW q0 q1))])) (fun t k => XS.lcmp X0.here hx rfl (hb hby d10_2) rfl k) ?_
  rcases Decidable.em (q0 < q1) with hc3_1 | hc3_1
  · skip
    refine Goes.to (T' := s₁.setTop (mkF m 6 #[.val (.long q0), .second, .val (.long q1), .second] [])) (fun t k => XS.ifNo X0.here hx rfl (hb hby d10_3) rfl ((if0 _ _).trans (tlt ((lw_lt q0 q1).mpr hc3_1)).2.1) k) ?_
    refine Goes.to (T' := s₁.setTop (mkF m 7 #[.val (.long q0), .second, .val (.long q1), .second] [(.int (-1 : Int32))])) (fun t k => XS.iconst X0.here hx rfl (hb hby d10_6) k) ?_
    refine Goes.to (T' := s₁.setTop (mkF m 21 #[.val (.long q0), .second, .val (.long q1), .second] [(.int (-1 : Int32))])) (fun t k => XS.goto X0.here hx rfl (pc0 := 7) (pc' := 21) rfl (hb hby d10_7) (by decide) (by decide) k) ?_
    obtain ⟨fs, hrL, hrun, hended, hW, hsame⟩ := X0.leave (v := some (.int (-1 : Int32))) (fun h => by rw [Bd.returns] at h; cases h)
    subst hQf
    refine ⟨_, _, retOut X0 hx Bd.returns rfl (Or.inl ⟨rfl, Or.inl rfl, _, rfl⟩) (hb hby d10_21) hrL, hrun, hended, _, _, rfl, ?_, ⟨_, rfl⟩, hW, hsame.mono (by decide) (by decide)⟩
    show (fun (v : Option Value) (h : Heap) (L : List Loc) => (∃ r : Int32, v = some (.int r) ∧ (r < 0 ↔ q0 < q1)) ∧ Fr n0 L ∧ h = h0) (some (.int (-1 : Int32))) s₁.heap _
    rw [e0]
    exact ⟨⟨_, rfl, by simp [hc3_1]⟩, N0, rfl⟩
  · skip
    refine Goes.to (T' := s₁.setTop (mkF m 10 #[.val (.long q0), .second, .val (.long q1), .second] [])) (fun t k => XS.ifYes X0.here hx rfl (pc0 := 3) (pc' := 10) rfl (hb hby d10_3) rfl ((if0 _ _).trans (flt (fun q => hc3_1 ((lw_lt q0 q1).mp q))).2.1) (by decide) (by decide) k) ?_
    refine Goes.to (T' := s₁.setTop (mkF m 11 #[.val (.long q0), .second, .val (.long q1), .second] [(.long q0)])) (fun t k => XS.lloadN X0.here hx rfl (hb hby d10_10) rfl k) ?_
    refine Goes.to (T' := s₁.setTop (mkF m 12 #[.val (.long q0), .second, .val (.long q1), .second] [(.long q1), (.long q0)])) (fun t k => XS.lloadN X0.here hx rfl (hb hby d10_11) rfl k) ?_
    refine Goes.to (T' := s₁.setTop (mkF m 13 #[.val (.long q0), .second, .val (.long q1), .second] [(.int (lcmpW q0 q1))])) (fun t k => XS.lcmp X0.here hx rfl (hb hby d10_12) rfl k) ?_
    rcases Decidable.em (q0 = q1) with hc13_2 | hc13_2
    · skip
      refine Goes.to (T' := s₁.setTop (mkF m 16 #[.val (.long q0), .second, .val (.long q1), .second] [])) (fun t k => XS.ifNo X0.here hx rfl (hb hby d10_13) rfl ((if0 _ _).trans (teq ((lw_eq q0 q1).mpr hc13_2)).2) k) ?_
      refine Goes.to (T' := s₁.setTop (mkF m 17 #[.val (.long q0), .second, .val (.long q1), .second] [(.int (0 : Int32))])) (fun t k => XS.iconst X0.here hx rfl (hb hby d10_16) k) ?_
      refine Goes.to (T' := s₁.setTop (mkF m 21 #[.val (.long q0), .second, .val (.long q1), .second] [(.int (0 : Int32))])) (fun t k => XS.goto X0.here hx rfl (pc0 := 17) (pc' := 21) rfl (hb hby d10_17) (by decide) (by decide) k) ?_
      obtain ⟨fs, hrL, hrun, hended, hW, hsame⟩ := X0.leave (v := some (.int (0 : Int32))) (fun h => by rw [Bd.returns] at h; cases h)
      subst hQf
      refine ⟨_, _, retOut X0 hx Bd.returns rfl (Or.inl ⟨rfl, Or.inl rfl, _, rfl⟩) (hb hby d10_21) hrL, hrun, hended, _, _, rfl, ?_, ⟨_, rfl⟩, hW, hsame.mono (by decide) (by decide)⟩
      show (fun (v : Option Value) (h : Heap) (L : List Loc) => (∃ r : Int32, v = some (.int r) ∧ (r < 0 ↔ q0 < q1)) ∧ Fr n0 L ∧ h = h0) (some (.int (0 : Int32))) s₁.heap _
      rw [e0]
      exact ⟨⟨_, rfl, by simp [hc3_1, hc13_2]⟩, N0, rfl⟩
    · skip
      refine Goes.to (T' := s₁.setTop (mkF m 20 #[.val (.long q0), .second, .val (.long q1), .second] [])) (fun t k => XS.ifYes X0.here hx rfl (pc0 := 13) (pc' := 20) rfl (hb hby d10_13) rfl ((if0 _ _).trans (feq (fun q => hc13_2 ((lw_eq q0 q1).mp q))).2) (by decide) (by decide) k) ?_
      refine Goes.to (T' := s₁.setTop (mkF m 21 #[.val (.long q0), .second, .val (.long q1), .second] [(.int (1 : Int32))])) (fun t k => XS.iconst X0.here hx rfl (hb hby d10_20) k) ?_
      obtain ⟨fs, hrL, hrun, hended, hW, hsame⟩ := X0.leave (v := some (.int (1 : Int32))) (fun h => by rw [Bd.returns] at h; cases h)
      subst hQf
      refine ⟨_, _, retOut X0 hx Bd.returns rfl (Or.inl ⟨rfl, Or.inl rfl, _, rfl⟩) (hb hby d10_21) hrL, hrun, hended, _, _, rfl, ?_, ⟨_, rfl⟩, hW, hsame.mono (by decide) (by decide)⟩
      show (fun (v : Option Value) (h : Heap) (L : List Loc) => (∃ r : Int32, v = some (.int r) ∧ (r < 0 ↔ q0 < q1)) ∧ Fr n0 L ∧ h = h0) (some (.int (1 : Int32))) s₁.heap _
      rw [e0]
      exact ⟨⟨_, rfl, by simp [hc3_1, hc13_2]⟩, N0, rfl⟩
theorem pd_96 : parseMethodDescriptor "(JJ)I" = some ⟨[.long, .long], some .int⟩ := by decide +kernel
theorem d9_0 : decode jdk_35_method_43_code 0 = .ok (.lload_n 0, 1) := by decide +kernel
theorem d9_1 : decode jdk_35_method_43_code 1 = .ok (.ldc2_w 168, 3) := by decide +kernel
theorem d9_4 : decode jdk_35_method_43_code 4 = .ok (.ladd, 1) := by decide +kernel
theorem d9_5 : decode jdk_35_method_43_code 5 = .ok (.lload_n 2, 1) := by decide +kernel
theorem d9_6 : decode jdk_35_method_43_code 6 = .ok (.ldc2_w 168, 3) := by decide +kernel
theorem d9_9 : decode jdk_35_method_43_code 9 = .ok (.ladd, 1) := by decide +kernel
theorem d9_10 : decode jdk_35_method_43_code 10 = .ok (.invokestatic 302, 3) := by decide +kernel
theorem d9_13 : decode jdk_35_method_43_code 13 = .ok (.ireturn, 1) := by decide +kernel
theorem pn_9 : plainName "java/lang/Long" = true := by first | (simp [plainName, overriddenIn]; done) | decide +kernel
theorem ef_rmCu (m : MethodId) (x0 : Int64) (x1 : Int64) : entryFrame m #[(.long x0), (.long x1)] 4 = mkF m 0 #[.val (.long x0), .second, .val (.long x1), .second] [] := by first | (simp [entryFrame, mkF, argsToLocals, Value.category]; done) | rfl
def Q_rmCu (Z : State) (q0 : Int64) (q1 : Int64) (w0 : Addr) (k_w0 : ClassId) (h0 : Heap) (n0 : Nat) (v : Option Value) (h : Heap) (L : List Loc) : Prop := (∃ r : Int32, v = some (.int r) ∧ (r < 0 ↔ q0 + (-9223372036854775808) < q1 + (-9223372036854775808))) ∧ Fr n0 L ∧ h = h0
set_option maxRecDepth 65536 in
set_option maxHeartbeats 40000000 in
theorem rmCu (l : Launch) (Z : State) (a0 : Array Value) (hw : ∀ d ∈ tables_1, d.before a0 Z = true) (ws : List Jvm.Cond) (q0 : Int64) (q1 : Int64) (w0 : Addr) (k_w0 : ClassId) (h0 : Heap) (n0 : Nat) (O0 : Old Z n0 h0) (NF : Nar Z w0 k_w0) :
    MetFree l (⟨"java/lang/Long", "compareUnsigned", "(JJ)I"⟩ : MethodName) (head1 (Jvm.Cond.code (⟨"java/lang/Long", "compareUnsigned", "(JJ)I"⟩ : MethodName) jdk_35_method_43_code 4 (some .int) :: ws) ({ frames := 1, cells := 0, slots := 0, locals := 20 } : Room)) (fun a U => a = #[(.long q0), (.long q1)] ∧ Z.Warmed39 U.vm ∧ U.heap = h0) (fun _ _ _ _ _ => True) (fun _ U o U' => ∃ v L, o = .returned v ∧ Q_rmCu Z q0 q1 w0 k_w0 h0 n0 v U'.heap L ∧ FrameEnd U o U' L ({ frames := 1, cells := 0, slots := 0, locals := 20 } : Room).cells ({ frames := 1, cells := 0, slots := 0, locals := 20 } : Room).slots) := by
  refine MetFree.of_bodySF (plainFor_of_name pn_9) hisR ?_
  intro p e s m args below meth c s₁ Bd hml0 hP hK
  obtain ⟨rfl, hZ, hh⟩ := hP
  have hx := Bd.exec
  have hby := Bd.bytes
  have hml : c.maxLocals = 4 := hml0
  have hown : s.vm.findClass "java/lang/Long" = some m.cls := findClass_of_methodNamed Bd.named
  have hnm := (name_of_methodNamed Bd.named Bd.method).1
  have X0 : Stand p l e ({ frames := 1, cells := 0, slots := 0, locals := 20 } : Room) s m #[(.long q0), (.long q1)] below meth c s₁ [] 0 0 := Stand.of_body Bd
  have e0 : s₁.heap = h0 := by rw [← hh, Bd.state]; rfl
  have N0 := Fr.nil n0
  suffices G : ∀ (Qf : Outcome → State → Prop), Qf = (fun (_ : Array Value) (U : State) (o : Outcome) (U' : State) => ∃ v L, o = .returned v ∧ Q_rmCu Z q0 q1 w0 k_w0 h0 n0 v U'.heap L ∧ FrameEnd U o U' L ({ frames := 1, cells := 0, slots := 0, locals := 20 } : Room).cells ({ frames := 1, cells := 0, slots := 0, locals := 20 } : Room).slots) #[] s → Goes p.tables e below Qf (s₁.setTop (mkF m 0 #[.val (.long q0), .second, .val (.long q1), .second] [])) by
    obtain ⟨s₂, o, g1, g2, g3, g4⟩ := G _ rfl
    exact ⟨s₂, o, castTop (ef_rmCu m _ _) g1, g2, g3, g4⟩
  intro Qf hQf
  obtain ⟨S_w0, E_w0, V_w0⟩ := id NF
  refine Goes.to (T' := s₁.setTop (mkF m 1 #[.val (.long q0), .second, .val (.long q1), .second] [(.long q0)])) (fun t k => XS.lloadN X0.here hx rfl (hb hby d9_0) rfl k) ?_
  refine Goes.to (T' := s₁.setTop (mkF m 4 #[.val (.long q0), .second, .val (.long q1), .second] [(.long (-9223372036854775808 : Int64)), (.long q0)])) (X0.ldc2Long hx hown (mvT hZ (hw _ (mi 49 rfl))) (g := (mkF m 1 #[.val (.long q0), .second, .val (.long q1), .second] [(.long q0)])) rfl (hb hby d9_1)) ?_
  refine Goes.to (T' := s₁.setTop (mkF m 5 #[.val (.long q0), .second, .val (.long q1), .second] [(.long (q0 + (-9223372036854775808 : Int64)))])) (fun t k => XS.ladd X0.here hx rfl (hb hby d9_4) rfl k) ?_
  refine Goes.to (T' := s₁.setTop (mkF m 6 #[.val (.long q0), .second, .val (.long q1), .second] [(.long q1), (.long (q0 + (-9223372036854775808 : Int64)))])) (fun t k => XS.lloadN X0.here hx rfl (hb hby d9_5) rfl k) ?_
  refine Goes.to (T' := s₁.setTop (mkF m 9 #[.val (.long q0), .second, .val (.long q1), .second] [(.long (-9223372036854775808 : Int64)), (.long q1), (.long (q0 + (-9223372036854775808 : Int64)))])) (X0.ldc2Long hx hown (mvT hZ (hw _ (mi 49 rfl))) (g := (mkF m 6 #[.val (.long q0), .second, .val (.long q1), .second] [(.long q1), (.long (q0 + (-9223372036854775808 : Int64)))])) rfl (hb hby d9_6)) ?_
  refine Goes.to (T' := s₁.setTop (mkF m 10 #[.val (.long q0), .second, .val (.long q1), .second] [(.long (q1 + (-9223372036854775808 : Int64))), (.long (q0 + (-9223372036854775808 : Int64)))])) (fun t k => XS.ladd X0.here hx rfl (hb hby d9_9) rfl k) ?_
  obtain ⟨_, _, ⟨T1, L1, k1, n1⟩, -, X1, ⟨Lc1, hQ1, l1, y1, z1⟩, st1⟩ := Jvm.LawKit.callS X0 hx (y := (⟨"java/lang/Long", "compare", "(JJ)I"⟩ : MethodName)) hown (mvT hZ (hw _ (mi 50 rfl))) (mvT hZ (hw _ (mi 51 rfl))) (mvT hZ (hw _ (mi 47 rfl))) (mvT hZ (hw _ (mi 52 rfl))) (by decide) (backOf (W := 0) (rmCmp l Z a0 hw [] (q0 + (-9223372036854775808 : Int64)) (q1 + (-9223372036854775808 : Int64)) w0 k_w0  h0 n0 O0 NF ) hZ (hw _ (mi 52 rfl)) (hw _ (mi 47 rfl)) (by decide) (by decide)) (g := (mkF m 10 #[.val (.long q0), .second, .val (.long q1), .second] [(.long (q1 + (-9223372036854775808 : Int64))), (.long (q0 + (-9223372036854775808 : Int64)))])) rfl (by rw [hml]; rfl) (argsL := [(.long (q0 + (-9223372036854775808 : Int64))), (.long (q1 + (-9223372036854775808 : Int64)))]) (rest := []) (lenOf pd_96 rfl) rfl (by show 2 * 0 + _ ≤ _; exact Nat.le_of_eq rfl) (hb hby d9_10) (fun _ _ => ⟨rfl, e0, (by decide : 0 + 0 ≤ _), (by decide : 0 + 0 ≤ _)⟩)
  dsimp only [Pt.U, Pt.locs, Pt.cells, Pt.slots] at X1 l1 y1 z1 st1 hQ1
  subst l1 y1 z1
  obtain ⟨⟨rc, rfl, hrc⟩, Nq1, e1⟩ := hQ1
  have N1 := Fr.app N0 Nq1
  refine Goes.to (T' := T1.setTop (mkF m 13 #[.val (.long q0), .second, .val (.long q1), .second] [(.int rc)])) st1 ?_
  obtain ⟨fs, hrL, hrun, hended, hW, hsame⟩ := X1.leave (v := some (.int rc)) (fun h => by rw [Bd.returns] at h; cases h)
  subst hQf
  refine ⟨_, _, retOut X1 hx Bd.returns rfl (Or.inl ⟨rfl, Or.inl rfl, _, rfl⟩) (hb hby d9_13) hrL, hrun, hended, _, _, rfl, ?_, ⟨_, rfl⟩, hW, hsame.mono (by decide) (by decide)⟩
  show (fun (v : Option Value) (h : Heap) (L : List Loc) => (∃ r : Int32, v = some (.int r) ∧ (r < 0 ↔ q0 + (-9223372036854775808) < q1 + (-9223372036854775808))) ∧ Fr n0 L ∧ h = h0) (some (.int rc)) T1.heap _
  rw [e1]
  exact ⟨⟨_, rfl, hrc⟩, N1, rfl⟩
theorem pd_106 : parseMethodDescriptor "(II)I" = some ⟨[.int, .int], some .int⟩ := by decide +kernel
theorem d5_0 : decode jdk_65_method_124_code 0 = .ok (.iload_n 1, 1) := by decide +kernel
theorem d5_1 : decode jdk_65_method_124_code 1 = .ok (.aload_n 0, 1) := by decide +kernel
theorem d5_2 : decode jdk_65_method_124_code 2 = .ok (.arraylength, 1) := by decide +kernel
theorem d5_3 : decode jdk_65_method_124_code 3 = .ok (.if_icmp .ne 11, 3) := by decide +kernel
theorem d5_14 : decode jdk_65_method_124_code 14 = .ok (.iload_n 1, 1) := by decide +kernel
theorem d5_15 : decode jdk_65_method_124_code 15 = .ok (.newarray .long, 2) := by decide +kernel
theorem d5_17 : decode jdk_65_method_124_code 17 = .ok (.astore_n 2, 1) := by decide +kernel
theorem d5_18 : decode jdk_65_method_124_code 18 = .ok (.aload_n 0, 1) := by decide +kernel
theorem d5_19 : decode jdk_65_method_124_code 19 = .ok (.iconst 0, 1) := by decide +kernel
theorem d5_20 : decode jdk_65_method_124_code 20 = .ok (.aload_n 2, 1) := by decide +kernel
theorem d5_21 : decode jdk_65_method_124_code 21 = .ok (.iconst 0, 1) := by decide +kernel
theorem d5_22 : decode jdk_65_method_124_code 22 = .ok (.aload_n 0, 1) := by decide +kernel
theorem d5_23 : decode jdk_65_method_124_code 23 = .ok (.arraylength, 1) := by decide +kernel
theorem d5_24 : decode jdk_65_method_124_code 24 = .ok (.iload_n 1, 1) := by decide +kernel
theorem d5_25 : decode jdk_65_method_124_code 25 = .ok (.invokestatic 304, 3) := by decide +kernel
theorem d5_28 : decode jdk_65_method_124_code 28 = .ok (.invokestatic 150, 3) := by decide +kernel
theorem d5_31 : decode jdk_65_method_124_code 31 = .ok (.aload_n 2, 1) := by decide +kernel
theorem d5_32 : decode jdk_65_method_124_code 32 = .ok (.areturn, 1) := by decide +kernel
theorem pn_5 : plainName "java/util/Arrays" = true := by first | (simp [plainName, overriddenIn]; done) | decide +kernel
theorem ef_rmCp (m : MethodId) (x0 : Addr) (x1 : Int32) : entryFrame m #[(.ref x0), (.int x1)] 3 = mkF m 0 #[.val (.ref x0), .val (.int x1), .unset] [] := by first | (simp [entryFrame, mkF, argsToLocals, Value.category]; done) | rfl
def Q_rmCp (Z : State) (xa : Addr) (zn : Int32) (w0 : Addr) (k_w0 : ClassId) (zl : Int32) (ff : Nat → Int64) (h0 : Heap) (n0 : Nat) (v : Option Value) (h : Heap) (L : List Loc) : Prop := (∃ b, v = some (.ref b) ∧ n0 ≤ b ∧ h0.size ≤ b ∧ La Z h b zn ff) ∧ Fr n0 L ∧ Ext h0 h
set_option maxRecDepth 65536 in
set_option maxHeartbeats 40000000 in
theorem rmCp (l : Launch) (Z : State) (a0 : Array Value) (hw : ∀ d ∈ tables_1, d.before a0 Z = true) (ws : List Jvm.Cond) (xa : Addr) (zn : Int32) (w0 : Addr) (k_w0 : ClassId) (zl : Int32) (ff : Nat → Int64) (h0 : Heap) (n0 : Nat) (O0 : Old Z n0 h0) (NF : Nar Z w0 k_w0) (V_xa : La Z h0 xa zl ff) (hz : zl < zn) (hzn : ¬ zn < 0) (hcap : zn.toNatClampNeg ≤ 24) :
    MetFree l (⟨"java/util/Arrays", "copyOf", "([JI)[J"⟩ : MethodName) (head1 (Jvm.Cond.code (⟨"java/util/Arrays", "copyOf", "([JI)[J"⟩ : MethodName) jdk_65_method_124_code 3 (some (.array .long)) :: ws) ({ frames := 1, cells := 1, slots := 24, locals := 96 } : Room)) (fun a U => a = #[(.ref xa), (.int zn)] ∧ Z.Warmed39 U.vm ∧ U.heap = h0) (fun _ _ _ _ _ => True) (fun _ U o U' => ∃ v L, o = .returned v ∧ Q_rmCp Z xa zn w0 k_w0 zl ff h0 n0 v U'.heap L ∧ FrameEnd U o U' L ({ frames := 1, cells := 1, slots := 24, locals := 96 } : Room).cells ({ frames := 1, cells := 1, slots := 24, locals := 96 } : Room).slots) := by
  refine MetFree.of_bodySF (plainFor_of_name pn_5) hisR ?_
  intro p e s m args below meth c s₁ Bd hml0 hP hK
  obtain ⟨rfl, hZ, hh⟩ := hP
  have hx := Bd.exec
  have hby := Bd.bytes
  have hml : c.maxLocals = 3 := hml0
  have hown : s.vm.findClass "java/util/Arrays" = some m.cls := findClass_of_methodNamed Bd.named
  have hnm := (name_of_methodNamed Bd.named Bd.method).1
  have X0 : Stand p l e ({ frames := 1, cells := 1, slots := 24, locals := 96 } : Room) s m #[(.ref xa), (.int zn)] below meth c s₁ [] 0 0 := Stand.of_body Bd
  have e0 : s₁.heap = h0 := by rw [← hh, Bd.state]; rfl
  have N0 := Fr.nil n0
  have K0 := Keep.refl h0 []
  suffices G : ∀ (Qf : Outcome → State → Prop), Qf = (fun (_ : Array Value) (U : State) (o : Outcome) (U' : State) => ∃ v L, o = .returned v ∧ Q_rmCp Z xa zn w0 k_w0 zl ff h0 n0 v U'.heap L ∧ FrameEnd U o U' L ({ frames := 1, cells := 1, slots := 24, locals := 96 } : Room).cells ({ frames := 1, cells := 1, slots := 24, locals := 96 } : Room).slots) #[] s → Goes p.tables e below Qf (s₁.setTop (mkF m 0 #[.val (.ref xa), .val (.int zn), .unset] [])) by
    obtain ⟨s₂, o, g1, g2, g3, g4⟩ := G _ rfl
    exact ⟨s₂, o, castTop (ef_rmCp m _ _) g1, g2, g3, g4⟩
  intro Qf hQf
  obtain ⟨S_w0, E_w0, V_w0⟩ := id NF
  refine Goes.to (T' := s₁.setTop (mkF m 1 #[.val (.ref xa), .val (.int zn), .unset] [(.int zn)])) (fun t k => XS.iloadN X0.here hx rfl (hb hby d5_0) rfl k) ?_
  refine Goes.to (T' := s₁.setTop (mkF m 2 #[.val (.ref xa), .val (.int zn), .unset] [(.ref xa), (.int zn)])) (fun t k => XS.aloadN X0.here hx rfl (hb hby d5_1) rfl rfl k) ?_
  obtain ⟨cl1, Ar1, S1, Ng1, H1, G1⟩ := id V_xa
  refine Goes.to (T' := s₁.setTop (mkF m 3 #[.val (.ref xa), .val (.int zn), .unset] [(.int zl), (.int zn)])) (fun t k => X0.arraylength hx (by rw [e0]; exact Ar1.1) (State.isArrayOf_alike hZ.alike Ar1.2.1) (g := (mkF m 2 #[.val (.ref xa), .val (.int zn), .unset] [(.ref xa), (.int zn)])) rfl rfl (hb hby d5_2) _ (by rw [len_of S1 Ng1]; exact k)) ?_
  refine Goes.to (T' := s₁.setTop (mkF m 14 #[.val (.ref xa), .val (.int zn), .unset] [])) (fun t k => XS.icmpYes X0.here hx rfl (pc0 := 3) (pc' := 14) rfl (hb hby d5_3) rfl (feq (fun q => Int32.lt_irrefl (by rw [q] at hz; exact hz))).2 (by decide) (by decide) k) ?_
  refine Goes.to (T' := s₁.setTop (mkF m 15 #[.val (.ref xa), .val (.int zn), .unset] [(.int zn)])) (fun t k => XS.iloadN X0.here hx rfl (hb hby d5_14) rfl k) ?_
  obtain ⟨T2, h2, k2, X2, e2, E2, A2, st2⟩ := newP X0 hx hZ (hw _ (mi 30 rfl)) e0 (g := (mkF m 15 #[.val (.ref xa), .val (.int zn), .unset] [(.int zn)])) rfl (hb hby d5_15) rfl hzn (cap := 24) hcap (by decide) (by decide) (by decide)
  obtain ⟨b2, g2⟩ : ∃ z, z = h0.size := ⟨_, rfl⟩
  rw [← g2] at A2 st2
  have g_b2 : n0 ≤ b2 := Nat.le_trans (own_old O0) (Nat.le_of_eq g2.symm)
  have sz_b2 : h0.size ≤ b2 := Nat.le_trans K0.1 (Nat.le_of_eq g2.symm)
  have ne_xa_b2 : xa ≠ b2 := Nat.ne_of_lt (Nat.lt_of_lt_of_le V_xa.lt (Nat.le_of_eq g2.symm))
  have ne_b2_xa := Ne.symm ne_xa_b2
  have V_xa := V_xa.ext E2
  have O0 := O0.ext E2
  have K0 := K0.ext E2
  have V_b2 : Arv Z h2 b2 k2 .long zn [] (.long (0 : Int64)) := Arv.new A2 hzn
  refine Goes.to (T' := T2.setTop (mkF m 17 #[.val (.ref xa), .val (.int zn), .unset] [(.ref b2)])) st2 ?_
  refine Goes.to (T' := T2.setTop (mkF m 18 #[.val (.ref xa), .val (.int zn), .val (.ref b2)] [])) (fun t k => XS.astoreN X2.here hx rfl (hb hby d5_17) rfl rfl (l' := #[.val (.ref xa), .val (.int zn), .val (.ref b2)]) rfl k) ?_
  refine Goes.to (T' := T2.setTop (mkF m 19 #[.val (.ref xa), .val (.int zn), .val (.ref b2)] [(.ref xa)])) (fun t k => XS.aloadN X2.here hx rfl (hb hby d5_18) rfl rfl k) ?_
  refine Goes.to (T' := T2.setTop (mkF m 20 #[.val (.ref xa), .val (.int zn), .val (.ref b2)] [(.int (0 : Int32)), (.ref xa)])) (fun t k => XS.iconst X2.here hx rfl (hb hby d5_19) k) ?_
  refine Goes.to (T' := T2.setTop (mkF m 21 #[.val (.ref xa), .val (.int zn), .val (.ref b2)] [(.ref b2), (.int (0 : Int32)), (.ref xa)])) (fun t k => XS.aloadN X2.here hx rfl (hb hby d5_20) rfl rfl k) ?_
  refine Goes.to (T' := T2.setTop (mkF m 22 #[.val (.ref xa), .val (.int zn), .val (.ref b2)] [(.int (0 : Int32)), (.ref b2), (.int (0 : Int32)), (.ref xa)])) (fun t k => XS.iconst X2.here hx rfl (hb hby d5_21) k) ?_
  refine Goes.to (T' := T2.setTop (mkF m 23 #[.val (.ref xa), .val (.int zn), .val (.ref b2)] [(.ref xa), (.int (0 : Int32)), (.ref b2), (.int (0 : Int32)), (.ref xa)])) (fun t k => XS.aloadN X2.here hx rfl (hb hby d5_22) rfl rfl k) ?_
  obtain ⟨cl3, Ar3, S3, Ng3, H3, G3⟩ := id V_xa
  refine Goes.to (T' := T2.setTop (mkF m 24 #[.val (.ref xa), .val (.int zn), .val (.ref b2)] [(.int zl), (.int (0 : Int32)), (.ref b2), (.int (0 : Int32)), (.ref xa)])) (fun t k => X2.arraylength hx (by rw [e2]; exact Ar3.1) (State.isArrayOf_alike hZ.alike Ar3.2.1) (g := (mkF m 23 #[.val (.ref xa), .val (.int zn), .val (.ref b2)] [(.ref xa), (.int (0 : Int32)), (.ref b2), (.int (0 : Int32)), (.ref xa)])) rfl rfl (hb hby d5_23) _ (by rw [len_of S3 Ng3]; exact k)) ?_
  refine Goes.to (T' := T2.setTop (mkF m 25 #[.val (.ref xa), .val (.int zn), .val (.ref b2)] [(.int zn), (.int zl), (.int (0 : Int32)), (.ref b2), (.int (0 : Int32)), (.ref xa)])) (fun t k => XS.iloadN X2.here hx rfl (hb hby d5_24) rfl k) ?_
  obtain ⟨_, _, ⟨T4, L4, k4, n4⟩, -, X4, ⟨Lc4, hQ4, l4, y4, z4⟩, st4⟩ := Jvm.LawKit.callS X2 hx (y := (⟨"java/lang/Math", "min", "(II)I"⟩ : MethodName)) hown (mvT hZ (hw _ (mi 31 rfl))) (mvT hZ (hw _ (mi 32 rfl))) (mvT hZ (hw _ (mi 24 rfl))) (mvT hZ (hw _ (mi 33 rfl))) (by decide) (backOf (W := 4) (rmMin l Z a0 hw [] zl zn w0 k_w0 zl h2 n0 O0 NF (by rw [if_neg (fun q => Int32.lt_irrefl (Int32.lt_trans hz q))])) hZ (hw _ (mi 33 rfl)) (hw _ (mi 24 rfl)) (by decide) (by decide)) (g := (mkF m 25 #[.val (.ref xa), .val (.int zn), .val (.ref b2)] [(.int zn), (.int zl), (.int (0 : Int32)), (.ref b2), (.int (0 : Int32)), (.ref xa)])) rfl (by rw [hml]; rfl) (argsL := [(.int zl), (.int zn)]) (rest := [(.int (0 : Int32)), (.ref b2), (.int (0 : Int32)), (.ref xa)]) (lenOf pd_106 rfl) rfl (by show 2 * 0 + _ ≤ _; exact Nat.le_of_eq rfl) (hb hby d5_25) (fun _ _ => ⟨rfl, e2, (by decide : 1 + 0 ≤ _), (by decide : 24 + 0 ≤ _)⟩)
  dsimp only [Pt.U, Pt.locs, Pt.cells, Pt.slots] at X4 l4 y4 z4 st4 hQ4
  subst l4 y4 z4
  obtain ⟨rfl, Nq4, e4⟩ := hQ4
  have N4 := Fr.app N0 Nq4
  refine Goes.to (T' := T4.setTop (mkF m 28 #[.val (.ref xa), .val (.int zn), .val (.ref b2)] [(.int zl), (.int (0 : Int32)), (.ref b2), (.int (0 : Int32)), (.ref xa)])) st4 ?_
  obtain ⟨kA, VA⟩ := own_la_arv V_xa
  have VB := V_b2.pad (pad_rep [] (Value.long 0) zn.toNatClampNeg)
  obtain ⟨-, -, -, hzl0, -, Hzl⟩ := id V_xa
  have hznn : zl.toNatClampNeg ≤ zn.toNatClampNeg := Nat.le_of_lt ((own_nat hzl0 hzn).mp hz)
  obtain ⟨T5, h5, L5, X5, e5, N5, K5, V5, st5⟩ := cpA X4 hx hZ hown (hw _ (mi 34 rfl)) (hw _ (mi 37 rfl)) (hw _ (mi 35 rfl)) (hw _ (mi 36 rfl)) e4 VA VB (Or.inl ⟨rfl, rfl⟩) (sp := 0) (dp := 0) (nn := zl) (by decide) (by decide) hzl0 (by simp [show (0 : Int32).toNatClampNeg = 0 from rfl]) (by simpa [show (0 : Int32).toNatClampNeg = 0 from rfl] using hznn) rfl (by simpa [show (0 : Int32).toNatClampNeg = 0 from rfl] using hznn) N4 g_b2 (g := (mkF m 28 #[.val (.ref xa), .val (.int zn), .val (.ref b2)] [(.int zl), (.int (0 : Int32)), (.ref b2), (.int (0 : Int32)), (.ref xa)])) rfl (by rw [hml]; rfl) rfl (hb hby d5_28) (by decide) (W := 0) (by show 2 * 0 + _ ≤ _; exact Nat.le_of_eq rfl) (by decide)
  have V_xa := V_xa.keep K5 (ninS (ne_xa_b2) nin0)
  have O0 := O0.keep K5 (allS g_b2 all0)
  have K0 := K0.trans K5 (allS (Or.inr sz_b2) all0)
  have V_b2 : La Z h5 b2 zn ff := own_cp hznn Hzl V5
  refine Goes.to (T' := T5.setTop (mkF m 31 #[.val (.ref xa), .val (.int zn), .val (.ref b2)] [])) st5 ?_
  refine Goes.to (T' := T5.setTop (mkF m 32 #[.val (.ref xa), .val (.int zn), .val (.ref b2)] [(.ref b2)])) (fun t k => XS.aloadN X5.here hx rfl (hb hby d5_31) rfl rfl k) ?_
  obtain ⟨fs, hrL, hrun, hended, hW, hsame⟩ := X5.leave (v := some (.ref b2)) (fun h => by rw [Bd.returns] at h; cases h)
  subst hQf
  refine ⟨_, _, retOut X5 hx Bd.returns rfl (Or.inr (Or.inr (Or.inr (Or.inr ⟨rfl, rfl, rfl⟩)))) (hb hby d5_32) hrL, hrun, hended, _, _, rfl, ?_, ⟨_, rfl⟩, hW, hsame.mono (by decide) (by decide)⟩
  show (fun (v : Option Value) (h : Heap) (L : List Loc) => (∃ b, v = some (.ref b) ∧ n0 ≤ b ∧ h0.size ≤ b ∧ La Z h b zn ff) ∧ Fr n0 L ∧ Ext h0 h) (some (.ref b2)) T5.heap _
  rw [e5]
  exact ⟨⟨b2, rfl, g_b2, sz_b2, V_b2⟩, N5, own_ext_keep K0⟩
theorem d11_0 : decode prog_38_method_10_code 0 = .ok (.iload_n 1, 1) := by decide +kernel
theorem d11_1 : decode prog_38_method_10_code 1 = .ok (.aload_n 0, 1) := by decide +kernel
theorem d11_2 : decode prog_38_method_10_code 2 = .ok (.getfield 16, 3) := by decide +kernel
theorem d11_5 : decode prog_38_method_10_code 5 = .ok (.arraylength, 1) := by decide +kernel
theorem d11_6 : decode prog_38_method_10_code 6 = .ok (.if_icmp .ge 12, 3) := by decide +kernel
theorem d11_9 : decode prog_38_method_10_code 9 = .ok (.aload_n 0, 1) := by decide +kernel
theorem d11_10 : decode prog_38_method_10_code 10 = .ok (.getfield 16, 3) := by decide +kernel
theorem d11_13 : decode prog_38_method_10_code 13 = .ok (.iload_n 1, 1) := by decide +kernel
theorem d11_14 : decode prog_38_method_10_code 14 = .ok (.laload, 1) := by decide +kernel
theorem d11_15 : decode prog_38_method_10_code 15 = .ok (.goto 4, 3) := by decide +kernel
theorem d11_18 : decode prog_38_method_10_code 18 = .ok (.lconst 0, 1) := by decide +kernel
theorem d11_19 : decode prog_38_method_10_code 19 = .ok (.lreturn, 1) := by decide +kernel
theorem pn_11 : plainName "com/example/suretyline/suretyline/Sums" = true := by first | (simp [plainName, overriddenIn]; done) | decide +kernel
theorem ef_rm_high (m : MethodId) (x0 : Addr) (x1 : Int32) : entryFrame m #[(.ref x0), (.int x1)] 2 = mkF m 0 #[.val (.ref x0), .val (.int x1)] [] := by first | (simp [entryFrame, mkF, argsToLocals, Value.category]; done) | rfl
def Q_rm_high (Z : State) (xa : Addr) (p1 : Int32) (w0 : Addr) (k_w0 : ClassId) (ff : Nat → Int64) (gg : Nat → Int64) (h0 : Heap) (n0 : Nat) (v : Option Value) (h : Heap) (L : List Loc) : Prop := v = some (.long (gg p1.toNatClampNeg)) ∧ Fr n0 L ∧ h = h0
set_option maxRecDepth 65536 in
set_option maxHeartbeats 40000000 in
theorem rm_high (l : Launch) (Z : State) (a0 : Array Value) (hw : ∀ d ∈ tables_1, d.before a0 Z = true) (ws : List Jvm.Cond) (xa : Addr) (p1 : Int32) (w0 : Addr) (k_w0 : ClassId) (ff : Nat → Int64) (gg : Nat → Int64) (h0 : Heap) (n0 : Nat) (O0 : Old Z n0 h0) (NF : Nar Z w0 k_w0) (hSA : SA Z h0 n0 xa ff gg) (hp : ¬ p1 < 0) :
    MetFree l (⟨"com/example/suretyline/suretyline/Sums", "high", "(I)J"⟩ : MethodName) (head1 (Jvm.Cond.code (⟨"com/example/suretyline/suretyline/Sums", "high", "(I)J"⟩ : MethodName) prog_38_method_10_code 2 (some .long) :: ws) ({ frames := 0, cells := 0, slots := 0, locals := 0 } : Room)) (fun a U => a = #[(.ref xa), (.int p1)] ∧ Z.Warmed39 U.vm ∧ U.heap = h0) (fun _ _ _ _ _ => True) (fun _ U o U' => ∃ v L, o = .returned v ∧ Q_rm_high Z xa p1 w0 k_w0 ff gg h0 n0 v U'.heap L ∧ FrameEnd U o U' L ({ frames := 0, cells := 0, slots := 0, locals := 0 } : Room).cells ({ frames := 0, cells := 0, slots := 0, locals := 0 } : Room).slots) := by
  refine MetFree.of_bodySF (plainFor_of_name pn_11) hisR ?_
  intro p e s m args below meth c s₁ Bd hml0 hP hK
  obtain ⟨rfl, hZ, hh⟩ := hP
  have hx := Bd.exec
  have hby := Bd.bytes
  have hml : c.maxLocals = 2 := hml0
  have hown : s.vm.findClass "com/example/suretyline/suretyline/Sums" = some m.cls := findClass_of_methodNamed Bd.named
  have hnm := (name_of_methodNamed Bd.named Bd.method).1
  have X0 : Stand p l e ({ frames := 0, cells := 0, slots := 0, locals := 0 } : Room) s m #[(.ref xa), (.int p1)] below meth c s₁ [] 0 0 := Stand.of_body Bd
  have e0 : s₁.heap = h0 := by rw [← hh, Bd.state]; rfl
  have N0 := Fr.nil n0
  suffices G : ∀ (Qf : Outcome → State → Prop), Qf = (fun (_ : Array Value) (U : State) (o : Outcome) (U' : State) => ∃ v L, o = .returned v ∧ Q_rm_high Z xa p1 w0 k_w0 ff gg h0 n0 v U'.heap L ∧ FrameEnd U o U' L ({ frames := 0, cells := 0, slots := 0, locals := 0 } : Room).cells ({ frames := 0, cells := 0, slots := 0, locals := 0 } : Room).slots) #[] s → Goes p.tables e below Qf (s₁.setTop (mkF m 0 #[.val (.ref xa), .val (.int p1)] [])) by
    obtain ⟨s₂, o, g1, g2, g3, g4⟩ := G _ rfl
    exact ⟨s₂, o, castTop (ef_rm_high m _ _) g1, g2, g3, g4⟩
  intro Qf hQf
  obtain ⟨S_w0, E_w0, V_w0⟩ := id NF
  obtain ⟨lo, hi, zl, zh, E_xa, g_xa, F_lows_xa, F_highs_xa, V_lo, V_hi, ne_lo_xa, ne_hi_xa, glo, ghi, nelh, hzl25⟩ := id hSA
  refine Goes.to (T' := s₁.setTop (mkF m 1 #[.val (.ref xa), .val (.int p1)] [(.int p1)])) (fun t k => XS.iloadN X0.here hx rfl (hb hby d11_0) rfl k) ?_
  refine Goes.to (T' := s₁.setTop (mkF m 2 #[.val (.ref xa), .val (.int p1)] [(.ref xa), (.int p1)])) (fun t k => XS.aloadN X0.here hx rfl (hb hby d11_1) rfl rfl k) ?_
  obtain ⟨T1, X1, e1, st1⟩ := getF X0 hx hZ hown (host := "") (Or.inl (hw _ (mi 13 rfl))) Via.refl e0 F_highs_xa (g := (mkF m 2 #[.val (.ref xa), .val (.int p1)] [(.ref xa), (.int p1)])) rfl rfl (hb hby d11_2)
  refine Goes.to (T' := T1.setTop (mkF m 5 #[.val (.ref xa), .val (.int p1)] [(.ref hi), (.int p1)])) st1 ?_
  obtain ⟨cl2, Ar2, S2, Ng2, H2, G2⟩ := id V_hi
  refine Goes.to (T' := T1.setTop (mkF m 6 #[.val (.ref xa), .val (.int p1)] [(.int zh), (.int p1)])) (fun t k => X1.arraylength hx (by rw [e1]; exact Ar2.1) (State.isArrayOf_alike hZ.alike Ar2.2.1) (g := (mkF m 5 #[.val (.ref xa), .val (.int p1)] [(.ref hi), (.int p1)])) rfl rfl (hb hby d11_5) _ (by rw [len_of S2 Ng2]; exact k)) ?_
  rcases Decidable.em (p1 < zh) with hc6_3 | hc6_3
  · skip
    refine Goes.to (T' := T1.setTop (mkF m 9 #[.val (.ref xa), .val (.int p1)] [])) (fun t k => XS.icmpNo X1.here hx rfl (hb hby d11_6) rfl (tlt hc6_3).2.1 k) ?_
    refine Goes.to (T' := T1.setTop (mkF m 10 #[.val (.ref xa), .val (.int p1)] [(.ref xa)])) (fun t k => XS.aloadN X1.here hx rfl (hb hby d11_9) rfl rfl k) ?_
    obtain ⟨T4, X4, e4, st4⟩ := getF X1 hx hZ hown (host := "") (Or.inl (hw _ (mi 13 rfl))) Via.refl e1 F_highs_xa (g := (mkF m 10 #[.val (.ref xa), .val (.int p1)] [(.ref xa)])) rfl rfl (hb hby d11_10)
    refine Goes.to (T' := T4.setTop (mkF m 13 #[.val (.ref xa), .val (.int p1)] [(.ref hi)])) st4 ?_
    refine Goes.to (T' := T4.setTop (mkF m 14 #[.val (.ref xa), .val (.int p1)] [(.int p1), (.ref hi)])) (fun t k => XS.iloadN X4.here hx rfl (hb hby d11_13) rfl k) ?_
    obtain ⟨cl5, Ar5, S5, Ng5, H5, Hz5⟩ := id V_hi
    have hin5 : ¬ (p1 < 0 ∨ cl5.slots.size ≤ (p1).toNatClampNeg) := inb_of S5 ⟨hp, hc6_3⟩
    refine Goes.to (T' := T4.setTop (mkF m 15 #[.val (.ref xa), .val (.int p1)] [(.long (gg (p1).toNatClampNeg))])) (X4.laload hx (j := p1) (v := (.long (gg (p1).toNatClampNeg))) (by rw [e4]; exact Ar5.1) (State.isArrayOf_alike hZ.alike Ar5.2.1) Ar5.2.2 hin5 (H5 _ (Nat.lt_of_not_le fun q => hin5 (Or.inr (Nat.le_trans (Nat.le_of_eq S5) q)))) (g := (mkF m 14 #[.val (.ref xa), .val (.int p1)] [(.int p1), (.ref hi)])) rfl rfl (hb hby d11_14)) ?_
    refine Goes.to (T' := T4.setTop (mkF m 19 #[.val (.ref xa), .val (.int p1)] [(.long (gg (p1).toNatClampNeg))])) (fun t k => XS.goto X4.here hx rfl (pc0 := 15) (pc' := 19) rfl (hb hby d11_15) (by decide) (by decide) k) ?_
    obtain ⟨fs, hrL, hrun, hended, hW, hsame⟩ := X4.leave (v := some (.long (gg (p1).toNatClampNeg))) (fun h => by rw [Bd.returns] at h; cases h)
    subst hQf
    refine ⟨_, _, retOut X4 hx Bd.returns rfl (Or.inr (Or.inl ⟨rfl, rfl, _, rfl⟩)) (hb hby d11_19) hrL, hrun, hended, _, _, rfl, ?_, ⟨_, rfl⟩, hW, hsame.mono (by decide) (by decide)⟩
    show (fun (v : Option Value) (h : Heap) (L : List Loc) => v = some (.long (gg p1.toNatClampNeg)) ∧ Fr n0 L ∧ h = h0) (some (.long (gg (p1).toNatClampNeg))) T4.heap _
    rw [e4]
    exact ⟨rfl, N0, rfl⟩
  · skip
    refine Goes.to (T' := T1.setTop (mkF m 18 #[.val (.ref xa), .val (.int p1)] [])) (fun t k => XS.icmpYes X1.here hx rfl (pc0 := 6) (pc' := 18) rfl (hb hby d11_6) rfl (flt hc6_3).2.1 (by decide) (by decide) k) ?_
    refine Goes.to (T' := T1.setTop (mkF m 19 #[.val (.ref xa), .val (.int p1)] [(.long (0 : Int64))])) (fun t k => XS.lconst X1.here hx rfl (hb hby d11_18) k) ?_
    obtain ⟨fs, hrL, hrun, hended, hW, hsame⟩ := X1.leave (v := some (.long (0 : Int64))) (fun h => by rw [Bd.returns] at h; cases h)
    subst hQf
    refine ⟨_, _, retOut X1 hx Bd.returns rfl (Or.inr (Or.inl ⟨rfl, rfl, _, rfl⟩)) (hb hby d11_19) hrL, hrun, hended, _, _, rfl, ?_, ⟨_, rfl⟩, hW, hsame.mono (by decide) (by decide)⟩
    show (fun (v : Option Value) (h : Heap) (L : List Loc) => v = some (.long (gg p1.toNatClampNeg)) ∧ Fr n0 L ∧ h = h0) (some (.long (0 : Int64))) T1.heap _
    rw [e1]
    obtain ⟨-, -, -, hz0, -, Hz0⟩ := id V_hi
    have hv : (0 : Int64) = gg p1.toNatClampNeg := (Hz0 _ (Nat.le_of_not_lt fun q => hc6_3 ((own_nat hp hz0).mpr q))).symm
    exact ⟨by rw [hv], N0, rfl⟩
theorem d16_0 : decode prog_38_method_9_code 0 = .ok (.iload_n 1, 1) := by decide +kernel
theorem d16_1 : decode prog_38_method_9_code 1 = .ok (.aload_n 0, 1) := by decide +kernel
theorem d16_2 : decode prog_38_method_9_code 2 = .ok (.getfield 13, 3) := by decide +kernel
theorem d16_5 : decode prog_38_method_9_code 5 = .ok (.arraylength, 1) := by decide +kernel
theorem d16_6 : decode prog_38_method_9_code 6 = .ok (.if_icmp .ge 12, 3) := by decide +kernel
theorem d16_9 : decode prog_38_method_9_code 9 = .ok (.aload_n 0, 1) := by decide +kernel
theorem d16_10 : decode prog_38_method_9_code 10 = .ok (.getfield 13, 3) := by decide +kernel
theorem d16_13 : decode prog_38_method_9_code 13 = .ok (.iload_n 1, 1) := by decide +kernel
theorem d16_14 : decode prog_38_method_9_code 14 = .ok (.laload, 1) := by decide +kernel
theorem d16_15 : decode prog_38_method_9_code 15 = .ok (.goto 4, 3) := by decide +kernel
theorem d16_18 : decode prog_38_method_9_code 18 = .ok (.lconst 0, 1) := by decide +kernel
theorem d16_19 : decode prog_38_method_9_code 19 = .ok (.lreturn, 1) := by decide +kernel
theorem pn_16 : plainName "com/example/suretyline/suretyline/Sums" = true := by first | (simp [plainName, overriddenIn]; done) | decide +kernel
theorem ef_rm_low (m : MethodId) (x0 : Addr) (x1 : Int32) : entryFrame m #[(.ref x0), (.int x1)] 2 = mkF m 0 #[.val (.ref x0), .val (.int x1)] [] := by first | (simp [entryFrame, mkF, argsToLocals, Value.category]; done) | rfl
def Q_rm_low (Z : State) (xa : Addr) (p1 : Int32) (w0 : Addr) (k_w0 : ClassId) (ff : Nat → Int64) (gg : Nat → Int64) (h0 : Heap) (n0 : Nat) (v : Option Value) (h : Heap) (L : List Loc) : Prop := v = some (.long (ff p1.toNatClampNeg)) ∧ Fr n0 L ∧ h = h0
set_option maxRecDepth 65536 in
set_option maxHeartbeats 40000000 in
theorem rm_low (l : Launch) (Z : State) (a0 : Array Value) (hw : ∀ d ∈ tables_1, d.before a0 Z = true) (ws : List Jvm.Cond) (xa : Addr) (p1 : Int32) (w0 : Addr) (k_w0 : ClassId) (ff : Nat → Int64) (gg : Nat → Int64) (h0 : Heap) (n0 : Nat) (O0 : Old Z n0 h0) (NF : Nar Z w0 k_w0) (hSA : SA Z h0 n0 xa ff gg) (hp : ¬ p1 < 0) :
    MetFree l (⟨"com/example/suretyline/suretyline/Sums", "low", "(I)J"⟩ : MethodName) (head1 (Jvm.Cond.code (⟨"com/example/suretyline/suretyline/Sums", "low", "(I)J"⟩ : MethodName) prog_38_method_9_code 2 (some .long) :: ws) ({ frames := 0, cells := 0, slots := 0, locals := 0 } : Room)) (fun a U => a = #[(.ref xa), (.int p1)] ∧ Z.Warmed39 U.vm ∧ U.heap = h0) (fun _ _ _ _ _ => True) (fun _ U o U' => ∃ v L, o = .returned v ∧ Q_rm_low Z xa p1 w0 k_w0 ff gg h0 n0 v U'.heap L ∧ FrameEnd U o U' L ({ frames := 0, cells := 0, slots := 0, locals := 0 } : Room).cells ({ frames := 0, cells := 0, slots := 0, locals := 0 } : Room).slots) := by
  refine MetFree.of_bodySF (plainFor_of_name pn_16) hisR ?_
  intro p e s m args below meth c s₁ Bd hml0 hP hK
  obtain ⟨rfl, hZ, hh⟩ := hP
  have hx := Bd.exec
  have hby := Bd.bytes
  have hml : c.maxLocals = 2 := hml0
  have hown : s.vm.findClass "com/example/suretyline/suretyline/Sums" = some m.cls := findClass_of_methodNamed Bd.named
  have hnm := (name_of_methodNamed Bd.named Bd.method).1
  have X0 : Stand p l e ({ frames := 0, cells := 0, slots := 0, locals := 0 } : Room) s m #[(.ref xa), (.int p1)] below meth c s₁ [] 0 0 := Stand.of_body Bd
  have e0 : s₁.heap = h0 := by rw [← hh, Bd.state]; rfl
  have N0 := Fr.nil n0
  suffices G : ∀ (Qf : Outcome → State → Prop), Qf = (fun (_ : Array Value) (U : State) (o : Outcome) (U' : State) => ∃ v L, o = .returned v ∧ Q_rm_low Z xa p1 w0 k_w0 ff gg h0 n0 v U'.heap L ∧ FrameEnd U o U' L ({ frames := 0, cells := 0, slots := 0, locals := 0 } : Room).cells ({ frames := 0, cells := 0, slots := 0, locals := 0 } : Room).slots) #[] s → Goes p.tables e below Qf (s₁.setTop (mkF m 0 #[.val (.ref xa), .val (.int p1)] [])) by
    obtain ⟨s₂, o, g1, g2, g3, g4⟩ := G _ rfl
    exact ⟨s₂, o, castTop (ef_rm_low m _ _) g1, g2, g3, g4⟩
  intro Qf hQf
  obtain ⟨S_w0, E_w0, V_w0⟩ := id NF
  obtain ⟨lo, hi, zl, zh, E_xa, g_xa, F_lows_xa, F_highs_xa, V_lo, V_hi, ne_lo_xa, ne_hi_xa, glo, ghi, nelh, hzl25⟩ := id hSA
  refine Goes.to (T' := s₁.setTop (mkF m 1 #[.val (.ref xa), .val (.int p1)] [(.int p1)])) (fun t k => XS.iloadN X0.here hx rfl (hb hby d16_0) rfl k) ?_
  refine Goes.to (T' := s₁.setTop (mkF m 2 #[.val (.ref xa), .val (.int p1)] [(.ref xa), (.int p1)])) (fun t k => XS.aloadN X0.here hx rfl (hb hby d16_1) rfl rfl k) ?_
  obtain ⟨T1, X1, e1, st1⟩ := getF X0 hx hZ hown (host := "") (Or.inl (hw _ (mi 11 rfl))) Via.refl e0 F_lows_xa (g := (mkF m 2 #[.val (.ref xa), .val (.int p1)] [(.ref xa), (.int p1)])) rfl rfl (hb hby d16_2)
  refine Goes.to (T' := T1.setTop (mkF m 5 #[.val (.ref xa), .val (.int p1)] [(.ref lo), (.int p1)])) st1 ?_
  obtain ⟨cl2, Ar2, S2, Ng2, H2, G2⟩ := id V_lo
  refine Goes.to (T' := T1.setTop (mkF m 6 #[.val (.ref xa), .val (.int p1)] [(.int zl), (.int p1)])) (fun t k => X1.arraylength hx (by rw [e1]; exact Ar2.1) (State.isArrayOf_alike hZ.alike Ar2.2.1) (g := (mkF m 5 #[.val (.ref xa), .val (.int p1)] [(.ref lo), (.int p1)])) rfl rfl (hb hby d16_5) _ (by rw [len_of S2 Ng2]; exact k)) ?_
  rcases Decidable.em (p1 < zl) with hc6_3 | hc6_3
  · skip
    refine Goes.to (T' := T1.setTop (mkF m 9 #[.val (.ref xa), .val (.int p1)] [])) (fun t k => XS.icmpNo X1.here hx rfl (hb hby d16_6) rfl (tlt hc6_3).2.1 k) ?_
    refine Goes.to (T' := T1.setTop (mkF m 10 #[.val (.ref xa), .val (.int p1)] [(.ref xa)])) (fun t k => XS.aloadN X1.here hx rfl (hb hby d16_9) rfl rfl k) ?_
    obtain ⟨T4, X4, e4, st4⟩ := getF X1 hx hZ hown (host := "") (Or.inl (hw _ (mi 11 rfl))) Via.refl e1 F_lows_xa (g := (mkF m 10 #[.val (.ref xa), .val (.int p1)] [(.ref xa)])) rfl rfl (hb hby d16_10)
    refine Goes.to (T' := T4.setTop (mkF m 13 #[.val (.ref xa), .val (.int p1)] [(.ref lo)])) st4 ?_
    refine Goes.to (T' := T4.setTop (mkF m 14 #[.val (.ref xa), .val (.int p1)] [(.int p1), (.ref lo)])) (fun t k => XS.iloadN X4.here hx rfl (hb hby d16_13) rfl k) ?_
    obtain ⟨cl5, Ar5, S5, Ng5, H5, Hz5⟩ := id V_lo
    have hin5 : ¬ (p1 < 0 ∨ cl5.slots.size ≤ (p1).toNatClampNeg) := inb_of S5 ⟨hp, hc6_3⟩
    refine Goes.to (T' := T4.setTop (mkF m 15 #[.val (.ref xa), .val (.int p1)] [(.long (ff (p1).toNatClampNeg))])) (X4.laload hx (j := p1) (v := (.long (ff (p1).toNatClampNeg))) (by rw [e4]; exact Ar5.1) (State.isArrayOf_alike hZ.alike Ar5.2.1) Ar5.2.2 hin5 (H5 _ (Nat.lt_of_not_le fun q => hin5 (Or.inr (Nat.le_trans (Nat.le_of_eq S5) q)))) (g := (mkF m 14 #[.val (.ref xa), .val (.int p1)] [(.int p1), (.ref lo)])) rfl rfl (hb hby d16_14)) ?_
    refine Goes.to (T' := T4.setTop (mkF m 19 #[.val (.ref xa), .val (.int p1)] [(.long (ff (p1).toNatClampNeg))])) (fun t k => XS.goto X4.here hx rfl (pc0 := 15) (pc' := 19) rfl (hb hby d16_15) (by decide) (by decide) k) ?_
    obtain ⟨fs, hrL, hrun, hended, hW, hsame⟩ := X4.leave (v := some (.long (ff (p1).toNatClampNeg))) (fun h => by rw [Bd.returns] at h; cases h)
    subst hQf
    refine ⟨_, _, retOut X4 hx Bd.returns rfl (Or.inr (Or.inl ⟨rfl, rfl, _, rfl⟩)) (hb hby d16_19) hrL, hrun, hended, _, _, rfl, ?_, ⟨_, rfl⟩, hW, hsame.mono (by decide) (by decide)⟩
    show (fun (v : Option Value) (h : Heap) (L : List Loc) => v = some (.long (ff p1.toNatClampNeg)) ∧ Fr n0 L ∧ h = h0) (some (.long (ff (p1).toNatClampNeg))) T4.heap _
    rw [e4]
    exact ⟨rfl, N0, rfl⟩
  · skip
    refine Goes.to (T' := T1.setTop (mkF m 18 #[.val (.ref xa), .val (.int p1)] [])) (fun t k => XS.icmpYes X1.here hx rfl (pc0 := 6) (pc' := 18) rfl (hb hby d16_6) rfl (flt hc6_3).2.1 (by decide) (by decide) k) ?_
    refine Goes.to (T' := T1.setTop (mkF m 19 #[.val (.ref xa), .val (.int p1)] [(.long (0 : Int64))])) (fun t k => XS.lconst X1.here hx rfl (hb hby d16_18) k) ?_
    obtain ⟨fs, hrL, hrun, hended, hW, hsame⟩ := X1.leave (v := some (.long (0 : Int64))) (fun h => by rw [Bd.returns] at h; cases h)
    subst hQf
    refine ⟨_, _, retOut X1 hx Bd.returns rfl (Or.inr (Or.inl ⟨rfl, rfl, _, rfl⟩)) (hb hby d16_19) hrL, hrun, hended, _, _, rfl, ?_, ⟨_, rfl⟩, hW, hsame.mono (by decide) (by decide)⟩
    show (fun (v : Option Value) (h : Heap) (L : List Loc) => v = some (.long (ff p1.toNatClampNeg)) ∧ Fr n0 L ∧ h = h0) (some (.long (0 : Int64))) T1.heap _
    rw [e1]
    obtain ⟨-, -, -, hz0, -, Hz0⟩ := id V_lo
    have hv : (0 : Int64) = ff p1.toNatClampNeg := (Hz0 _ (Nat.le_of_not_lt fun q => hc6_3 ((own_nat hp hz0).mpr q))).symm
    exact ⟨by rw [hv], N0, rfl⟩
theorem pd_152 : parseMethodDescriptor "(I)J" = some ⟨[.int], some .long⟩ := by decide +kernel
theorem d15_0 : decode prog_38_method_4_code 0 = .ok (.aload_n 0, 1) := by decide +kernel
theorem d15_1 : decode prog_38_method_4_code 1 = .ok (.iload_n 1, 1) := by decide +kernel
theorem d15_2 : decode prog_38_method_4_code 2 = .ok (.invokevirtual 23, 3) := by decide +kernel
theorem d15_5 : decode prog_38_method_4_code 5 = .ok (.lconst 0, 1) := by decide +kernel
theorem d15_6 : decode prog_38_method_4_code 6 = .ok (.lcmp, 1) := by decide +kernel
theorem d15_7 : decode prog_38_method_4_code 7 = .ok (.ifCond .ne 21, 3) := by decide +kernel
theorem d15_10 : decode prog_38_method_4_code 10 = .ok (.aload_n 0, 1) := by decide +kernel
theorem d15_11 : decode prog_38_method_4_code 11 = .ok (.iload_n 1, 1) := by decide +kernel
theorem d15_12 : decode prog_38_method_4_code 12 = .ok (.invokevirtual 27, 3) := by decide +kernel
theorem d15_15 : decode prog_38_method_4_code 15 = .ok (.lconst 0, 1) := by decide +kernel
theorem d15_16 : decode prog_38_method_4_code 16 = .ok (.lcmp, 1) := by decide +kernel
theorem d15_17 : decode prog_38_method_4_code 17 = .ok (.ifCond .lt 11, 3) := by decide +kernel
theorem d15_20 : decode prog_38_method_4_code 20 = .ok (.aload_n 0, 1) := by decide +kernel
theorem d15_21 : decode prog_38_method_4_code 21 = .ok (.iload_n 1, 1) := by decide +kernel
theorem d15_22 : decode prog_38_method_4_code 22 = .ok (.invokevirtual 27, 3) := by decide +kernel
theorem d15_25 : decode prog_38_method_4_code 25 = .ok (.goto 6, 3) := by decide +kernel
theorem d15_28 : decode prog_38_method_4_code 28 = .ok (.ldc2_w 65, 3) := by decide +kernel
theorem d15_31 : decode prog_38_method_4_code 31 = .ok (.lreturn, 1) := by decide +kernel
theorem pn_15 : plainName "com/example/suretyline/suretyline/Sums" = true := by first | (simp [plainName, overriddenIn]; done) | decide +kernel
theorem ef_rmUn (m : MethodId) (x0 : Addr) (x1 : Int32) : entryFrame m #[(.ref x0), (.int x1)] 2 = mkF m 0 #[.val (.ref x0), .val (.int x1)] [] := by first | (simp [entryFrame, mkF, argsToLocals, Value.category]; done) | rfl
def Q_rmUn (Z : State) (xa : Addr) (p1 : Int32) (w0 : Addr) (k_w0 : ClassId) (ff : Nat → Int64) (gg : Nat → Int64) (r : Int64) (h0 : Heap) (n0 : Nat) (v : Option Value) (h : Heap) (L : List Loc) : Prop := v = some (.long r) ∧ Fr n0 L ∧ h = h0
set_option maxRecDepth 65536 in
set_option maxHeartbeats 40000000 in
theorem rmUn (l : Launch) (Z : State) (a0 : Array Value) (hw : ∀ d ∈ tables_1, d.before a0 Z = true) (ws : List Jvm.Cond) (xa : Addr) (p1 : Int32) (w0 : Addr) (k_w0 : ClassId) (ff : Nat → Int64) (gg : Nat → Int64) (r : Int64) (h0 : Heap) (n0 : Nat) (O0 : Old Z n0 h0) (NF : Nar Z w0 k_w0) (hSA : SA Z h0 n0 xa ff gg) (hp : ¬ p1 < 0) (hr : r = if gg p1.toNatClampNeg = 0 ∧ ¬ ff p1.toNatClampNeg < 0 then ff p1.toNatClampNeg else -1) :
    MetFree l (⟨"com/example/suretyline/suretyline/Sums", "units", "(I)J"⟩ : MethodName) (head1 (Jvm.Cond.code (⟨"com/example/suretyline/suretyline/Sums", "units", "(I)J"⟩ : MethodName) prog_38_method_4_code 2 (some .long) :: ws) ({ frames := 1, cells := 0, slots := 0, locals := 32 } : Room)) (fun a U => a = #[(.ref xa), (.int p1)] ∧ Z.Warmed39 U.vm ∧ U.heap = h0) (fun _ _ _ _ _ => True) (fun _ U o U' => ∃ v L, o = .returned v ∧ Q_rmUn Z xa p1 w0 k_w0 ff gg r h0 n0 v U'.heap L ∧ FrameEnd U o U' L ({ frames := 1, cells := 0, slots := 0, locals := 32 } : Room).cells ({ frames := 1, cells := 0, slots := 0, locals := 32 } : Room).slots) := by
  refine MetFree.of_bodySF (plainFor_of_name pn_15) hisR ?_
  intro p e s m args below meth c s₁ Bd hml0 hP hK
  obtain ⟨rfl, hZ, hh⟩ := hP
  have hx := Bd.exec
  have hby := Bd.bytes
  have hml : c.maxLocals = 2 := hml0
  have hown : s.vm.findClass "com/example/suretyline/suretyline/Sums" = some m.cls := findClass_of_methodNamed Bd.named
  have hnm := (name_of_methodNamed Bd.named Bd.method).1
  have X0 : Stand p l e ({ frames := 1, cells := 0, slots := 0, locals := 32 } : Room) s m #[(.ref xa), (.int p1)] below meth c s₁ [] 0 0 := Stand.of_body Bd
  have e0 : s₁.heap = h0 := by rw [← hh, Bd.state]; rfl
  have N0 := Fr.nil n0
  suffices G : ∀ (Qf : Outcome → State → Prop), Qf = (fun (_ : Array Value) (U : State) (o : Outcome) (U' : State) => ∃ v L, o = .returned v ∧ Q_rmUn Z xa p1 w0 k_w0 ff gg r h0 n0 v U'.heap L ∧ FrameEnd U o U' L ({ frames := 1, cells := 0, slots := 0, locals := 32 } : Room).cells ({ frames := 1, cells := 0, slots := 0, locals := 32 } : Room).slots) #[] s → Goes p.tables e below Qf (s₁.setTop (mkF m 0 #[.val (.ref xa), .val (.int p1)] [])) by
    obtain ⟨s₂, o, g1, g2, g3, g4⟩ := G _ rfl
    exact ⟨s₂, o, castTop (ef_rmUn m _ _) g1, g2, g3, g4⟩
  intro Qf hQf
  obtain ⟨S_w0, E_w0, V_w0⟩ := id NF
  obtain ⟨lo, hi, zl, zh, E_xa, g_xa, F_lows_xa, F_highs_xa, V_lo, V_hi, ne_lo_xa, ne_hi_xa, glo, ghi, nelh, hzl25⟩ := id hSA
  refine Goes.to (T' := s₁.setTop (mkF m 1 #[.val (.ref xa), .val (.int p1)] [(.ref xa)])) (fun t k => XS.aloadN X0.here hx rfl (hb hby d15_0) rfl rfl k) ?_
  refine Goes.to (T' := s₁.setTop (mkF m 2 #[.val (.ref xa), .val (.int p1)] [(.int p1), (.ref xa)])) (fun t k => XS.iloadN X0.here hx rfl (hb hby d15_1) rfl k) ?_
  obtain ⟨cq1, q1, q1'⟩ := E_xa.cell
  obtain ⟨_, _, ⟨T1, L1, k1, n1⟩, -, X1, ⟨Lc1, hQ1, l1, y1, z1⟩, st1⟩ := X0.privateBack hx (y := (⟨"com/example/suretyline/suretyline/Sums", "high", "(I)J"⟩ : MethodName)) hown (mvT hZ (hw _ (mi 53 rfl))) (mvT hZ (hw _ (mi 54 rfl))) (own_selp (args := #[]) (mvT hZ (hw _ (mi 1 rfl))) (mvP hZ (hw _ (mi 55 rfl))) (mvT hZ (hw _ (mi 54 rfl))) (by decide)) (Cond.privateMethod_at (mvP hZ (hw _ (mi 55 rfl)) (args := #[]))) (mvT hZ (hw _ (mi 56 rfl))) (by decide) (backOf (W := 0) (rm_high l Z a0 hw [] xa p1 w0 k_w0 ff gg h0 n0 O0 NF hSA hp) hZ (hw _ (mi 56 rfl)) (hw _ (mi 2 rfl)) (by decide) (by decide)) (g := (mkF m 2 #[.val (.ref xa), .val (.int p1)] [(.int p1), (.ref xa)])) rfl (by rw [hml]; rfl) (Steps.refl _) (a := xa) (by rw [e0]; exact q1) q1' (argsL := [(.int p1)]) (rest := []) (lenOf pd_152 rfl) rfl (by show 2 * 0 + _ ≤ _; exact Nat.le_of_eq rfl) (hb hby d15_2) (fun _ _ => ⟨rfl, e0, (by decide : 0 + 0 ≤ _), (by decide : 0 + 0 ≤ _)⟩)
  dsimp only [Pt.U, Pt.locs, Pt.cells, Pt.slots] at X1 l1 y1 z1 st1 hQ1
  subst l1 y1 z1
  obtain ⟨rfl, Nq1, e1⟩ := hQ1
  have N1 := Fr.app N0 Nq1
  refine Goes.thru (T' := T1.setTop (mkF m 5 #[.val (.ref xa), .val (.int p1)] [(.long (gg p1.toNatClampNeg))])) st1 ?_
  refine Goes.to (T' := T1.setTop (mkF m 6 #[.val (.ref xa), .val (.int p1)] [(.long (0 : Int64)), (.long (gg p1.toNatClampNeg))])) (fun t k => XS.lconst X1.here hx rfl (hb hby d15_5) k) ?_
  refine Goes.to (T' := T1.setTop (mkF m 7 #[.val (.ref xa), .val (.int p1)] [(.int (lcmpW (gg p1.toNatClampNeg) (0 : Int64)))])) (fun t k => XS.lcmp X1.here hx rfl (hb hby d15_6) rfl k) ?_
  rcases Decidable.em ((gg p1.toNatClampNeg) = (0 : Int64)) with hc7_2 | hc7_2
  · skip
    refine Goes.to (T' := T1.setTop (mkF m 10 #[.val (.ref xa), .val (.int p1)] [])) (fun t k => XS.ifNo X1.here hx rfl (hb hby d15_7) rfl ((if0 _ _).trans (teq ((lw_eq (gg p1.toNatClampNeg) (0 : Int64)).mpr hc7_2)).2) k) ?_
    refine Goes.to (T' := T1.setTop (mkF m 11 #[.val (.ref xa), .val (.int p1)] [(.ref xa)])) (fun t k => XS.aloadN X1.here hx rfl (hb hby d15_10) rfl rfl k) ?_
    refine Goes.to (T' := T1.setTop (mkF m 12 #[.val (.ref xa), .val (.int p1)] [(.int p1), (.ref xa)])) (fun t k => XS.iloadN X1.here hx rfl (hb hby d15_11) rfl k) ?_
    obtain ⟨cq3, q3, q3'⟩ := E_xa.cell
    obtain ⟨_, _, ⟨T3, L3, k3, n3⟩, -, X3, ⟨Lc3, hQ3, l3, y3, z3⟩, st3⟩ := X1.privateBack hx (y := (⟨"com/example/suretyline/suretyline/Sums", "low", "(I)J"⟩ : MethodName)) hown (mvT hZ (hw _ (mi 76 rfl))) (mvT hZ (hw _ (mi 77 rfl))) (own_selp (args := #[]) (mvT hZ (hw _ (mi 1 rfl))) (mvP hZ (hw _ (mi 78 rfl))) (mvT hZ (hw _ (mi 77 rfl))) (by decide)) (Cond.privateMethod_at (mvP hZ (hw _ (mi 78 rfl)) (args := #[]))) (mvT hZ (hw _ (mi 79 rfl))) (by decide) (backOf (W := 0) (rm_low l Z a0 hw [] xa p1 w0 k_w0 ff gg h0 n0 O0 NF hSA hp) hZ (hw _ (mi 79 rfl)) (hw _ (mi 2 rfl)) (by decide) (by decide)) (g := (mkF m 12 #[.val (.ref xa), .val (.int p1)] [(.int p1), (.ref xa)])) rfl (by rw [hml]; rfl) (Steps.refl _) (a := xa) (by rw [e1]; exact q3) q3' (argsL := [(.int p1)]) (rest := []) (lenOf pd_152 rfl) rfl (by show 2 * 0 + _ ≤ _; exact Nat.le_of_eq rfl) (hb hby d15_12) (fun _ _ => ⟨rfl, e1, (by decide : 0 + 0 ≤ _), (by decide : 0 + 0 ≤ _)⟩)
    dsimp only [Pt.U, Pt.locs, Pt.cells, Pt.slots] at X3 l3 y3 z3 st3 hQ3
    subst l3 y3 z3
    obtain ⟨rfl, Nq3, e3⟩ := hQ3
    have N3 := Fr.app N1 Nq3
    refine Goes.thru (T' := T3.setTop (mkF m 15 #[.val (.ref xa), .val (.int p1)] [(.long (ff p1.toNatClampNeg))])) st3 ?_
    refine Goes.to (T' := T3.setTop (mkF m 16 #[.val (.ref xa), .val (.int p1)] [(.long (0 : Int64)), (.long (ff p1.toNatClampNeg))])) (fun t k => XS.lconst X3.here hx rfl (hb hby d15_15) k) ?_
    refine Goes.to (T' := T3.setTop (mkF m 17 #[.val (.ref xa), .val (.int p1)] [(.int (lcmpW (ff p1.toNatClampNeg) (0 : Int64)))])) (fun t k => XS.lcmp X3.here hx rfl (hb hby d15_16) rfl k) ?_
    rcases Decidable.em ((ff p1.toNatClampNeg) < (0 : Int64)) with hc17_4 | hc17_4
    · skip
      refine Goes.to (T' := T3.setTop (mkF m 28 #[.val (.ref xa), .val (.int p1)] [])) (fun t k => XS.ifYes X3.here hx rfl (pc0 := 17) (pc' := 28) rfl (hb hby d15_17) rfl ((if0 _ _).trans (tlt ((lw_lt (ff p1.toNatClampNeg) (0 : Int64)).mpr hc17_4)).1) (by decide) (by decide) k) ?_
      refine Goes.to (T' := T3.setTop (mkF m 31 #[.val (.ref xa), .val (.int p1)] [(.long (-1 : Int64))])) (X3.ldc2Long hx hown (mvT hZ (hw _ (mi 80 rfl))) (g := (mkF m 28 #[.val (.ref xa), .val (.int p1)] [])) rfl (hb hby d15_28)) ?_
      obtain ⟨fs, hrL, hrun, hended, hW, hsame⟩ := X3.leave (v := some (.long (-1 : Int64))) (fun h => by rw [Bd.returns] at h; cases h)
      subst hQf
      refine ⟨_, _, retOut X3 hx Bd.returns rfl (Or.inr (Or.inl ⟨rfl, rfl, _, rfl⟩)) (hb hby d15_31) hrL, hrun, hended, _, _, rfl, ?_, ⟨_, rfl⟩, hW, hsame.mono (by decide) (by decide)⟩
      show (fun (v : Option Value) (h : Heap) (L : List Loc) => v = some (.long r) ∧ Fr n0 L ∧ h = h0) (some (.long (-1 : Int64))) T3.heap _
      rw [e3]
      have hv : (-1 : Int64) = r := by rw [hr]; first | (simp [hc7_2, hc17_4]; done) | ((repeat' split) <;> first | rfl | contradiction | simp_all)
      exact ⟨by rw [hv], N3, rfl⟩
    · skip
      refine Goes.to (T' := T3.setTop (mkF m 20 #[.val (.ref xa), .val (.int p1)] [])) (fun t k => XS.ifNo X3.here hx rfl (hb hby d15_17) rfl ((if0 _ _).trans (flt (fun q => hc17_4 ((lw_lt (ff p1.toNatClampNeg) (0 : Int64)).mp q))).1) k) ?_
      refine Goes.to (T' := T3.setTop (mkF m 21 #[.val (.ref xa), .val (.int p1)] [(.ref xa)])) (fun t k => XS.aloadN X3.here hx rfl (hb hby d15_20) rfl rfl k) ?_
      refine Goes.to (T' := T3.setTop (mkF m 22 #[.val (.ref xa), .val (.int p1)] [(.int p1), (.ref xa)])) (fun t k => XS.iloadN X3.here hx rfl (hb hby d15_21) rfl k) ?_
      obtain ⟨cq5, q5, q5'⟩ := E_xa.cell
      obtain ⟨_, _, ⟨T5, L5, k5, n5⟩, -, X5, ⟨Lc5, hQ5, l5, y5, z5⟩, st5⟩ := X3.privateBack hx (y := (⟨"com/example/suretyline/suretyline/Sums", "low", "(I)J"⟩ : MethodName)) hown (mvT hZ (hw _ (mi 76 rfl))) (mvT hZ (hw _ (mi 77 rfl))) (own_selp (args := #[]) (mvT hZ (hw _ (mi 1 rfl))) (mvP hZ (hw _ (mi 78 rfl))) (mvT hZ (hw _ (mi 77 rfl))) (by decide)) (Cond.privateMethod_at (mvP hZ (hw _ (mi 78 rfl)) (args := #[]))) (mvT hZ (hw _ (mi 79 rfl))) (by decide) (backOf (W := 0) (rm_low l Z a0 hw [] xa p1 w0 k_w0 ff gg h0 n0 O0 NF hSA hp) hZ (hw _ (mi 79 rfl)) (hw _ (mi 2 rfl)) (by decide) (by decide)) (g := (mkF m 22 #[.val (.ref xa), .val (.int p1)] [(.int p1), (.ref xa)])) rfl (by rw [hml]; rfl) (Steps.refl _) (a := xa) (by rw [e3]; exact q5) q5' (argsL := [(.int p1)]) (rest := []) (lenOf pd_152 rfl) rfl (by show 2 * 0 + _ ≤ _; exact Nat.le_of_eq rfl) (hb hby d15_22) (fun _ _ => ⟨rfl, e3, (by decide : 0 + 0 ≤ _), (by decide : 0 + 0 ≤ _)⟩)
      dsimp only [Pt.U, Pt.locs, Pt.cells, Pt.slots] at X5 l5 y5 z5 st5 hQ5
      subst l5 y5 z5
      obtain ⟨rfl, Nq5, e5⟩ := hQ5
      have N5 := Fr.app N3 Nq5
      refine Goes.thru (T' := T5.setTop (mkF m 25 #[.val (.ref xa), .val (.int p1)] [(.long (ff p1.toNatClampNeg))])) st5 ?_
      refine Goes.to (T' := T5.setTop (mkF m 31 #[.val (.ref xa), .val (.int p1)] [(.long (ff p1.toNatClampNeg))])) (fun t k => XS.goto X5.here hx rfl (pc0 := 25) (pc' := 31) rfl (hb hby d15_25) (by decide) (by decide) k) ?_
      obtain ⟨fs, hrL, hrun, hended, hW, hsame⟩ := X5.leave (v := some (.long (ff p1.toNatClampNeg))) (fun h => by rw [Bd.returns] at h; cases h)
      subst hQf
      refine ⟨_, _, retOut X5 hx Bd.returns rfl (Or.inr (Or.inl ⟨rfl, rfl, _, rfl⟩)) (hb hby d15_31) hrL, hrun, hended, _, _, rfl, ?_, ⟨_, rfl⟩, hW, hsame.mono (by decide) (by decide)⟩
      show (fun (v : Option Value) (h : Heap) (L : List Loc) => v = some (.long r) ∧ Fr n0 L ∧ h = h0) (some (.long (ff p1.toNatClampNeg))) T5.heap _
      rw [e5]
      have hv : (ff p1.toNatClampNeg) = r := by rw [hr]; first | (simp [hc7_2, hc17_4]; done) | ((repeat' split) <;> first | rfl | contradiction | simp_all)
      exact ⟨by rw [hv], N5, rfl⟩
  · skip
    refine Goes.to (T' := T1.setTop (mkF m 28 #[.val (.ref xa), .val (.int p1)] [])) (fun t k => XS.ifYes X1.here hx rfl (pc0 := 7) (pc' := 28) rfl (hb hby d15_7) rfl ((if0 _ _).trans (feq (fun q => hc7_2 ((lw_eq (gg p1.toNatClampNeg) (0 : Int64)).mp q))).2) (by decide) (by decide) k) ?_
    refine Goes.to (T' := T1.setTop (mkF m 31 #[.val (.ref xa), .val (.int p1)] [(.long (-1 : Int64))])) (X1.ldc2Long hx hown (mvT hZ (hw _ (mi 80 rfl))) (g := (mkF m 28 #[.val (.ref xa), .val (.int p1)] [])) rfl (hb hby d15_28)) ?_
    obtain ⟨fs, hrL, hrun, hended, hW, hsame⟩ := X1.leave (v := some (.long (-1 : Int64))) (fun h => by rw [Bd.returns] at h; cases h)
    subst hQf
    refine ⟨_, _, retOut X1 hx Bd.returns rfl (Or.inr (Or.inl ⟨rfl, rfl, _, rfl⟩)) (hb hby d15_31) hrL, hrun, hended, _, _, rfl, ?_, ⟨_, rfl⟩, hW, hsame.mono (by decide) (by decide)⟩
    show (fun (v : Option Value) (h : Heap) (L : List Loc) => v = some (.long r) ∧ Fr n0 L ∧ h = h0) (some (.long (-1 : Int64))) T1.heap _
    rw [e1]
    have hv : (-1 : Int64) = r := by rw [hr]; first | (simp [hc7_2]; done) | ((repeat' split) <;> first | rfl | contradiction | simp_all)
    exact ⟨by rw [hv], N1, rfl⟩
theorem own_grow {p z : Int32} (hp : ¬ p < 0) (hp16 : p < (16 : Int32)) (hz : ¬ p < z) (hz0 : ¬ z < 0) {m r : Int32} (hm : m = z ∨ m = (z + z / 2) ∨ (¬ m < 0 ∧ m < (25 : Int32))) (hr : r = if (p + 1) < m then m else (p + 1)) : z < r ∧ ¬ r < 0 ∧ r.toNatClampNeg ≤ 24 ∧ p < r := by
  have e0 : (0 : Int32).toInt = 0 := rfl
  have e1 : (1 : Int32).toInt = 1 := rfl
  have e16 : (16 : Int32).toInt = 16 := rfl
  have e25 : (25 : Int32).toInt = 25 := rfl
  have c1 := c_iadd p 1
  have c2 := c_iadd z (z / 2)
  have c3 := c_idiv z 2 2 rfl (by decide)
  have l1 := Int32.toInt_lt (p + 1)
  have l2 := Int32.le_toInt (p + 1)
  have l3 := Int32.toInt_lt (z + z / 2)
  have l4 := Int32.le_toInt (z + z / 2)
  simp only [Int32.lt_iff_toInt_lt, e0, e1, e16, e25] at *
  have hm' : m.toInt = z.toInt ∨ m.toInt = (z + z / 2).toInt ∨ (¬ m.toInt < 0 ∧ m.toInt < 25) := by
    rcases hm with q | q | q
    · exact Or.inl (congrArg _ q)
    · exact Or.inr (Or.inl (congrArg _ q))
    · exact Or.inr (Or.inr q)
  have hr' : r.toInt = if (p + 1).toInt < m.toInt then m.toInt else (p + 1).toInt := by rw [hr]; split <;> rfl
  have zz : (z / 2).toInt = z.toInt / 2 := c3.1 (by omega)
  have zle : z.toInt ≤ 15 := by omega
  have zs : (z + z / 2).toInt = z.toInt + z.toInt / 2 := by omega
  have ps : (p + 1).toInt = p.toInt + 1 := by omega
  rw [zs] at hm'
  rw [ps] at hr'
  clear c1 c2 c3 zs ps zz hm hr l1 l2 l3 l4
  simp only [Int32.toNatClampNeg]
  split at hr' <;> omega
theorem pd_172 : parseMethodDescriptor "([JI)[J" = some ⟨[(.array .long), .int], some (.array .long)⟩ := by decide +kernel
theorem d12_0 : decode prog_38_method_11_code 0 = .ok (.iload_n 1, 1) := by decide +kernel
theorem d12_1 : decode prog_38_method_11_code 1 = .ok (.aload_n 0, 1) := by decide +kernel
theorem d12_2 : decode prog_38_method_11_code 2 = .ok (.getfield 16, 3) := by decide +kernel
theorem d12_5 : decode prog_38_method_11_code 5 = .ok (.arraylength, 1) := by decide +kernel
theorem d12_6 : decode prog_38_method_11_code 6 = .ok (.if_icmp .lt 25, 3) := by decide +kernel
theorem d12_9 : decode prog_38_method_11_code 9 = .ok (.aload_n 0, 1) := by decide +kernel
theorem d12_10 : decode prog_38_method_11_code 10 = .ok (.aload_n 0, 1) := by decide +kernel
theorem d12_11 : decode prog_38_method_11_code 11 = .ok (.getfield 16, 3) := by decide +kernel
theorem d12_14 : decode prog_38_method_11_code 14 = .ok (.iload_n 1, 1) := by decide +kernel
theorem d12_15 : decode prog_38_method_11_code 15 = .ok (.iconst 1, 1) := by decide +kernel
theorem d12_16 : decode prog_38_method_11_code 16 = .ok (.iadd, 1) := by decide +kernel
theorem d12_17 : decode prog_38_method_11_code 17 = .ok (.aload_n 0, 1) := by decide +kernel
theorem d12_18 : decode prog_38_method_11_code 18 = .ok (.getfield 13, 3) := by decide +kernel
theorem d12_21 : decode prog_38_method_11_code 21 = .ok (.arraylength, 1) := by decide +kernel
theorem d12_22 : decode prog_38_method_11_code 22 = .ok (.invokestatic 87, 3) := by decide +kernel
theorem d12_25 : decode prog_38_method_11_code 25 = .ok (.invokestatic 93, 3) := by decide +kernel
theorem d12_28 : decode prog_38_method_11_code 28 = .ok (.putfield 16, 3) := by decide +kernel
theorem d12_31 : decode prog_38_method_11_code 31 = .ok (.return_, 1) := by decide +kernel
theorem pn_12 : plainName "com/example/suretyline/suretyline/Sums" = true := by first | (simp [plainName, overriddenIn]; done) | decide +kernel
theorem ef_rmEn (m : MethodId) (x0 : Addr) (x1 : Int32) : entryFrame m #[(.ref x0), (.int x1)] 2 = mkF m 0 #[.val (.ref x0), .val (.int x1)] [] := by first | (simp [entryFrame, mkF, argsToLocals, Value.category]; done) | rfl
def Q_rmEn (Z : State) (xa : Addr) (p1 : Int32) (w0 : Addr) (k_w0 : ClassId) (lo : Addr) (hi : Addr) (zl : Int32) (zh : Int32) (ff : Nat → Int64) (gg : Nat → Int64) (h0 : Heap) (n0 : Nat) (v : Option Value) (h : Heap) (L : List Loc) : Prop := v = none ∧ Fr n0 L ∧ Old Z n0 h ∧ ∃ (hi' : Addr) (zh' : Int32), p1 < zh' ∧ Exa Z h xa "com/example/suretyline/suretyline/Sums" ∧ Fld Z h xa "com/example/suretyline/suretyline/Sums" "lows" "[J" (.ref lo) ∧ Fld Z h xa "com/example/suretyline/suretyline/Sums" "highs" "[J" (.ref hi') ∧ La Z h lo zl ff ∧ La Z h hi' zh' gg ∧ n0 ≤ hi' ∧ hi' ≠ xa ∧ lo ≠ hi'
set_option maxRecDepth 65536 in
set_option maxHeartbeats 40000000 in
theorem rmEn (l : Launch) (Z : State) (a0 : Array Value) (hw : ∀ d ∈ tables_1, d.before a0 Z = true) (ws : List Jvm.Cond) (xa : Addr) (p1 : Int32) (w0 : Addr) (k_w0 : ClassId) (lo : Addr) (hi : Addr) (zl : Int32) (zh : Int32) (ff : Nat → Int64) (gg : Nat → Int64) (h0 : Heap) (n0 : Nat) (O0 : Old Z n0 h0) (NF : Nar Z w0 k_w0) (E_xa : Exa Z h0 xa "com/example/suretyline/suretyline/Sums") (F_lows_xa : Fld Z h0 xa "com/example/suretyline/suretyline/Sums" "lows" "[J" (.ref lo)) (F_highs_xa : Fld Z h0 xa "com/example/suretyline/suretyline/Sums" "highs" "[J" (.ref hi)) (V_lo : La Z h0 lo zl ff) (V_hi : La Z h0 hi zh gg) (g_xa : n0 ≤ xa) (ne_lo_xa : lo ≠ xa) (ne_hi_xa : hi ≠ xa) (g_lo : n0 ≤ lo) (ghi : n0 ≤ hi ∨ zh = 0) (ne_lo_hi : lo ≠ hi) (hp : ¬ p1 < 0) (hp16 : p1 < (16 : Int32)) (hzl25 : zl < (25 : Int32)) :
    MetFree l (⟨"com/example/suretyline/suretyline/Sums", "ensureHighs", "(I)V"⟩ : MethodName) (head1 (Jvm.Cond.code (⟨"com/example/suretyline/suretyline/Sums", "ensureHighs", "(I)V"⟩ : MethodName) prog_38_method_11_code 2 none :: ws) ({ frames := 2, cells := 1, slots := 24, locals := 112 } : Room)) (fun a U => a = #[(.ref xa), (.int p1)] ∧ Z.Warmed39 U.vm ∧ U.heap = h0) (fun _ _ _ _ _ => True) (fun _ U o U' => ∃ v L, o = .returned v ∧ Q_rmEn Z xa p1 w0 k_w0 lo hi zl zh ff gg h0 n0 v U'.heap L ∧ FrameEnd U o U' L ({ frames := 2, cells := 1, slots := 24, locals := 112 } : Room).cells ({ frames := 2, cells := 1, slots := 24, locals := 112 } : Room).slots) := by
  refine MetFree.of_bodySF (plainFor_of_name pn_12) hisR ?_
  intro p e s m args below meth c s₁ Bd hml0 hP hK
  obtain ⟨rfl, hZ, hh⟩ := hP
  have hx := Bd.exec
  have hby := Bd.bytes
  have hml : c.maxLocals = 2 := hml0
  have hown : s.vm.findClass "com/example/suretyline/suretyline/Sums" = some m.cls := findClass_of_methodNamed Bd.named
  have hnm := (name_of_methodNamed Bd.named Bd.method).1
  have X0 : Stand p l e ({ frames := 2, cells := 1, slots := 24, locals := 112 } : Room) s m #[(.ref xa), (.int p1)] below meth c s₁ [] 0 0 := Stand.of_body Bd
  have e0 : s₁.heap = h0 := by rw [← hh, Bd.state]; rfl
  have N0 := Fr.nil n0
  suffices G : ∀ (Qf : Outcome → State → Prop), Qf = (fun (_ : Array Value) (U : State) (o : Outcome) (U' : State) => ∃ v L, o = .returned v ∧ Q_rmEn Z xa p1 w0 k_w0 lo hi zl zh ff gg h0 n0 v U'.heap L ∧ FrameEnd U o U' L ({ frames := 2, cells := 1, slots := 24, locals := 112 } : Room).cells ({ frames := 2, cells := 1, slots := 24, locals := 112 } : Room).slots) #[] s → Goes p.tables e below Qf (s₁.setTop (mkF m 0 #[.val (.ref xa), .val (.int p1)] [])) by
    obtain ⟨s₂, o, g1, g2, g3, g4⟩ := G _ rfl
    exact ⟨s₂, o, castTop (ef_rmEn m _ _) g1, g2, g3, g4⟩
  intro Qf hQf
  obtain ⟨S_w0, E_w0, V_w0⟩ := id NF
  refine Goes.to (T' := s₁.setTop (mkF m 1 #[.val (.ref xa), .val (.int p1)] [(.int p1)])) (fun t k => XS.iloadN X0.here hx rfl (hb hby d12_0) rfl k) ?_
  refine Goes.to (T' := s₁.setTop (mkF m 2 #[.val (.ref xa), .val (.int p1)] [(.ref xa), (.int p1)])) (fun t k => XS.aloadN X0.here hx rfl (hb hby d12_1) rfl rfl k) ?_
  obtain ⟨T1, X1, e1, st1⟩ := getF X0 hx hZ hown (host := "") (Or.inl (hw _ (mi 13 rfl))) Via.refl e0 F_highs_xa (g := (mkF m 2 #[.val (.ref xa), .val (.int p1)] [(.ref xa), (.int p1)])) rfl rfl (hb hby d12_2)
  refine Goes.to (T' := T1.setTop (mkF m 5 #[.val (.ref xa), .val (.int p1)] [(.ref hi), (.int p1)])) st1 ?_
  obtain ⟨cl2, Ar2, S2, Ng2, H2, G2⟩ := id V_hi
  refine Goes.to (T' := T1.setTop (mkF m 6 #[.val (.ref xa), .val (.int p1)] [(.int zh), (.int p1)])) (fun t k => X1.arraylength hx (by rw [e1]; exact Ar2.1) (State.isArrayOf_alike hZ.alike Ar2.2.1) (g := (mkF m 5 #[.val (.ref xa), .val (.int p1)] [(.ref hi), (.int p1)])) rfl rfl (hb hby d12_5) _ (by rw [len_of S2 Ng2]; exact k)) ?_
  rcases Decidable.em (p1 < zh) with hc6_3 | hc6_3
  · skip
    refine Goes.to (T' := T1.setTop (mkF m 31 #[.val (.ref xa), .val (.int p1)] [])) (fun t k => XS.icmpYes X1.here hx rfl (pc0 := 6) (pc' := 31) rfl (hb hby d12_6) rfl (tlt hc6_3).1 (by decide) (by decide) k) ?_
    obtain ⟨fs, hrL, hrun, hended, hW, hsame⟩ := X1.leave (v := none) (fun _ => rfl)
    subst hQf
    refine ⟨_, _, X1.returnOut hx Bd.returns (hb hby d12_31) hrL, hrun, hended, _, _, rfl, ?_, ⟨_, rfl⟩, hW, hsame.mono (by decide) (by decide)⟩
    show (fun (v : Option Value) (h : Heap) (L : List Loc) => v = none ∧ Fr n0 L ∧ Old Z n0 h ∧ ∃ (hi' : Addr) (zh' : Int32), p1 < zh' ∧ Exa Z h xa "com/example/suretyline/suretyline/Sums" ∧ Fld Z h xa "com/example/suretyline/suretyline/Sums" "lows" "[J" (.ref lo) ∧ Fld Z h xa "com/example/suretyline/suretyline/Sums" "highs" "[J" (.ref hi') ∧ La Z h lo zl ff ∧ La Z h hi' zh' gg ∧ n0 ≤ hi' ∧ hi' ≠ xa ∧ lo ≠ hi') (none) T1.heap _
    rw [e1]
    have g_hi : n0 ≤ hi := ghi.resolve_right (own_pos hp hc6_3)
    exact ⟨rfl, N0, O0, hi, zh, hc6_3, E_xa, F_lows_xa, F_highs_xa, V_lo, V_hi, g_hi, ne_hi_xa, ne_lo_hi⟩
  · skip
    refine Goes.to (T' := T1.setTop (mkF m 9 #[.val (.ref xa), .val (.int p1)] [])) (fun t k => XS.icmpNo X1.here hx rfl (hb hby d12_6) rfl (flt hc6_3).1 k) ?_
    refine Goes.to (T' := T1.setTop (mkF m 10 #[.val (.ref xa), .val (.int p1)] [(.ref xa)])) (fun t k => XS.aloadN X1.here hx rfl (hb hby d12_9) rfl rfl k) ?_
    refine Goes.to (T' := T1.setTop (mkF m 11 #[.val (.ref xa), .val (.int p1)] [(.ref xa), (.ref xa)])) (fun t k => XS.aloadN X1.here hx rfl (hb hby d12_10) rfl rfl k) ?_
    obtain ⟨T4, X4, e4, st4⟩ := getF X1 hx hZ hown (host := "") (Or.inl (hw _ (mi 13 rfl))) Via.refl e1 F_highs_xa (g := (mkF m 11 #[.val (.ref xa), .val (.int p1)] [(.ref xa), (.ref xa)])) rfl rfl (hb hby d12_11)
    refine Goes.to (T' := T4.setTop (mkF m 14 #[.val (.ref xa), .val (.int p1)] [(.ref hi), (.ref xa)])) st4 ?_
    refine Goes.to (T' := T4.setTop (mkF m 15 #[.val (.ref xa), .val (.int p1)] [(.int p1), (.ref hi), (.ref xa)])) (fun t k => XS.iloadN X4.here hx rfl (hb hby d12_14) rfl k) ?_
    refine Goes.to (T' := T4.setTop (mkF m 16 #[.val (.ref xa), .val (.int p1)] [(.int (1 : Int32)), (.int p1), (.ref hi), (.ref xa)])) (fun t k => XS.iconst X4.here hx rfl (hb hby d12_15) k) ?_
    refine Goes.to (T' := T4.setTop (mkF m 17 #[.val (.ref xa), .val (.int p1)] [(.int (p1 + (1 : Int32))), (.ref hi), (.ref xa)])) (fun t k => XS.iadd X4.here hx rfl (hb hby d12_16) rfl k) ?_
    refine Goes.to (T' := T4.setTop (mkF m 18 #[.val (.ref xa), .val (.int p1)] [(.ref xa), (.int (p1 + (1 : Int32))), (.ref hi), (.ref xa)])) (fun t k => XS.aloadN X4.here hx rfl (hb hby d12_17) rfl rfl k) ?_
    obtain ⟨T5, X5, e5, st5⟩ := getF X4 hx hZ hown (host := "") (Or.inl (hw _ (mi 11 rfl))) Via.refl e4 F_lows_xa (g := (mkF m 18 #[.val (.ref xa), .val (.int p1)] [(.ref xa), (.int (p1 + (1 : Int32))), (.ref hi), (.ref xa)])) rfl rfl (hb hby d12_18)
    refine Goes.to (T' := T5.setTop (mkF m 21 #[.val (.ref xa), .val (.int p1)] [(.ref lo), (.int (p1 + (1 : Int32))), (.ref hi), (.ref xa)])) st5 ?_
    obtain ⟨cl6, Ar6, S6, Ng6, H6, G6⟩ := id V_lo
    refine Goes.to (T' := T5.setTop (mkF m 22 #[.val (.ref xa), .val (.int p1)] [(.int zl), (.int (p1 + (1 : Int32))), (.ref hi), (.ref xa)])) (fun t k => X5.arraylength hx (by rw [e5]; exact Ar6.1) (State.isArrayOf_alike hZ.alike Ar6.2.1) (g := (mkF m 21 #[.val (.ref xa), .val (.int p1)] [(.ref lo), (.int (p1 + (1 : Int32))), (.ref hi), (.ref xa)])) rfl rfl (hb hby d12_21) _ (by rw [len_of S6 Ng6]; exact k)) ?_
    obtain ⟨_, _, ⟨T7, L7, k7, n7⟩, -, X7, ⟨Lc7, hQ7, l7, y7, z7⟩, st7⟩ := Jvm.LawKit.callS X5 hx (y := (⟨"java/lang/Math", "max", "(II)I"⟩ : MethodName)) hown (mvT hZ (hw _ (mi 22 rfl))) (mvT hZ (hw _ (mi 23 rfl))) (mvT hZ (hw _ (mi 24 rfl))) (mvT hZ (hw _ (mi 25 rfl))) (by decide) (backOf (W := 2) (rmMax l Z a0 hw [] (p1 + (1 : Int32)) zl w0 k_w0 (if (p1 + (1 : Int32)) < zl then zl else (p1 + (1 : Int32))) h0 n0 O0 NF rfl) hZ (hw _ (mi 25 rfl)) (hw _ (mi 24 rfl)) (by decide) (by decide)) (g := (mkF m 22 #[.val (.ref xa), .val (.int p1)] [(.int zl), (.int (p1 + (1 : Int32))), (.ref hi), (.ref xa)])) rfl (by rw [hml]; rfl) (argsL := [(.int (p1 + (1 : Int32))), (.int zl)]) (rest := [(.ref hi), (.ref xa)]) (lenOf pd_106 rfl) rfl (by show 2 * 0 + _ ≤ _; exact Nat.le_of_eq rfl) (hb hby d12_22) (fun _ _ => ⟨rfl, e5, (by decide : 0 + 0 ≤ _), (by decide : 0 + 0 ≤ _)⟩)
    dsimp only [Pt.U, Pt.locs, Pt.cells, Pt.slots] at X7 l7 y7 z7 st7 hQ7
    subst l7 y7 z7
    obtain ⟨rfl, Nq7, e7⟩ := hQ7
    have N7 := Fr.app N0 Nq7
    refine Goes.to (T' := T7.setTop (mkF m 25 #[.val (.ref xa), .val (.int p1)] [(.int (if (p1 + (1 : Int32)) < zl then zl else (p1 + (1 : Int32)))), (.ref hi), (.ref xa)])) st7 ?_
    have hgr := own_grow hp hp16 hc6_3 (by obtain ⟨-, -, -, q, -⟩ := id V_hi; exact q) (z := zh) (Or.inr (Or.inr ⟨(by obtain ⟨-, -, -, q, -⟩ := id V_lo; exact q), hzl25⟩)) (rfl : (if (p1 + (1 : Int32)) < zl then zl else (p1 + (1 : Int32))) = _)
    obtain ⟨_, _, ⟨T8, L8, k8, n8⟩, -, X8, ⟨Lc8, hQ8, l8, y8, z8⟩, st8⟩ := Jvm.LawKit.callS X7 hx (y := (⟨"java/util/Arrays", "copyOf", "([JI)[J"⟩ : MethodName)) hown (mvT hZ (hw _ (mi 26 rfl))) (mvT hZ (hw _ (mi 27 rfl))) (mvT hZ (hw _ (mi 28 rfl))) (mvT hZ (hw _ (mi 29 rfl))) (by decide) (backOf (W := 1) (rmCp l Z a0 hw [] hi (if (p1 + (1 : Int32)) < zl then zl else (p1 + (1 : Int32))) w0 k_w0 zh gg h0 n0 O0 NF V_hi hgr.1 hgr.2.1 hgr.2.2.1) hZ (hw _ (mi 29 rfl)) (hw _ (mi 28 rfl)) (by decide) (by decide)) (g := (mkF m 25 #[.val (.ref xa), .val (.int p1)] [(.int (if (p1 + (1 : Int32)) < zl then zl else (p1 + (1 : Int32)))), (.ref hi), (.ref xa)])) rfl (by rw [hml]; rfl) (argsL := [(.ref hi), (.int (if (p1 + (1 : Int32)) < zl then zl else (p1 + (1 : Int32))))]) (rest := [(.ref xa)]) (lenOf pd_172 rfl) rfl (by show 2 * 0 + _ ≤ _; exact Nat.le_of_eq rfl) (hb hby d12_25) (fun _ _ => ⟨rfl, e7, (by decide : 0 + 1 ≤ _), (by decide : 0 + 24 ≤ _)⟩)
    dsimp only [Pt.U, Pt.locs, Pt.cells, Pt.slots] at X8 l8 y8 z8 st8 hQ8
    subst l8 y8 z8
    obtain ⟨⟨hn, rfl, gq8, szq8, V_hn⟩, Nq8, Ex8⟩ := hQ8
    have N8 := Fr.app N7 Nq8
    have g_hn : n0 ≤ hn := gq8
    have ne_xa_hn : xa ≠ hn := Nat.ne_of_lt (Nat.lt_of_lt_of_le E_xa.lt szq8)
    have ne_hn_xa := Ne.symm ne_xa_hn
    have ne_lo_hn : lo ≠ hn := Nat.ne_of_lt (Nat.lt_of_lt_of_le V_lo.lt szq8)
    have ne_hn_lo := Ne.symm ne_lo_hn
    have ne_hi_hn : hi ≠ hn := Nat.ne_of_lt (Nat.lt_of_lt_of_le V_hi.lt szq8)
    have ne_hn_hi := Ne.symm ne_hi_hn
    have E_xa := E_xa.ext Ex8
    have F_lows_xa := F_lows_xa.ext Ex8
    have F_highs_xa := F_highs_xa.ext Ex8
    have V_lo := V_lo.ext Ex8
    have V_hi := V_hi.ext Ex8
    have O0 := O0.ext Ex8
    refine Goes.to (T' := T8.setTop (mkF m 28 #[.val (.ref xa), .val (.int p1)] [(.ref hn), (.ref xa)])) st8 ?_
    obtain ⟨T9, h9, X9, e9, W9, st9⟩ := putF X8 hx hZ hown (host := "") (Or.inl (hw _ (mi 13 rfl))) Via.refl rfl F_highs_xa E_xa (Or.inl (hw _ (mi 14 rfl))) (hw _ (mi 1 rfl)) (ty := (.array .long)) (by decide) rfl rfl (g := (mkF m 28 #[.val (.ref xa), .val (.int p1)] [(.ref hn), (.ref xa)])) rfl rfl (hb hby d12_28)
    have F_highs_xa := F_highs_xa.same W9
    have E_xa := E_xa.wr W9
    have F_lows_xa := F_lows_xa.other W9 (Or.inr (slot_ne (Or.inl (hw _ (mi 12 rfl))) (Or.inl (hw _ (mi 14 rfl))) (by decide) (t := (.array .long)) (t' := (.array .long)) (by decide) (by decide)))
    have V_lo := V_lo.other W9 (ne_lo_xa)
    have V_hi := V_hi.other W9 (ne_hi_xa)
    have V_hn := V_hn.other W9 (ne_hn_xa)
    have O0 := O0.wr W9 g_xa
    have N9 := Fr.snoc X9 N8 g_xa
    refine Goes.to (T' := T9.setTop (mkF m 31 #[.val (.ref xa), .val (.int p1)] [])) st9 ?_
    obtain ⟨fs, hrL, hrun, hended, hW, hsame⟩ := X9.leave (v := none) (fun _ => rfl)
    subst hQf
    refine ⟨_, _, X9.returnOut hx Bd.returns (hb hby d12_31) hrL, hrun, hended, _, _, rfl, ?_, ⟨_, rfl⟩, hW, hsame.mono (by decide) (by decide)⟩
    show (fun (v : Option Value) (h : Heap) (L : List Loc) => v = none ∧ Fr n0 L ∧ Old Z n0 h ∧ ∃ (hi' : Addr) (zh' : Int32), p1 < zh' ∧ Exa Z h xa "com/example/suretyline/suretyline/Sums" ∧ Fld Z h xa "com/example/suretyline/suretyline/Sums" "lows" "[J" (.ref lo) ∧ Fld Z h xa "com/example/suretyline/suretyline/Sums" "highs" "[J" (.ref hi') ∧ La Z h lo zl ff ∧ La Z h hi' zh' gg ∧ n0 ≤ hi' ∧ hi' ≠ xa ∧ lo ≠ hi') (none) T9.heap _
    rw [e9]
    exact ⟨rfl, N9, O0, hn, _, hgr.2.2.2, E_xa, F_lows_xa, F_highs_xa, V_lo, V_hn, g_hn, ne_hn_xa, ne_lo_hn⟩
theorem d1_0 : decode prog_38_method_1_code 0 = .ok (.aload_n 0, 1) := by decide +kernel
theorem d1_1 : decode prog_38_method_1_code 1 = .ok (.invokespecial 1, 3) := by decide +kernel
theorem d1_4 : decode prog_38_method_1_code 4 = .ok (.aload_n 0, 1) := by decide +kernel
theorem d1_5 : decode prog_38_method_1_code 5 = .ok (.getstatic 7, 3) := by decide +kernel
theorem d1_8 : decode prog_38_method_1_code 8 = .ok (.putfield 13, 3) := by decide +kernel
theorem d1_11 : decode prog_38_method_1_code 11 = .ok (.aload_n 0, 1) := by decide +kernel
theorem d1_12 : decode prog_38_method_1_code 12 = .ok (.getstatic 7, 3) := by decide +kernel
theorem d1_15 : decode prog_38_method_1_code 15 = .ok (.putfield 16, 3) := by decide +kernel
theorem d1_18 : decode prog_38_method_1_code 18 = .ok (.aload_n 0, 1) := by decide +kernel
theorem d1_19 : decode prog_38_method_1_code 19 = .ok (.iload_n 1, 1) := by decide +kernel
theorem d1_20 : decode prog_38_method_1_code 20 = .ok (.putfield 19, 3) := by decide +kernel
theorem d1_23 : decode prog_38_method_1_code 23 = .ok (.return_, 1) := by decide +kernel
theorem pn_1 : plainName "com/example/suretyline/suretyline/Sums" = true := by first | (simp [plainName, overriddenIn]; done) | decide +kernel
theorem ef_rmS0 (m : MethodId) (x0 : Addr) (x1 : Int32) : entryFrame m #[(.ref x0), (.int x1)] 2 = mkF m 0 #[.val (.ref x0), .val (.int x1)] [] := by first | (simp [entryFrame, mkF, argsToLocals, Value.category]; done) | rfl
def Q_rmS0 (Z : State) (xa : Addr) (p1 : Int32) (w0 : Addr) (k_w0 : ClassId) (h0 : Heap) (n0 : Nat) (v : Option Value) (h : Heap) (L : List Loc) : Prop := v = none ∧ Fr n0 L ∧ Old Z n0 h ∧ SA Z h n0 xa (fun _ => 0) (fun _ => 0)
set_option maxRecDepth 65536 in
set_option maxHeartbeats 40000000 in
theorem rmS0 (l : Launch) (Z : State) (a0 : Array Value) (hw : ∀ d ∈ tables_1, d.before a0 Z = true) (ws : List Jvm.Cond) (xa : Addr) (p1 : Int32) (w0 : Addr) (k_w0 : ClassId) (h0 : Heap) (n0 : Nat) (O0 : Old Z n0 h0) (NF : Nar Z w0 k_w0) (E_xa : Exa Z h0 xa "com/example/suretyline/suretyline/Sums") (F_lows_xa : Fld Z h0 xa "com/example/suretyline/suretyline/Sums" "lows" "[J" .null) (F_highs_xa : Fld Z h0 xa "com/example/suretyline/suretyline/Sums" "highs" "[J" .null) (F_scale_xa : Fld Z h0 xa "com/example/suretyline/suretyline/Sums" "scale" "I" (.int (0 : Int32))) (g_xa : n0 ≤ xa) :
    MetFree l (⟨"com/example/suretyline/suretyline/Sums", "<init>", "(I)V"⟩ : MethodName) (head1 (Jvm.Cond.code (⟨"com/example/suretyline/suretyline/Sums", "<init>", "(I)V"⟩ : MethodName) prog_38_method_1_code 2 none :: ws) ({ frames := 1, cells := 0, slots := 0, locals := 12 } : Room)) (fun a U => a = #[(.ref xa), (.int p1)] ∧ Z.Warmed39 U.vm ∧ U.heap = h0) (fun _ _ _ _ _ => True) (fun _ U o U' => ∃ v L, o = .returned v ∧ Q_rmS0 Z xa p1 w0 k_w0 h0 n0 v U'.heap L ∧ FrameEnd U o U' L ({ frames := 1, cells := 0, slots := 0, locals := 12 } : Room).cells ({ frames := 1, cells := 0, slots := 0, locals := 12 } : Room).slots) := by
  refine MetFree.of_bodySF (plainFor_of_name pn_1) hisR ?_
  intro p e s m args below meth c s₁ Bd hml0 hP hK
  obtain ⟨rfl, hZ, hh⟩ := hP
  have hx := Bd.exec
  have hby := Bd.bytes
  have hml : c.maxLocals = 2 := hml0
  have hown : s.vm.findClass "com/example/suretyline/suretyline/Sums" = some m.cls := findClass_of_methodNamed Bd.named
  have hnm := (name_of_methodNamed Bd.named Bd.method).1
  have X0 : Stand p l e ({ frames := 1, cells := 0, slots := 0, locals := 12 } : Room) s m #[(.ref xa), (.int p1)] below meth c s₁ [] 0 0 := Stand.of_body Bd
  have e0 : s₁.heap = h0 := by rw [← hh, Bd.state]; rfl
  have N0 := Fr.nil n0
  suffices G : ∀ (Qf : Outcome → State → Prop), Qf = (fun (_ : Array Value) (U : State) (o : Outcome) (U' : State) => ∃ v L, o = .returned v ∧ Q_rmS0 Z xa p1 w0 k_w0 h0 n0 v U'.heap L ∧ FrameEnd U o U' L ({ frames := 1, cells := 0, slots := 0, locals := 12 } : Room).cells ({ frames := 1, cells := 0, slots := 0, locals := 12 } : Room).slots) #[] s → Goes p.tables e below Qf (s₁.setTop (mkF m 0 #[.val (.ref xa), .val (.int p1)] [])) by
    obtain ⟨s₂, o, g1, g2, g3, g4⟩ := G _ rfl
    exact ⟨s₂, o, castTop (ef_rmS0 m _ _) g1, g2, g3, g4⟩
  intro Qf hQf
  obtain ⟨S_w0, E_w0, V_w0⟩ := id NF
  refine Goes.to (T' := s₁.setTop (mkF m 1 #[.val (.ref xa), .val (.int p1)] [(.ref xa)])) (fun t k => XS.aloadN X0.here hx rfl (hb hby d1_0) rfl rfl k) ?_
  obtain ⟨T1, X1, e1, st1⟩ := initO X0 hx hZ hown (hw _ (mi 6 rfl)) (hw _ (mi 7 rfl)) (hw _ (mi 8 rfl)) e0 (g := (mkF m 1 #[.val (.ref xa), .val (.int p1)] [(.ref xa)])) rfl (by rw [hml]; rfl) rfl (hb hby d1_1) (by decide) (W := 0) (by show 2 * 0 + _ ≤ _; exact Nat.le_of_eq rfl) (by decide)
  refine Goes.to (T' := T1.setTop (mkF m 4 #[.val (.ref xa), .val (.int p1)] [])) st1 ?_
  refine Goes.to (T' := T1.setTop (mkF m 5 #[.val (.ref xa), .val (.int p1)] [(.ref xa)])) (fun t k => XS.aloadN X1.here hx rfl (hb hby d1_4) rfl rfl k) ?_
  obtain ⟨T2, X2, e2, st2⟩ := getS2 X1 hx hZ hown (host := "") (Or.inl (hw _ (mi 9 rfl))) Via.refl e1 (S_w0.ext O0.2) (g := (mkF m 5 #[.val (.ref xa), .val (.int p1)] [(.ref xa)])) rfl (hb hby d1_5)
  refine Goes.to (T' := T2.setTop (mkF m 8 #[.val (.ref xa), .val (.int p1)] [(.ref w0), (.ref xa)])) st2 ?_
  obtain ⟨T3, h3, X3, e3, W3, st3⟩ := putF X2 hx hZ hown (host := "") (Or.inl (hw _ (mi 11 rfl))) Via.refl e2 F_lows_xa E_xa (Or.inl (hw _ (mi 12 rfl))) (hw _ (mi 1 rfl)) (ty := (.array .long)) (by decide) rfl rfl (g := (mkF m 8 #[.val (.ref xa), .val (.int p1)] [(.ref w0), (.ref xa)])) rfl rfl (hb hby d1_8)
  have F_lows_xa := F_lows_xa.same W3
  have E_xa := E_xa.wr W3
  have F_highs_xa := F_highs_xa.other W3 (Or.inr (slot_ne (Or.inl (hw _ (mi 14 rfl))) (Or.inl (hw _ (mi 12 rfl))) (by decide) (t := (.array .long)) (t' := (.array .long)) (by decide) (by decide)))
  have F_scale_xa := F_scale_xa.other W3 (Or.inr (slot_ne (Or.inr (hw _ (mi 16 rfl))) (Or.inl (hw _ (mi 12 rfl))) (by decide) (t := .int) (t' := (.array .long)) (by decide) (by decide)))
  have O0 := O0.wr W3 g_xa
  have N3 := Fr.snoc X3 N0 g_xa
  refine Goes.to (T' := T3.setTop (mkF m 11 #[.val (.ref xa), .val (.int p1)] [])) st3 ?_
  refine Goes.to (T' := T3.setTop (mkF m 12 #[.val (.ref xa), .val (.int p1)] [(.ref xa)])) (fun t k => XS.aloadN X3.here hx rfl (hb hby d1_11) rfl rfl k) ?_
  obtain ⟨T4, X4, e4, st4⟩ := getS2 X3 hx hZ hown (host := "") (Or.inl (hw _ (mi 9 rfl))) Via.refl e3 (S_w0.ext O0.2) (g := (mkF m 12 #[.val (.ref xa), .val (.int p1)] [(.ref xa)])) rfl (hb hby d1_12)
  refine Goes.to (T' := T4.setTop (mkF m 15 #[.val (.ref xa), .val (.int p1)] [(.ref w0), (.ref xa)])) st4 ?_
  obtain ⟨T5, h5, X5, e5, W5, st5⟩ := putF X4 hx hZ hown (host := "") (Or.inl (hw _ (mi 13 rfl))) Via.refl e4 F_highs_xa E_xa (Or.inl (hw _ (mi 14 rfl))) (hw _ (mi 1 rfl)) (ty := (.array .long)) (by decide) rfl rfl (g := (mkF m 15 #[.val (.ref xa), .val (.int p1)] [(.ref w0), (.ref xa)])) rfl rfl (hb hby d1_15)
  have F_highs_xa := F_highs_xa.same W5
  have E_xa := E_xa.wr W5
  have F_lows_xa := F_lows_xa.other W5 (Or.inr (slot_ne (Or.inl (hw _ (mi 12 rfl))) (Or.inl (hw _ (mi 14 rfl))) (by decide) (t := (.array .long)) (t' := (.array .long)) (by decide) (by decide)))
  have F_scale_xa := F_scale_xa.other W5 (Or.inr (slot_ne (Or.inr (hw _ (mi 16 rfl))) (Or.inl (hw _ (mi 14 rfl))) (by decide) (t := .int) (t' := (.array .long)) (by decide) (by decide)))
  have O0 := O0.wr W5 g_xa
  have N5 := Fr.snoc X5 N3 g_xa
  refine Goes.to (T' := T5.setTop (mkF m 18 #[.val (.ref xa), .val (.int p1)] [])) st5 ?_
  refine Goes.to (T' := T5.setTop (mkF m 19 #[.val (.ref xa), .val (.int p1)] [(.ref xa)])) (fun t k => XS.aloadN X5.here hx rfl (hb hby d1_18) rfl rfl k) ?_
  refine Goes.to (T' := T5.setTop (mkF m 20 #[.val (.ref xa), .val (.int p1)] [(.int p1), (.ref xa)])) (fun t k => XS.iloadN X5.here hx rfl (hb hby d1_19) rfl k) ?_
  obtain ⟨T6, h6, X6, e6, W6, st6⟩ := putF X5 hx hZ hown (host := "") (Or.inl (hw _ (mi 15 rfl))) Via.refl e5 F_scale_xa E_xa (Or.inr ⟨(hw _ (mi 16 rfl)), rfl, hnm⟩) (hw _ (mi 1 rfl)) (ty := .int) (by decide) rfl rfl (g := (mkF m 20 #[.val (.ref xa), .val (.int p1)] [(.int p1), (.ref xa)])) rfl rfl (hb hby d1_20)
  have F_scale_xa := F_scale_xa.same W6
  have E_xa := E_xa.wr W6
  have F_lows_xa := F_lows_xa.other W6 (Or.inr (slot_ne (Or.inl (hw _ (mi 12 rfl))) (Or.inr (hw _ (mi 16 rfl))) (by decide) (t := (.array .long)) (t' := .int) (by decide) (by decide)))
  have F_highs_xa := F_highs_xa.other W6 (Or.inr (slot_ne (Or.inl (hw _ (mi 14 rfl))) (Or.inr (hw _ (mi 16 rfl))) (by decide) (t := (.array .long)) (t' := .int) (by decide) (by decide)))
  have O0 := O0.wr W6 g_xa
  have N6 := Fr.snoc X6 N5 g_xa
  refine Goes.to (T' := T6.setTop (mkF m 23 #[.val (.ref xa), .val (.int p1)] [])) st6 ?_
  obtain ⟨fs, hrL, hrun, hended, hW, hsame⟩ := X6.leave (v := none) (fun _ => rfl)
  subst hQf
  refine ⟨_, _, X6.returnOut hx Bd.returns (hb hby d1_23) hrL, hrun, hended, _, _, rfl, ?_, ⟨_, rfl⟩, hW, hsame.mono (by decide) (by decide)⟩
  show (fun (v : Option Value) (h : Heap) (L : List Loc) => v = none ∧ Fr n0 L ∧ Old Z n0 h ∧ SA Z h n0 xa (fun _ => 0) (fun _ => 0)) (none) T6.heap _
  rw [e6]
  have VN := own_la0 (V_w0.ext O0.2)
  have neN := O0.ne E_w0.lt g_xa
  exact ⟨rfl, N6, O0, w0, w0, 0, 0, E_xa, g_xa, F_lows_xa, F_highs_xa, VN, VN, neN, neN, Or.inr rfl, Or.inr rfl, Or.inr ⟨rfl, rfl⟩, by decide⟩
theorem own_updsame {f : Nat → Int64} {n : Nat} {x : Int64} (h : f n = x) : upd f n x = f := by
  funext i; simp only [upd]; split
  · rename_i e; subst e; exact h.symm
  · rfl
theorem own_upd_same {f : Nat → Int64} {n : Nat} {x : Int64} : upd f n x n = x := by simp [upd]
theorem own_upd_ne {f : Nat → Int64} {n m : Nat} {x : Int64} (h : m ≠ n) : upd f n x m = f m := by simp [upd, h]
theorem own_lt25 {r : Int32} (h1 : ¬ r < 0) (h2 : r.toNatClampNeg ≤ 24) : r < (25 : Int32) := by
  have e0 : (0 : Int32).toInt = 0 := rfl
  have e1 : (25 : Int32).toInt = 25 := rfl
  rw [Int32.lt_iff_toInt_lt] at h1
  rw [Int32.lt_iff_toInt_lt]
  simp only [Int32.toNatClampNeg] at h2; omega
theorem pd_205 : parseMethodDescriptor "(I)V" = some ⟨[.int], none⟩ := by decide +kernel
theorem d3_0 : decode prog_38_method_7_code 0 = .ok (.iload_n 1, 1) := by decide +kernel
theorem d3_1 : decode prog_38_method_7_code 1 = .ok (.aload_n 0, 1) := by decide +kernel
theorem d3_2 : decode prog_38_method_7_code 2 = .ok (.getfield 13, 3) := by decide +kernel
theorem d3_5 : decode prog_38_method_7_code 5 = .ok (.arraylength, 1) := by decide +kernel
theorem d3_6 : decode prog_38_method_7_code 6 = .ok (.if_icmp .lt 33, 3) := by decide +kernel
theorem d3_9 : decode prog_38_method_7_code 9 = .ok (.aload_n 0, 1) := by decide +kernel
theorem d3_10 : decode prog_38_method_7_code 10 = .ok (.aload_n 0, 1) := by decide +kernel
theorem d3_11 : decode prog_38_method_7_code 11 = .ok (.getfield 13, 3) := by decide +kernel
theorem d3_14 : decode prog_38_method_7_code 14 = .ok (.iload_n 1, 1) := by decide +kernel
theorem d3_15 : decode prog_38_method_7_code 15 = .ok (.iconst 1, 1) := by decide +kernel
theorem d3_16 : decode prog_38_method_7_code 16 = .ok (.iadd, 1) := by decide +kernel
theorem d3_17 : decode prog_38_method_7_code 17 = .ok (.aload_n 0, 1) := by decide +kernel
theorem d3_18 : decode prog_38_method_7_code 18 = .ok (.getfield 13, 3) := by decide +kernel
theorem d3_21 : decode prog_38_method_7_code 21 = .ok (.arraylength, 1) := by decide +kernel
theorem d3_22 : decode prog_38_method_7_code 22 = .ok (.aload_n 0, 1) := by decide +kernel
theorem d3_23 : decode prog_38_method_7_code 23 = .ok (.getfield 13, 3) := by decide +kernel
theorem d3_26 : decode prog_38_method_7_code 26 = .ok (.arraylength, 1) := by decide +kernel
theorem d3_27 : decode prog_38_method_7_code 27 = .ok (.iconst 2, 1) := by decide +kernel
theorem d3_28 : decode prog_38_method_7_code 28 = .ok (.idiv, 1) := by decide +kernel
theorem d3_29 : decode prog_38_method_7_code 29 = .ok (.iadd, 1) := by decide +kernel
theorem d3_30 : decode prog_38_method_7_code 30 = .ok (.invokestatic 87, 3) := by decide +kernel
theorem d3_33 : decode prog_38_method_7_code 33 = .ok (.invokestatic 93, 3) := by decide +kernel
theorem d3_36 : decode prog_38_method_7_code 36 = .ok (.putfield 13, 3) := by decide +kernel
theorem d3_39 : decode prog_38_method_7_code 39 = .ok (.lload 4, 2) := by decide +kernel
theorem d3_41 : decode prog_38_method_7_code 41 = .ok (.lload 6, 2) := by decide +kernel
theorem d3_43 : decode prog_38_method_7_code 43 = .ok (.lmul, 1) := by decide +kernel
theorem d3_44 : decode prog_38_method_7_code 44 = .ok (.lstore 8, 2) := by decide +kernel
theorem d3_46 : decode prog_38_method_7_code 46 = .ok (.lload 4, 2) := by decide +kernel
theorem d3_48 : decode prog_38_method_7_code 48 = .ok (.lload 6, 2) := by decide +kernel
theorem d3_50 : decode prog_38_method_7_code 50 = .ok (.invokestatic 99, 3) := by decide +kernel
theorem d3_53 : decode prog_38_method_7_code 53 = .ok (.lstore 10, 2) := by decide +kernel
theorem d3_55 : decode prog_38_method_7_code 55 = .ok (.lload_n 2, 1) := by decide +kernel
theorem d3_56 : decode prog_38_method_7_code 56 = .ok (.lload 6, 2) := by decide +kernel
theorem d3_58 : decode prog_38_method_7_code 58 = .ok (.lmul, 1) := by decide +kernel
theorem d3_59 : decode prog_38_method_7_code 59 = .ok (.lstore 12, 2) := by decide +kernel
theorem d3_61 : decode prog_38_method_7_code 61 = .ok (.lload_n 2, 1) := by decide +kernel
theorem d3_62 : decode prog_38_method_7_code 62 = .ok (.lload 6, 2) := by decide +kernel
theorem d3_64 : decode prog_38_method_7_code 64 = .ok (.invokestatic 99, 3) := by decide +kernel
theorem d3_67 : decode prog_38_method_7_code 67 = .ok (.lconst 0, 1) := by decide +kernel
theorem d3_68 : decode prog_38_method_7_code 68 = .ok (.lcmp, 1) := by decide +kernel
theorem d3_69 : decode prog_38_method_7_code 69 = .ok (.ifCond .eq 7, 3) := by decide +kernel
theorem d3_76 : decode prog_38_method_7_code 76 = .ok (.iconst 0, 1) := by decide +kernel
theorem d3_77 : decode prog_38_method_7_code 77 = .ok (.istore 14, 2) := by decide +kernel
theorem d3_79 : decode prog_38_method_7_code 79 = .ok (.lload 10, 2) := by decide +kernel
theorem d3_81 : decode prog_38_method_7_code 81 = .ok (.lload 12, 2) := by decide +kernel
theorem d3_83 : decode prog_38_method_7_code 83 = .ok (.ladd, 1) := by decide +kernel
theorem d3_84 : decode prog_38_method_7_code 84 = .ok (.lstore 10, 2) := by decide +kernel
theorem d3_86 : decode prog_38_method_7_code 86 = .ok (.iload 14, 2) := by decide +kernel
theorem d3_88 : decode prog_38_method_7_code 88 = .ok (.lload 10, 2) := by decide +kernel
theorem d3_90 : decode prog_38_method_7_code 90 = .ok (.lload 12, 2) := by decide +kernel
theorem d3_92 : decode prog_38_method_7_code 92 = .ok (.invokestatic 103, 3) := by decide +kernel
theorem d3_95 : decode prog_38_method_7_code 95 = .ok (.ifCond .ge 7, 3) := by decide +kernel
theorem d3_102 : decode prog_38_method_7_code 102 = .ok (.iconst 0, 1) := by decide +kernel
theorem d3_103 : decode prog_38_method_7_code 103 = .ok (.ior, 1) := by decide +kernel
theorem d3_104 : decode prog_38_method_7_code 104 = .ok (.istore 14, 2) := by decide +kernel
theorem d3_106 : decode prog_38_method_7_code 106 = .ok (.aload_n 0, 1) := by decide +kernel
theorem d3_107 : decode prog_38_method_7_code 107 = .ok (.getfield 13, 3) := by decide +kernel
theorem d3_110 : decode prog_38_method_7_code 110 = .ok (.iload_n 1, 1) := by decide +kernel
theorem d3_111 : decode prog_38_method_7_code 111 = .ok (.laload, 1) := by decide +kernel
theorem d3_112 : decode prog_38_method_7_code 112 = .ok (.lload 8, 2) := by decide +kernel
theorem d3_114 : decode prog_38_method_7_code 114 = .ok (.ladd, 1) := by decide +kernel
theorem d3_115 : decode prog_38_method_7_code 115 = .ok (.lstore 15, 2) := by decide +kernel
theorem d3_117 : decode prog_38_method_7_code 117 = .ok (.lload 15, 2) := by decide +kernel
theorem d3_119 : decode prog_38_method_7_code 119 = .ok (.lload 8, 2) := by decide +kernel
theorem d3_121 : decode prog_38_method_7_code 121 = .ok (.invokestatic 103, 3) := by decide +kernel
theorem d3_124 : decode prog_38_method_7_code 124 = .ok (.ifCond .ge 7, 3) := by decide +kernel
theorem d3_127 : decode prog_38_method_7_code 127 = .ok (.lconst 1, 1) := by decide +kernel
theorem d3_128 : decode prog_38_method_7_code 128 = .ok (.goto 4, 3) := by decide +kernel
theorem d3_131 : decode prog_38_method_7_code 131 = .ok (.lconst 0, 1) := by decide +kernel
theorem d3_132 : decode prog_38_method_7_code 132 = .ok (.lstore 17, 2) := by decide +kernel
theorem d3_134 : decode prog_38_method_7_code 134 = .ok (.aload_n 0, 1) := by decide +kernel
theorem d3_135 : decode prog_38_method_7_code 135 = .ok (.iload_n 1, 1) := by decide +kernel
theorem d3_136 : decode prog_38_method_7_code 136 = .ok (.invokevirtual 23, 3) := by decide +kernel
theorem d3_139 : decode prog_38_method_7_code 139 = .ok (.lload 10, 2) := by decide +kernel
theorem d3_141 : decode prog_38_method_7_code 141 = .ok (.ladd, 1) := by decide +kernel
theorem d3_142 : decode prog_38_method_7_code 142 = .ok (.lstore 19, 2) := by decide +kernel
theorem d3_144 : decode prog_38_method_7_code 144 = .ok (.iload 14, 2) := by decide +kernel
theorem d3_146 : decode prog_38_method_7_code 146 = .ok (.lload 19, 2) := by decide +kernel
theorem d3_148 : decode prog_38_method_7_code 148 = .ok (.lload 10, 2) := by decide +kernel
theorem d3_150 : decode prog_38_method_7_code 150 = .ok (.invokestatic 103, 3) := by decide +kernel
theorem d3_153 : decode prog_38_method_7_code 153 = .ok (.ifCond .ge 7, 3) := by decide +kernel
theorem d3_160 : decode prog_38_method_7_code 160 = .ok (.iconst 0, 1) := by decide +kernel
theorem d3_161 : decode prog_38_method_7_code 161 = .ok (.ior, 1) := by decide +kernel
theorem d3_162 : decode prog_38_method_7_code 162 = .ok (.istore 14, 2) := by decide +kernel
theorem d3_164 : decode prog_38_method_7_code 164 = .ok (.lload 19, 2) := by decide +kernel
theorem d3_166 : decode prog_38_method_7_code 166 = .ok (.lload 17, 2) := by decide +kernel
theorem d3_168 : decode prog_38_method_7_code 168 = .ok (.ladd, 1) := by decide +kernel
theorem d3_169 : decode prog_38_method_7_code 169 = .ok (.lstore 19, 2) := by decide +kernel
theorem d3_171 : decode prog_38_method_7_code 171 = .ok (.iload 14, 2) := by decide +kernel
theorem d3_173 : decode prog_38_method_7_code 173 = .ok (.lload 17, 2) := by decide +kernel
theorem d3_175 : decode prog_38_method_7_code 175 = .ok (.lconst 0, 1) := by decide +kernel
theorem d3_176 : decode prog_38_method_7_code 176 = .ok (.lcmp, 1) := by decide +kernel
theorem d3_177 : decode prog_38_method_7_code 177 = .ok (.ifCond .eq 14, 3) := by decide +kernel
theorem d3_180 : decode prog_38_method_7_code 180 = .ok (.lload 19, 2) := by decide +kernel
theorem d3_182 : decode prog_38_method_7_code 182 = .ok (.lconst 0, 1) := by decide +kernel
theorem d3_183 : decode prog_38_method_7_code 183 = .ok (.lcmp, 1) := by decide +kernel
theorem d3_184 : decode prog_38_method_7_code 184 = .ok (.ifCond .ne 7, 3) := by decide +kernel
theorem d3_191 : decode prog_38_method_7_code 191 = .ok (.iconst 0, 1) := by decide +kernel
theorem d3_192 : decode prog_38_method_7_code 192 = .ok (.ior, 1) := by decide +kernel
theorem d3_193 : decode prog_38_method_7_code 193 = .ok (.istore 14, 2) := by decide +kernel
theorem d3_195 : decode prog_38_method_7_code 195 = .ok (.iload 14, 2) := by decide +kernel
theorem d3_197 : decode prog_38_method_7_code 197 = .ok (.ifCond .eq 13, 3) := by decide +kernel
theorem d3_210 : decode prog_38_method_7_code 210 = .ok (.aload_n 0, 1) := by decide +kernel
theorem d3_211 : decode prog_38_method_7_code 211 = .ok (.getfield 13, 3) := by decide +kernel
theorem d3_214 : decode prog_38_method_7_code 214 = .ok (.iload_n 1, 1) := by decide +kernel
theorem d3_215 : decode prog_38_method_7_code 215 = .ok (.lload 15, 2) := by decide +kernel
theorem d3_217 : decode prog_38_method_7_code 217 = .ok (.lastore, 1) := by decide +kernel
theorem d3_218 : decode prog_38_method_7_code 218 = .ok (.lload 19, 2) := by decide +kernel
theorem d3_220 : decode prog_38_method_7_code 220 = .ok (.lconst 0, 1) := by decide +kernel
theorem d3_221 : decode prog_38_method_7_code 221 = .ok (.lcmp, 1) := by decide +kernel
theorem d3_222 : decode prog_38_method_7_code 222 = .ok (.ifCond .eq 16, 3) := by decide +kernel
theorem d3_225 : decode prog_38_method_7_code 225 = .ok (.aload_n 0, 1) := by decide +kernel
theorem d3_226 : decode prog_38_method_7_code 226 = .ok (.iload_n 1, 1) := by decide +kernel
theorem d3_227 : decode prog_38_method_7_code 227 = .ok (.invokevirtual 116, 3) := by decide +kernel
theorem d3_230 : decode prog_38_method_7_code 230 = .ok (.aload_n 0, 1) := by decide +kernel
theorem d3_231 : decode prog_38_method_7_code 231 = .ok (.getfield 16, 3) := by decide +kernel
theorem d3_234 : decode prog_38_method_7_code 234 = .ok (.iload_n 1, 1) := by decide +kernel
theorem d3_235 : decode prog_38_method_7_code 235 = .ok (.lload 19, 2) := by decide +kernel
theorem d3_237 : decode prog_38_method_7_code 237 = .ok (.lastore, 1) := by decide +kernel
theorem d3_238 : decode prog_38_method_7_code 238 = .ok (.return_, 1) := by decide +kernel
theorem pn_3 : plainName "com/example/suretyline/suretyline/Sums" = true := by first | (simp [plainName, overriddenIn]; done) | decide +kernel
theorem ef_rmAdd (m : MethodId) (x0 : Addr) (x1 : Int32) (x2 : Int64) (x3 : Int64) (x4 : Int64) : entryFrame m #[(.ref x0), (.int x1), (.long x2), (.long x3), (.long x4)] 21 = mkF m 0 #[.val (.ref x0), .val (.int x1), .val (.long x2), .second, .val (.long x3), .second, .val (.long x4), .second, .unset, .unset, .unset, .unset, .unset, .unset, .unset, .unset, .unset, .unset, .unset, .unset, .unset] [] := by first | (simp [entryFrame, mkF, argsToLocals, Value.category]; done) | rfl
def Q_rmAdd (Z : State) (xa : Addr) (p1 : Int32) (qh : Int64) (ql : Int64) (w0 : Addr) (k_w0 : ClassId) (ff : Nat → Int64) (gg : Nat → Int64) (car : Int64) (h0 : Heap) (n0 : Nat) (v : Option Value) (h : Heap) (L : List Loc) : Prop := v = none ∧ Fr n0 L ∧ Old Z n0 h ∧ SA Z h n0 xa (upd ff p1.toNatClampNeg ((ff p1.toNatClampNeg) + ql)) (upd gg p1.toNatClampNeg ((gg p1.toNatClampNeg) + qh + car))
set_option maxRecDepth 65536 in
set_option maxHeartbeats 40000000 in
theorem rmAdd (l : Launch) (Z : State) (a0 : Array Value) (hw : ∀ d ∈ tables_1, d.before a0 Z = true) (ws : List Jvm.Cond) (xa : Addr) (p1 : Int32) (qh : Int64) (ql : Int64) (w0 : Addr) (k_w0 : ClassId) (ff : Nat → Int64) (gg : Nat → Int64) (car : Int64) (h0 : Heap) (n0 : Nat) (O0 : Old Z n0 h0) (NF : Nar Z w0 k_w0) (hSA : SA Z h0 n0 xa ff gg) (hp : ¬ p1 < 0) (hp16 : p1 < (16 : Int32)) (hcar : car = if (ff p1.toNatClampNeg) + ql + (-9223372036854775808) < ql + (-9223372036854775808) then 1 else 0) (hov1 : ¬ (gg p1.toNatClampNeg) + qh + (-9223372036854775808) < qh + (-9223372036854775808)) (hov2 : car = 1 → ¬ (gg p1.toNatClampNeg) + qh + 1 = 0) (hzz : (gg p1.toNatClampNeg) + qh + car = 0 → (gg p1.toNatClampNeg) = 0) :
    MetFree l (⟨"com/example/suretyline/suretyline/Sums", "add", "(IJJJ)V"⟩ : MethodName) (head1 (Jvm.Cond.code (⟨"com/example/suretyline/suretyline/Sums", "add", "(IJJJ)V"⟩ : MethodName) prog_38_method_7_code 21 none :: ws) ({ frames := 3, cells := 2, slots := 48, locals := 140 } : Room)) (fun a U => a = #[(.ref xa), (.int p1), (.long qh), (.long ql), (.long (1 : Int64))] ∧ Z.Warmed39 U.vm ∧ U.heap = h0) (fun _ _ _ _ _ => True) (fun _ U o U' => ∃ v L, o = .returned v ∧ Q_rmAdd Z xa p1 qh ql w0 k_w0 ff gg car h0 n0 v U'.heap L ∧ FrameEnd U o U' L ({ frames := 3, cells := 2, slots := 48, locals := 140 } : Room).cells ({ frames := 3, cells := 2, slots := 48, locals := 140 } : Room).slots) := by
  refine MetFree.of_bodySF (plainFor_of_name pn_3) hisR ?_
  intro p e s m args below meth c s₁ Bd hml0 hP hK
  obtain ⟨rfl, hZ, hh⟩ := hP
  have hx := Bd.exec
  have hby := Bd.bytes
  have hml : c.maxLocals = 21 := hml0
  have hown : s.vm.findClass "com/example/suretyline/suretyline/Sums" = some m.cls := findClass_of_methodNamed Bd.named
  have hnm := (name_of_methodNamed Bd.named Bd.method).1
  have X0 : Stand p l e ({ frames := 3, cells := 2, slots := 48, locals := 140 } : Room) s m #[(.ref xa), (.int p1), (.long qh), (.long ql), (.long (1 : Int64))] below meth c s₁ [] 0 0 := Stand.of_body Bd
  have e0 : s₁.heap = h0 := by rw [← hh, Bd.state]; rfl
  have N0 := Fr.nil n0
  suffices G : ∀ (Qf : Outcome → State → Prop), Qf = (fun (_ : Array Value) (U : State) (o : Outcome) (U' : State) => ∃ v L, o = .returned v ∧ Q_rmAdd Z xa p1 qh ql w0 k_w0 ff gg car h0 n0 v U'.heap L ∧ FrameEnd U o U' L ({ frames := 3, cells := 2, slots := 48, locals := 140 } : Room).cells ({ frames := 3, cells := 2, slots := 48, locals := 140 } : Room).slots) #[] s → Goes p.tables e below Qf (s₁.setTop (mkF m 0 #[.val (.ref xa), .val (.int p1), .val (.long qh), .second, .val (.long ql), .second, .val (.long (1 : Int64)), .second, .unset, .unset, .unset, .unset, .unset, .unset, .unset, .unset, .unset, .unset, .unset, .unset, .unset] [])) by
    obtain ⟨s₂, o, g1, g2, g3, g4⟩ := G _ rfl
    exact ⟨s₂, o, castTop (ef_rmAdd m _ _ _ _ _) g1, g2, g3, g4⟩
  intro Qf hQf
  obtain ⟨S_w0, E_w0, V_w0⟩ := id NF
  obtain ⟨lo, hi, zl, zh, E_xa, g_xa, F_lows_xa, F_highs_xa, V_lo, V_hi, ne_lo_xa, ne_hi_xa, glo, ghi, nelh, hzl25⟩ := id hSA
  have J39 : ∀ (TJ1 : State) (locsJ1 : List Loc) (hJ1 : Heap) (lw : Addr) (zw : Int32) (XJ1 : Stand p l e ({ frames := 3, cells := 2, slots := 48, locals := 140 } : Room) s m #[(.ref xa), (.int p1), (.long qh), (.long ql), (.long (1 : Int64))] below meth c TJ1 locsJ1 1 24) (eJ1 : TJ1.heap = hJ1) (O0 : Old Z n0 hJ1) (E_xa : Exa Z hJ1 xa "com/example/suretyline/suretyline/Sums") (F_lows_xa : Fld Z hJ1 xa "com/example/suretyline/suretyline/Sums" "lows" "[J" (.ref lw)) (F_highs_xa : Fld Z hJ1 xa "com/example/suretyline/suretyline/Sums" "highs" "[J" (.ref hi)) (V_hi : La Z hJ1 hi zh gg) (V_lw : La Z hJ1 lw zw ff) (NJ1 : Fr n0 locsJ1) (hpw : p1 < zw) (hw25 : zw < (25 : Int32)) (g_lw : n0 ≤ lw) (ne_lw_xa : lw ≠ xa) (ne_lw_hi : lw ≠ hi), Goes p.tables e below Qf (TJ1.setTop (mkF m 39 #[.val (.ref xa), .val (.int p1), .val (.long qh), .second, .val (.long ql), .second, .val (.long (1 : Int64)), .second, .unset, .unset, .unset, .unset, .unset, .unset, .unset, .unset, .unset, .unset, .unset, .unset, .unset] [])) := by
    intro TJ1 locsJ1 hJ1 lw zw XJ1 eJ1 O0 E_xa F_lows_xa F_highs_xa V_hi V_lw NJ1 hpw hw25 g_lw ne_lw_xa ne_lw_hi
    have ne_xa_lw := Ne.symm ne_lw_xa
    have ne_hi_lw := Ne.symm ne_lw_hi
    have ne_xa_hi := Ne.symm ne_hi_xa
    refine Goes.to (T' := TJ1.setTop (mkF m 41 #[.val (.ref xa), .val (.int p1), .val (.long qh), .second, .val (.long ql), .second, .val (.long (1 : Int64)), .second, .unset, .unset, .unset, .unset, .unset, .unset, .unset, .unset, .unset, .unset, .unset, .unset, .unset] [(.long ql)])) (fun t k => XS.lload XJ1.here hx rfl (hb hby d3_39) rfl k) ?_
    refine Goes.to (T' := TJ1.setTop (mkF m 43 #[.val (.ref xa), .val (.int p1), .val (.long qh), .second, .val (.long ql), .second, .val (.long (1 : Int64)), .second, .unset, .unset, .unset, .unset, .unset, .unset, .unset, .unset, .unset, .unset, .unset, .unset, .unset] [(.long (1 : Int64)), (.long ql)])) (fun t k => XS.lload XJ1.here hx rfl (hb hby d3_41) rfl k) ?_
    refine Goes.to (T' := TJ1.setTop (mkF m 44 #[.val (.ref xa), .val (.int p1), .val (.long qh), .second, .val (.long ql), .second, .val (.long (1 : Int64)), .second, .unset, .unset, .unset, .unset, .unset, .unset, .unset, .unset, .unset, .unset, .unset, .unset, .unset] [(.long (ql * (1 : Int64)))])) (fun t k => XS.lmul XJ1.here hx rfl (hb hby d3_43) rfl k) ?_
    rw [Int64.mul_one]
    refine Goes.to (T' := TJ1.setTop (mkF m 46 #[.val (.ref xa), .val (.int p1), .val (.long qh), .second, .val (.long ql), .second, .val (.long (1 : Int64)), .second, .val (.long ql), .second, .unset, .unset, .unset, .unset, .unset, .unset, .unset, .unset, .unset, .unset, .unset] [])) (fun t k => XS.lstore XJ1.here hx rfl (hb hby d3_44) rfl (l' := #[.val (.ref xa), .val (.int p1), .val (.long qh), .second, .val (.long ql), .second, .val (.long (1 : Int64)), .second, .val (.long ql), .second, .unset, .unset, .unset, .unset, .unset, .unset, .unset, .unset, .unset, .unset, .unset]) rfl k) ?_
    refine Goes.to (T' := TJ1.setTop (mkF m 48 #[.val (.ref xa), .val (.int p1), .val (.long qh), .second, .val (.long ql), .second, .val (.long (1 : Int64)), .second, .val (.long ql), .second, .unset, .unset, .unset, .unset, .unset, .unset, .unset, .unset, .unset, .unset, .unset] [(.long ql)])) (fun t k => XS.lload XJ1.here hx rfl (hb hby d3_46) rfl k) ?_
    refine Goes.to (T' := TJ1.setTop (mkF m 50 #[.val (.ref xa), .val (.int p1), .val (.long qh), .second, .val (.long ql), .second, .val (.long (1 : Int64)), .second, .val (.long ql), .second, .unset, .unset, .unset, .unset, .unset, .unset, .unset, .unset, .unset, .unset, .unset] [(.long (1 : Int64)), (.long ql)])) (fun t k => XS.lload XJ1.here hx rfl (hb hby d3_48) rfl k) ?_
    obtain ⟨_, _, ⟨T2, L2, k2, n2⟩, -, X2, ⟨Lc2, hQ2, l2, y2, z2⟩, st2⟩ := Jvm.LawKit.callS XJ1 hx (y := (⟨"com/example/suretyline/suretyline/Sums", "unsignedMultiplyHigh", "(JJ)J"⟩ : MethodName)) hown (mvT hZ (hw _ (mi 38 rfl))) (mvT hZ (hw _ (mi 39 rfl))) (mvT hZ (hw _ (mi 2 rfl))) (mvT hZ (hw _ (mi 40 rfl))) (by decide) (backOf (W := 0) (rmU l Z a0 hw [] ql w0 k_w0  hJ1 n0 O0 NF ) hZ (hw _ (mi 40 rfl)) (hw _ (mi 2 rfl)) (by decide) (by decide)) (g := (mkF m 50 #[.val (.ref xa), .val (.int p1), .val (.long qh), .second, .val (.long ql), .second, .val (.long (1 : Int64)), .second, .val (.long ql), .second, .unset, .unset, .unset, .unset, .unset, .unset, .unset, .unset, .unset, .unset, .unset] [(.long (1 : Int64)), (.long ql)])) rfl (by rw [hml]; rfl) (argsL := [(.long ql), (.long (1 : Int64))]) (rest := []) (lenOf pd_69 rfl) rfl (by show 2 * 0 + _ ≤ _; exact Nat.le_of_eq rfl) (hb hby d3_50) (fun _ _ => ⟨rfl, eJ1, (by decide : 1 + 0 ≤ _), (by decide : 24 + 0 ≤ _)⟩)
    dsimp only [Pt.U, Pt.locs, Pt.cells, Pt.slots] at X2 l2 y2 z2 st2 hQ2
    subst l2 y2 z2
    obtain ⟨rfl, Nq2, e2⟩ := hQ2
    have N2 := Fr.app NJ1 Nq2
    refine Goes.to (T' := T2.setTop (mkF m 53 #[.val (.ref xa), .val (.int p1), .val (.long qh), .second, .val (.long ql), .second, .val (.long (1 : Int64)), .second, .val (.long ql), .second, .unset, .unset, .unset, .unset, .unset, .unset, .unset, .unset, .unset, .unset, .unset] [(.long (0 : Int64))])) st2 ?_
    refine Goes.to (T' := T2.setTop (mkF m 55 #[.val (.ref xa), .val (.int p1), .val (.long qh), .second, .val (.long ql), .second, .val (.long (1 : Int64)), .second, .val (.long ql), .second, .val (.long (0 : Int64)), .second, .unset, .unset, .unset, .unset, .unset, .unset, .unset, .unset, .unset] [])) (fun t k => XS.lstore X2.here hx rfl (hb hby d3_53) rfl (l' := #[.val (.ref xa), .val (.int p1), .val (.long qh), .second, .val (.long ql), .second, .val (.long (1 : Int64)), .second, .val (.long ql), .second, .val (.long (0 : Int64)), .second, .unset, .unset, .unset, .unset, .unset, .unset, .unset, .unset, .unset]) rfl k) ?_
    refine Goes.to (T' := T2.setTop (mkF m 56 #[.val (.ref xa), .val (.int p1), .val (.long qh), .second, .val (.long ql), .second, .val (.long (1 : Int64)), .second, .val (.long ql), .second, .val (.long (0 : Int64)), .second, .unset, .unset, .unset, .unset, .unset, .unset, .unset, .unset, .unset] [(.long qh)])) (fun t k => XS.lloadN X2.here hx rfl (hb hby d3_55) rfl k) ?_
    refine Goes.to (T' := T2.setTop (mkF m 58 #[.val (.ref xa), .val (.int p1), .val (.long qh), .second, .val (.long ql), .second, .val (.long (1 : Int64)), .second, .val (.long ql), .second, .val (.long (0 : Int64)), .second, .unset, .unset, .unset, .unset, .unset, .unset, .unset, .unset, .unset] [(.long (1 : Int64)), (.long qh)])) (fun t k => XS.lload X2.here hx rfl (hb hby d3_56) rfl k) ?_
    refine Goes.to (T' := T2.setTop (mkF m 59 #[.val (.ref xa), .val (.int p1), .val (.long qh), .second, .val (.long ql), .second, .val (.long (1 : Int64)), .second, .val (.long ql), .second, .val (.long (0 : Int64)), .second, .unset, .unset, .unset, .unset, .unset, .unset, .unset, .unset, .unset] [(.long (qh * (1 : Int64)))])) (fun t k => XS.lmul X2.here hx rfl (hb hby d3_58) rfl k) ?_
    rw [Int64.mul_one]
    refine Goes.to (T' := T2.setTop (mkF m 61 #[.val (.ref xa), .val (.int p1), .val (.long qh), .second, .val (.long ql), .second, .val (.long (1 : Int64)), .second, .val (.long ql), .second, .val (.long (0 : Int64)), .second, .val (.long qh), .second, .unset, .unset, .unset, .unset, .unset, .unset, .unset] [])) (fun t k => XS.lstore X2.here hx rfl (hb hby d3_59) rfl (l' := #[.val (.ref xa), .val (.int p1), .val (.long qh), .second, .val (.long ql), .second, .val (.long (1 : Int64)), .second, .val (.long ql), .second, .val (.long (0 : Int64)), .second, .val (.long qh), .second, .unset, .unset, .unset, .unset, .unset, .unset, .unset]) rfl k) ?_
    refine Goes.to (T' := T2.setTop (mkF m 62 #[.val (.ref xa), .val (.int p1), .val (.long qh), .second, .val (.long ql), .second, .val (.long (1 : Int64)), .second, .val (.long ql), .second, .val (.long (0 : Int64)), .second, .val (.long qh), .second, .unset, .unset, .unset, .unset, .unset, .unset, .unset] [(.long qh)])) (fun t k => XS.lloadN X2.here hx rfl (hb hby d3_61) rfl k) ?_
    refine Goes.to (T' := T2.setTop (mkF m 64 #[.val (.ref xa), .val (.int p1), .val (.long qh), .second, .val (.long ql), .second, .val (.long (1 : Int64)), .second, .val (.long ql), .second, .val (.long (0 : Int64)), .second, .val (.long qh), .second, .unset, .unset, .unset, .unset, .unset, .unset, .unset] [(.long (1 : Int64)), (.long qh)])) (fun t k => XS.lload X2.here hx rfl (hb hby d3_62) rfl k) ?_
    obtain ⟨_, _, ⟨T3, L3, k3, n3⟩, -, X3, ⟨Lc3, hQ3, l3, y3, z3⟩, st3⟩ := Jvm.LawKit.callS X2 hx (y := (⟨"com/example/suretyline/suretyline/Sums", "unsignedMultiplyHigh", "(JJ)J"⟩ : MethodName)) hown (mvT hZ (hw _ (mi 38 rfl))) (mvT hZ (hw _ (mi 39 rfl))) (mvT hZ (hw _ (mi 2 rfl))) (mvT hZ (hw _ (mi 40 rfl))) (by decide) (backOf (W := 0) (rmU l Z a0 hw [] qh w0 k_w0  hJ1 n0 O0 NF ) hZ (hw _ (mi 40 rfl)) (hw _ (mi 2 rfl)) (by decide) (by decide)) (g := (mkF m 64 #[.val (.ref xa), .val (.int p1), .val (.long qh), .second, .val (.long ql), .second, .val (.long (1 : Int64)), .second, .val (.long ql), .second, .val (.long (0 : Int64)), .second, .val (.long qh), .second, .unset, .unset, .unset, .unset, .unset, .unset, .unset] [(.long (1 : Int64)), (.long qh)])) rfl (by rw [hml]; rfl) (argsL := [(.long qh), (.long (1 : Int64))]) (rest := []) (lenOf pd_69 rfl) rfl (by show 2 * 0 + _ ≤ _; exact Nat.le_of_eq rfl) (hb hby d3_64) (fun _ _ => ⟨rfl, e2, (by decide : 1 + 0 ≤ _), (by decide : 24 + 0 ≤ _)⟩)
    dsimp only [Pt.U, Pt.locs, Pt.cells, Pt.slots] at X3 l3 y3 z3 st3 hQ3
    subst l3 y3 z3
    obtain ⟨rfl, Nq3, e3⟩ := hQ3
    have N3 := Fr.app N2 Nq3
    refine Goes.to (T' := T3.setTop (mkF m 67 #[.val (.ref xa), .val (.int p1), .val (.long qh), .second, .val (.long ql), .second, .val (.long (1 : Int64)), .second, .val (.long ql), .second, .val (.long (0 : Int64)), .second, .val (.long qh), .second, .unset, .unset, .unset, .unset, .unset, .unset, .unset] [(.long (0 : Int64))])) st3 ?_
    refine Goes.to (T' := T3.setTop (mkF m 68 #[.val (.ref xa), .val (.int p1), .val (.long qh), .second, .val (.long ql), .second, .val (.long (1 : Int64)), .second, .val (.long ql), .second, .val (.long (0 : Int64)), .second, .val (.long qh), .second, .unset, .unset, .unset, .unset, .unset, .unset, .unset] [(.long (0 : Int64)), (.long (0 : Int64))])) (fun t k => XS.lconst X3.here hx rfl (hb hby d3_67) k) ?_
    refine Goes.to (T' := T3.setTop (mkF m 69 #[.val (.ref xa), .val (.int p1), .val (.long qh), .second, .val (.long ql), .second, .val (.long (1 : Int64)), .second, .val (.long ql), .second, .val (.long (0 : Int64)), .second, .val (.long qh), .second, .unset, .unset, .unset, .unset, .unset, .unset, .unset] [(.int (lcmpW (0 : Int64) (0 : Int64)))])) (fun t k => XS.lcmp X3.here hx rfl (hb hby d3_68) rfl k) ?_
    refine Goes.to (T' := T3.setTop (mkF m 76 #[.val (.ref xa), .val (.int p1), .val (.long qh), .second, .val (.long ql), .second, .val (.long (1 : Int64)), .second, .val (.long ql), .second, .val (.long (0 : Int64)), .second, .val (.long qh), .second, .unset, .unset, .unset, .unset, .unset, .unset, .unset] [])) (fun t k => XS.ifYes X3.here hx rfl (pc0 := 69) (pc' := 76) rfl (hb hby d3_69) rfl ((if0 _ _).trans (teq (by decide)).1) (by decide) (by decide) k) ?_
    refine Goes.to (T' := T3.setTop (mkF m 77 #[.val (.ref xa), .val (.int p1), .val (.long qh), .second, .val (.long ql), .second, .val (.long (1 : Int64)), .second, .val (.long ql), .second, .val (.long (0 : Int64)), .second, .val (.long qh), .second, .unset, .unset, .unset, .unset, .unset, .unset, .unset] [(.int (0 : Int32))])) (fun t k => XS.iconst X3.here hx rfl (hb hby d3_76) k) ?_
    refine Goes.to (T' := T3.setTop (mkF m 79 #[.val (.ref xa), .val (.int p1), .val (.long qh), .second, .val (.long ql), .second, .val (.long (1 : Int64)), .second, .val (.long ql), .second, .val (.long (0 : Int64)), .second, .val (.long qh), .second, .val (.int (0 : Int32)), .unset, .unset, .unset, .unset, .unset, .unset] [])) (fun t k => XS.istore X3.here hx rfl (hb hby d3_77) rfl (l' := #[.val (.ref xa), .val (.int p1), .val (.long qh), .second, .val (.long ql), .second, .val (.long (1 : Int64)), .second, .val (.long ql), .second, .val (.long (0 : Int64)), .second, .val (.long qh), .second, .val (.int (0 : Int32)), .unset, .unset, .unset, .unset, .unset, .unset]) rfl k) ?_
    refine Goes.to (T' := T3.setTop (mkF m 81 #[.val (.ref xa), .val (.int p1), .val (.long qh), .second, .val (.long ql), .second, .val (.long (1 : Int64)), .second, .val (.long ql), .second, .val (.long (0 : Int64)), .second, .val (.long qh), .second, .val (.int (0 : Int32)), .unset, .unset, .unset, .unset, .unset, .unset] [(.long (0 : Int64))])) (fun t k => XS.lload X3.here hx rfl (hb hby d3_79) rfl k) ?_
    refine Goes.to (T' := T3.setTop (mkF m 83 #[.val (.ref xa), .val (.int p1), .val (.long qh), .second, .val (.long ql), .second, .val (.long (1 : Int64)), .second, .val (.long ql), .second, .val (.long (0 : Int64)), .second, .val (.long qh), .second, .val (.int (0 : Int32)), .unset, .unset, .unset, .unset, .unset, .unset] [(.long qh), (.long (0 : Int64))])) (fun t k => XS.lload X3.here hx rfl (hb hby d3_81) rfl k) ?_
    refine Goes.to (T' := T3.setTop (mkF m 84 #[.val (.ref xa), .val (.int p1), .val (.long qh), .second, .val (.long ql), .second, .val (.long (1 : Int64)), .second, .val (.long ql), .second, .val (.long (0 : Int64)), .second, .val (.long qh), .second, .val (.int (0 : Int32)), .unset, .unset, .unset, .unset, .unset, .unset] [(.long ((0 : Int64) + qh))])) (fun t k => XS.ladd X3.here hx rfl (hb hby d3_83) rfl k) ?_
    rw [Int64.zero_add]
    refine Goes.to (T' := T3.setTop (mkF m 86 #[.val (.ref xa), .val (.int p1), .val (.long qh), .second, .val (.long ql), .second, .val (.long (1 : Int64)), .second, .val (.long ql), .second, .val (.long qh), .second, .val (.long qh), .second, .val (.int (0 : Int32)), .unset, .unset, .unset, .unset, .unset, .unset] [])) (fun t k => XS.lstore X3.here hx rfl (hb hby d3_84) rfl (l' := #[.val (.ref xa), .val (.int p1), .val (.long qh), .second, .val (.long ql), .second, .val (.long (1 : Int64)), .second, .val (.long ql), .second, .val (.long qh), .second, .val (.long qh), .second, .val (.int (0 : Int32)), .unset, .unset, .unset, .unset, .unset, .unset]) rfl k) ?_
    refine Goes.to (T' := T3.setTop (mkF m 88 #[.val (.ref xa), .val (.int p1), .val (.long qh), .second, .val (.long ql), .second, .val (.long (1 : Int64)), .second, .val (.long ql), .second, .val (.long qh), .second, .val (.long qh), .second, .val (.int (0 : Int32)), .unset, .unset, .unset, .unset, .unset, .unset] [(.int (0 : Int32))])) (fun t k => XS.iload X3.here hx rfl (hb hby d3_86) rfl k) ?_
    refine Goes.to (T' := T3.setTop (mkF m 90 #[.val (.ref xa), .val (.int p1), .val (.long qh), .second, .val (.long ql), .second, .val (.long (1 : Int64)), .second, .val (.long ql), .second, .val (.long qh), .second, .val (.long qh), .second, .val (.int (0 : Int32)), .unset, .unset, .unset, .unset, .unset, .unset] [(.long qh), (.int (0 : Int32))])) (fun t k => XS.lload X3.here hx rfl (hb hby d3_88) rfl k) ?_
    refine Goes.to (T' := T3.setTop (mkF m 92 #[.val (.ref xa), .val (.int p1), .val (.long qh), .second, .val (.long ql), .second, .val (.long (1 : Int64)), .second, .val (.long ql), .second, .val (.long qh), .second, .val (.long qh), .second, .val (.int (0 : Int32)), .unset, .unset, .unset, .unset, .unset, .unset] [(.long qh), (.long qh), (.int (0 : Int32))])) (fun t k => XS.lload X3.here hx rfl (hb hby d3_90) rfl k) ?_
    obtain ⟨_, _, ⟨T4, L4, k4, n4⟩, -, X4, ⟨Lc4, hQ4, l4, y4, z4⟩, st4⟩ := Jvm.LawKit.callS X3 hx (y := (⟨"java/lang/Long", "compareUnsigned", "(JJ)I"⟩ : MethodName)) hown (mvT hZ (hw _ (mi 45 rfl))) (mvT hZ (hw _ (mi 46 rfl))) (mvT hZ (hw _ (mi 47 rfl))) (mvT hZ (hw _ (mi 48 rfl))) (by decide) (backOf (W := 1) (rmCu l Z a0 hw [] qh qh w0 k_w0  hJ1 n0 O0 NF ) hZ (hw _ (mi 48 rfl)) (hw _ (mi 47 rfl)) (by decide) (by decide)) (g := (mkF m 92 #[.val (.ref xa), .val (.int p1), .val (.long qh), .second, .val (.long ql), .second, .val (.long (1 : Int64)), .second, .val (.long ql), .second, .val (.long qh), .second, .val (.long qh), .second, .val (.int (0 : Int32)), .unset, .unset, .unset, .unset, .unset, .unset] [(.long qh), (.long qh), (.int (0 : Int32))])) rfl (by rw [hml]; rfl) (argsL := [(.long qh), (.long qh)]) (rest := [(.int (0 : Int32))]) (lenOf pd_96 rfl) rfl (by show 2 * 0 + _ ≤ _; exact Nat.le_of_eq rfl) (hb hby d3_92) (fun _ _ => ⟨rfl, e3, (by decide : 1 + 0 ≤ _), (by decide : 24 + 0 ≤ _)⟩)
    dsimp only [Pt.U, Pt.locs, Pt.cells, Pt.slots] at X4 l4 y4 z4 st4 hQ4
    subst l4 y4 z4
    obtain ⟨⟨rc92, rfl, hrc92⟩, Nq4, e4⟩ := hQ4
    have N4 := Fr.app N3 Nq4
    refine Goes.to (T' := T4.setTop (mkF m 95 #[.val (.ref xa), .val (.int p1), .val (.long qh), .second, .val (.long ql), .second, .val (.long (1 : Int64)), .second, .val (.long ql), .second, .val (.long qh), .second, .val (.long qh), .second, .val (.int (0 : Int32)), .unset, .unset, .unset, .unset, .unset, .unset] [(.int rc92), (.int (0 : Int32))])) st4 ?_
    have hc95_5 : ¬ (rc92 < (0 : Int32)) := (fun q => Int64.lt_irrefl (hrc92.mp q))
    refine Goes.to (T' := T4.setTop (mkF m 102 #[.val (.ref xa), .val (.int p1), .val (.long qh), .second, .val (.long ql), .second, .val (.long (1 : Int64)), .second, .val (.long ql), .second, .val (.long qh), .second, .val (.long qh), .second, .val (.int (0 : Int32)), .unset, .unset, .unset, .unset, .unset, .unset] [(.int (0 : Int32))])) (fun t k => XS.ifYes X4.here hx rfl (pc0 := 95) (pc' := 102) rfl (hb hby d3_95) rfl ((if0 _ _).trans (flt hc95_5).2.1) (by decide) (by decide) k) ?_
    refine Goes.to (T' := T4.setTop (mkF m 103 #[.val (.ref xa), .val (.int p1), .val (.long qh), .second, .val (.long ql), .second, .val (.long (1 : Int64)), .second, .val (.long ql), .second, .val (.long qh), .second, .val (.long qh), .second, .val (.int (0 : Int32)), .unset, .unset, .unset, .unset, .unset, .unset] [(.int (0 : Int32)), (.int (0 : Int32))])) (fun t k => XS.iconst X4.here hx rfl (hb hby d3_102) k) ?_
    refine Goes.to (T' := T4.setTop (mkF m 104 #[.val (.ref xa), .val (.int p1), .val (.long qh), .second, .val (.long ql), .second, .val (.long (1 : Int64)), .second, .val (.long ql), .second, .val (.long qh), .second, .val (.long qh), .second, .val (.int (0 : Int32)), .unset, .unset, .unset, .unset, .unset, .unset] [(.int ((0 : Int32) ||| (0 : Int32)))])) (fun t k => XS.ior X4.here hx rfl (hb hby d3_103) rfl k) ?_
    rw [show ((0 : Int32) ||| (0 : Int32)) = (0 : Int32) from by decide +kernel]
    refine Goes.to (T' := T4.setTop (mkF m 106 #[.val (.ref xa), .val (.int p1), .val (.long qh), .second, .val (.long ql), .second, .val (.long (1 : Int64)), .second, .val (.long ql), .second, .val (.long qh), .second, .val (.long qh), .second, .val (.int (0 : Int32)), .unset, .unset, .unset, .unset, .unset, .unset] [])) (fun t k => XS.istore X4.here hx rfl (hb hby d3_104) rfl (l' := #[.val (.ref xa), .val (.int p1), .val (.long qh), .second, .val (.long ql), .second, .val (.long (1 : Int64)), .second, .val (.long ql), .second, .val (.long qh), .second, .val (.long qh), .second, .val (.int (0 : Int32)), .unset, .unset, .unset, .unset, .unset, .unset]) rfl k) ?_
    refine Goes.to (T' := T4.setTop (mkF m 107 #[.val (.ref xa), .val (.int p1), .val (.long qh), .second, .val (.long ql), .second, .val (.long (1 : Int64)), .second, .val (.long ql), .second, .val (.long qh), .second, .val (.long qh), .second, .val (.int (0 : Int32)), .unset, .unset, .unset, .unset, .unset, .unset] [(.ref xa)])) (fun t k => XS.aloadN X4.here hx rfl (hb hby d3_106) rfl rfl k) ?_
    obtain ⟨T6, X6, e6, st6⟩ := getF X4 hx hZ hown (host := "") (Or.inl (hw _ (mi 11 rfl))) Via.refl e4 F_lows_xa (g := (mkF m 107 #[.val (.ref xa), .val (.int p1), .val (.long qh), .second, .val (.long ql), .second, .val (.long (1 : Int64)), .second, .val (.long ql), .second, .val (.long qh), .second, .val (.long qh), .second, .val (.int (0 : Int32)), .unset, .unset, .unset, .unset, .unset, .unset] [(.ref xa)])) rfl rfl (hb hby d3_107)
    refine Goes.to (T' := T6.setTop (mkF m 110 #[.val (.ref xa), .val (.int p1), .val (.long qh), .second, .val (.long ql), .second, .val (.long (1 : Int64)), .second, .val (.long ql), .second, .val (.long qh), .second, .val (.long qh), .second, .val (.int (0 : Int32)), .unset, .unset, .unset, .unset, .unset, .unset] [(.ref lw)])) st6 ?_
    refine Goes.to (T' := T6.setTop (mkF m 111 #[.val (.ref xa), .val (.int p1), .val (.long qh), .second, .val (.long ql), .second, .val (.long (1 : Int64)), .second, .val (.long ql), .second, .val (.long qh), .second, .val (.long qh), .second, .val (.int (0 : Int32)), .unset, .unset, .unset, .unset, .unset, .unset] [(.int p1), (.ref lw)])) (fun t k => XS.iloadN X6.here hx rfl (hb hby d3_110) rfl k) ?_
    obtain ⟨cl7, Ar7, S7, Ng7, H7, Hz7⟩ := id V_lw
    have hin7 : ¬ (p1 < 0 ∨ cl7.slots.size ≤ (p1).toNatClampNeg) := inb_of S7 ⟨hp, hpw⟩
    refine Goes.to (T' := T6.setTop (mkF m 112 #[.val (.ref xa), .val (.int p1), .val (.long qh), .second, .val (.long ql), .second, .val (.long (1 : Int64)), .second, .val (.long ql), .second, .val (.long qh), .second, .val (.long qh), .second, .val (.int (0 : Int32)), .unset, .unset, .unset, .unset, .unset, .unset] [(.long (ff (p1).toNatClampNeg))])) (X6.laload hx (j := p1) (v := (.long (ff (p1).toNatClampNeg))) (by rw [e6]; exact Ar7.1) (State.isArrayOf_alike hZ.alike Ar7.2.1) Ar7.2.2 hin7 (H7 _ (Nat.lt_of_not_le fun q => hin7 (Or.inr (Nat.le_trans (Nat.le_of_eq S7) q)))) (g := (mkF m 111 #[.val (.ref xa), .val (.int p1), .val (.long qh), .second, .val (.long ql), .second, .val (.long (1 : Int64)), .second, .val (.long ql), .second, .val (.long qh), .second, .val (.long qh), .second, .val (.int (0 : Int32)), .unset, .unset, .unset, .unset, .unset, .unset] [(.int p1), (.ref lw)])) rfl rfl (hb hby d3_111)) ?_
    refine Goes.to (T' := T6.setTop (mkF m 114 #[.val (.ref xa), .val (.int p1), .val (.long qh), .second, .val (.long ql), .second, .val (.long (1 : Int64)), .second, .val (.long ql), .second, .val (.long qh), .second, .val (.long qh), .second, .val (.int (0 : Int32)), .unset, .unset, .unset, .unset, .unset, .unset] [(.long ql), (.long (ff (p1).toNatClampNeg))])) (fun t k => XS.lload X6.here hx rfl (hb hby d3_112) rfl k) ?_
    refine Goes.to (T' := T6.setTop (mkF m 115 #[.val (.ref xa), .val (.int p1), .val (.long qh), .second, .val (.long ql), .second, .val (.long (1 : Int64)), .second, .val (.long ql), .second, .val (.long qh), .second, .val (.long qh), .second, .val (.int (0 : Int32)), .unset, .unset, .unset, .unset, .unset, .unset] [(.long ((ff (p1).toNatClampNeg) + ql))])) (fun t k => XS.ladd X6.here hx rfl (hb hby d3_114) rfl k) ?_
    refine Goes.to (T' := T6.setTop (mkF m 117 #[.val (.ref xa), .val (.int p1), .val (.long qh), .second, .val (.long ql), .second, .val (.long (1 : Int64)), .second, .val (.long ql), .second, .val (.long qh), .second, .val (.long qh), .second, .val (.int (0 : Int32)), .val (.long ((ff (p1).toNatClampNeg) + ql)), .second, .unset, .unset, .unset, .unset] [])) (fun t k => XS.lstore X6.here hx rfl (hb hby d3_115) rfl (l' := #[.val (.ref xa), .val (.int p1), .val (.long qh), .second, .val (.long ql), .second, .val (.long (1 : Int64)), .second, .val (.long ql), .second, .val (.long qh), .second, .val (.long qh), .second, .val (.int (0 : Int32)), .val (.long ((ff (p1).toNatClampNeg) + ql)), .second, .unset, .unset, .unset, .unset]) rfl k) ?_
    refine Goes.to (T' := T6.setTop (mkF m 119 #[.val (.ref xa), .val (.int p1), .val (.long qh), .second, .val (.long ql), .second, .val (.long (1 : Int64)), .second, .val (.long ql), .second, .val (.long qh), .second, .val (.long qh), .second, .val (.int (0 : Int32)), .val (.long ((ff (p1).toNatClampNeg) + ql)), .second, .unset, .unset, .unset, .unset] [(.long ((ff (p1).toNatClampNeg) + ql))])) (fun t k => XS.lload X6.here hx rfl (hb hby d3_117) rfl k) ?_
    refine Goes.to (T' := T6.setTop (mkF m 121 #[.val (.ref xa), .val (.int p1), .val (.long qh), .second, .val (.long ql), .second, .val (.long (1 : Int64)), .second, .val (.long ql), .second, .val (.long qh), .second, .val (.long qh), .second, .val (.int (0 : Int32)), .val (.long ((ff (p1).toNatClampNeg) + ql)), .second, .unset, .unset, .unset, .unset] [(.long ql), (.long ((ff (p1).toNatClampNeg) + ql))])) (fun t k => XS.lload X6.here hx rfl (hb hby d3_119) rfl k) ?_
    obtain ⟨_, _, ⟨T8, L8, k8, n8⟩, -, X8, ⟨Lc8, hQ8, l8, y8, z8⟩, st8⟩ := Jvm.LawKit.callS X6 hx (y := (⟨"java/lang/Long", "compareUnsigned", "(JJ)I"⟩ : MethodName)) hown (mvT hZ (hw _ (mi 45 rfl))) (mvT hZ (hw _ (mi 46 rfl))) (mvT hZ (hw _ (mi 47 rfl))) (mvT hZ (hw _ (mi 48 rfl))) (by decide) (backOf (W := 0) (rmCu l Z a0 hw [] ((ff (p1).toNatClampNeg) + ql) ql w0 k_w0  hJ1 n0 O0 NF ) hZ (hw _ (mi 48 rfl)) (hw _ (mi 47 rfl)) (by decide) (by decide)) (g := (mkF m 121 #[.val (.ref xa), .val (.int p1), .val (.long qh), .second, .val (.long ql), .second, .val (.long (1 : Int64)), .second, .val (.long ql), .second, .val (.long qh), .second, .val (.long qh), .second, .val (.int (0 : Int32)), .val (.long ((ff (p1).toNatClampNeg) + ql)), .second, .unset, .unset, .unset, .unset] [(.long ql), (.long ((ff (p1).toNatClampNeg) + ql))])) rfl (by rw [hml]; rfl) (argsL := [(.long ((ff (p1).toNatClampNeg) + ql)), (.long ql)]) (rest := []) (lenOf pd_96 rfl) rfl (by show 2 * 0 + _ ≤ _; exact Nat.le_of_eq rfl) (hb hby d3_121) (fun _ _ => ⟨rfl, e6, (by decide : 1 + 0 ≤ _), (by decide : 24 + 0 ≤ _)⟩)
    dsimp only [Pt.U, Pt.locs, Pt.cells, Pt.slots] at X8 l8 y8 z8 st8 hQ8
    subst l8 y8 z8
    obtain ⟨⟨rc121, rfl, hrc121⟩, Nq8, e8⟩ := hQ8
    have N8 := Fr.app N4 Nq8
    refine Goes.to (T' := T8.setTop (mkF m 124 #[.val (.ref xa), .val (.int p1), .val (.long qh), .second, .val (.long ql), .second, .val (.long (1 : Int64)), .second, .val (.long ql), .second, .val (.long qh), .second, .val (.long qh), .second, .val (.int (0 : Int32)), .val (.long ((ff (p1).toNatClampNeg) + ql)), .second, .unset, .unset, .unset, .unset] [(.int rc121)])) st8 ?_
    rcases Decidable.em (rc121 < (0 : Int32)) with hc124_9 | hc124_9
    · skip
      refine Goes.to (T' := T8.setTop (mkF m 127 #[.val (.ref xa), .val (.int p1), .val (.long qh), .second, .val (.long ql), .second, .val (.long (1 : Int64)), .second, .val (.long ql), .second, .val (.long qh), .second, .val (.long qh), .second, .val (.int (0 : Int32)), .val (.long ((ff (p1).toNatClampNeg) + ql)), .second, .unset, .unset, .unset, .unset] [])) (fun t k => XS.ifNo X8.here hx rfl (hb hby d3_124) rfl ((if0 _ _).trans (tlt hc124_9).2.1) k) ?_
      refine Goes.to (T' := T8.setTop (mkF m 128 #[.val (.ref xa), .val (.int p1), .val (.long qh), .second, .val (.long ql), .second, .val (.long (1 : Int64)), .second, .val (.long ql), .second, .val (.long qh), .second, .val (.long qh), .second, .val (.int (0 : Int32)), .val (.long ((ff (p1).toNatClampNeg) + ql)), .second, .unset, .unset, .unset, .unset] [(.long (1 : Int64))])) (fun t k => XS.lconst X8.here hx rfl (hb hby d3_127) k) ?_
      refine Goes.to (T' := T8.setTop (mkF m 132 #[.val (.ref xa), .val (.int p1), .val (.long qh), .second, .val (.long ql), .second, .val (.long (1 : Int64)), .second, .val (.long ql), .second, .val (.long qh), .second, .val (.long qh), .second, .val (.int (0 : Int32)), .val (.long ((ff (p1).toNatClampNeg) + ql)), .second, .unset, .unset, .unset, .unset] [(.long (1 : Int64))])) (fun t k => XS.goto X8.here hx rfl (pc0 := 128) (pc' := 132) rfl (hb hby d3_128) (by decide) (by decide) k) ?_
      refine Goes.to (T' := T8.setTop (mkF m 134 #[.val (.ref xa), .val (.int p1), .val (.long qh), .second, .val (.long ql), .second, .val (.long (1 : Int64)), .second, .val (.long ql), .second, .val (.long qh), .second, .val (.long qh), .second, .val (.int (0 : Int32)), .val (.long ((ff (p1).toNatClampNeg) + ql)), .second, .val (.long (1 : Int64)), .second, .unset, .unset] [])) (fun t k => XS.lstore X8.here hx rfl (hb hby d3_132) rfl (l' := #[.val (.ref xa), .val (.int p1), .val (.long qh), .second, .val (.long ql), .second, .val (.long (1 : Int64)), .second, .val (.long ql), .second, .val (.long qh), .second, .val (.long qh), .second, .val (.int (0 : Int32)), .val (.long ((ff (p1).toNatClampNeg) + ql)), .second, .val (.long (1 : Int64)), .second, .unset, .unset]) rfl k) ?_
      refine Goes.to (T' := T8.setTop (mkF m 135 #[.val (.ref xa), .val (.int p1), .val (.long qh), .second, .val (.long ql), .second, .val (.long (1 : Int64)), .second, .val (.long ql), .second, .val (.long qh), .second, .val (.long qh), .second, .val (.int (0 : Int32)), .val (.long ((ff (p1).toNatClampNeg) + ql)), .second, .val (.long (1 : Int64)), .second, .unset, .unset] [(.ref xa)])) (fun t k => XS.aloadN X8.here hx rfl (hb hby d3_134) rfl rfl k) ?_
      refine Goes.to (T' := T8.setTop (mkF m 136 #[.val (.ref xa), .val (.int p1), .val (.long qh), .second, .val (.long ql), .second, .val (.long (1 : Int64)), .second, .val (.long ql), .second, .val (.long qh), .second, .val (.long qh), .second, .val (.int (0 : Int32)), .val (.long ((ff (p1).toNatClampNeg) + ql)), .second, .val (.long (1 : Int64)), .second, .unset, .unset] [(.int p1), (.ref xa)])) (fun t k => XS.iloadN X8.here hx rfl (hb hby d3_135) rfl k) ?_
      obtain ⟨cq10, q10, q10'⟩ := E_xa.cell
      obtain ⟨_, _, ⟨T10, L10, k10, n10⟩, -, X10, ⟨Lc10, hQ10, l10, y10, z10⟩, st10⟩ := X8.privateBack hx (y := (⟨"com/example/suretyline/suretyline/Sums", "high", "(I)J"⟩ : MethodName)) hown (mvT hZ (hw _ (mi 53 rfl))) (mvT hZ (hw _ (mi 54 rfl))) (own_selp (args := #[]) (mvT hZ (hw _ (mi 1 rfl))) (mvP hZ (hw _ (mi 55 rfl))) (mvT hZ (hw _ (mi 54 rfl))) (by decide)) (Cond.privateMethod_at (mvP hZ (hw _ (mi 55 rfl)) (args := #[]))) (mvT hZ (hw _ (mi 56 rfl))) (by decide) (backOf (W := 0) (rm_high l Z a0 hw [] xa p1 w0 k_w0 ff gg hJ1 n0 O0 NF ⟨lw, hi, zw, zh, E_xa, g_xa, F_lows_xa, F_highs_xa, V_lw, V_hi, ne_lw_xa, ne_hi_xa, Or.inl g_lw, ghi, Or.inl ne_lw_hi, hw25⟩ hp) hZ (hw _ (mi 56 rfl)) (hw _ (mi 2 rfl)) (by decide) (by decide)) (g := (mkF m 136 #[.val (.ref xa), .val (.int p1), .val (.long qh), .second, .val (.long ql), .second, .val (.long (1 : Int64)), .second, .val (.long ql), .second, .val (.long qh), .second, .val (.long qh), .second, .val (.int (0 : Int32)), .val (.long ((ff (p1).toNatClampNeg) + ql)), .second, .val (.long (1 : Int64)), .second, .unset, .unset] [(.int p1), (.ref xa)])) rfl (by rw [hml]; rfl) (Steps.refl _) (a := xa) (by rw [e8]; exact q10) q10' (argsL := [(.int p1)]) (rest := []) (lenOf pd_152 rfl) rfl (by show 2 * 0 + _ ≤ _; exact Nat.le_of_eq rfl) (hb hby d3_136) (fun _ _ => ⟨rfl, e8, (by decide : 1 + 0 ≤ _), (by decide : 24 + 0 ≤ _)⟩)
      dsimp only [Pt.U, Pt.locs, Pt.cells, Pt.slots] at X10 l10 y10 z10 st10 hQ10
      subst l10 y10 z10
      obtain ⟨rfl, Nq10, e10⟩ := hQ10
      have N10 := Fr.app N8 Nq10
      refine Goes.thru (T' := T10.setTop (mkF m 139 #[.val (.ref xa), .val (.int p1), .val (.long qh), .second, .val (.long ql), .second, .val (.long (1 : Int64)), .second, .val (.long ql), .second, .val (.long qh), .second, .val (.long qh), .second, .val (.int (0 : Int32)), .val (.long ((ff (p1).toNatClampNeg) + ql)), .second, .val (.long (1 : Int64)), .second, .unset, .unset] [(.long (gg p1.toNatClampNeg))])) st10 ?_
      refine Goes.to (T' := T10.setTop (mkF m 141 #[.val (.ref xa), .val (.int p1), .val (.long qh), .second, .val (.long ql), .second, .val (.long (1 : Int64)), .second, .val (.long ql), .second, .val (.long qh), .second, .val (.long qh), .second, .val (.int (0 : Int32)), .val (.long ((ff (p1).toNatClampNeg) + ql)), .second, .val (.long (1 : Int64)), .second, .unset, .unset] [(.long qh), (.long (gg p1.toNatClampNeg))])) (fun t k => XS.lload X10.here hx rfl (hb hby d3_139) rfl k) ?_
      refine Goes.to (T' := T10.setTop (mkF m 142 #[.val (.ref xa), .val (.int p1), .val (.long qh), .second, .val (.long ql), .second, .val (.long (1 : Int64)), .second, .val (.long ql), .second, .val (.long qh), .second, .val (.long qh), .second, .val (.int (0 : Int32)), .val (.long ((ff (p1).toNatClampNeg) + ql)), .second, .val (.long (1 : Int64)), .second, .unset, .unset] [(.long ((gg p1.toNatClampNeg) + qh))])) (fun t k => XS.ladd X10.here hx rfl (hb hby d3_141) rfl k) ?_
      refine Goes.to (T' := T10.setTop (mkF m 144 #[.val (.ref xa), .val (.int p1), .val (.long qh), .second, .val (.long ql), .second, .val (.long (1 : Int64)), .second, .val (.long ql), .second, .val (.long qh), .second, .val (.long qh), .second, .val (.int (0 : Int32)), .val (.long ((ff (p1).toNatClampNeg) + ql)), .second, .val (.long (1 : Int64)), .second, .val (.long ((gg p1.toNatClampNeg) + qh)), .second] [])) (fun t k => XS.lstore X10.here hx rfl (hb hby d3_142) rfl (l' := #[.val (.ref xa), .val (.int p1), .val (.long qh), .second, .val (.long ql), .second, .val (.long (1 : Int64)), .second, .val (.long ql), .second, .val (.long qh), .second, .val (.long qh), .second, .val (.int (0 : Int32)), .val (.long ((ff (p1).toNatClampNeg) + ql)), .second, .val (.long (1 : Int64)), .second, .val (.long ((gg p1.toNatClampNeg) + qh)), .second]) rfl k) ?_
      refine Goes.to (T' := T10.setTop (mkF m 146 #[.val (.ref xa), .val (.int p1), .val (.long qh), .second, .val (.long ql), .second, .val (.long (1 : Int64)), .second, .val (.long ql), .second, .val (.long qh), .second, .val (.long qh), .second, .val (.int (0 : Int32)), .val (.long ((ff (p1).toNatClampNeg) + ql)), .second, .val (.long (1 : Int64)), .second, .val (.long ((gg p1.toNatClampNeg) + qh)), .second] [(.int (0 : Int32))])) (fun t k => XS.iload X10.here hx rfl (hb hby d3_144) rfl k) ?_
      refine Goes.to (T' := T10.setTop (mkF m 148 #[.val (.ref xa), .val (.int p1), .val (.long qh), .second, .val (.long ql), .second, .val (.long (1 : Int64)), .second, .val (.long ql), .second, .val (.long qh), .second, .val (.long qh), .second, .val (.int (0 : Int32)), .val (.long ((ff (p1).toNatClampNeg) + ql)), .second, .val (.long (1 : Int64)), .second, .val (.long ((gg p1.toNatClampNeg) + qh)), .second] [(.long ((gg p1.toNatClampNeg) + qh)), (.int (0 : Int32))])) (fun t k => XS.lload X10.here hx rfl (hb hby d3_146) rfl k) ?_
      refine Goes.to (T' := T10.setTop (mkF m 150 #[.val (.ref xa), .val (.int p1), .val (.long qh), .second, .val (.long ql), .second, .val (.long (1 : Int64)), .second, .val (.long ql), .second, .val (.long qh), .second, .val (.long qh), .second, .val (.int (0 : Int32)), .val (.long ((ff (p1).toNatClampNeg) + ql)), .second, .val (.long (1 : Int64)), .second, .val (.long ((gg p1.toNatClampNeg) + qh)), .second] [(.long qh), (.long ((gg p1.toNatClampNeg) + qh)), (.int (0 : Int32))])) (fun t k => XS.lload X10.here hx rfl (hb hby d3_148) rfl k) ?_
      obtain ⟨_, _, ⟨T11, L11, k11, n11⟩, -, X11, ⟨Lc11, hQ11, l11, y11, z11⟩, st11⟩ := Jvm.LawKit.callS X10 hx (y := (⟨"java/lang/Long", "compareUnsigned", "(JJ)I"⟩ : MethodName)) hown (mvT hZ (hw _ (mi 45 rfl))) (mvT hZ (hw _ (mi 46 rfl))) (mvT hZ (hw _ (mi 47 rfl))) (mvT hZ (hw _ (mi 48 rfl))) (by decide) (backOf (W := 1) (rmCu l Z a0 hw [] ((gg p1.toNatClampNeg) + qh) qh w0 k_w0  hJ1 n0 O0 NF ) hZ (hw _ (mi 48 rfl)) (hw _ (mi 47 rfl)) (by decide) (by decide)) (g := (mkF m 150 #[.val (.ref xa), .val (.int p1), .val (.long qh), .second, .val (.long ql), .second, .val (.long (1 : Int64)), .second, .val (.long ql), .second, .val (.long qh), .second, .val (.long qh), .second, .val (.int (0 : Int32)), .val (.long ((ff (p1).toNatClampNeg) + ql)), .second, .val (.long (1 : Int64)), .second, .val (.long ((gg p1.toNatClampNeg) + qh)), .second] [(.long qh), (.long ((gg p1.toNatClampNeg) + qh)), (.int (0 : Int32))])) rfl (by rw [hml]; rfl) (argsL := [(.long ((gg p1.toNatClampNeg) + qh)), (.long qh)]) (rest := [(.int (0 : Int32))]) (lenOf pd_96 rfl) rfl (by show 2 * 0 + _ ≤ _; exact Nat.le_of_eq rfl) (hb hby d3_150) (fun _ _ => ⟨rfl, e10, (by decide : 1 + 0 ≤ _), (by decide : 24 + 0 ≤ _)⟩)
      dsimp only [Pt.U, Pt.locs, Pt.cells, Pt.slots] at X11 l11 y11 z11 st11 hQ11
      subst l11 y11 z11
      obtain ⟨⟨rc150, rfl, hrc150⟩, Nq11, e11⟩ := hQ11
      have N11 := Fr.app N10 Nq11
      refine Goes.to (T' := T11.setTop (mkF m 153 #[.val (.ref xa), .val (.int p1), .val (.long qh), .second, .val (.long ql), .second, .val (.long (1 : Int64)), .second, .val (.long ql), .second, .val (.long qh), .second, .val (.long qh), .second, .val (.int (0 : Int32)), .val (.long ((ff (p1).toNatClampNeg) + ql)), .second, .val (.long (1 : Int64)), .second, .val (.long ((gg p1.toNatClampNeg) + qh)), .second] [(.int rc150), (.int (0 : Int32))])) st11 ?_
      have hc153_12 : ¬ (rc150 < (0 : Int32)) := (fun q => hov1 (hrc150.mp q))
      refine Goes.to (T' := T11.setTop (mkF m 160 #[.val (.ref xa), .val (.int p1), .val (.long qh), .second, .val (.long ql), .second, .val (.long (1 : Int64)), .second, .val (.long ql), .second, .val (.long qh), .second, .val (.long qh), .second, .val (.int (0 : Int32)), .val (.long ((ff (p1).toNatClampNeg) + ql)), .second, .val (.long (1 : Int64)), .second, .val (.long ((gg p1.toNatClampNeg) + qh)), .second] [(.int (0 : Int32))])) (fun t k => XS.ifYes X11.here hx rfl (pc0 := 153) (pc' := 160) rfl (hb hby d3_153) rfl ((if0 _ _).trans (flt hc153_12).2.1) (by decide) (by decide) k) ?_
      refine Goes.to (T' := T11.setTop (mkF m 161 #[.val (.ref xa), .val (.int p1), .val (.long qh), .second, .val (.long ql), .second, .val (.long (1 : Int64)), .second, .val (.long ql), .second, .val (.long qh), .second, .val (.long qh), .second, .val (.int (0 : Int32)), .val (.long ((ff (p1).toNatClampNeg) + ql)), .second, .val (.long (1 : Int64)), .second, .val (.long ((gg p1.toNatClampNeg) + qh)), .second] [(.int (0 : Int32)), (.int (0 : Int32))])) (fun t k => XS.iconst X11.here hx rfl (hb hby d3_160) k) ?_
      refine Goes.to (T' := T11.setTop (mkF m 162 #[.val (.ref xa), .val (.int p1), .val (.long qh), .second, .val (.long ql), .second, .val (.long (1 : Int64)), .second, .val (.long ql), .second, .val (.long qh), .second, .val (.long qh), .second, .val (.int (0 : Int32)), .val (.long ((ff (p1).toNatClampNeg) + ql)), .second, .val (.long (1 : Int64)), .second, .val (.long ((gg p1.toNatClampNeg) + qh)), .second] [(.int ((0 : Int32) ||| (0 : Int32)))])) (fun t k => XS.ior X11.here hx rfl (hb hby d3_161) rfl k) ?_
      rw [show ((0 : Int32) ||| (0 : Int32)) = (0 : Int32) from by decide +kernel]
      refine Goes.to (T' := T11.setTop (mkF m 164 #[.val (.ref xa), .val (.int p1), .val (.long qh), .second, .val (.long ql), .second, .val (.long (1 : Int64)), .second, .val (.long ql), .second, .val (.long qh), .second, .val (.long qh), .second, .val (.int (0 : Int32)), .val (.long ((ff (p1).toNatClampNeg) + ql)), .second, .val (.long (1 : Int64)), .second, .val (.long ((gg p1.toNatClampNeg) + qh)), .second] [])) (fun t k => XS.istore X11.here hx rfl (hb hby d3_162) rfl (l' := #[.val (.ref xa), .val (.int p1), .val (.long qh), .second, .val (.long ql), .second, .val (.long (1 : Int64)), .second, .val (.long ql), .second, .val (.long qh), .second, .val (.long qh), .second, .val (.int (0 : Int32)), .val (.long ((ff (p1).toNatClampNeg) + ql)), .second, .val (.long (1 : Int64)), .second, .val (.long ((gg p1.toNatClampNeg) + qh)), .second]) rfl k) ?_
      refine Goes.to (T' := T11.setTop (mkF m 166 #[.val (.ref xa), .val (.int p1), .val (.long qh), .second, .val (.long ql), .second, .val (.long (1 : Int64)), .second, .val (.long ql), .second, .val (.long qh), .second, .val (.long qh), .second, .val (.int (0 : Int32)), .val (.long ((ff (p1).toNatClampNeg) + ql)), .second, .val (.long (1 : Int64)), .second, .val (.long ((gg p1.toNatClampNeg) + qh)), .second] [(.long ((gg p1.toNatClampNeg) + qh))])) (fun t k => XS.lload X11.here hx rfl (hb hby d3_164) rfl k) ?_
      refine Goes.to (T' := T11.setTop (mkF m 168 #[.val (.ref xa), .val (.int p1), .val (.long qh), .second, .val (.long ql), .second, .val (.long (1 : Int64)), .second, .val (.long ql), .second, .val (.long qh), .second, .val (.long qh), .second, .val (.int (0 : Int32)), .val (.long ((ff (p1).toNatClampNeg) + ql)), .second, .val (.long (1 : Int64)), .second, .val (.long ((gg p1.toNatClampNeg) + qh)), .second] [(.long (1 : Int64)), (.long ((gg p1.toNatClampNeg) + qh))])) (fun t k => XS.lload X11.here hx rfl (hb hby d3_166) rfl k) ?_
      refine Goes.to (T' := T11.setTop (mkF m 169 #[.val (.ref xa), .val (.int p1), .val (.long qh), .second, .val (.long ql), .second, .val (.long (1 : Int64)), .second, .val (.long ql), .second, .val (.long qh), .second, .val (.long qh), .second, .val (.int (0 : Int32)), .val (.long ((ff (p1).toNatClampNeg) + ql)), .second, .val (.long (1 : Int64)), .second, .val (.long ((gg p1.toNatClampNeg) + qh)), .second] [(.long (((gg p1.toNatClampNeg) + qh) + (1 : Int64)))])) (fun t k => XS.ladd X11.here hx rfl (hb hby d3_168) rfl k) ?_
      refine Goes.to (T' := T11.setTop (mkF m 171 #[.val (.ref xa), .val (.int p1), .val (.long qh), .second, .val (.long ql), .second, .val (.long (1 : Int64)), .second, .val (.long ql), .second, .val (.long qh), .second, .val (.long qh), .second, .val (.int (0 : Int32)), .val (.long ((ff (p1).toNatClampNeg) + ql)), .second, .val (.long (1 : Int64)), .second, .val (.long (((gg p1.toNatClampNeg) + qh) + (1 : Int64))), .second] [])) (fun t k => XS.lstore X11.here hx rfl (hb hby d3_169) rfl (l' := #[.val (.ref xa), .val (.int p1), .val (.long qh), .second, .val (.long ql), .second, .val (.long (1 : Int64)), .second, .val (.long ql), .second, .val (.long qh), .second, .val (.long qh), .second, .val (.int (0 : Int32)), .val (.long ((ff (p1).toNatClampNeg) + ql)), .second, .val (.long (1 : Int64)), .second, .val (.long (((gg p1.toNatClampNeg) + qh) + (1 : Int64))), .second]) rfl k) ?_
      refine Goes.to (T' := T11.setTop (mkF m 173 #[.val (.ref xa), .val (.int p1), .val (.long qh), .second, .val (.long ql), .second, .val (.long (1 : Int64)), .second, .val (.long ql), .second, .val (.long qh), .second, .val (.long qh), .second, .val (.int (0 : Int32)), .val (.long ((ff (p1).toNatClampNeg) + ql)), .second, .val (.long (1 : Int64)), .second, .val (.long (((gg p1.toNatClampNeg) + qh) + (1 : Int64))), .second] [(.int (0 : Int32))])) (fun t k => XS.iload X11.here hx rfl (hb hby d3_171) rfl k) ?_
      refine Goes.to (T' := T11.setTop (mkF m 175 #[.val (.ref xa), .val (.int p1), .val (.long qh), .second, .val (.long ql), .second, .val (.long (1 : Int64)), .second, .val (.long ql), .second, .val (.long qh), .second, .val (.long qh), .second, .val (.int (0 : Int32)), .val (.long ((ff (p1).toNatClampNeg) + ql)), .second, .val (.long (1 : Int64)), .second, .val (.long (((gg p1.toNatClampNeg) + qh) + (1 : Int64))), .second] [(.long (1 : Int64)), (.int (0 : Int32))])) (fun t k => XS.lload X11.here hx rfl (hb hby d3_173) rfl k) ?_
      refine Goes.to (T' := T11.setTop (mkF m 176 #[.val (.ref xa), .val (.int p1), .val (.long qh), .second, .val (.long ql), .second, .val (.long (1 : Int64)), .second, .val (.long ql), .second, .val (.long qh), .second, .val (.long qh), .second, .val (.int (0 : Int32)), .val (.long ((ff (p1).toNatClampNeg) + ql)), .second, .val (.long (1 : Int64)), .second, .val (.long (((gg p1.toNatClampNeg) + qh) + (1 : Int64))), .second] [(.long (0 : Int64)), (.long (1 : Int64)), (.int (0 : Int32))])) (fun t k => XS.lconst X11.here hx rfl (hb hby d3_175) k) ?_
      refine Goes.to (T' := T11.setTop (mkF m 177 #[.val (.ref xa), .val (.int p1), .val (.long qh), .second, .val (.long ql), .second, .val (.long (1 : Int64)), .second, .val (.long ql), .second, .val (.long qh), .second, .val (.long qh), .second, .val (.int (0 : Int32)), .val (.long ((ff (p1).toNatClampNeg) + ql)), .second, .val (.long (1 : Int64)), .second, .val (.long (((gg p1.toNatClampNeg) + qh) + (1 : Int64))), .second] [(.int (lcmpW (1 : Int64) (0 : Int64))), (.int (0 : Int32))])) (fun t k => XS.lcmp X11.here hx rfl (hb hby d3_176) rfl k) ?_
      refine Goes.to (T' := T11.setTop (mkF m 180 #[.val (.ref xa), .val (.int p1), .val (.long qh), .second, .val (.long ql), .second, .val (.long (1 : Int64)), .second, .val (.long ql), .second, .val (.long qh), .second, .val (.long qh), .second, .val (.int (0 : Int32)), .val (.long ((ff (p1).toNatClampNeg) + ql)), .second, .val (.long (1 : Int64)), .second, .val (.long (((gg p1.toNatClampNeg) + qh) + (1 : Int64))), .second] [(.int (0 : Int32))])) (fun t k => XS.ifNo X11.here hx rfl (hb hby d3_177) rfl ((if0 _ _).trans (feq (by decide)).1) k) ?_
      refine Goes.to (T' := T11.setTop (mkF m 182 #[.val (.ref xa), .val (.int p1), .val (.long qh), .second, .val (.long ql), .second, .val (.long (1 : Int64)), .second, .val (.long ql), .second, .val (.long qh), .second, .val (.long qh), .second, .val (.int (0 : Int32)), .val (.long ((ff (p1).toNatClampNeg) + ql)), .second, .val (.long (1 : Int64)), .second, .val (.long (((gg p1.toNatClampNeg) + qh) + (1 : Int64))), .second] [(.long (((gg p1.toNatClampNeg) + qh) + (1 : Int64))), (.int (0 : Int32))])) (fun t k => XS.lload X11.here hx rfl (hb hby d3_180) rfl k) ?_
      refine Goes.to (T' := T11.setTop (mkF m 183 #[.val (.ref xa), .val (.int p1), .val (.long qh), .second, .val (.long ql), .second, .val (.long (1 : Int64)), .second, .val (.long ql), .second, .val (.long qh), .second, .val (.long qh), .second, .val (.int (0 : Int32)), .val (.long ((ff (p1).toNatClampNeg) + ql)), .second, .val (.long (1 : Int64)), .second, .val (.long (((gg p1.toNatClampNeg) + qh) + (1 : Int64))), .second] [(.long (0 : Int64)), (.long (((gg p1.toNatClampNeg) + qh) + (1 : Int64))), (.int (0 : Int32))])) (fun t k => XS.lconst X11.here hx rfl (hb hby d3_182) k) ?_
      refine Goes.to (T' := T11.setTop (mkF m 184 #[.val (.ref xa), .val (.int p1), .val (.long qh), .second, .val (.long ql), .second, .val (.long (1 : Int64)), .second, .val (.long ql), .second, .val (.long qh), .second, .val (.long qh), .second, .val (.int (0 : Int32)), .val (.long ((ff (p1).toNatClampNeg) + ql)), .second, .val (.long (1 : Int64)), .second, .val (.long (((gg p1.toNatClampNeg) + qh) + (1 : Int64))), .second] [(.int (lcmpW (((gg p1.toNatClampNeg) + qh) + (1 : Int64)) (0 : Int64))), (.int (0 : Int32))])) (fun t k => XS.lcmp X11.here hx rfl (hb hby d3_183) rfl k) ?_
      have hc184_13 : ¬ ((((gg p1.toNatClampNeg) + qh) + (1 : Int64)) = (0 : Int64)) := (fun q => hov2 (by rw [hcar]; exact if_pos (hrc121.mp hc124_9)) q)
      refine Goes.to (T' := T11.setTop (mkF m 191 #[.val (.ref xa), .val (.int p1), .val (.long qh), .second, .val (.long ql), .second, .val (.long (1 : Int64)), .second, .val (.long ql), .second, .val (.long qh), .second, .val (.long qh), .second, .val (.int (0 : Int32)), .val (.long ((ff (p1).toNatClampNeg) + ql)), .second, .val (.long (1 : Int64)), .second, .val (.long (((gg p1.toNatClampNeg) + qh) + (1 : Int64))), .second] [(.int (0 : Int32))])) (fun t k => XS.ifYes X11.here hx rfl (pc0 := 184) (pc' := 191) rfl (hb hby d3_184) rfl ((if0 _ _).trans (feq (fun q => hc184_13 ((lw_eq (((gg p1.toNatClampNeg) + qh) + (1 : Int64)) (0 : Int64)).mp q))).2) (by decide) (by decide) k) ?_
      refine Goes.to (T' := T11.setTop (mkF m 192 #[.val (.ref xa), .val (.int p1), .val (.long qh), .second, .val (.long ql), .second, .val (.long (1 : Int64)), .second, .val (.long ql), .second, .val (.long qh), .second, .val (.long qh), .second, .val (.int (0 : Int32)), .val (.long ((ff (p1).toNatClampNeg) + ql)), .second, .val (.long (1 : Int64)), .second, .val (.long (((gg p1.toNatClampNeg) + qh) + (1 : Int64))), .second] [(.int (0 : Int32)), (.int (0 : Int32))])) (fun t k => XS.iconst X11.here hx rfl (hb hby d3_191) k) ?_
      refine Goes.to (T' := T11.setTop (mkF m 193 #[.val (.ref xa), .val (.int p1), .val (.long qh), .second, .val (.long ql), .second, .val (.long (1 : Int64)), .second, .val (.long ql), .second, .val (.long qh), .second, .val (.long qh), .second, .val (.int (0 : Int32)), .val (.long ((ff (p1).toNatClampNeg) + ql)), .second, .val (.long (1 : Int64)), .second, .val (.long (((gg p1.toNatClampNeg) + qh) + (1 : Int64))), .second] [(.int ((0 : Int32) ||| (0 : Int32)))])) (fun t k => XS.ior X11.here hx rfl (hb hby d3_192) rfl k) ?_
      rw [show ((0 : Int32) ||| (0 : Int32)) = (0 : Int32) from by decide +kernel]
      refine Goes.to (T' := T11.setTop (mkF m 195 #[.val (.ref xa), .val (.int p1), .val (.long qh), .second, .val (.long ql), .second, .val (.long (1 : Int64)), .second, .val (.long ql), .second, .val (.long qh), .second, .val (.long qh), .second, .val (.int (0 : Int32)), .val (.long ((ff (p1).toNatClampNeg) + ql)), .second, .val (.long (1 : Int64)), .second, .val (.long (((gg p1.toNatClampNeg) + qh) + (1 : Int64))), .second] [])) (fun t k => XS.istore X11.here hx rfl (hb hby d3_193) rfl (l' := #[.val (.ref xa), .val (.int p1), .val (.long qh), .second, .val (.long ql), .second, .val (.long (1 : Int64)), .second, .val (.long ql), .second, .val (.long qh), .second, .val (.long qh), .second, .val (.int (0 : Int32)), .val (.long ((ff (p1).toNatClampNeg) + ql)), .second, .val (.long (1 : Int64)), .second, .val (.long (((gg p1.toNatClampNeg) + qh) + (1 : Int64))), .second]) rfl k) ?_
      refine Goes.to (T' := T11.setTop (mkF m 197 #[.val (.ref xa), .val (.int p1), .val (.long qh), .second, .val (.long ql), .second, .val (.long (1 : Int64)), .second, .val (.long ql), .second, .val (.long qh), .second, .val (.long qh), .second, .val (.int (0 : Int32)), .val (.long ((ff (p1).toNatClampNeg) + ql)), .second, .val (.long (1 : Int64)), .second, .val (.long (((gg p1.toNatClampNeg) + qh) + (1 : Int64))), .second] [(.int (0 : Int32))])) (fun t k => XS.iload X11.here hx rfl (hb hby d3_195) rfl k) ?_
      refine Goes.to (T' := T11.setTop (mkF m 210 #[.val (.ref xa), .val (.int p1), .val (.long qh), .second, .val (.long ql), .second, .val (.long (1 : Int64)), .second, .val (.long ql), .second, .val (.long qh), .second, .val (.long qh), .second, .val (.int (0 : Int32)), .val (.long ((ff (p1).toNatClampNeg) + ql)), .second, .val (.long (1 : Int64)), .second, .val (.long (((gg p1.toNatClampNeg) + qh) + (1 : Int64))), .second] [])) (fun t k => XS.ifYes X11.here hx rfl (pc0 := 197) (pc' := 210) rfl (hb hby d3_197) rfl ((if0 _ _).trans (teq (by decide)).1) (by decide) (by decide) k) ?_
      refine Goes.to (T' := T11.setTop (mkF m 211 #[.val (.ref xa), .val (.int p1), .val (.long qh), .second, .val (.long ql), .second, .val (.long (1 : Int64)), .second, .val (.long ql), .second, .val (.long qh), .second, .val (.long qh), .second, .val (.int (0 : Int32)), .val (.long ((ff (p1).toNatClampNeg) + ql)), .second, .val (.long (1 : Int64)), .second, .val (.long (((gg p1.toNatClampNeg) + qh) + (1 : Int64))), .second] [(.ref xa)])) (fun t k => XS.aloadN X11.here hx rfl (hb hby d3_210) rfl rfl k) ?_
      obtain ⟨T14, X14, e14, st14⟩ := getF X11 hx hZ hown (host := "") (Or.inl (hw _ (mi 11 rfl))) Via.refl e11 F_lows_xa (g := (mkF m 211 #[.val (.ref xa), .val (.int p1), .val (.long qh), .second, .val (.long ql), .second, .val (.long (1 : Int64)), .second, .val (.long ql), .second, .val (.long qh), .second, .val (.long qh), .second, .val (.int (0 : Int32)), .val (.long ((ff (p1).toNatClampNeg) + ql)), .second, .val (.long (1 : Int64)), .second, .val (.long (((gg p1.toNatClampNeg) + qh) + (1 : Int64))), .second] [(.ref xa)])) rfl rfl (hb hby d3_211)
      refine Goes.to (T' := T14.setTop (mkF m 214 #[.val (.ref xa), .val (.int p1), .val (.long qh), .second, .val (.long ql), .second, .val (.long (1 : Int64)), .second, .val (.long ql), .second, .val (.long qh), .second, .val (.long qh), .second, .val (.int (0 : Int32)), .val (.long ((ff (p1).toNatClampNeg) + ql)), .second, .val (.long (1 : Int64)), .second, .val (.long (((gg p1.toNatClampNeg) + qh) + (1 : Int64))), .second] [(.ref lw)])) st14 ?_
      refine Goes.to (T' := T14.setTop (mkF m 215 #[.val (.ref xa), .val (.int p1), .val (.long qh), .second, .val (.long ql), .second, .val (.long (1 : Int64)), .second, .val (.long ql), .second, .val (.long qh), .second, .val (.long qh), .second, .val (.int (0 : Int32)), .val (.long ((ff (p1).toNatClampNeg) + ql)), .second, .val (.long (1 : Int64)), .second, .val (.long (((gg p1.toNatClampNeg) + qh) + (1 : Int64))), .second] [(.int p1), (.ref lw)])) (fun t k => XS.iloadN X14.here hx rfl (hb hby d3_214) rfl k) ?_
      refine Goes.to (T' := T14.setTop (mkF m 217 #[.val (.ref xa), .val (.int p1), .val (.long qh), .second, .val (.long ql), .second, .val (.long (1 : Int64)), .second, .val (.long ql), .second, .val (.long qh), .second, .val (.long qh), .second, .val (.int (0 : Int32)), .val (.long ((ff (p1).toNatClampNeg) + ql)), .second, .val (.long (1 : Int64)), .second, .val (.long (((gg p1.toNatClampNeg) + qh) + (1 : Int64))), .second] [(.long ((ff (p1).toNatClampNeg) + ql)), (.int p1), (.ref lw)])) (fun t k => XS.lload X14.here hx rfl (hb hby d3_215) rfl k) ?_
      obtain ⟨cl15, Ar15, S15, Ng15, H15, Hz15⟩ := id V_lw
      have hin15 : ¬ (p1 < 0 ∨ cl15.slots.size ≤ (p1).toNatClampNeg) := inb_of S15 ⟨hp, hpw⟩
      obtain ⟨T16, h16, X16, e16, W16, st16⟩ := stJ X14 hx hZ e14 Ar15 (j := p1) hin15 (g := (mkF m 217 #[.val (.ref xa), .val (.int p1), .val (.long qh), .second, .val (.long ql), .second, .val (.long (1 : Int64)), .second, .val (.long ql), .second, .val (.long qh), .second, .val (.long qh), .second, .val (.int (0 : Int32)), .val (.long ((ff (p1).toNatClampNeg) + ql)), .second, .val (.long (1 : Int64)), .second, .val (.long (((gg p1.toNatClampNeg) + qh) + (1 : Int64))), .second] [(.long ((ff (p1).toNatClampNeg) + ql)), (.int p1), (.ref lw)])) rfl rfl (hb hby d3_217)
      have V_lw : La Z h16 lw zw (upd ff (p1).toNatClampNeg ((ff (p1).toNatClampNeg) + ql)) := La.set Ar15 S15 Ng15 H15 Hz15 W16 ⟨hp, hpw⟩
      have E_xa := E_xa.wr W16
      have F_lows_xa := F_lows_xa.other W16 (Or.inl (ne_xa_lw))
      have F_highs_xa := F_highs_xa.other W16 (Or.inl (ne_xa_lw))
      have V_hi := V_hi.other W16 (ne_hi_lw)
      have O0 := O0.wr W16 g_lw
      have N16 := Fr.snoc X16 N11 g_lw
      refine Goes.to (T' := T16.setTop (mkF m 218 #[.val (.ref xa), .val (.int p1), .val (.long qh), .second, .val (.long ql), .second, .val (.long (1 : Int64)), .second, .val (.long ql), .second, .val (.long qh), .second, .val (.long qh), .second, .val (.int (0 : Int32)), .val (.long ((ff (p1).toNatClampNeg) + ql)), .second, .val (.long (1 : Int64)), .second, .val (.long (((gg p1.toNatClampNeg) + qh) + (1 : Int64))), .second] [])) st16 ?_
      refine Goes.to (T' := T16.setTop (mkF m 220 #[.val (.ref xa), .val (.int p1), .val (.long qh), .second, .val (.long ql), .second, .val (.long (1 : Int64)), .second, .val (.long ql), .second, .val (.long qh), .second, .val (.long qh), .second, .val (.int (0 : Int32)), .val (.long ((ff (p1).toNatClampNeg) + ql)), .second, .val (.long (1 : Int64)), .second, .val (.long (((gg p1.toNatClampNeg) + qh) + (1 : Int64))), .second] [(.long (((gg p1.toNatClampNeg) + qh) + (1 : Int64)))])) (fun t k => XS.lload X16.here hx rfl (hb hby d3_218) rfl k) ?_
      refine Goes.to (T' := T16.setTop (mkF m 221 #[.val (.ref xa), .val (.int p1), .val (.long qh), .second, .val (.long ql), .second, .val (.long (1 : Int64)), .second, .val (.long ql), .second, .val (.long qh), .second, .val (.long qh), .second, .val (.int (0 : Int32)), .val (.long ((ff (p1).toNatClampNeg) + ql)), .second, .val (.long (1 : Int64)), .second, .val (.long (((gg p1.toNatClampNeg) + qh) + (1 : Int64))), .second] [(.long (0 : Int64)), (.long (((gg p1.toNatClampNeg) + qh) + (1 : Int64)))])) (fun t k => XS.lconst X16.here hx rfl (hb hby d3_220) k) ?_
      refine Goes.to (T' := T16.setTop (mkF m 222 #[.val (.ref xa), .val (.int p1), .val (.long qh), .second, .val (.long ql), .second, .val (.long (1 : Int64)), .second, .val (.long ql), .second, .val (.long qh), .second, .val (.long qh), .second, .val (.int (0 : Int32)), .val (.long ((ff (p1).toNatClampNeg) + ql)), .second, .val (.long (1 : Int64)), .second, .val (.long (((gg p1.toNatClampNeg) + qh) + (1 : Int64))), .second] [(.int (lcmpW (((gg p1.toNatClampNeg) + qh) + (1 : Int64)) (0 : Int64)))])) (fun t k => XS.lcmp X16.here hx rfl (hb hby d3_221) rfl k) ?_
      refine Goes.to (T' := T16.setTop (mkF m 225 #[.val (.ref xa), .val (.int p1), .val (.long qh), .second, .val (.long ql), .second, .val (.long (1 : Int64)), .second, .val (.long ql), .second, .val (.long qh), .second, .val (.long qh), .second, .val (.int (0 : Int32)), .val (.long ((ff (p1).toNatClampNeg) + ql)), .second, .val (.long (1 : Int64)), .second, .val (.long (((gg p1.toNatClampNeg) + qh) + (1 : Int64))), .second] [])) (fun t k => XS.ifNo X16.here hx rfl (hb hby d3_222) rfl ((if0 _ _).trans (feq (fun q => hc184_13 ((lw_eq (((gg p1.toNatClampNeg) + qh) + (1 : Int64)) (0 : Int64)).mp q))).1) k) ?_
      refine Goes.to (T' := T16.setTop (mkF m 226 #[.val (.ref xa), .val (.int p1), .val (.long qh), .second, .val (.long ql), .second, .val (.long (1 : Int64)), .second, .val (.long ql), .second, .val (.long qh), .second, .val (.long qh), .second, .val (.int (0 : Int32)), .val (.long ((ff (p1).toNatClampNeg) + ql)), .second, .val (.long (1 : Int64)), .second, .val (.long (((gg p1.toNatClampNeg) + qh) + (1 : Int64))), .second] [(.ref xa)])) (fun t k => XS.aloadN X16.here hx rfl (hb hby d3_225) rfl rfl k) ?_
      refine Goes.to (T' := T16.setTop (mkF m 227 #[.val (.ref xa), .val (.int p1), .val (.long qh), .second, .val (.long ql), .second, .val (.long (1 : Int64)), .second, .val (.long ql), .second, .val (.long qh), .second, .val (.long qh), .second, .val (.int (0 : Int32)), .val (.long ((ff (p1).toNatClampNeg) + ql)), .second, .val (.long (1 : Int64)), .second, .val (.long (((gg p1.toNatClampNeg) + qh) + (1 : Int64))), .second] [(.int p1), (.ref xa)])) (fun t k => XS.iloadN X16.here hx rfl (hb hby d3_226) rfl k) ?_
      obtain ⟨cq17, q17, q17'⟩ := E_xa.cell
      obtain ⟨_, _, ⟨T17, L17, k17, n17⟩, -, X17, ⟨Lc17, hQ17, l17, y17, z17⟩, st17⟩ := X16.privateBack hx (y := (⟨"com/example/suretyline/suretyline/Sums", "ensureHighs", "(I)V"⟩ : MethodName)) hown (mvT hZ (hw _ (mi 57 rfl))) (mvT hZ (hw _ (mi 58 rfl))) (own_selp (args := #[]) (mvT hZ (hw _ (mi 1 rfl))) (mvP hZ (hw _ (mi 59 rfl))) (mvT hZ (hw _ (mi 58 rfl))) (by decide)) (Cond.privateMethod_at (mvP hZ (hw _ (mi 59 rfl)) (args := #[]))) (mvT hZ (hw _ (mi 60 rfl))) (by decide) (backOf (W := 0) (rmEn l Z a0 hw [] xa p1 w0 k_w0 lw hi zw zh (upd ff (p1).toNatClampNeg ((ff (p1).toNatClampNeg) + ql)) gg h16 n0 O0 NF E_xa F_lows_xa F_highs_xa V_lw V_hi g_xa ne_lw_xa ne_hi_xa g_lw ghi ne_lw_hi hp hp16 hw25) hZ (hw _ (mi 60 rfl)) (hw _ (mi 2 rfl)) (by decide) (by decide)) (g := (mkF m 227 #[.val (.ref xa), .val (.int p1), .val (.long qh), .second, .val (.long ql), .second, .val (.long (1 : Int64)), .second, .val (.long ql), .second, .val (.long qh), .second, .val (.long qh), .second, .val (.int (0 : Int32)), .val (.long ((ff (p1).toNatClampNeg) + ql)), .second, .val (.long (1 : Int64)), .second, .val (.long (((gg p1.toNatClampNeg) + qh) + (1 : Int64))), .second] [(.int p1), (.ref xa)])) rfl (by rw [hml]; rfl) (Steps.refl _) (a := xa) (by rw [e16]; exact q17) q17' (argsL := [(.int p1)]) (rest := []) (lenOf pd_205 rfl) rfl (by show 2 * 0 + _ ≤ _; exact Nat.le_of_eq rfl) (hb hby d3_227) (fun _ _ => ⟨rfl, e16, (by decide : 1 + 1 ≤ _), (by decide : 24 + 24 ≤ _)⟩)
      dsimp only [Pt.U, Pt.locs, Pt.cells, Pt.slots] at X17 l17 y17 z17 st17 hQ17
      subst l17 y17 z17
      obtain ⟨rfl, Nq17, O17, R17⟩ := hQ17
      have N17 := Fr.app N16 Nq17
      obtain ⟨hh, zz, hpz, E_xa, F_lows_xa, F_highs_xa, V_lw, V_hh, g_hh, ne_hh_xa, ne_lw_hh⟩ := R17
      have ne_xa_hh := Ne.symm ne_hh_xa
      have ne_hh_lw := Ne.symm ne_lw_hh
      refine Goes.thru (T' := T17.setTop (mkF m 230 #[.val (.ref xa), .val (.int p1), .val (.long qh), .second, .val (.long ql), .second, .val (.long (1 : Int64)), .second, .val (.long ql), .second, .val (.long qh), .second, .val (.long qh), .second, .val (.int (0 : Int32)), .val (.long ((ff (p1).toNatClampNeg) + ql)), .second, .val (.long (1 : Int64)), .second, .val (.long (((gg p1.toNatClampNeg) + qh) + (1 : Int64))), .second] [])) st17 ?_
      refine Goes.to (T' := T17.setTop (mkF m 231 #[.val (.ref xa), .val (.int p1), .val (.long qh), .second, .val (.long ql), .second, .val (.long (1 : Int64)), .second, .val (.long ql), .second, .val (.long qh), .second, .val (.long qh), .second, .val (.int (0 : Int32)), .val (.long ((ff (p1).toNatClampNeg) + ql)), .second, .val (.long (1 : Int64)), .second, .val (.long (((gg p1.toNatClampNeg) + qh) + (1 : Int64))), .second] [(.ref xa)])) (fun t k => XS.aloadN X17.here hx rfl (hb hby d3_230) rfl rfl k) ?_
      obtain ⟨T18, X18, e18, st18⟩ := getF X17 hx hZ hown (host := "") (Or.inl (hw _ (mi 13 rfl))) Via.refl rfl F_highs_xa (g := (mkF m 231 #[.val (.ref xa), .val (.int p1), .val (.long qh), .second, .val (.long ql), .second, .val (.long (1 : Int64)), .second, .val (.long ql), .second, .val (.long qh), .second, .val (.long qh), .second, .val (.int (0 : Int32)), .val (.long ((ff (p1).toNatClampNeg) + ql)), .second, .val (.long (1 : Int64)), .second, .val (.long (((gg p1.toNatClampNeg) + qh) + (1 : Int64))), .second] [(.ref xa)])) rfl rfl (hb hby d3_231)
      refine Goes.to (T' := T18.setTop (mkF m 234 #[.val (.ref xa), .val (.int p1), .val (.long qh), .second, .val (.long ql), .second, .val (.long (1 : Int64)), .second, .val (.long ql), .second, .val (.long qh), .second, .val (.long qh), .second, .val (.int (0 : Int32)), .val (.long ((ff (p1).toNatClampNeg) + ql)), .second, .val (.long (1 : Int64)), .second, .val (.long (((gg p1.toNatClampNeg) + qh) + (1 : Int64))), .second] [(.ref hh)])) st18 ?_
      refine Goes.to (T' := T18.setTop (mkF m 235 #[.val (.ref xa), .val (.int p1), .val (.long qh), .second, .val (.long ql), .second, .val (.long (1 : Int64)), .second, .val (.long ql), .second, .val (.long qh), .second, .val (.long qh), .second, .val (.int (0 : Int32)), .val (.long ((ff (p1).toNatClampNeg) + ql)), .second, .val (.long (1 : Int64)), .second, .val (.long (((gg p1.toNatClampNeg) + qh) + (1 : Int64))), .second] [(.int p1), (.ref hh)])) (fun t k => XS.iloadN X18.here hx rfl (hb hby d3_234) rfl k) ?_
      refine Goes.to (T' := T18.setTop (mkF m 237 #[.val (.ref xa), .val (.int p1), .val (.long qh), .second, .val (.long ql), .second, .val (.long (1 : Int64)), .second, .val (.long ql), .second, .val (.long qh), .second, .val (.long qh), .second, .val (.int (0 : Int32)), .val (.long ((ff (p1).toNatClampNeg) + ql)), .second, .val (.long (1 : Int64)), .second, .val (.long (((gg p1.toNatClampNeg) + qh) + (1 : Int64))), .second] [(.long (((gg p1.toNatClampNeg) + qh) + (1 : Int64))), (.int p1), (.ref hh)])) (fun t k => XS.lload X18.here hx rfl (hb hby d3_235) rfl k) ?_
      obtain ⟨cl19, Ar19, S19, Ng19, H19, Hz19⟩ := id V_hh
      have hin19 : ¬ (p1 < 0 ∨ cl19.slots.size ≤ (p1).toNatClampNeg) := inb_of S19 ⟨hp, hpz⟩
      obtain ⟨T20, h20, X20, e20, W20, st20⟩ := stJ X18 hx hZ e18 Ar19 (j := p1) hin19 (g := (mkF m 237 #[.val (.ref xa), .val (.int p1), .val (.long qh), .second, .val (.long ql), .second, .val (.long (1 : Int64)), .second, .val (.long ql), .second, .val (.long qh), .second, .val (.long qh), .second, .val (.int (0 : Int32)), .val (.long ((ff (p1).toNatClampNeg) + ql)), .second, .val (.long (1 : Int64)), .second, .val (.long (((gg p1.toNatClampNeg) + qh) + (1 : Int64))), .second] [(.long (((gg p1.toNatClampNeg) + qh) + (1 : Int64))), (.int p1), (.ref hh)])) rfl rfl (hb hby d3_237)
      have V_hh : La Z h20 hh zz (upd gg (p1).toNatClampNeg (((gg p1.toNatClampNeg) + qh) + (1 : Int64))) := La.set Ar19 S19 Ng19 H19 Hz19 W20 ⟨hp, hpz⟩
      have E_xa := E_xa.wr W20
      have F_lows_xa := F_lows_xa.other W20 (Or.inl (ne_xa_hh))
      have F_highs_xa := F_highs_xa.other W20 (Or.inl (ne_xa_hh))
      have V_lw := V_lw.other W20 (ne_lw_hh)
      have O17 := O17.wr W20 g_hh
      have N20 := Fr.snoc X20 N17 g_hh
      refine Goes.to (T' := T20.setTop (mkF m 238 #[.val (.ref xa), .val (.int p1), .val (.long qh), .second, .val (.long ql), .second, .val (.long (1 : Int64)), .second, .val (.long ql), .second, .val (.long qh), .second, .val (.long qh), .second, .val (.int (0 : Int32)), .val (.long ((ff (p1).toNatClampNeg) + ql)), .second, .val (.long (1 : Int64)), .second, .val (.long (((gg p1.toNatClampNeg) + qh) + (1 : Int64))), .second] [])) st20 ?_
      obtain ⟨fs, hrL, hrun, hended, hW, hsame⟩ := X20.leave (v := none) (fun _ => rfl)
      subst hQf
      refine ⟨_, _, X20.returnOut hx Bd.returns (hb hby d3_238) hrL, hrun, hended, _, _, rfl, ?_, ⟨_, rfl⟩, hW, hsame.mono (by decide) (by decide)⟩
      show (fun (v : Option Value) (h : Heap) (L : List Loc) => v = none ∧ Fr n0 L ∧ Old Z n0 h ∧ SA Z h n0 xa (upd ff p1.toNatClampNeg ((ff p1.toNatClampNeg) + ql)) (upd gg p1.toNatClampNeg ((gg p1.toNatClampNeg) + qh + car))) (none) T20.heap _
      rw [e20]
      have hc : car = (1 : Int64) := by rw [hcar]; exact if_pos (hrc121.mp hc124_9)
      subst hc
      exact ⟨rfl, N20, O17, lw, hh, zw, zz, E_xa, g_xa, F_lows_xa, F_highs_xa, V_lw, V_hh, ne_lw_xa, ne_hh_xa, Or.inl g_lw, Or.inl g_hh, Or.inl ne_lw_hh, hw25⟩
    · skip
      refine Goes.to (T' := T8.setTop (mkF m 131 #[.val (.ref xa), .val (.int p1), .val (.long qh), .second, .val (.long ql), .second, .val (.long (1 : Int64)), .second, .val (.long ql), .second, .val (.long qh), .second, .val (.long qh), .second, .val (.int (0 : Int32)), .val (.long ((ff (p1).toNatClampNeg) + ql)), .second, .unset, .unset, .unset, .unset] [])) (fun t k => XS.ifYes X8.here hx rfl (pc0 := 124) (pc' := 131) rfl (hb hby d3_124) rfl ((if0 _ _).trans (flt hc124_9).2.1) (by decide) (by decide) k) ?_
      refine Goes.to (T' := T8.setTop (mkF m 132 #[.val (.ref xa), .val (.int p1), .val (.long qh), .second, .val (.long ql), .second, .val (.long (1 : Int64)), .second, .val (.long ql), .second, .val (.long qh), .second, .val (.long qh), .second, .val (.int (0 : Int32)), .val (.long ((ff (p1).toNatClampNeg) + ql)), .second, .unset, .unset, .unset, .unset] [(.long (0 : Int64))])) (fun t k => XS.lconst X8.here hx rfl (hb hby d3_131) k) ?_
      refine Goes.to (T' := T8.setTop (mkF m 134 #[.val (.ref xa), .val (.int p1), .val (.long qh), .second, .val (.long ql), .second, .val (.long (1 : Int64)), .second, .val (.long ql), .second, .val (.long qh), .second, .val (.long qh), .second, .val (.int (0 : Int32)), .val (.long ((ff (p1).toNatClampNeg) + ql)), .second, .val (.long (0 : Int64)), .second, .unset, .unset] [])) (fun t k => XS.lstore X8.here hx rfl (hb hby d3_132) rfl (l' := #[.val (.ref xa), .val (.int p1), .val (.long qh), .second, .val (.long ql), .second, .val (.long (1 : Int64)), .second, .val (.long ql), .second, .val (.long qh), .second, .val (.long qh), .second, .val (.int (0 : Int32)), .val (.long ((ff (p1).toNatClampNeg) + ql)), .second, .val (.long (0 : Int64)), .second, .unset, .unset]) rfl k) ?_
      refine Goes.to (T' := T8.setTop (mkF m 135 #[.val (.ref xa), .val (.int p1), .val (.long qh), .second, .val (.long ql), .second, .val (.long (1 : Int64)), .second, .val (.long ql), .second, .val (.long qh), .second, .val (.long qh), .second, .val (.int (0 : Int32)), .val (.long ((ff (p1).toNatClampNeg) + ql)), .second, .val (.long (0 : Int64)), .second, .unset, .unset] [(.ref xa)])) (fun t k => XS.aloadN X8.here hx rfl (hb hby d3_134) rfl rfl k) ?_
      refine Goes.to (T' := T8.setTop (mkF m 136 #[.val (.ref xa), .val (.int p1), .val (.long qh), .second, .val (.long ql), .second, .val (.long (1 : Int64)), .second, .val (.long ql), .second, .val (.long qh), .second, .val (.long qh), .second, .val (.int (0 : Int32)), .val (.long ((ff (p1).toNatClampNeg) + ql)), .second, .val (.long (0 : Int64)), .second, .unset, .unset] [(.int p1), (.ref xa)])) (fun t k => XS.iloadN X8.here hx rfl (hb hby d3_135) rfl k) ?_
      obtain ⟨cq21, q21, q21'⟩ := E_xa.cell
      obtain ⟨_, _, ⟨T21, L21, k21, n21⟩, -, X21, ⟨Lc21, hQ21, l21, y21, z21⟩, st21⟩ := X8.privateBack hx (y := (⟨"com/example/suretyline/suretyline/Sums", "high", "(I)J"⟩ : MethodName)) hown (mvT hZ (hw _ (mi 53 rfl))) (mvT hZ (hw _ (mi 54 rfl))) (own_selp (args := #[]) (mvT hZ (hw _ (mi 1 rfl))) (mvP hZ (hw _ (mi 55 rfl))) (mvT hZ (hw _ (mi 54 rfl))) (by decide)) (Cond.privateMethod_at (mvP hZ (hw _ (mi 55 rfl)) (args := #[]))) (mvT hZ (hw _ (mi 56 rfl))) (by decide) (backOf (W := 0) (rm_high l Z a0 hw [] xa p1 w0 k_w0 ff gg hJ1 n0 O0 NF ⟨lw, hi, zw, zh, E_xa, g_xa, F_lows_xa, F_highs_xa, V_lw, V_hi, ne_lw_xa, ne_hi_xa, Or.inl g_lw, ghi, Or.inl ne_lw_hi, hw25⟩ hp) hZ (hw _ (mi 56 rfl)) (hw _ (mi 2 rfl)) (by decide) (by decide)) (g := (mkF m 136 #[.val (.ref xa), .val (.int p1), .val (.long qh), .second, .val (.long ql), .second, .val (.long (1 : Int64)), .second, .val (.long ql), .second, .val (.long qh), .second, .val (.long qh), .second, .val (.int (0 : Int32)), .val (.long ((ff (p1).toNatClampNeg) + ql)), .second, .val (.long (0 : Int64)), .second, .unset, .unset] [(.int p1), (.ref xa)])) rfl (by rw [hml]; rfl) (Steps.refl _) (a := xa) (by rw [e8]; exact q21) q21' (argsL := [(.int p1)]) (rest := []) (lenOf pd_152 rfl) rfl (by show 2 * 0 + _ ≤ _; exact Nat.le_of_eq rfl) (hb hby d3_136) (fun _ _ => ⟨rfl, e8, (by decide : 1 + 0 ≤ _), (by decide : 24 + 0 ≤ _)⟩)
      dsimp only [Pt.U, Pt.locs, Pt.cells, Pt.slots] at X21 l21 y21 z21 st21 hQ21
      subst l21 y21 z21
      obtain ⟨rfl, Nq21, e21⟩ := hQ21
      have N21 := Fr.app N8 Nq21
      refine Goes.thru (T' := T21.setTop (mkF m 139 #[.val (.ref xa), .val (.int p1), .val (.long qh), .second, .val (.long ql), .second, .val (.long (1 : Int64)), .second, .val (.long ql), .second, .val (.long qh), .second, .val (.long qh), .second, .val (.int (0 : Int32)), .val (.long ((ff (p1).toNatClampNeg) + ql)), .second, .val (.long (0 : Int64)), .second, .unset, .unset] [(.long (gg p1.toNatClampNeg))])) st21 ?_
      refine Goes.to (T' := T21.setTop (mkF m 141 #[.val (.ref xa), .val (.int p1), .val (.long qh), .second, .val (.long ql), .second, .val (.long (1 : Int64)), .second, .val (.long ql), .second, .val (.long qh), .second, .val (.long qh), .second, .val (.int (0 : Int32)), .val (.long ((ff (p1).toNatClampNeg) + ql)), .second, .val (.long (0 : Int64)), .second, .unset, .unset] [(.long qh), (.long (gg p1.toNatClampNeg))])) (fun t k => XS.lload X21.here hx rfl (hb hby d3_139) rfl k) ?_
      refine Goes.to (T' := T21.setTop (mkF m 142 #[.val (.ref xa), .val (.int p1), .val (.long qh), .second, .val (.long ql), .second, .val (.long (1 : Int64)), .second, .val (.long ql), .second, .val (.long qh), .second, .val (.long qh), .second, .val (.int (0 : Int32)), .val (.long ((ff (p1).toNatClampNeg) + ql)), .second, .val (.long (0 : Int64)), .second, .unset, .unset] [(.long ((gg p1.toNatClampNeg) + qh))])) (fun t k => XS.ladd X21.here hx rfl (hb hby d3_141) rfl k) ?_
      refine Goes.to (T' := T21.setTop (mkF m 144 #[.val (.ref xa), .val (.int p1), .val (.long qh), .second, .val (.long ql), .second, .val (.long (1 : Int64)), .second, .val (.long ql), .second, .val (.long qh), .second, .val (.long qh), .second, .val (.int (0 : Int32)), .val (.long ((ff (p1).toNatClampNeg) + ql)), .second, .val (.long (0 : Int64)), .second, .val (.long ((gg p1.toNatClampNeg) + qh)), .second] [])) (fun t k => XS.lstore X21.here hx rfl (hb hby d3_142) rfl (l' := #[.val (.ref xa), .val (.int p1), .val (.long qh), .second, .val (.long ql), .second, .val (.long (1 : Int64)), .second, .val (.long ql), .second, .val (.long qh), .second, .val (.long qh), .second, .val (.int (0 : Int32)), .val (.long ((ff (p1).toNatClampNeg) + ql)), .second, .val (.long (0 : Int64)), .second, .val (.long ((gg p1.toNatClampNeg) + qh)), .second]) rfl k) ?_
      refine Goes.to (T' := T21.setTop (mkF m 146 #[.val (.ref xa), .val (.int p1), .val (.long qh), .second, .val (.long ql), .second, .val (.long (1 : Int64)), .second, .val (.long ql), .second, .val (.long qh), .second, .val (.long qh), .second, .val (.int (0 : Int32)), .val (.long ((ff (p1).toNatClampNeg) + ql)), .second, .val (.long (0 : Int64)), .second, .val (.long ((gg p1.toNatClampNeg) + qh)), .second] [(.int (0 : Int32))])) (fun t k => XS.iload X21.here hx rfl (hb hby d3_144) rfl k) ?_
      refine Goes.to (T' := T21.setTop (mkF m 148 #[.val (.ref xa), .val (.int p1), .val (.long qh), .second, .val (.long ql), .second, .val (.long (1 : Int64)), .second, .val (.long ql), .second, .val (.long qh), .second, .val (.long qh), .second, .val (.int (0 : Int32)), .val (.long ((ff (p1).toNatClampNeg) + ql)), .second, .val (.long (0 : Int64)), .second, .val (.long ((gg p1.toNatClampNeg) + qh)), .second] [(.long ((gg p1.toNatClampNeg) + qh)), (.int (0 : Int32))])) (fun t k => XS.lload X21.here hx rfl (hb hby d3_146) rfl k) ?_
      refine Goes.to (T' := T21.setTop (mkF m 150 #[.val (.ref xa), .val (.int p1), .val (.long qh), .second, .val (.long ql), .second, .val (.long (1 : Int64)), .second, .val (.long ql), .second, .val (.long qh), .second, .val (.long qh), .second, .val (.int (0 : Int32)), .val (.long ((ff (p1).toNatClampNeg) + ql)), .second, .val (.long (0 : Int64)), .second, .val (.long ((gg p1.toNatClampNeg) + qh)), .second] [(.long qh), (.long ((gg p1.toNatClampNeg) + qh)), (.int (0 : Int32))])) (fun t k => XS.lload X21.here hx rfl (hb hby d3_148) rfl k) ?_
      obtain ⟨_, _, ⟨T22, L22, k22, n22⟩, -, X22, ⟨Lc22, hQ22, l22, y22, z22⟩, st22⟩ := Jvm.LawKit.callS X21 hx (y := (⟨"java/lang/Long", "compareUnsigned", "(JJ)I"⟩ : MethodName)) hown (mvT hZ (hw _ (mi 45 rfl))) (mvT hZ (hw _ (mi 46 rfl))) (mvT hZ (hw _ (mi 47 rfl))) (mvT hZ (hw _ (mi 48 rfl))) (by decide) (backOf (W := 1) (rmCu l Z a0 hw [] ((gg p1.toNatClampNeg) + qh) qh w0 k_w0  hJ1 n0 O0 NF ) hZ (hw _ (mi 48 rfl)) (hw _ (mi 47 rfl)) (by decide) (by decide)) (g := (mkF m 150 #[.val (.ref xa), .val (.int p1), .val (.long qh), .second, .val (.long ql), .second, .val (.long (1 : Int64)), .second, .val (.long ql), .second, .val (.long qh), .second, .val (.long qh), .second, .val (.int (0 : Int32)), .val (.long ((ff (p1).toNatClampNeg) + ql)), .second, .val (.long (0 : Int64)), .second, .val (.long ((gg p1.toNatClampNeg) + qh)), .second] [(.long qh), (.long ((gg p1.toNatClampNeg) + qh)), (.int (0 : Int32))])) rfl (by rw [hml]; rfl) (argsL := [(.long ((gg p1.toNatClampNeg) + qh)), (.long qh)]) (rest := [(.int (0 : Int32))]) (lenOf pd_96 rfl) rfl (by show 2 * 0 + _ ≤ _; exact Nat.le_of_eq rfl) (hb hby d3_150) (fun _ _ => ⟨rfl, e21, (by decide : 1 + 0 ≤ _), (by decide : 24 + 0 ≤ _)⟩)
      dsimp only [Pt.U, Pt.locs, Pt.cells, Pt.slots] at X22 l22 y22 z22 st22 hQ22
      subst l22 y22 z22
      obtain ⟨⟨rc150, rfl, hrc150⟩, Nq22, e22⟩ := hQ22
      have N22 := Fr.app N21 Nq22
      refine Goes.to (T' := T22.setTop (mkF m 153 #[.val (.ref xa), .val (.int p1), .val (.long qh), .second, .val (.long ql), .second, .val (.long (1 : Int64)), .second, .val (.long ql), .second, .val (.long qh), .second, .val (.long qh), .second, .val (.int (0 : Int32)), .val (.long ((ff (p1).toNatClampNeg) + ql)), .second, .val (.long (0 : Int64)), .second, .val (.long ((gg p1.toNatClampNeg) + qh)), .second] [(.int rc150), (.int (0 : Int32))])) st22 ?_
      have hc153_23 : ¬ (rc150 < (0 : Int32)) := (fun q => hov1 (hrc150.mp q))
      refine Goes.to (T' := T22.setTop (mkF m 160 #[.val (.ref xa), .val (.int p1), .val (.long qh), .second, .val (.long ql), .second, .val (.long (1 : Int64)), .second, .val (.long ql), .second, .val (.long qh), .second, .val (.long qh), .second, .val (.int (0 : Int32)), .val (.long ((ff (p1).toNatClampNeg) + ql)), .second, .val (.long (0 : Int64)), .second, .val (.long ((gg p1.toNatClampNeg) + qh)), .second] [(.int (0 : Int32))])) (fun t k => XS.ifYes X22.here hx rfl (pc0 := 153) (pc' := 160) rfl (hb hby d3_153) rfl ((if0 _ _).trans (flt hc153_23).2.1) (by decide) (by decide) k) ?_
      refine Goes.to (T' := T22.setTop (mkF m 161 #[.val (.ref xa), .val (.int p1), .val (.long qh), .second, .val (.long ql), .second, .val (.long (1 : Int64)), .second, .val (.long ql), .second, .val (.long qh), .second, .val (.long qh), .second, .val (.int (0 : Int32)), .val (.long ((ff (p1).toNatClampNeg) + ql)), .second, .val (.long (0 : Int64)), .second, .val (.long ((gg p1.toNatClampNeg) + qh)), .second] [(.int (0 : Int32)), (.int (0 : Int32))])) (fun t k => XS.iconst X22.here hx rfl (hb hby d3_160) k) ?_
      refine Goes.to (T' := T22.setTop (mkF m 162 #[.val (.ref xa), .val (.int p1), .val (.long qh), .second, .val (.long ql), .second, .val (.long (1 : Int64)), .second, .val (.long ql), .second, .val (.long qh), .second, .val (.long qh), .second, .val (.int (0 : Int32)), .val (.long ((ff (p1).toNatClampNeg) + ql)), .second, .val (.long (0 : Int64)), .second, .val (.long ((gg p1.toNatClampNeg) + qh)), .second] [(.int ((0 : Int32) ||| (0 : Int32)))])) (fun t k => XS.ior X22.here hx rfl (hb hby d3_161) rfl k) ?_
      rw [show ((0 : Int32) ||| (0 : Int32)) = (0 : Int32) from by decide +kernel]
      refine Goes.to (T' := T22.setTop (mkF m 164 #[.val (.ref xa), .val (.int p1), .val (.long qh), .second, .val (.long ql), .second, .val (.long (1 : Int64)), .second, .val (.long ql), .second, .val (.long qh), .second, .val (.long qh), .second, .val (.int (0 : Int32)), .val (.long ((ff (p1).toNatClampNeg) + ql)), .second, .val (.long (0 : Int64)), .second, .val (.long ((gg p1.toNatClampNeg) + qh)), .second] [])) (fun t k => XS.istore X22.here hx rfl (hb hby d3_162) rfl (l' := #[.val (.ref xa), .val (.int p1), .val (.long qh), .second, .val (.long ql), .second, .val (.long (1 : Int64)), .second, .val (.long ql), .second, .val (.long qh), .second, .val (.long qh), .second, .val (.int (0 : Int32)), .val (.long ((ff (p1).toNatClampNeg) + ql)), .second, .val (.long (0 : Int64)), .second, .val (.long ((gg p1.toNatClampNeg) + qh)), .second]) rfl k) ?_
      refine Goes.to (T' := T22.setTop (mkF m 166 #[.val (.ref xa), .val (.int p1), .val (.long qh), .second, .val (.long ql), .second, .val (.long (1 : Int64)), .second, .val (.long ql), .second, .val (.long qh), .second, .val (.long qh), .second, .val (.int (0 : Int32)), .val (.long ((ff (p1).toNatClampNeg) + ql)), .second, .val (.long (0 : Int64)), .second, .val (.long ((gg p1.toNatClampNeg) + qh)), .second] [(.long ((gg p1.toNatClampNeg) + qh))])) (fun t k => XS.lload X22.here hx rfl (hb hby d3_164) rfl k) ?_
      refine Goes.to (T' := T22.setTop (mkF m 168 #[.val (.ref xa), .val (.int p1), .val (.long qh), .second, .val (.long ql), .second, .val (.long (1 : Int64)), .second, .val (.long ql), .second, .val (.long qh), .second, .val (.long qh), .second, .val (.int (0 : Int32)), .val (.long ((ff (p1).toNatClampNeg) + ql)), .second, .val (.long (0 : Int64)), .second, .val (.long ((gg p1.toNatClampNeg) + qh)), .second] [(.long (0 : Int64)), (.long ((gg p1.toNatClampNeg) + qh))])) (fun t k => XS.lload X22.here hx rfl (hb hby d3_166) rfl k) ?_
      refine Goes.to (T' := T22.setTop (mkF m 169 #[.val (.ref xa), .val (.int p1), .val (.long qh), .second, .val (.long ql), .second, .val (.long (1 : Int64)), .second, .val (.long ql), .second, .val (.long qh), .second, .val (.long qh), .second, .val (.int (0 : Int32)), .val (.long ((ff (p1).toNatClampNeg) + ql)), .second, .val (.long (0 : Int64)), .second, .val (.long ((gg p1.toNatClampNeg) + qh)), .second] [(.long (((gg p1.toNatClampNeg) + qh) + (0 : Int64)))])) (fun t k => XS.ladd X22.here hx rfl (hb hby d3_168) rfl k) ?_
      refine Goes.to (T' := T22.setTop (mkF m 171 #[.val (.ref xa), .val (.int p1), .val (.long qh), .second, .val (.long ql), .second, .val (.long (1 : Int64)), .second, .val (.long ql), .second, .val (.long qh), .second, .val (.long qh), .second, .val (.int (0 : Int32)), .val (.long ((ff (p1).toNatClampNeg) + ql)), .second, .val (.long (0 : Int64)), .second, .val (.long (((gg p1.toNatClampNeg) + qh) + (0 : Int64))), .second] [])) (fun t k => XS.lstore X22.here hx rfl (hb hby d3_169) rfl (l' := #[.val (.ref xa), .val (.int p1), .val (.long qh), .second, .val (.long ql), .second, .val (.long (1 : Int64)), .second, .val (.long ql), .second, .val (.long qh), .second, .val (.long qh), .second, .val (.int (0 : Int32)), .val (.long ((ff (p1).toNatClampNeg) + ql)), .second, .val (.long (0 : Int64)), .second, .val (.long (((gg p1.toNatClampNeg) + qh) + (0 : Int64))), .second]) rfl k) ?_
      refine Goes.to (T' := T22.setTop (mkF m 173 #[.val (.ref xa), .val (.int p1), .val (.long qh), .second, .val (.long ql), .second, .val (.long (1 : Int64)), .second, .val (.long ql), .second, .val (.long qh), .second, .val (.long qh), .second, .val (.int (0 : Int32)), .val (.long ((ff (p1).toNatClampNeg) + ql)), .second, .val (.long (0 : Int64)), .second, .val (.long (((gg p1.toNatClampNeg) + qh) + (0 : Int64))), .second] [(.int (0 : Int32))])) (fun t k => XS.iload X22.here hx rfl (hb hby d3_171) rfl k) ?_
      refine Goes.to (T' := T22.setTop (mkF m 175 #[.val (.ref xa), .val (.int p1), .val (.long qh), .second, .val (.long ql), .second, .val (.long (1 : Int64)), .second, .val (.long ql), .second, .val (.long qh), .second, .val (.long qh), .second, .val (.int (0 : Int32)), .val (.long ((ff (p1).toNatClampNeg) + ql)), .second, .val (.long (0 : Int64)), .second, .val (.long (((gg p1.toNatClampNeg) + qh) + (0 : Int64))), .second] [(.long (0 : Int64)), (.int (0 : Int32))])) (fun t k => XS.lload X22.here hx rfl (hb hby d3_173) rfl k) ?_
      refine Goes.to (T' := T22.setTop (mkF m 176 #[.val (.ref xa), .val (.int p1), .val (.long qh), .second, .val (.long ql), .second, .val (.long (1 : Int64)), .second, .val (.long ql), .second, .val (.long qh), .second, .val (.long qh), .second, .val (.int (0 : Int32)), .val (.long ((ff (p1).toNatClampNeg) + ql)), .second, .val (.long (0 : Int64)), .second, .val (.long (((gg p1.toNatClampNeg) + qh) + (0 : Int64))), .second] [(.long (0 : Int64)), (.long (0 : Int64)), (.int (0 : Int32))])) (fun t k => XS.lconst X22.here hx rfl (hb hby d3_175) k) ?_
      refine Goes.to (T' := T22.setTop (mkF m 177 #[.val (.ref xa), .val (.int p1), .val (.long qh), .second, .val (.long ql), .second, .val (.long (1 : Int64)), .second, .val (.long ql), .second, .val (.long qh), .second, .val (.long qh), .second, .val (.int (0 : Int32)), .val (.long ((ff (p1).toNatClampNeg) + ql)), .second, .val (.long (0 : Int64)), .second, .val (.long (((gg p1.toNatClampNeg) + qh) + (0 : Int64))), .second] [(.int (lcmpW (0 : Int64) (0 : Int64))), (.int (0 : Int32))])) (fun t k => XS.lcmp X22.here hx rfl (hb hby d3_176) rfl k) ?_
      refine Goes.to (T' := T22.setTop (mkF m 191 #[.val (.ref xa), .val (.int p1), .val (.long qh), .second, .val (.long ql), .second, .val (.long (1 : Int64)), .second, .val (.long ql), .second, .val (.long qh), .second, .val (.long qh), .second, .val (.int (0 : Int32)), .val (.long ((ff (p1).toNatClampNeg) + ql)), .second, .val (.long (0 : Int64)), .second, .val (.long (((gg p1.toNatClampNeg) + qh) + (0 : Int64))), .second] [(.int (0 : Int32))])) (fun t k => XS.ifYes X22.here hx rfl (pc0 := 177) (pc' := 191) rfl (hb hby d3_177) rfl ((if0 _ _).trans (teq (by decide)).1) (by decide) (by decide) k) ?_
      refine Goes.to (T' := T22.setTop (mkF m 192 #[.val (.ref xa), .val (.int p1), .val (.long qh), .second, .val (.long ql), .second, .val (.long (1 : Int64)), .second, .val (.long ql), .second, .val (.long qh), .second, .val (.long qh), .second, .val (.int (0 : Int32)), .val (.long ((ff (p1).toNatClampNeg) + ql)), .second, .val (.long (0 : Int64)), .second, .val (.long (((gg p1.toNatClampNeg) + qh) + (0 : Int64))), .second] [(.int (0 : Int32)), (.int (0 : Int32))])) (fun t k => XS.iconst X22.here hx rfl (hb hby d3_191) k) ?_
      refine Goes.to (T' := T22.setTop (mkF m 193 #[.val (.ref xa), .val (.int p1), .val (.long qh), .second, .val (.long ql), .second, .val (.long (1 : Int64)), .second, .val (.long ql), .second, .val (.long qh), .second, .val (.long qh), .second, .val (.int (0 : Int32)), .val (.long ((ff (p1).toNatClampNeg) + ql)), .second, .val (.long (0 : Int64)), .second, .val (.long (((gg p1.toNatClampNeg) + qh) + (0 : Int64))), .second] [(.int ((0 : Int32) ||| (0 : Int32)))])) (fun t k => XS.ior X22.here hx rfl (hb hby d3_192) rfl k) ?_
      rw [show ((0 : Int32) ||| (0 : Int32)) = (0 : Int32) from by decide +kernel]
      refine Goes.to (T' := T22.setTop (mkF m 195 #[.val (.ref xa), .val (.int p1), .val (.long qh), .second, .val (.long ql), .second, .val (.long (1 : Int64)), .second, .val (.long ql), .second, .val (.long qh), .second, .val (.long qh), .second, .val (.int (0 : Int32)), .val (.long ((ff (p1).toNatClampNeg) + ql)), .second, .val (.long (0 : Int64)), .second, .val (.long (((gg p1.toNatClampNeg) + qh) + (0 : Int64))), .second] [])) (fun t k => XS.istore X22.here hx rfl (hb hby d3_193) rfl (l' := #[.val (.ref xa), .val (.int p1), .val (.long qh), .second, .val (.long ql), .second, .val (.long (1 : Int64)), .second, .val (.long ql), .second, .val (.long qh), .second, .val (.long qh), .second, .val (.int (0 : Int32)), .val (.long ((ff (p1).toNatClampNeg) + ql)), .second, .val (.long (0 : Int64)), .second, .val (.long (((gg p1.toNatClampNeg) + qh) + (0 : Int64))), .second]) rfl k) ?_
      refine Goes.to (T' := T22.setTop (mkF m 197 #[.val (.ref xa), .val (.int p1), .val (.long qh), .second, .val (.long ql), .second, .val (.long (1 : Int64)), .second, .val (.long ql), .second, .val (.long qh), .second, .val (.long qh), .second, .val (.int (0 : Int32)), .val (.long ((ff (p1).toNatClampNeg) + ql)), .second, .val (.long (0 : Int64)), .second, .val (.long (((gg p1.toNatClampNeg) + qh) + (0 : Int64))), .second] [(.int (0 : Int32))])) (fun t k => XS.iload X22.here hx rfl (hb hby d3_195) rfl k) ?_
      refine Goes.to (T' := T22.setTop (mkF m 210 #[.val (.ref xa), .val (.int p1), .val (.long qh), .second, .val (.long ql), .second, .val (.long (1 : Int64)), .second, .val (.long ql), .second, .val (.long qh), .second, .val (.long qh), .second, .val (.int (0 : Int32)), .val (.long ((ff (p1).toNatClampNeg) + ql)), .second, .val (.long (0 : Int64)), .second, .val (.long (((gg p1.toNatClampNeg) + qh) + (0 : Int64))), .second] [])) (fun t k => XS.ifYes X22.here hx rfl (pc0 := 197) (pc' := 210) rfl (hb hby d3_197) rfl ((if0 _ _).trans (teq (by decide)).1) (by decide) (by decide) k) ?_
      refine Goes.to (T' := T22.setTop (mkF m 211 #[.val (.ref xa), .val (.int p1), .val (.long qh), .second, .val (.long ql), .second, .val (.long (1 : Int64)), .second, .val (.long ql), .second, .val (.long qh), .second, .val (.long qh), .second, .val (.int (0 : Int32)), .val (.long ((ff (p1).toNatClampNeg) + ql)), .second, .val (.long (0 : Int64)), .second, .val (.long (((gg p1.toNatClampNeg) + qh) + (0 : Int64))), .second] [(.ref xa)])) (fun t k => XS.aloadN X22.here hx rfl (hb hby d3_210) rfl rfl k) ?_
      obtain ⟨T24, X24, e24, st24⟩ := getF X22 hx hZ hown (host := "") (Or.inl (hw _ (mi 11 rfl))) Via.refl e22 F_lows_xa (g := (mkF m 211 #[.val (.ref xa), .val (.int p1), .val (.long qh), .second, .val (.long ql), .second, .val (.long (1 : Int64)), .second, .val (.long ql), .second, .val (.long qh), .second, .val (.long qh), .second, .val (.int (0 : Int32)), .val (.long ((ff (p1).toNatClampNeg) + ql)), .second, .val (.long (0 : Int64)), .second, .val (.long (((gg p1.toNatClampNeg) + qh) + (0 : Int64))), .second] [(.ref xa)])) rfl rfl (hb hby d3_211)
      refine Goes.to (T' := T24.setTop (mkF m 214 #[.val (.ref xa), .val (.int p1), .val (.long qh), .second, .val (.long ql), .second, .val (.long (1 : Int64)), .second, .val (.long ql), .second, .val (.long qh), .second, .val (.long qh), .second, .val (.int (0 : Int32)), .val (.long ((ff (p1).toNatClampNeg) + ql)), .second, .val (.long (0 : Int64)), .second, .val (.long (((gg p1.toNatClampNeg) + qh) + (0 : Int64))), .second] [(.ref lw)])) st24 ?_
      refine Goes.to (T' := T24.setTop (mkF m 215 #[.val (.ref xa), .val (.int p1), .val (.long qh), .second, .val (.long ql), .second, .val (.long (1 : Int64)), .second, .val (.long ql), .second, .val (.long qh), .second, .val (.long qh), .second, .val (.int (0 : Int32)), .val (.long ((ff (p1).toNatClampNeg) + ql)), .second, .val (.long (0 : Int64)), .second, .val (.long (((gg p1.toNatClampNeg) + qh) + (0 : Int64))), .second] [(.int p1), (.ref lw)])) (fun t k => XS.iloadN X24.here hx rfl (hb hby d3_214) rfl k) ?_
      refine Goes.to (T' := T24.setTop (mkF m 217 #[.val (.ref xa), .val (.int p1), .val (.long qh), .second, .val (.long ql), .second, .val (.long (1 : Int64)), .second, .val (.long ql), .second, .val (.long qh), .second, .val (.long qh), .second, .val (.int (0 : Int32)), .val (.long ((ff (p1).toNatClampNeg) + ql)), .second, .val (.long (0 : Int64)), .second, .val (.long (((gg p1.toNatClampNeg) + qh) + (0 : Int64))), .second] [(.long ((ff (p1).toNatClampNeg) + ql)), (.int p1), (.ref lw)])) (fun t k => XS.lload X24.here hx rfl (hb hby d3_215) rfl k) ?_
      obtain ⟨cl25, Ar25, S25, Ng25, H25, Hz25⟩ := id V_lw
      have hin25 : ¬ (p1 < 0 ∨ cl25.slots.size ≤ (p1).toNatClampNeg) := inb_of S25 ⟨hp, hpw⟩
      obtain ⟨T26, h26, X26, e26, W26, st26⟩ := stJ X24 hx hZ e24 Ar25 (j := p1) hin25 (g := (mkF m 217 #[.val (.ref xa), .val (.int p1), .val (.long qh), .second, .val (.long ql), .second, .val (.long (1 : Int64)), .second, .val (.long ql), .second, .val (.long qh), .second, .val (.long qh), .second, .val (.int (0 : Int32)), .val (.long ((ff (p1).toNatClampNeg) + ql)), .second, .val (.long (0 : Int64)), .second, .val (.long (((gg p1.toNatClampNeg) + qh) + (0 : Int64))), .second] [(.long ((ff (p1).toNatClampNeg) + ql)), (.int p1), (.ref lw)])) rfl rfl (hb hby d3_217)
      have V_lw : La Z h26 lw zw (upd ff (p1).toNatClampNeg ((ff (p1).toNatClampNeg) + ql)) := La.set Ar25 S25 Ng25 H25 Hz25 W26 ⟨hp, hpw⟩
      have E_xa := E_xa.wr W26
      have F_lows_xa := F_lows_xa.other W26 (Or.inl (ne_xa_lw))
      have F_highs_xa := F_highs_xa.other W26 (Or.inl (ne_xa_lw))
      have V_hi := V_hi.other W26 (ne_hi_lw)
      have O0 := O0.wr W26 g_lw
      have N26 := Fr.snoc X26 N22 g_lw
      refine Goes.to (T' := T26.setTop (mkF m 218 #[.val (.ref xa), .val (.int p1), .val (.long qh), .second, .val (.long ql), .second, .val (.long (1 : Int64)), .second, .val (.long ql), .second, .val (.long qh), .second, .val (.long qh), .second, .val (.int (0 : Int32)), .val (.long ((ff (p1).toNatClampNeg) + ql)), .second, .val (.long (0 : Int64)), .second, .val (.long (((gg p1.toNatClampNeg) + qh) + (0 : Int64))), .second] [])) st26 ?_
      refine Goes.to (T' := T26.setTop (mkF m 220 #[.val (.ref xa), .val (.int p1), .val (.long qh), .second, .val (.long ql), .second, .val (.long (1 : Int64)), .second, .val (.long ql), .second, .val (.long qh), .second, .val (.long qh), .second, .val (.int (0 : Int32)), .val (.long ((ff (p1).toNatClampNeg) + ql)), .second, .val (.long (0 : Int64)), .second, .val (.long (((gg p1.toNatClampNeg) + qh) + (0 : Int64))), .second] [(.long (((gg p1.toNatClampNeg) + qh) + (0 : Int64)))])) (fun t k => XS.lload X26.here hx rfl (hb hby d3_218) rfl k) ?_
      refine Goes.to (T' := T26.setTop (mkF m 221 #[.val (.ref xa), .val (.int p1), .val (.long qh), .second, .val (.long ql), .second, .val (.long (1 : Int64)), .second, .val (.long ql), .second, .val (.long qh), .second, .val (.long qh), .second, .val (.int (0 : Int32)), .val (.long ((ff (p1).toNatClampNeg) + ql)), .second, .val (.long (0 : Int64)), .second, .val (.long (((gg p1.toNatClampNeg) + qh) + (0 : Int64))), .second] [(.long (0 : Int64)), (.long (((gg p1.toNatClampNeg) + qh) + (0 : Int64)))])) (fun t k => XS.lconst X26.here hx rfl (hb hby d3_220) k) ?_
      refine Goes.to (T' := T26.setTop (mkF m 222 #[.val (.ref xa), .val (.int p1), .val (.long qh), .second, .val (.long ql), .second, .val (.long (1 : Int64)), .second, .val (.long ql), .second, .val (.long qh), .second, .val (.long qh), .second, .val (.int (0 : Int32)), .val (.long ((ff (p1).toNatClampNeg) + ql)), .second, .val (.long (0 : Int64)), .second, .val (.long (((gg p1.toNatClampNeg) + qh) + (0 : Int64))), .second] [(.int (lcmpW (((gg p1.toNatClampNeg) + qh) + (0 : Int64)) (0 : Int64)))])) (fun t k => XS.lcmp X26.here hx rfl (hb hby d3_221) rfl k) ?_
      rcases Decidable.em ((((gg p1.toNatClampNeg) + qh) + (0 : Int64)) = (0 : Int64)) with hc222_27 | hc222_27
      · skip
        refine Goes.to (T' := T26.setTop (mkF m 238 #[.val (.ref xa), .val (.int p1), .val (.long qh), .second, .val (.long ql), .second, .val (.long (1 : Int64)), .second, .val (.long ql), .second, .val (.long qh), .second, .val (.long qh), .second, .val (.int (0 : Int32)), .val (.long ((ff (p1).toNatClampNeg) + ql)), .second, .val (.long (0 : Int64)), .second, .val (.long (((gg p1.toNatClampNeg) + qh) + (0 : Int64))), .second] [])) (fun t k => XS.ifYes X26.here hx rfl (pc0 := 222) (pc' := 238) rfl (hb hby d3_222) rfl ((if0 _ _).trans (teq ((lw_eq (((gg p1.toNatClampNeg) + qh) + (0 : Int64)) (0 : Int64)).mpr hc222_27)).1) (by decide) (by decide) k) ?_
        obtain ⟨fs, hrL, hrun, hended, hW, hsame⟩ := X26.leave (v := none) (fun _ => rfl)
        subst hQf
        refine ⟨_, _, X26.returnOut hx Bd.returns (hb hby d3_238) hrL, hrun, hended, _, _, rfl, ?_, ⟨_, rfl⟩, hW, hsame.mono (by decide) (by decide)⟩
        show (fun (v : Option Value) (h : Heap) (L : List Loc) => v = none ∧ Fr n0 L ∧ Old Z n0 h ∧ SA Z h n0 xa (upd ff p1.toNatClampNeg ((ff p1.toNatClampNeg) + ql)) (upd gg p1.toNatClampNeg ((gg p1.toNatClampNeg) + qh + car))) (none) T26.heap _
        rw [e26]
        have hc : car = (0 : Int64) := by rw [hcar]; exact if_neg (fun q => hc124_9 (hrc121.mpr q))
        subst hc
        have hgz := hzz hc222_27
        have hup : upd gg p1.toNatClampNeg ((gg p1.toNatClampNeg) + qh + (0 : Int64)) = gg := own_updsame (hgz.trans hc222_27.symm)
        rw [hup]
        exact ⟨rfl, N26, O0, lw, hi, zw, zh, E_xa, g_xa, F_lows_xa, F_highs_xa, V_lw, V_hi, ne_lw_xa, ne_hi_xa, Or.inl g_lw, ghi, Or.inl ne_lw_hi, hw25⟩
      · skip
        refine Goes.to (T' := T26.setTop (mkF m 225 #[.val (.ref xa), .val (.int p1), .val (.long qh), .second, .val (.long ql), .second, .val (.long (1 : Int64)), .second, .val (.long ql), .second, .val (.long qh), .second, .val (.long qh), .second, .val (.int (0 : Int32)), .val (.long ((ff (p1).toNatClampNeg) + ql)), .second, .val (.long (0 : Int64)), .second, .val (.long (((gg p1.toNatClampNeg) + qh) + (0 : Int64))), .second] [])) (fun t k => XS.ifNo X26.here hx rfl (hb hby d3_222) rfl ((if0 _ _).trans (feq (fun q => hc222_27 ((lw_eq (((gg p1.toNatClampNeg) + qh) + (0 : Int64)) (0 : Int64)).mp q))).1) k) ?_
        refine Goes.to (T' := T26.setTop (mkF m 226 #[.val (.ref xa), .val (.int p1), .val (.long qh), .second, .val (.long ql), .second, .val (.long (1 : Int64)), .second, .val (.long ql), .second, .val (.long qh), .second, .val (.long qh), .second, .val (.int (0 : Int32)), .val (.long ((ff (p1).toNatClampNeg) + ql)), .second, .val (.long (0 : Int64)), .second, .val (.long (((gg p1.toNatClampNeg) + qh) + (0 : Int64))), .second] [(.ref xa)])) (fun t k => XS.aloadN X26.here hx rfl (hb hby d3_225) rfl rfl k) ?_
        refine Goes.to (T' := T26.setTop (mkF m 227 #[.val (.ref xa), .val (.int p1), .val (.long qh), .second, .val (.long ql), .second, .val (.long (1 : Int64)), .second, .val (.long ql), .second, .val (.long qh), .second, .val (.long qh), .second, .val (.int (0 : Int32)), .val (.long ((ff (p1).toNatClampNeg) + ql)), .second, .val (.long (0 : Int64)), .second, .val (.long (((gg p1.toNatClampNeg) + qh) + (0 : Int64))), .second] [(.int p1), (.ref xa)])) (fun t k => XS.iloadN X26.here hx rfl (hb hby d3_226) rfl k) ?_
        obtain ⟨cq28, q28, q28'⟩ := E_xa.cell
        obtain ⟨_, _, ⟨T28, L28, k28, n28⟩, -, X28, ⟨Lc28, hQ28, l28, y28, z28⟩, st28⟩ := X26.privateBack hx (y := (⟨"com/example/suretyline/suretyline/Sums", "ensureHighs", "(I)V"⟩ : MethodName)) hown (mvT hZ (hw _ (mi 57 rfl))) (mvT hZ (hw _ (mi 58 rfl))) (own_selp (args := #[]) (mvT hZ (hw _ (mi 1 rfl))) (mvP hZ (hw _ (mi 59 rfl))) (mvT hZ (hw _ (mi 58 rfl))) (by decide)) (Cond.privateMethod_at (mvP hZ (hw _ (mi 59 rfl)) (args := #[]))) (mvT hZ (hw _ (mi 60 rfl))) (by decide) (backOf (W := 0) (rmEn l Z a0 hw [] xa p1 w0 k_w0 lw hi zw zh (upd ff (p1).toNatClampNeg ((ff (p1).toNatClampNeg) + ql)) gg h26 n0 O0 NF E_xa F_lows_xa F_highs_xa V_lw V_hi g_xa ne_lw_xa ne_hi_xa g_lw ghi ne_lw_hi hp hp16 hw25) hZ (hw _ (mi 60 rfl)) (hw _ (mi 2 rfl)) (by decide) (by decide)) (g := (mkF m 227 #[.val (.ref xa), .val (.int p1), .val (.long qh), .second, .val (.long ql), .second, .val (.long (1 : Int64)), .second, .val (.long ql), .second, .val (.long qh), .second, .val (.long qh), .second, .val (.int (0 : Int32)), .val (.long ((ff (p1).toNatClampNeg) + ql)), .second, .val (.long (0 : Int64)), .second, .val (.long (((gg p1.toNatClampNeg) + qh) + (0 : Int64))), .second] [(.int p1), (.ref xa)])) rfl (by rw [hml]; rfl) (Steps.refl _) (a := xa) (by rw [e26]; exact q28) q28' (argsL := [(.int p1)]) (rest := []) (lenOf pd_205 rfl) rfl (by show 2 * 0 + _ ≤ _; exact Nat.le_of_eq rfl) (hb hby d3_227) (fun _ _ => ⟨rfl, e26, (by decide : 1 + 1 ≤ _), (by decide : 24 + 24 ≤ _)⟩)
        dsimp only [Pt.U, Pt.locs, Pt.cells, Pt.slots] at X28 l28 y28 z28 st28 hQ28
        subst l28 y28 z28
        obtain ⟨rfl, Nq28, O28, R28⟩ := hQ28
        have N28 := Fr.app N26 Nq28
        obtain ⟨hh, zz, hpz, E_xa, F_lows_xa, F_highs_xa, V_lw, V_hh, g_hh, ne_hh_xa, ne_lw_hh⟩ := R28
        have ne_xa_hh := Ne.symm ne_hh_xa
        have ne_hh_lw := Ne.symm ne_lw_hh
        refine Goes.thru (T' := T28.setTop (mkF m 230 #[.val (.ref xa), .val (.int p1), .val (.long qh), .second, .val (.long ql), .second, .val (.long (1 : Int64)), .second, .val (.long ql), .second, .val (.long qh), .second, .val (.long qh), .second, .val (.int (0 : Int32)), .val (.long ((ff (p1).toNatClampNeg) + ql)), .second, .val (.long (0 : Int64)), .second, .val (.long (((gg p1.toNatClampNeg) + qh) + (0 : Int64))), .second] [])) st28 ?_
        refine Goes.to (T' := T28.setTop (mkF m 231 #[.val (.ref xa), .val (.int p1), .val (.long qh), .second, .val (.long ql), .second, .val (.long (1 : Int64)), .second, .val (.long ql), .second, .val (.long qh), .second, .val (.long qh), .second, .val (.int (0 : Int32)), .val (.long ((ff (p1).toNatClampNeg) + ql)), .second, .val (.long (0 : Int64)), .second, .val (.long (((gg p1.toNatClampNeg) + qh) + (0 : Int64))), .second] [(.ref xa)])) (fun t k => XS.aloadN X28.here hx rfl (hb hby d3_230) rfl rfl k) ?_
        obtain ⟨T29, X29, e29, st29⟩ := getF X28 hx hZ hown (host := "") (Or.inl (hw _ (mi 13 rfl))) Via.refl rfl F_highs_xa (g := (mkF m 231 #[.val (.ref xa), .val (.int p1), .val (.long qh), .second, .val (.long ql), .second, .val (.long (1 : Int64)), .second, .val (.long ql), .second, .val (.long qh), .second, .val (.long qh), .second, .val (.int (0 : Int32)), .val (.long ((ff (p1).toNatClampNeg) + ql)), .second, .val (.long (0 : Int64)), .second, .val (.long (((gg p1.toNatClampNeg) + qh) + (0 : Int64))), .second] [(.ref xa)])) rfl rfl (hb hby d3_231)
        refine Goes.to (T' := T29.setTop (mkF m 234 #[.val (.ref xa), .val (.int p1), .val (.long qh), .second, .val (.long ql), .second, .val (.long (1 : Int64)), .second, .val (.long ql), .second, .val (.long qh), .second, .val (.long qh), .second, .val (.int (0 : Int32)), .val (.long ((ff (p1).toNatClampNeg) + ql)), .second, .val (.long (0 : Int64)), .second, .val (.long (((gg p1.toNatClampNeg) + qh) + (0 : Int64))), .second] [(.ref hh)])) st29 ?_
        refine Goes.to (T' := T29.setTop (mkF m 235 #[.val (.ref xa), .val (.int p1), .val (.long qh), .second, .val (.long ql), .second, .val (.long (1 : Int64)), .second, .val (.long ql), .second, .val (.long qh), .second, .val (.long qh), .second, .val (.int (0 : Int32)), .val (.long ((ff (p1).toNatClampNeg) + ql)), .second, .val (.long (0 : Int64)), .second, .val (.long (((gg p1.toNatClampNeg) + qh) + (0 : Int64))), .second] [(.int p1), (.ref hh)])) (fun t k => XS.iloadN X29.here hx rfl (hb hby d3_234) rfl k) ?_
        refine Goes.to (T' := T29.setTop (mkF m 237 #[.val (.ref xa), .val (.int p1), .val (.long qh), .second, .val (.long ql), .second, .val (.long (1 : Int64)), .second, .val (.long ql), .second, .val (.long qh), .second, .val (.long qh), .second, .val (.int (0 : Int32)), .val (.long ((ff (p1).toNatClampNeg) + ql)), .second, .val (.long (0 : Int64)), .second, .val (.long (((gg p1.toNatClampNeg) + qh) + (0 : Int64))), .second] [(.long (((gg p1.toNatClampNeg) + qh) + (0 : Int64))), (.int p1), (.ref hh)])) (fun t k => XS.lload X29.here hx rfl (hb hby d3_235) rfl k) ?_
        obtain ⟨cl30, Ar30, S30, Ng30, H30, Hz30⟩ := id V_hh
        have hin30 : ¬ (p1 < 0 ∨ cl30.slots.size ≤ (p1).toNatClampNeg) := inb_of S30 ⟨hp, hpz⟩
        obtain ⟨T31, h31, X31, e31, W31, st31⟩ := stJ X29 hx hZ e29 Ar30 (j := p1) hin30 (g := (mkF m 237 #[.val (.ref xa), .val (.int p1), .val (.long qh), .second, .val (.long ql), .second, .val (.long (1 : Int64)), .second, .val (.long ql), .second, .val (.long qh), .second, .val (.long qh), .second, .val (.int (0 : Int32)), .val (.long ((ff (p1).toNatClampNeg) + ql)), .second, .val (.long (0 : Int64)), .second, .val (.long (((gg p1.toNatClampNeg) + qh) + (0 : Int64))), .second] [(.long (((gg p1.toNatClampNeg) + qh) + (0 : Int64))), (.int p1), (.ref hh)])) rfl rfl (hb hby d3_237)
        have V_hh : La Z h31 hh zz (upd gg (p1).toNatClampNeg (((gg p1.toNatClampNeg) + qh) + (0 : Int64))) := La.set Ar30 S30 Ng30 H30 Hz30 W31 ⟨hp, hpz⟩
        have E_xa := E_xa.wr W31
        have F_lows_xa := F_lows_xa.other W31 (Or.inl (ne_xa_hh))
        have F_highs_xa := F_highs_xa.other W31 (Or.inl (ne_xa_hh))
        have V_lw := V_lw.other W31 (ne_lw_hh)
        have O28 := O28.wr W31 g_hh
        have N31 := Fr.snoc X31 N28 g_hh
        refine Goes.to (T' := T31.setTop (mkF m 238 #[.val (.ref xa), .val (.int p1), .val (.long qh), .second, .val (.long ql), .second, .val (.long (1 : Int64)), .second, .val (.long ql), .second, .val (.long qh), .second, .val (.long qh), .second, .val (.int (0 : Int32)), .val (.long ((ff (p1).toNatClampNeg) + ql)), .second, .val (.long (0 : Int64)), .second, .val (.long (((gg p1.toNatClampNeg) + qh) + (0 : Int64))), .second] [])) st31 ?_
        obtain ⟨fs, hrL, hrun, hended, hW, hsame⟩ := X31.leave (v := none) (fun _ => rfl)
        subst hQf
        refine ⟨_, _, X31.returnOut hx Bd.returns (hb hby d3_238) hrL, hrun, hended, _, _, rfl, ?_, ⟨_, rfl⟩, hW, hsame.mono (by decide) (by decide)⟩
        show (fun (v : Option Value) (h : Heap) (L : List Loc) => v = none ∧ Fr n0 L ∧ Old Z n0 h ∧ SA Z h n0 xa (upd ff p1.toNatClampNeg ((ff p1.toNatClampNeg) + ql)) (upd gg p1.toNatClampNeg ((gg p1.toNatClampNeg) + qh + car))) (none) T31.heap _
        rw [e31]
        have hc : car = (0 : Int64) := by rw [hcar]; exact if_neg (fun q => hc124_9 (hrc121.mpr q))
        subst hc
        exact ⟨rfl, N31, O28, lw, hh, zw, zz, E_xa, g_xa, F_lows_xa, F_highs_xa, V_lw, V_hh, ne_lw_xa, ne_hh_xa, Or.inl g_lw, Or.inl g_hh, Or.inl ne_lw_hh, hw25⟩
  refine Goes.to (T' := s₁.setTop (mkF m 1 #[.val (.ref xa), .val (.int p1), .val (.long qh), .second, .val (.long ql), .second, .val (.long (1 : Int64)), .second, .unset, .unset, .unset, .unset, .unset, .unset, .unset, .unset, .unset, .unset, .unset, .unset, .unset] [(.int p1)])) (fun t k => XS.iloadN X0.here hx rfl (hb hby d3_0) rfl k) ?_
  refine Goes.to (T' := s₁.setTop (mkF m 2 #[.val (.ref xa), .val (.int p1), .val (.long qh), .second, .val (.long ql), .second, .val (.long (1 : Int64)), .second, .unset, .unset, .unset, .unset, .unset, .unset, .unset, .unset, .unset, .unset, .unset, .unset, .unset] [(.ref xa), (.int p1)])) (fun t k => XS.aloadN X0.here hx rfl (hb hby d3_1) rfl rfl k) ?_
  obtain ⟨T32, X32, e32, st32⟩ := getF X0 hx hZ hown (host := "") (Or.inl (hw _ (mi 11 rfl))) Via.refl e0 F_lows_xa (g := (mkF m 2 #[.val (.ref xa), .val (.int p1), .val (.long qh), .second, .val (.long ql), .second, .val (.long (1 : Int64)), .second, .unset, .unset, .unset, .unset, .unset, .unset, .unset, .unset, .unset, .unset, .unset, .unset, .unset] [(.ref xa), (.int p1)])) rfl rfl (hb hby d3_2)
  refine Goes.to (T' := T32.setTop (mkF m 5 #[.val (.ref xa), .val (.int p1), .val (.long qh), .second, .val (.long ql), .second, .val (.long (1 : Int64)), .second, .unset, .unset, .unset, .unset, .unset, .unset, .unset, .unset, .unset, .unset, .unset, .unset, .unset] [(.ref lo), (.int p1)])) st32 ?_
  obtain ⟨cl33, Ar33, S33, Ng33, H33, G33⟩ := id V_lo
  refine Goes.to (T' := T32.setTop (mkF m 6 #[.val (.ref xa), .val (.int p1), .val (.long qh), .second, .val (.long ql), .second, .val (.long (1 : Int64)), .second, .unset, .unset, .unset, .unset, .unset, .unset, .unset, .unset, .unset, .unset, .unset, .unset, .unset] [(.int zl), (.int p1)])) (fun t k => X32.arraylength hx (by rw [e32]; exact Ar33.1) (State.isArrayOf_alike hZ.alike Ar33.2.1) (g := (mkF m 5 #[.val (.ref xa), .val (.int p1), .val (.long qh), .second, .val (.long ql), .second, .val (.long (1 : Int64)), .second, .unset, .unset, .unset, .unset, .unset, .unset, .unset, .unset, .unset, .unset, .unset, .unset, .unset] [(.ref lo), (.int p1)])) rfl rfl (hb hby d3_5) _ (by rw [len_of S33 Ng33]; exact k)) ?_
  rcases Decidable.em (p1 < zl) with hc6_34 | hc6_34
  · skip
    refine Goes.to (T' := T32.setTop (mkF m 39 #[.val (.ref xa), .val (.int p1), .val (.long qh), .second, .val (.long ql), .second, .val (.long (1 : Int64)), .second, .unset, .unset, .unset, .unset, .unset, .unset, .unset, .unset, .unset, .unset, .unset, .unset, .unset] [])) (fun t k => XS.icmpYes X32.here hx rfl (pc0 := 6) (pc' := 39) rfl (hb hby d3_6) rfl (tlt hc6_34).1 (by decide) (by decide) k) ?_
    have V_lw := V_lo
    exact J39 _ _ _ lo zl (Stand.mono X32 (by decide) (by decide)) e32 O0 E_xa F_lows_xa F_highs_xa V_hi V_lw N0 hc6_34 hzl25 (glo.resolve_right (own_pos hp hc6_34)) ne_lo_xa (nelh.resolve_right (fun q => own_pos hp hc6_34 q.1))
  · skip
    refine Goes.to (T' := T32.setTop (mkF m 9 #[.val (.ref xa), .val (.int p1), .val (.long qh), .second, .val (.long ql), .second, .val (.long (1 : Int64)), .second, .unset, .unset, .unset, .unset, .unset, .unset, .unset, .unset, .unset, .unset, .unset, .unset, .unset] [])) (fun t k => XS.icmpNo X32.here hx rfl (hb hby d3_6) rfl (flt hc6_34).1 k) ?_
    refine Goes.to (T' := T32.setTop (mkF m 10 #[.val (.ref xa), .val (.int p1), .val (.long qh), .second, .val (.long ql), .second, .val (.long (1 : Int64)), .second, .unset, .unset, .unset, .unset, .unset, .unset, .unset, .unset, .unset, .unset, .unset, .unset, .unset] [(.ref xa)])) (fun t k => XS.aloadN X32.here hx rfl (hb hby d3_9) rfl rfl k) ?_
    refine Goes.to (T' := T32.setTop (mkF m 11 #[.val (.ref xa), .val (.int p1), .val (.long qh), .second, .val (.long ql), .second, .val (.long (1 : Int64)), .second, .unset, .unset, .unset, .unset, .unset, .unset, .unset, .unset, .unset, .unset, .unset, .unset, .unset] [(.ref xa), (.ref xa)])) (fun t k => XS.aloadN X32.here hx rfl (hb hby d3_10) rfl rfl k) ?_
    obtain ⟨T35, X35, e35, st35⟩ := getF X32 hx hZ hown (host := "") (Or.inl (hw _ (mi 11 rfl))) Via.refl e32 F_lows_xa (g := (mkF m 11 #[.val (.ref xa), .val (.int p1), .val (.long qh), .second, .val (.long ql), .second, .val (.long (1 : Int64)), .second, .unset, .unset, .unset, .unset, .unset, .unset, .unset, .unset, .unset, .unset, .unset, .unset, .unset] [(.ref xa), (.ref xa)])) rfl rfl (hb hby d3_11)
    refine Goes.to (T' := T35.setTop (mkF m 14 #[.val (.ref xa), .val (.int p1), .val (.long qh), .second, .val (.long ql), .second, .val (.long (1 : Int64)), .second, .unset, .unset, .unset, .unset, .unset, .unset, .unset, .unset, .unset, .unset, .unset, .unset, .unset] [(.ref lo), (.ref xa)])) st35 ?_
    refine Goes.to (T' := T35.setTop (mkF m 15 #[.val (.ref xa), .val (.int p1), .val (.long qh), .second, .val (.long ql), .second, .val (.long (1 : Int64)), .second, .unset, .unset, .unset, .unset, .unset, .unset, .unset, .unset, .unset, .unset, .unset, .unset, .unset] [(.int p1), (.ref lo), (.ref xa)])) (fun t k => XS.iloadN X35.here hx rfl (hb hby d3_14) rfl k) ?_
    refine Goes.to (T' := T35.setTop (mkF m 16 #[.val (.ref xa), .val (.int p1), .val (.long qh), .second, .val (.long ql), .second, .val (.long (1 : Int64)), .second, .unset, .unset, .unset, .unset, .unset, .unset, .unset, .unset, .unset, .unset, .unset, .unset, .unset] [(.int (1 : Int32)), (.int p1), (.ref lo), (.ref xa)])) (fun t k => XS.iconst X35.here hx rfl (hb hby d3_15) k) ?_
    refine Goes.to (T' := T35.setTop (mkF m 17 #[.val (.ref xa), .val (.int p1), .val (.long qh), .second, .val (.long ql), .second, .val (.long (1 : Int64)), .second, .unset, .unset, .unset, .unset, .unset, .unset, .unset, .unset, .unset, .unset, .unset, .unset, .unset] [(.int (p1 + (1 : Int32))), (.ref lo), (.ref xa)])) (fun t k => XS.iadd X35.here hx rfl (hb hby d3_16) rfl k) ?_
    refine Goes.to (T' := T35.setTop (mkF m 18 #[.val (.ref xa), .val (.int p1), .val (.long qh), .second, .val (.long ql), .second, .val (.long (1 : Int64)), .second, .unset, .unset, .unset, .unset, .unset, .unset, .unset, .unset, .unset, .unset, .unset, .unset, .unset] [(.ref xa), (.int (p1 + (1 : Int32))), (.ref lo), (.ref xa)])) (fun t k => XS.aloadN X35.here hx rfl (hb hby d3_17) rfl rfl k) ?_
    obtain ⟨T36, X36, e36, st36⟩ := getF X35 hx hZ hown (host := "") (Or.inl (hw _ (mi 11 rfl))) Via.refl e35 F_lows_xa (g := (mkF m 18 #[.val (.ref xa), .val (.int p1), .val (.long qh), .second, .val (.long ql), .second, .val (.long (1 : Int64)), .second, .unset, .unset, .unset, .unset, .unset, .unset, .unset, .unset, .unset, .unset, .unset, .unset, .unset] [(.ref xa), (.int (p1 + (1 : Int32))), (.ref lo), (.ref xa)])) rfl rfl (hb hby d3_18)
    refine Goes.to (T' := T36.setTop (mkF m 21 #[.val (.ref xa), .val (.int p1), .val (.long qh), .second, .val (.long ql), .second, .val (.long (1 : Int64)), .second, .unset, .unset, .unset, .unset, .unset, .unset, .unset, .unset, .unset, .unset, .unset, .unset, .unset] [(.ref lo), (.int (p1 + (1 : Int32))), (.ref lo), (.ref xa)])) st36 ?_
    obtain ⟨cl37, Ar37, S37, Ng37, H37, G37⟩ := id V_lo
    refine Goes.to (T' := T36.setTop (mkF m 22 #[.val (.ref xa), .val (.int p1), .val (.long qh), .second, .val (.long ql), .second, .val (.long (1 : Int64)), .second, .unset, .unset, .unset, .unset, .unset, .unset, .unset, .unset, .unset, .unset, .unset, .unset, .unset] [(.int zl), (.int (p1 + (1 : Int32))), (.ref lo), (.ref xa)])) (fun t k => X36.arraylength hx (by rw [e36]; exact Ar37.1) (State.isArrayOf_alike hZ.alike Ar37.2.1) (g := (mkF m 21 #[.val (.ref xa), .val (.int p1), .val (.long qh), .second, .val (.long ql), .second, .val (.long (1 : Int64)), .second, .unset, .unset, .unset, .unset, .unset, .unset, .unset, .unset, .unset, .unset, .unset, .unset, .unset] [(.ref lo), (.int (p1 + (1 : Int32))), (.ref lo), (.ref xa)])) rfl rfl (hb hby d3_21) _ (by rw [len_of S37 Ng37]; exact k)) ?_
    refine Goes.to (T' := T36.setTop (mkF m 23 #[.val (.ref xa), .val (.int p1), .val (.long qh), .second, .val (.long ql), .second, .val (.long (1 : Int64)), .second, .unset, .unset, .unset, .unset, .unset, .unset, .unset, .unset, .unset, .unset, .unset, .unset, .unset] [(.ref xa), (.int zl), (.int (p1 + (1 : Int32))), (.ref lo), (.ref xa)])) (fun t k => XS.aloadN X36.here hx rfl (hb hby d3_22) rfl rfl k) ?_
    obtain ⟨T38, X38, e38, st38⟩ := getF X36 hx hZ hown (host := "") (Or.inl (hw _ (mi 11 rfl))) Via.refl e36 F_lows_xa (g := (mkF m 23 #[.val (.ref xa), .val (.int p1), .val (.long qh), .second, .val (.long ql), .second, .val (.long (1 : Int64)), .second, .unset, .unset, .unset, .unset, .unset, .unset, .unset, .unset, .unset, .unset, .unset, .unset, .unset] [(.ref xa), (.int zl), (.int (p1 + (1 : Int32))), (.ref lo), (.ref xa)])) rfl rfl (hb hby d3_23)
    refine Goes.to (T' := T38.setTop (mkF m 26 #[.val (.ref xa), .val (.int p1), .val (.long qh), .second, .val (.long ql), .second, .val (.long (1 : Int64)), .second, .unset, .unset, .unset, .unset, .unset, .unset, .unset, .unset, .unset, .unset, .unset, .unset, .unset] [(.ref lo), (.int zl), (.int (p1 + (1 : Int32))), (.ref lo), (.ref xa)])) st38 ?_
    obtain ⟨cl39, Ar39, S39, Ng39, H39, G39⟩ := id V_lo
    refine Goes.to (T' := T38.setTop (mkF m 27 #[.val (.ref xa), .val (.int p1), .val (.long qh), .second, .val (.long ql), .second, .val (.long (1 : Int64)), .second, .unset, .unset, .unset, .unset, .unset, .unset, .unset, .unset, .unset, .unset, .unset, .unset, .unset] [(.int zl), (.int zl), (.int (p1 + (1 : Int32))), (.ref lo), (.ref xa)])) (fun t k => X38.arraylength hx (by rw [e38]; exact Ar39.1) (State.isArrayOf_alike hZ.alike Ar39.2.1) (g := (mkF m 26 #[.val (.ref xa), .val (.int p1), .val (.long qh), .second, .val (.long ql), .second, .val (.long (1 : Int64)), .second, .unset, .unset, .unset, .unset, .unset, .unset, .unset, .unset, .unset, .unset, .unset, .unset, .unset] [(.ref lo), (.int zl), (.int (p1 + (1 : Int32))), (.ref lo), (.ref xa)])) rfl rfl (hb hby d3_26) _ (by rw [len_of S39 Ng39]; exact k)) ?_
    refine Goes.to (T' := T38.setTop (mkF m 28 #[.val (.ref xa), .val (.int p1), .val (.long qh), .second, .val (.long ql), .second, .val (.long (1 : Int64)), .second, .unset, .unset, .unset, .unset, .unset, .unset, .unset, .unset, .unset, .unset, .unset, .unset, .unset] [(.int (2 : Int32)), (.int zl), (.int zl), (.int (p1 + (1 : Int32))), (.ref lo), (.ref xa)])) (fun t k => XS.iconst X38.here hx rfl (hb hby d3_27) k) ?_
    refine Goes.to (T' := T38.setTop (mkF m 29 #[.val (.ref xa), .val (.int p1), .val (.long qh), .second, .val (.long ql), .second, .val (.long (1 : Int64)), .second, .unset, .unset, .unset, .unset, .unset, .unset, .unset, .unset, .unset, .unset, .unset, .unset, .unset] [(.int (zl / (2 : Int32))), (.int zl), (.int (p1 + (1 : Int32))), (.ref lo), (.ref xa)])) (fun t k => XS.idiv X38.here hx rfl (hb hby d3_28) rfl (by decide) k) ?_
    refine Goes.to (T' := T38.setTop (mkF m 30 #[.val (.ref xa), .val (.int p1), .val (.long qh), .second, .val (.long ql), .second, .val (.long (1 : Int64)), .second, .unset, .unset, .unset, .unset, .unset, .unset, .unset, .unset, .unset, .unset, .unset, .unset, .unset] [(.int (zl + (zl / (2 : Int32)))), (.int (p1 + (1 : Int32))), (.ref lo), (.ref xa)])) (fun t k => XS.iadd X38.here hx rfl (hb hby d3_29) rfl k) ?_
    obtain ⟨_, _, ⟨T40, L40, k40, n40⟩, -, X40, ⟨Lc40, hQ40, l40, y40, z40⟩, st40⟩ := Jvm.LawKit.callS X38 hx (y := (⟨"java/lang/Math", "max", "(II)I"⟩ : MethodName)) hown (mvT hZ (hw _ (mi 22 rfl))) (mvT hZ (hw _ (mi 23 rfl))) (mvT hZ (hw _ (mi 24 rfl))) (mvT hZ (hw _ (mi 25 rfl))) (by decide) (backOf (W := 2) (rmMax l Z a0 hw [] (p1 + (1 : Int32)) (zl + (zl / (2 : Int32))) w0 k_w0 (if (p1 + (1 : Int32)) < (zl + (zl / (2 : Int32))) then (zl + (zl / (2 : Int32))) else (p1 + (1 : Int32))) h0 n0 O0 NF rfl) hZ (hw _ (mi 25 rfl)) (hw _ (mi 24 rfl)) (by decide) (by decide)) (g := (mkF m 30 #[.val (.ref xa), .val (.int p1), .val (.long qh), .second, .val (.long ql), .second, .val (.long (1 : Int64)), .second, .unset, .unset, .unset, .unset, .unset, .unset, .unset, .unset, .unset, .unset, .unset, .unset, .unset] [(.int (zl + (zl / (2 : Int32)))), (.int (p1 + (1 : Int32))), (.ref lo), (.ref xa)])) rfl (by rw [hml]; rfl) (argsL := [(.int (p1 + (1 : Int32))), (.int (zl + (zl / (2 : Int32))))]) (rest := [(.ref lo), (.ref xa)]) (lenOf pd_106 rfl) rfl (by show 2 * 0 + _ ≤ _; exact Nat.le_of_eq rfl) (hb hby d3_30) (fun _ _ => ⟨rfl, e38, (by decide : 0 + 0 ≤ _), (by decide : 0 + 0 ≤ _)⟩)
    dsimp only [Pt.U, Pt.locs, Pt.cells, Pt.slots] at X40 l40 y40 z40 st40 hQ40
    subst l40 y40 z40
    obtain ⟨rfl, Nq40, e40⟩ := hQ40
    have N40 := Fr.app N0 Nq40
    refine Goes.to (T' := T40.setTop (mkF m 33 #[.val (.ref xa), .val (.int p1), .val (.long qh), .second, .val (.long ql), .second, .val (.long (1 : Int64)), .second, .unset, .unset, .unset, .unset, .unset, .unset, .unset, .unset, .unset, .unset, .unset, .unset, .unset] [(.int (if (p1 + (1 : Int32)) < (zl + (zl / (2 : Int32))) then (zl + (zl / (2 : Int32))) else (p1 + (1 : Int32)))), (.ref lo), (.ref xa)])) st40 ?_
    have hgr := own_grow hp hp16 hc6_34 (by obtain ⟨-, -, -, q, -⟩ := id V_lo; exact q) (z := zl) (Or.inr (Or.inl rfl)) (rfl : (if (p1 + (1 : Int32)) < (zl + (zl / (2 : Int32))) then (zl + (zl / (2 : Int32))) else (p1 + (1 : Int32))) = _)
    obtain ⟨_, _, ⟨T41, L41, k41, n41⟩, -, X41, ⟨Lc41, hQ41, l41, y41, z41⟩, st41⟩ := Jvm.LawKit.callS X40 hx (y := (⟨"java/util/Arrays", "copyOf", "([JI)[J"⟩ : MethodName)) hown (mvT hZ (hw _ (mi 26 rfl))) (mvT hZ (hw _ (mi 27 rfl))) (mvT hZ (hw _ (mi 28 rfl))) (mvT hZ (hw _ (mi 29 rfl))) (by decide) (backOf (W := 1) (rmCp l Z a0 hw [] lo (if (p1 + (1 : Int32)) < (zl + (zl / (2 : Int32))) then (zl + (zl / (2 : Int32))) else (p1 + (1 : Int32))) w0 k_w0 zl ff h0 n0 O0 NF V_lo hgr.1 hgr.2.1 hgr.2.2.1) hZ (hw _ (mi 29 rfl)) (hw _ (mi 28 rfl)) (by decide) (by decide)) (g := (mkF m 33 #[.val (.ref xa), .val (.int p1), .val (.long qh), .second, .val (.long ql), .second, .val (.long (1 : Int64)), .second, .unset, .unset, .unset, .unset, .unset, .unset, .unset, .unset, .unset, .unset, .unset, .unset, .unset] [(.int (if (p1 + (1 : Int32)) < (zl + (zl / (2 : Int32))) then (zl + (zl / (2 : Int32))) else (p1 + (1 : Int32)))), (.ref lo), (.ref xa)])) rfl (by rw [hml]; rfl) (argsL := [(.ref lo), (.int (if (p1 + (1 : Int32)) < (zl + (zl / (2 : Int32))) then (zl + (zl / (2 : Int32))) else (p1 + (1 : Int32))))]) (rest := [(.ref xa)]) (lenOf pd_172 rfl) rfl (by show 2 * 0 + _ ≤ _; exact Nat.le_of_eq rfl) (hb hby d3_33) (fun _ _ => ⟨rfl, e40, (by decide : 0 + 1 ≤ _), (by decide : 0 + 24 ≤ _)⟩)
    dsimp only [Pt.U, Pt.locs, Pt.cells, Pt.slots] at X41 l41 y41 z41 st41 hQ41
    subst l41 y41 z41
    obtain ⟨⟨ln, rfl, gq41, szq41, V_ln⟩, Nq41, Ex41⟩ := hQ41
    have N41 := Fr.app N40 Nq41
    have g_ln : n0 ≤ ln := gq41
    have ne_xa_ln : xa ≠ ln := Nat.ne_of_lt (Nat.lt_of_lt_of_le E_xa.lt szq41)
    have ne_ln_xa := Ne.symm ne_xa_ln
    have ne_lo_ln : lo ≠ ln := Nat.ne_of_lt (Nat.lt_of_lt_of_le V_lo.lt szq41)
    have ne_ln_lo := Ne.symm ne_lo_ln
    have ne_hi_ln : hi ≠ ln := Nat.ne_of_lt (Nat.lt_of_lt_of_le V_hi.lt szq41)
    have ne_ln_hi := Ne.symm ne_hi_ln
    have E_xa := E_xa.ext Ex41
    have F_lows_xa := F_lows_xa.ext Ex41
    have F_highs_xa := F_highs_xa.ext Ex41
    have V_lo := V_lo.ext Ex41
    have V_hi := V_hi.ext Ex41
    have O0 := O0.ext Ex41
    refine Goes.to (T' := T41.setTop (mkF m 36 #[.val (.ref xa), .val (.int p1), .val (.long qh), .second, .val (.long ql), .second, .val (.long (1 : Int64)), .second, .unset, .unset, .unset, .unset, .unset, .unset, .unset, .unset, .unset, .unset, .unset, .unset, .unset] [(.ref ln), (.ref xa)])) st41 ?_
    obtain ⟨T42, h42, X42, e42, W42, st42⟩ := putF X41 hx hZ hown (host := "") (Or.inl (hw _ (mi 11 rfl))) Via.refl rfl F_lows_xa E_xa (Or.inl (hw _ (mi 12 rfl))) (hw _ (mi 1 rfl)) (ty := (.array .long)) (by decide) rfl rfl (g := (mkF m 36 #[.val (.ref xa), .val (.int p1), .val (.long qh), .second, .val (.long ql), .second, .val (.long (1 : Int64)), .second, .unset, .unset, .unset, .unset, .unset, .unset, .unset, .unset, .unset, .unset, .unset, .unset, .unset] [(.ref ln), (.ref xa)])) rfl rfl (hb hby d3_36)
    have F_lows_xa := F_lows_xa.same W42
    have E_xa := E_xa.wr W42
    have F_highs_xa := F_highs_xa.other W42 (Or.inr (slot_ne (Or.inl (hw _ (mi 14 rfl))) (Or.inl (hw _ (mi 12 rfl))) (by decide) (t := (.array .long)) (t' := (.array .long)) (by decide) (by decide)))
    have V_lo := V_lo.other W42 (ne_lo_xa)
    have V_hi := V_hi.other W42 (ne_hi_xa)
    have V_ln := V_ln.other W42 (ne_ln_xa)
    have O0 := O0.wr W42 g_xa
    have N42 := Fr.snoc X42 N41 g_xa
    refine Goes.to (T' := T42.setTop (mkF m 39 #[.val (.ref xa), .val (.int p1), .val (.long qh), .second, .val (.long ql), .second, .val (.long (1 : Int64)), .second, .unset, .unset, .unset, .unset, .unset, .unset, .unset, .unset, .unset, .unset, .unset, .unset, .unset] [])) st42 ?_
    have V_lw := V_ln
    exact J39 _ _ _ ln _ X42 e42 O0 E_xa F_lows_xa F_highs_xa V_hi V_lw N42 hgr.2.2.2 (own_lt25 hgr.2.1 hgr.2.2.1) g_ln ne_ln_xa ne_ln_hi
theorem d13_0 : decode prog_38_method_6_code 0 = .ok (.iload_n 1, 1) := by decide +kernel
theorem d13_1 : decode prog_38_method_6_code 1 = .ok (.aload_n 0, 1) := by decide +kernel
theorem d13_2 : decode prog_38_method_6_code 2 = .ok (.getfield 13, 3) := by decide +kernel
theorem d13_5 : decode prog_38_method_6_code 5 = .ok (.arraylength, 1) := by decide +kernel
theorem d13_6 : decode prog_38_method_6_code 6 = .ok (.if_icmp .ge 10, 3) := by decide +kernel
theorem d13_9 : decode prog_38_method_6_code 9 = .ok (.aload_n 0, 1) := by decide +kernel
theorem d13_10 : decode prog_38_method_6_code 10 = .ok (.getfield 13, 3) := by decide +kernel
theorem d13_13 : decode prog_38_method_6_code 13 = .ok (.iload_n 1, 1) := by decide +kernel
theorem d13_14 : decode prog_38_method_6_code 14 = .ok (.lconst 0, 1) := by decide +kernel
theorem d13_15 : decode prog_38_method_6_code 15 = .ok (.lastore, 1) := by decide +kernel
theorem d13_16 : decode prog_38_method_6_code 16 = .ok (.iload_n 1, 1) := by decide +kernel
theorem d13_17 : decode prog_38_method_6_code 17 = .ok (.aload_n 0, 1) := by decide +kernel
theorem d13_18 : decode prog_38_method_6_code 18 = .ok (.getfield 16, 3) := by decide +kernel
theorem d13_21 : decode prog_38_method_6_code 21 = .ok (.arraylength, 1) := by decide +kernel
theorem d13_22 : decode prog_38_method_6_code 22 = .ok (.if_icmp .ge 10, 3) := by decide +kernel
theorem d13_25 : decode prog_38_method_6_code 25 = .ok (.aload_n 0, 1) := by decide +kernel
theorem d13_26 : decode prog_38_method_6_code 26 = .ok (.getfield 16, 3) := by decide +kernel
theorem d13_29 : decode prog_38_method_6_code 29 = .ok (.iload_n 1, 1) := by decide +kernel
theorem d13_30 : decode prog_38_method_6_code 30 = .ok (.lconst 0, 1) := by decide +kernel
theorem d13_31 : decode prog_38_method_6_code 31 = .ok (.lastore, 1) := by decide +kernel
theorem d13_32 : decode prog_38_method_6_code 32 = .ok (.return_, 1) := by decide +kernel
theorem pn_13 : plainName "com/example/suretyline/suretyline/Sums" = true := by first | (simp [plainName, overriddenIn]; done) | decide +kernel
theorem ef_rmCl (m : MethodId) (x0 : Addr) (x1 : Int32) : entryFrame m #[(.ref x0), (.int x1)] 2 = mkF m 0 #[.val (.ref x0), .val (.int x1)] [] := by first | (simp [entryFrame, mkF, argsToLocals, Value.category]; done) | rfl
def Q_rmCl (Z : State) (xa : Addr) (p1 : Int32) (w0 : Addr) (k_w0 : ClassId) (ff : Nat → Int64) (gg : Nat → Int64) (h0 : Heap) (n0 : Nat) (v : Option Value) (h : Heap) (L : List Loc) : Prop := v = none ∧ Fr n0 L ∧ Old Z n0 h ∧ SA Z h n0 xa (upd ff p1.toNatClampNeg 0) (upd gg p1.toNatClampNeg 0)
set_option maxRecDepth 65536 in
set_option maxHeartbeats 40000000 in
theorem rmCl (l : Launch) (Z : State) (a0 : Array Value) (hw : ∀ d ∈ tables_1, d.before a0 Z = true) (ws : List Jvm.Cond) (xa : Addr) (p1 : Int32) (w0 : Addr) (k_w0 : ClassId) (ff : Nat → Int64) (gg : Nat → Int64) (h0 : Heap) (n0 : Nat) (O0 : Old Z n0 h0) (NF : Nar Z w0 k_w0) (hSA : SA Z h0 n0 xa ff gg) (hp : ¬ p1 < 0) :
    MetFree l (⟨"com/example/suretyline/suretyline/Sums", "clear", "(I)V"⟩ : MethodName) (head1 (Jvm.Cond.code (⟨"com/example/suretyline/suretyline/Sums", "clear", "(I)V"⟩ : MethodName) prog_38_method_6_code 2 none :: ws) ({ frames := 0, cells := 0, slots := 0, locals := 0 } : Room)) (fun a U => a = #[(.ref xa), (.int p1)] ∧ Z.Warmed39 U.vm ∧ U.heap = h0) (fun _ _ _ _ _ => True) (fun _ U o U' => ∃ v L, o = .returned v ∧ Q_rmCl Z xa p1 w0 k_w0 ff gg h0 n0 v U'.heap L ∧ FrameEnd U o U' L ({ frames := 0, cells := 0, slots := 0, locals := 0 } : Room).cells ({ frames := 0, cells := 0, slots := 0, locals := 0 } : Room).slots) := by
  refine MetFree.of_bodySF (plainFor_of_name pn_13) hisR ?_
  intro p e s m args below meth c s₁ Bd hml0 hP hK
  obtain ⟨rfl, hZ, hh⟩ := hP
  have hx := Bd.exec
  have hby := Bd.bytes
  have hml : c.maxLocals = 2 := hml0
  have hown : s.vm.findClass "com/example/suretyline/suretyline/Sums" = some m.cls := findClass_of_methodNamed Bd.named
  have hnm := (name_of_methodNamed Bd.named Bd.method).1
  have X0 : Stand p l e ({ frames := 0, cells := 0, slots := 0, locals := 0 } : Room) s m #[(.ref xa), (.int p1)] below meth c s₁ [] 0 0 := Stand.of_body Bd
  have e0 : s₁.heap = h0 := by rw [← hh, Bd.state]; rfl
  have N0 := Fr.nil n0
  suffices G : ∀ (Qf : Outcome → State → Prop), Qf = (fun (_ : Array Value) (U : State) (o : Outcome) (U' : State) => ∃ v L, o = .returned v ∧ Q_rmCl Z xa p1 w0 k_w0 ff gg h0 n0 v U'.heap L ∧ FrameEnd U o U' L ({ frames := 0, cells := 0, slots := 0, locals := 0 } : Room).cells ({ frames := 0, cells := 0, slots := 0, locals := 0 } : Room).slots) #[] s → Goes p.tables e below Qf (s₁.setTop (mkF m 0 #[.val (.ref xa), .val (.int p1)] [])) by
    obtain ⟨s₂, o, g1, g2, g3, g4⟩ := G _ rfl
    exact ⟨s₂, o, castTop (ef_rmCl m _ _) g1, g2, g3, g4⟩
  intro Qf hQf
  obtain ⟨S_w0, E_w0, V_w0⟩ := id NF
  obtain ⟨lo, hi, zl, zh, E_xa, g_xa, F_lows_xa, F_highs_xa, V_lo, V_hi, ne_lo_xa, ne_hi_xa, glo, ghi, nelh, hzl25⟩ := id hSA
  have ne_xa_lo := Ne.symm ne_lo_xa
  have ne_xa_hi := Ne.symm ne_hi_xa
  refine Goes.to (T' := s₁.setTop (mkF m 1 #[.val (.ref xa), .val (.int p1)] [(.int p1)])) (fun t k => XS.iloadN X0.here hx rfl (hb hby d13_0) rfl k) ?_
  refine Goes.to (T' := s₁.setTop (mkF m 2 #[.val (.ref xa), .val (.int p1)] [(.ref xa), (.int p1)])) (fun t k => XS.aloadN X0.here hx rfl (hb hby d13_1) rfl rfl k) ?_
  obtain ⟨T1, X1, e1, st1⟩ := getF X0 hx hZ hown (host := "") (Or.inl (hw _ (mi 11 rfl))) Via.refl e0 F_lows_xa (g := (mkF m 2 #[.val (.ref xa), .val (.int p1)] [(.ref xa), (.int p1)])) rfl rfl (hb hby d13_2)
  refine Goes.to (T' := T1.setTop (mkF m 5 #[.val (.ref xa), .val (.int p1)] [(.ref lo), (.int p1)])) st1 ?_
  obtain ⟨cl2, Ar2, S2, Ng2, H2, G2⟩ := id V_lo
  refine Goes.to (T' := T1.setTop (mkF m 6 #[.val (.ref xa), .val (.int p1)] [(.int zl), (.int p1)])) (fun t k => X1.arraylength hx (by rw [e1]; exact Ar2.1) (State.isArrayOf_alike hZ.alike Ar2.2.1) (g := (mkF m 5 #[.val (.ref xa), .val (.int p1)] [(.ref lo), (.int p1)])) rfl rfl (hb hby d13_5) _ (by rw [len_of S2 Ng2]; exact k)) ?_
  rcases Decidable.em (p1 < zl) with hc6_3 | hc6_3
  · skip
    refine Goes.to (T' := T1.setTop (mkF m 9 #[.val (.ref xa), .val (.int p1)] [])) (fun t k => XS.icmpNo X1.here hx rfl (hb hby d13_6) rfl (tlt hc6_3).2.1 k) ?_
    have g_lo : n0 ≤ lo := glo.resolve_right (own_pos hp hc6_3)
    have ne_lo_hi : lo ≠ hi := nelh.resolve_right (fun q => own_pos hp hc6_3 q.1)
    have ne_hi_lo := Ne.symm ne_lo_hi
    refine Goes.to (T' := T1.setTop (mkF m 10 #[.val (.ref xa), .val (.int p1)] [(.ref xa)])) (fun t k => XS.aloadN X1.here hx rfl (hb hby d13_9) rfl rfl k) ?_
    obtain ⟨T4, X4, e4, st4⟩ := getF X1 hx hZ hown (host := "") (Or.inl (hw _ (mi 11 rfl))) Via.refl e1 F_lows_xa (g := (mkF m 10 #[.val (.ref xa), .val (.int p1)] [(.ref xa)])) rfl rfl (hb hby d13_10)
    refine Goes.to (T' := T4.setTop (mkF m 13 #[.val (.ref xa), .val (.int p1)] [(.ref lo)])) st4 ?_
    refine Goes.to (T' := T4.setTop (mkF m 14 #[.val (.ref xa), .val (.int p1)] [(.int p1), (.ref lo)])) (fun t k => XS.iloadN X4.here hx rfl (hb hby d13_13) rfl k) ?_
    refine Goes.to (T' := T4.setTop (mkF m 15 #[.val (.ref xa), .val (.int p1)] [(.long (0 : Int64)), (.int p1), (.ref lo)])) (fun t k => XS.lconst X4.here hx rfl (hb hby d13_14) k) ?_
    obtain ⟨cl5, Ar5, S5, Ng5, H5, Hz5⟩ := id V_lo
    have hin5 : ¬ (p1 < 0 ∨ cl5.slots.size ≤ (p1).toNatClampNeg) := inb_of S5 ⟨hp, hc6_3⟩
    obtain ⟨T6, h6, X6, e6, W6, st6⟩ := stJ X4 hx hZ e4 Ar5 (j := p1) hin5 (g := (mkF m 15 #[.val (.ref xa), .val (.int p1)] [(.long (0 : Int64)), (.int p1), (.ref lo)])) rfl rfl (hb hby d13_15)
    have V_lo : La Z h6 lo zl (upd ff (p1).toNatClampNeg (0 : Int64)) := La.set Ar5 S5 Ng5 H5 Hz5 W6 ⟨hp, hc6_3⟩
    have E_xa := E_xa.wr W6
    have F_lows_xa := F_lows_xa.other W6 (Or.inl (ne_xa_lo))
    have F_highs_xa := F_highs_xa.other W6 (Or.inl (ne_xa_lo))
    have V_hi := V_hi.other W6 (ne_hi_lo)
    have O0 := O0.wr W6 g_lo
    have N6 := Fr.snoc X6 N0 g_lo
    refine Goes.to (T' := T6.setTop (mkF m 16 #[.val (.ref xa), .val (.int p1)] [])) st6 ?_
    refine Goes.to (T' := T6.setTop (mkF m 17 #[.val (.ref xa), .val (.int p1)] [(.int p1)])) (fun t k => XS.iloadN X6.here hx rfl (hb hby d13_16) rfl k) ?_
    refine Goes.to (T' := T6.setTop (mkF m 18 #[.val (.ref xa), .val (.int p1)] [(.ref xa), (.int p1)])) (fun t k => XS.aloadN X6.here hx rfl (hb hby d13_17) rfl rfl k) ?_
    obtain ⟨T7, X7, e7, st7⟩ := getF X6 hx hZ hown (host := "") (Or.inl (hw _ (mi 13 rfl))) Via.refl e6 F_highs_xa (g := (mkF m 18 #[.val (.ref xa), .val (.int p1)] [(.ref xa), (.int p1)])) rfl rfl (hb hby d13_18)
    refine Goes.to (T' := T7.setTop (mkF m 21 #[.val (.ref xa), .val (.int p1)] [(.ref hi), (.int p1)])) st7 ?_
    obtain ⟨cl8, Ar8, S8, Ng8, H8, G8⟩ := id V_hi
    refine Goes.to (T' := T7.setTop (mkF m 22 #[.val (.ref xa), .val (.int p1)] [(.int zh), (.int p1)])) (fun t k => X7.arraylength hx (by rw [e7]; exact Ar8.1) (State.isArrayOf_alike hZ.alike Ar8.2.1) (g := (mkF m 21 #[.val (.ref xa), .val (.int p1)] [(.ref hi), (.int p1)])) rfl rfl (hb hby d13_21) _ (by rw [len_of S8 Ng8]; exact k)) ?_
    rcases Decidable.em (p1 < zh) with hc22_9 | hc22_9
    · skip
      refine Goes.to (T' := T7.setTop (mkF m 25 #[.val (.ref xa), .val (.int p1)] [])) (fun t k => XS.icmpNo X7.here hx rfl (hb hby d13_22) rfl (tlt hc22_9).2.1 k) ?_
      have g_hi : n0 ≤ hi := ghi.resolve_right (own_pos hp hc22_9)
      have ne_lo_hi : lo ≠ hi := nelh.resolve_right (fun q => own_pos hp hc22_9 q.2)
      have ne_hi_lo := Ne.symm ne_lo_hi
      refine Goes.to (T' := T7.setTop (mkF m 26 #[.val (.ref xa), .val (.int p1)] [(.ref xa)])) (fun t k => XS.aloadN X7.here hx rfl (hb hby d13_25) rfl rfl k) ?_
      obtain ⟨T10, X10, e10, st10⟩ := getF X7 hx hZ hown (host := "") (Or.inl (hw _ (mi 13 rfl))) Via.refl e7 F_highs_xa (g := (mkF m 26 #[.val (.ref xa), .val (.int p1)] [(.ref xa)])) rfl rfl (hb hby d13_26)
      refine Goes.to (T' := T10.setTop (mkF m 29 #[.val (.ref xa), .val (.int p1)] [(.ref hi)])) st10 ?_
      refine Goes.to (T' := T10.setTop (mkF m 30 #[.val (.ref xa), .val (.int p1)] [(.int p1), (.ref hi)])) (fun t k => XS.iloadN X10.here hx rfl (hb hby d13_29) rfl k) ?_
      refine Goes.to (T' := T10.setTop (mkF m 31 #[.val (.ref xa), .val (.int p1)] [(.long (0 : Int64)), (.int p1), (.ref hi)])) (fun t k => XS.lconst X10.here hx rfl (hb hby d13_30) k) ?_
      obtain ⟨cl11, Ar11, S11, Ng11, H11, Hz11⟩ := id V_hi
      have hin11 : ¬ (p1 < 0 ∨ cl11.slots.size ≤ (p1).toNatClampNeg) := inb_of S11 ⟨hp, hc22_9⟩
      obtain ⟨T12, h12, X12, e12, W12, st12⟩ := stJ X10 hx hZ e10 Ar11 (j := p1) hin11 (g := (mkF m 31 #[.val (.ref xa), .val (.int p1)] [(.long (0 : Int64)), (.int p1), (.ref hi)])) rfl rfl (hb hby d13_31)
      have V_hi : La Z h12 hi zh (upd gg (p1).toNatClampNeg (0 : Int64)) := La.set Ar11 S11 Ng11 H11 Hz11 W12 ⟨hp, hc22_9⟩
      have E_xa := E_xa.wr W12
      have F_lows_xa := F_lows_xa.other W12 (Or.inl (ne_xa_hi))
      have F_highs_xa := F_highs_xa.other W12 (Or.inl (ne_xa_hi))
      have V_lo := V_lo.other W12 (ne_lo_hi)
      have O0 := O0.wr W12 g_hi
      have N12 := Fr.snoc X12 N6 g_hi
      refine Goes.to (T' := T12.setTop (mkF m 32 #[.val (.ref xa), .val (.int p1)] [])) st12 ?_
      obtain ⟨fs, hrL, hrun, hended, hW, hsame⟩ := X12.leave (v := none) (fun _ => rfl)
      subst hQf
      refine ⟨_, _, X12.returnOut hx Bd.returns (hb hby d13_32) hrL, hrun, hended, _, _, rfl, ?_, ⟨_, rfl⟩, hW, hsame.mono (by decide) (by decide)⟩
      show (fun (v : Option Value) (h : Heap) (L : List Loc) => v = none ∧ Fr n0 L ∧ Old Z n0 h ∧ SA Z h n0 xa (upd ff p1.toNatClampNeg 0) (upd gg p1.toNatClampNeg 0)) (none) T12.heap _
      rw [e12]
      obtain ⟨-, -, -, hzl0, -, Hzl⟩ := id V_lo
      obtain ⟨-, -, -, hzh0, -, Hzh⟩ := id V_hi
      exact ⟨rfl, N12, O0, lo, hi, zl, zh, E_xa, g_xa, F_lows_xa, F_highs_xa, V_lo, V_hi, ne_lo_xa, ne_hi_xa, glo, ghi, nelh, hzl25⟩
    · skip
      refine Goes.to (T' := T7.setTop (mkF m 32 #[.val (.ref xa), .val (.int p1)] [])) (fun t k => XS.icmpYes X7.here hx rfl (pc0 := 22) (pc' := 32) rfl (hb hby d13_22) rfl (flt hc22_9).2.1 (by decide) (by decide) k) ?_
      obtain ⟨fs, hrL, hrun, hended, hW, hsame⟩ := X7.leave (v := none) (fun _ => rfl)
      subst hQf
      refine ⟨_, _, X7.returnOut hx Bd.returns (hb hby d13_32) hrL, hrun, hended, _, _, rfl, ?_, ⟨_, rfl⟩, hW, hsame.mono (by decide) (by decide)⟩
      show (fun (v : Option Value) (h : Heap) (L : List Loc) => v = none ∧ Fr n0 L ∧ Old Z n0 h ∧ SA Z h n0 xa (upd ff p1.toNatClampNeg 0) (upd gg p1.toNatClampNeg 0)) (none) T7.heap _
      rw [e7]
      obtain ⟨-, -, -, hzl0, -, Hzl⟩ := id V_lo
      obtain ⟨-, -, -, hzh0, -, Hzh⟩ := id V_hi
      rw [own_updsame (f := gg) (Hzh _ (Nat.le_of_not_lt fun q => hc22_9 ((own_nat hp hzh0).mpr q)))]
      exact ⟨rfl, N6, O0, lo, hi, zl, zh, E_xa, g_xa, F_lows_xa, F_highs_xa, V_lo, V_hi, ne_lo_xa, ne_hi_xa, glo, ghi, nelh, hzl25⟩
  · skip
    refine Goes.to (T' := T1.setTop (mkF m 16 #[.val (.ref xa), .val (.int p1)] [])) (fun t k => XS.icmpYes X1.here hx rfl (pc0 := 6) (pc' := 16) rfl (hb hby d13_6) rfl (flt hc6_3).2.1 (by decide) (by decide) k) ?_
    refine Goes.to (T' := T1.setTop (mkF m 17 #[.val (.ref xa), .val (.int p1)] [(.int p1)])) (fun t k => XS.iloadN X1.here hx rfl (hb hby d13_16) rfl k) ?_
    refine Goes.to (T' := T1.setTop (mkF m 18 #[.val (.ref xa), .val (.int p1)] [(.ref xa), (.int p1)])) (fun t k => XS.aloadN X1.here hx rfl (hb hby d13_17) rfl rfl k) ?_
    obtain ⟨T13, X13, e13, st13⟩ := getF X1 hx hZ hown (host := "") (Or.inl (hw _ (mi 13 rfl))) Via.refl e1 F_highs_xa (g := (mkF m 18 #[.val (.ref xa), .val (.int p1)] [(.ref xa), (.int p1)])) rfl rfl (hb hby d13_18)
    refine Goes.to (T' := T13.setTop (mkF m 21 #[.val (.ref xa), .val (.int p1)] [(.ref hi), (.int p1)])) st13 ?_
    obtain ⟨cl14, Ar14, S14, Ng14, H14, G14⟩ := id V_hi
    refine Goes.to (T' := T13.setTop (mkF m 22 #[.val (.ref xa), .val (.int p1)] [(.int zh), (.int p1)])) (fun t k => X13.arraylength hx (by rw [e13]; exact Ar14.1) (State.isArrayOf_alike hZ.alike Ar14.2.1) (g := (mkF m 21 #[.val (.ref xa), .val (.int p1)] [(.ref hi), (.int p1)])) rfl rfl (hb hby d13_21) _ (by rw [len_of S14 Ng14]; exact k)) ?_
    rcases Decidable.em (p1 < zh) with hc22_15 | hc22_15
    · skip
      refine Goes.to (T' := T13.setTop (mkF m 25 #[.val (.ref xa), .val (.int p1)] [])) (fun t k => XS.icmpNo X13.here hx rfl (hb hby d13_22) rfl (tlt hc22_15).2.1 k) ?_
      have g_hi : n0 ≤ hi := ghi.resolve_right (own_pos hp hc22_15)
      have ne_lo_hi : lo ≠ hi := nelh.resolve_right (fun q => own_pos hp hc22_15 q.2)
      have ne_hi_lo := Ne.symm ne_lo_hi
      refine Goes.to (T' := T13.setTop (mkF m 26 #[.val (.ref xa), .val (.int p1)] [(.ref xa)])) (fun t k => XS.aloadN X13.here hx rfl (hb hby d13_25) rfl rfl k) ?_
      obtain ⟨T16, X16, e16, st16⟩ := getF X13 hx hZ hown (host := "") (Or.inl (hw _ (mi 13 rfl))) Via.refl e13 F_highs_xa (g := (mkF m 26 #[.val (.ref xa), .val (.int p1)] [(.ref xa)])) rfl rfl (hb hby d13_26)
      refine Goes.to (T' := T16.setTop (mkF m 29 #[.val (.ref xa), .val (.int p1)] [(.ref hi)])) st16 ?_
      refine Goes.to (T' := T16.setTop (mkF m 30 #[.val (.ref xa), .val (.int p1)] [(.int p1), (.ref hi)])) (fun t k => XS.iloadN X16.here hx rfl (hb hby d13_29) rfl k) ?_
      refine Goes.to (T' := T16.setTop (mkF m 31 #[.val (.ref xa), .val (.int p1)] [(.long (0 : Int64)), (.int p1), (.ref hi)])) (fun t k => XS.lconst X16.here hx rfl (hb hby d13_30) k) ?_
      obtain ⟨cl17, Ar17, S17, Ng17, H17, Hz17⟩ := id V_hi
      have hin17 : ¬ (p1 < 0 ∨ cl17.slots.size ≤ (p1).toNatClampNeg) := inb_of S17 ⟨hp, hc22_15⟩
      obtain ⟨T18, h18, X18, e18, W18, st18⟩ := stJ X16 hx hZ e16 Ar17 (j := p1) hin17 (g := (mkF m 31 #[.val (.ref xa), .val (.int p1)] [(.long (0 : Int64)), (.int p1), (.ref hi)])) rfl rfl (hb hby d13_31)
      have V_hi : La Z h18 hi zh (upd gg (p1).toNatClampNeg (0 : Int64)) := La.set Ar17 S17 Ng17 H17 Hz17 W18 ⟨hp, hc22_15⟩
      have E_xa := E_xa.wr W18
      have F_lows_xa := F_lows_xa.other W18 (Or.inl (ne_xa_hi))
      have F_highs_xa := F_highs_xa.other W18 (Or.inl (ne_xa_hi))
      have V_lo := V_lo.other W18 (ne_lo_hi)
      have O0 := O0.wr W18 g_hi
      have N18 := Fr.snoc X18 N0 g_hi
      refine Goes.to (T' := T18.setTop (mkF m 32 #[.val (.ref xa), .val (.int p1)] [])) st18 ?_
      obtain ⟨fs, hrL, hrun, hended, hW, hsame⟩ := X18.leave (v := none) (fun _ => rfl)
      subst hQf
      refine ⟨_, _, X18.returnOut hx Bd.returns (hb hby d13_32) hrL, hrun, hended, _, _, rfl, ?_, ⟨_, rfl⟩, hW, hsame.mono (by decide) (by decide)⟩
      show (fun (v : Option Value) (h : Heap) (L : List Loc) => v = none ∧ Fr n0 L ∧ Old Z n0 h ∧ SA Z h n0 xa (upd ff p1.toNatClampNeg 0) (upd gg p1.toNatClampNeg 0)) (none) T18.heap _
      rw [e18]
      obtain ⟨-, -, -, hzl0, -, Hzl⟩ := id V_lo
      obtain ⟨-, -, -, hzh0, -, Hzh⟩ := id V_hi
      rw [own_updsame (f := ff) (Hzl _ (Nat.le_of_not_lt fun q => hc6_3 ((own_nat hp hzl0).mpr q)))]
      exact ⟨rfl, N18, O0, lo, hi, zl, zh, E_xa, g_xa, F_lows_xa, F_highs_xa, V_lo, V_hi, ne_lo_xa, ne_hi_xa, glo, ghi, nelh, hzl25⟩
    · skip
      refine Goes.to (T' := T13.setTop (mkF m 32 #[.val (.ref xa), .val (.int p1)] [])) (fun t k => XS.icmpYes X13.here hx rfl (pc0 := 22) (pc' := 32) rfl (hb hby d13_22) rfl (flt hc22_15).2.1 (by decide) (by decide) k) ?_
      obtain ⟨fs, hrL, hrun, hended, hW, hsame⟩ := X13.leave (v := none) (fun _ => rfl)
      subst hQf
      refine ⟨_, _, X13.returnOut hx Bd.returns (hb hby d13_32) hrL, hrun, hended, _, _, rfl, ?_, ⟨_, rfl⟩, hW, hsame.mono (by decide) (by decide)⟩
      show (fun (v : Option Value) (h : Heap) (L : List Loc) => v = none ∧ Fr n0 L ∧ Old Z n0 h ∧ SA Z h n0 xa (upd ff p1.toNatClampNeg 0) (upd gg p1.toNatClampNeg 0)) (none) T13.heap _
      rw [e13]
      obtain ⟨-, -, -, hzl0, -, Hzl⟩ := id V_lo
      obtain ⟨-, -, -, hzh0, -, Hzh⟩ := id V_hi
      rw [own_updsame (f := ff) (Hzl _ (Nat.le_of_not_lt fun q => hc6_3 ((own_nat hp hzl0).mpr q)))]
      rw [own_updsame (f := gg) (Hzh _ (Nat.le_of_not_lt fun q => hc22_15 ((own_nat hp hzh0).mpr q)))]
      exact ⟨rfl, N0, O0, lo, hi, zl, zh, E_xa, g_xa, F_lows_xa, F_highs_xa, V_lo, V_hi, ne_lo_xa, ne_hi_xa, glo, ghi, nelh, hzl25⟩
theorem own_car0 {a x m : Int64} (h : a = 0) : (0 : Int64) = if a + x + m < x + m then 1 else 0 := by
  subst h; rw [Int64.zero_add, if_neg Int64.lt_irrefl]
theorem own_ov0 {a x m : Int64} (h : a = 0) : ¬ a + x + m < x + m := by
  subst h; rw [Int64.zero_add]; exact Int64.lt_irrefl
theorem own_zz0 {a x : Int64} (h : a = 0) : a + x + 0 = 0 → a = 0 := fun _ => h
theorem own_one0 {P : Prop} : (0 : Int64) = 1 → P := fun q => absurd q (by decide)
theorem own_nen {a b : Int32} (ha : ¬ a < 0) (hb : ¬ b < 0) (h : ¬ a = b) : a.toNatClampNeg ≠ b.toNatClampNeg := fun q => h (by
  have e0 : (0 : Int32).toInt = 0 := rfl
  rw [Int32.lt_iff_toInt_lt] at ha hb
  simp only [Int32.toNatClampNeg] at q
  exact Int32.toInt_inj.mp (by omega))
theorem own_ka (x : Int32) : ¬ (x &&& (7 : Int32)) < 0 ∧ (x &&& (7 : Int32)) < (16 : Int32) := by
  have h := c_mask x 7 3 (by decide) (by decide)
  have e0 : (0 : Int32).toInt = 0 := rfl
  have e1 : (16 : Int32).toInt = 16 := rfl
  simp only [Int32.lt_iff_toInt_lt, h, e0, e1]; omega
theorem own_kc (x : Int32) : ¬ (x &&& (15 : Int32)) < 0 ∧ (x &&& (15 : Int32)) < (16 : Int32) := by
  have h := c_mask x 15 4 (by decide) (by decide)
  have e0 : (0 : Int32).toInt = 0 := rfl
  have e1 : (16 : Int32).toInt = 16 := rfl
  simp only [Int32.lt_iff_toInt_lt, h, e0, e1]; omega
theorem own_kab (x y : Int32) : ¬ (x &&& (7 : Int32)) = (((((x &&& (7 : Int32)) + (1 : Int32)) + (y &&& (3 : Int32)))) &&& (7 : Int32)) := by
  have h := c_mask x 7 3 (by decide) (by decide)
  generalize x &&& (7 : Int32) = a at *
  have g := c_mask y 3 2 (by decide) (by decide)
  generalize y &&& (3 : Int32) = b at *
  have k := c_mask (a + 1 + b) 7 3 (by decide) (by decide)
  have c1 := c_iadd a 1
  have c2 := c_iadd (a + 1) b
  have e1 : (1 : Int32).toInt = 1 := rfl
  rw [← Int32.toInt_inj, k]; omega
theorem d14_0 : decode method_2_code 0 = .ok (.lload_n 0, 1) := by decide +kernel
theorem d14_1 : decode method_2_code 1 = .ok (.lconst 0, 1) := by decide +kernel
theorem d14_2 : decode method_2_code 2 = .ok (.lcmp, 1) := by decide +kernel
theorem d14_3 : decode method_2_code 3 = .ok (.ifCond .ne 11, 3) := by decide +kernel
theorem d14_6 : decode method_2_code 6 = .ok (.lload_n 2, 1) := by decide +kernel
theorem d14_7 : decode method_2_code 7 = .ok (.lconst 0, 1) := by decide +kernel
theorem d14_8 : decode method_2_code 8 = .ok (.lcmp, 1) := by decide +kernel
theorem d14_9 : decode method_2_code 9 = .ok (.ifCond .lt 5, 3) := by decide +kernel
theorem d14_12 : decode method_2_code 12 = .ok (.lload_n 2, 1) := by decide +kernel
theorem d14_13 : decode method_2_code 13 = .ok (.lreturn, 1) := by decide +kernel
theorem d14_14 : decode method_2_code 14 = .ok (.ldc2_w 7, 3) := by decide +kernel
theorem d14_17 : decode method_2_code 17 = .ok (.lreturn, 1) := by decide +kernel
theorem pn_14 : plainName "com/example/suretyline/suretyline/SumsClearPinLaw" = true := by first | (simp [plainName, overriddenIn]; done) | decide +kernel
theorem ef_rmEx (m : MethodId) (x0 : Int64) (x1 : Int64) : entryFrame m #[(.long x0), (.long x1)] 4 = mkF m 0 #[.val (.long x0), .second, .val (.long x1), .second] [] := by first | (simp [entryFrame, mkF, argsToLocals, Value.category]; done) | rfl
def Q_rmEx (Z : State) (q0 : Int64) (q1 : Int64) (w0 : Addr) (k_w0 : ClassId) (r : Int64) (h0 : Heap) (n0 : Nat) (v : Option Value) (h : Heap) (L : List Loc) : Prop := v = some (.long r) ∧ Fr n0 L ∧ h = h0
set_option maxRecDepth 65536 in
set_option maxHeartbeats 40000000 in
theorem rmEx (l : Launch) (Z : State) (a0 : Array Value) (hw : ∀ d ∈ tables_1, d.before a0 Z = true) (ws : List Jvm.Cond) (q0 : Int64) (q1 : Int64) (w0 : Addr) (k_w0 : ClassId) (r : Int64) (h0 : Heap) (n0 : Nat) (O0 : Old Z n0 h0) (NF : Nar Z w0 k_w0) (hr : r = if q0 = 0 ∧ ¬ q1 < 0 then q1 else -1) :
    MetFree l (⟨"com/example/suretyline/suretyline/SumsClearPinLaw", "expect", "(JJ)J"⟩ : MethodName) (head1 (Jvm.Cond.code (⟨"com/example/suretyline/suretyline/SumsClearPinLaw", "expect", "(JJ)J"⟩ : MethodName) method_2_code 4 (some .long) :: ws) ({ frames := 0, cells := 0, slots := 0, locals := 0 } : Room)) (fun a U => a = #[(.long q0), (.long q1)] ∧ Z.Warmed39 U.vm ∧ U.heap = h0) (fun _ _ _ _ _ => True) (fun _ U o U' => ∃ v L, o = .returned v ∧ Q_rmEx Z q0 q1 w0 k_w0 r h0 n0 v U'.heap L ∧ FrameEnd U o U' L ({ frames := 0, cells := 0, slots := 0, locals := 0 } : Room).cells ({ frames := 0, cells := 0, slots := 0, locals := 0 } : Room).slots) := by
  refine MetFree.of_bodySF (plainFor_of_name pn_14) hisR ?_
  intro p e s m args below meth c s₁ Bd hml0 hP hK
  obtain ⟨rfl, hZ, hh⟩ := hP
  have hx := Bd.exec
  have hby := Bd.bytes
  have hml : c.maxLocals = 4 := hml0
  have hown : s.vm.findClass "com/example/suretyline/suretyline/SumsClearPinLaw" = some m.cls := findClass_of_methodNamed Bd.named
  have hnm := (name_of_methodNamed Bd.named Bd.method).1
  have X0 : Stand p l e ({ frames := 0, cells := 0, slots := 0, locals := 0 } : Room) s m #[(.long q0), (.long q1)] below meth c s₁ [] 0 0 := Stand.of_body Bd
  have e0 : s₁.heap = h0 := by rw [← hh, Bd.state]; rfl
  have N0 := Fr.nil n0
  suffices G : ∀ (Qf : Outcome → State → Prop), Qf = (fun (_ : Array Value) (U : State) (o : Outcome) (U' : State) => ∃ v L, o = .returned v ∧ Q_rmEx Z q0 q1 w0 k_w0 r h0 n0 v U'.heap L ∧ FrameEnd U o U' L ({ frames := 0, cells := 0, slots := 0, locals := 0 } : Room).cells ({ frames := 0, cells := 0, slots := 0, locals := 0 } : Room).slots) #[] s → Goes p.tables e below Qf (s₁.setTop (mkF m 0 #[.val (.long q0), .second, .val (.long q1), .second] [])) by
    obtain ⟨s₂, o, g1, g2, g3, g4⟩ := G _ rfl
    exact ⟨s₂, o, castTop (ef_rmEx m _ _) g1, g2, g3, g4⟩
  intro Qf hQf
  obtain ⟨S_w0, E_w0, V_w0⟩ := id NF
  refine Goes.to (T' := s₁.setTop (mkF m 1 #[.val (.long q0), .second, .val (.long q1), .second] [(.long q0)])) (fun t k => XS.lloadN X0.here hx rfl (hb hby d14_0) rfl k) ?_
  refine Goes.to (T' := s₁.setTop (mkF m 2 #[.val (.long q0), .second, .val (.long q1), .second] [(.long (0 : Int64)), (.long q0)])) (fun t k => XS.lconst X0.here hx rfl (hb hby d14_1) k) ?_
  refine Goes.to (T' := s₁.setTop (mkF m 3 #[.val (.long q0), .second, .val (.long q1), .second] [(.int (lcmpW q0 (0 : Int64)))])) (fun t k => XS.lcmp X0.here hx rfl (hb hby d14_2) rfl k) ?_
  rcases Decidable.em (q0 = (0 : Int64)) with hc3_1 | hc3_1
  · skip
    refine Goes.to (T' := s₁.setTop (mkF m 6 #[.val (.long q0), .second, .val (.long q1), .second] [])) (fun t k => XS.ifNo X0.here hx rfl (hb hby d14_3) rfl ((if0 _ _).trans (teq ((lw_eq q0 (0 : Int64)).mpr hc3_1)).2) k) ?_
    refine Goes.to (T' := s₁.setTop (mkF m 7 #[.val (.long q0), .second, .val (.long q1), .second] [(.long q1)])) (fun t k => XS.lloadN X0.here hx rfl (hb hby d14_6) rfl k) ?_
    refine Goes.to (T' := s₁.setTop (mkF m 8 #[.val (.long q0), .second, .val (.long q1), .second] [(.long (0 : Int64)), (.long q1)])) (fun t k => XS.lconst X0.here hx rfl (hb hby d14_7) k) ?_
    refine Goes.to (T' := s₁.setTop (mkF m 9 #[.val (.long q0), .second, .val (.long q1), .second] [(.int (lcmpW q1 (0 : Int64)))])) (fun t k => XS.lcmp X0.here hx rfl (hb hby d14_8) rfl k) ?_
    rcases Decidable.em (q1 < (0 : Int64)) with hc9_2 | hc9_2
    · skip
      refine Goes.to (T' := s₁.setTop (mkF m 14 #[.val (.long q0), .second, .val (.long q1), .second] [])) (fun t k => XS.ifYes X0.here hx rfl (pc0 := 9) (pc' := 14) rfl (hb hby d14_9) rfl ((if0 _ _).trans (tlt ((lw_lt q1 (0 : Int64)).mpr hc9_2)).1) (by decide) (by decide) k) ?_
      refine Goes.to (T' := s₁.setTop (mkF m 17 #[.val (.long q0), .second, .val (.long q1), .second] [(.long (-1 : Int64))])) (X0.ldc2Long hx hown (mvT hZ (hw _ (mi 70 rfl))) (g := (mkF m 14 #[.val (.long q0), .second, .val (.long q1), .second] [])) rfl (hb hby d14_14)) ?_
      obtain ⟨fs, hrL, hrun, hended, hW, hsame⟩ := X0.leave (v := some (.long (-1 : Int64))) (fun h => by rw [Bd.returns] at h; cases h)
      subst hQf
      refine ⟨_, _, retOut X0 hx Bd.returns rfl (Or.inr (Or.inl ⟨rfl, rfl, _, rfl⟩)) (hb hby d14_17) hrL, hrun, hended, _, _, rfl, ?_, ⟨_, rfl⟩, hW, hsame.mono (by decide) (by decide)⟩
      show (fun (v : Option Value) (h : Heap) (L : List Loc) => v = some (.long r) ∧ Fr n0 L ∧ h = h0) (some (.long (-1 : Int64))) s₁.heap _
      rw [e0]
      have hv : (-1 : Int64) = r := by rw [hr]; first | (simp [hc3_1, hc9_2]; done) | ((repeat' split) <;> first | rfl | contradiction | simp_all)
      exact ⟨by rw [hv], N0, rfl⟩
    · skip
      refine Goes.to (T' := s₁.setTop (mkF m 12 #[.val (.long q0), .second, .val (.long q1), .second] [])) (fun t k => XS.ifNo X0.here hx rfl (hb hby d14_9) rfl ((if0 _ _).trans (flt (fun q => hc9_2 ((lw_lt q1 (0 : Int64)).mp q))).1) k) ?_
      refine Goes.to (T' := s₁.setTop (mkF m 13 #[.val (.long q0), .second, .val (.long q1), .second] [(.long q1)])) (fun t k => XS.lloadN X0.here hx rfl (hb hby d14_12) rfl k) ?_
      obtain ⟨fs, hrL, hrun, hended, hW, hsame⟩ := X0.leave (v := some (.long q1)) (fun h => by rw [Bd.returns] at h; cases h)
      subst hQf
      refine ⟨_, _, retOut X0 hx Bd.returns rfl (Or.inr (Or.inl ⟨rfl, rfl, _, rfl⟩)) (hb hby d14_13) hrL, hrun, hended, _, _, rfl, ?_, ⟨_, rfl⟩, hW, hsame.mono (by decide) (by decide)⟩
      show (fun (v : Option Value) (h : Heap) (L : List Loc) => v = some (.long r) ∧ Fr n0 L ∧ h = h0) (some (.long q1)) s₁.heap _
      rw [e0]
      have hv : q1 = r := by rw [hr]; first | (simp [hc3_1, hc9_2]; done) | ((repeat' split) <;> first | rfl | contradiction | simp_all)
      exact ⟨by rw [hv], N0, rfl⟩
  · skip
    refine Goes.to (T' := s₁.setTop (mkF m 14 #[.val (.long q0), .second, .val (.long q1), .second] [])) (fun t k => XS.ifYes X0.here hx rfl (pc0 := 3) (pc' := 14) rfl (hb hby d14_3) rfl ((if0 _ _).trans (feq (fun q => hc3_1 ((lw_eq q0 (0 : Int64)).mp q))).2) (by decide) (by decide) k) ?_
    refine Goes.to (T' := s₁.setTop (mkF m 17 #[.val (.long q0), .second, .val (.long q1), .second] [(.long (-1 : Int64))])) (X0.ldc2Long hx hown (mvT hZ (hw _ (mi 70 rfl))) (g := (mkF m 14 #[.val (.long q0), .second, .val (.long q1), .second] [])) rfl (hb hby d14_14)) ?_
    obtain ⟨fs, hrL, hrun, hended, hW, hsame⟩ := X0.leave (v := some (.long (-1 : Int64))) (fun h => by rw [Bd.returns] at h; cases h)
    subst hQf
    refine ⟨_, _, retOut X0 hx Bd.returns rfl (Or.inr (Or.inl ⟨rfl, rfl, _, rfl⟩)) (hb hby d14_17) hrL, hrun, hended, _, _, rfl, ?_, ⟨_, rfl⟩, hW, hsame.mono (by decide) (by decide)⟩
    show (fun (v : Option Value) (h : Heap) (L : List Loc) => v = some (.long r) ∧ Fr n0 L ∧ h = h0) (some (.long (-1 : Int64))) s₁.heap _
    rw [e0]
    have hv : (-1 : Int64) = r := by rw [hr]; first | (simp [hc3_1]; done) | ((repeat' split) <;> first | rfl | contradiction | simp_all)
    exact ⟨by rw [hv], N0, rfl⟩
theorem pd_362 : parseMethodDescriptor "(IJJJ)V" = some ⟨[.int, .long, .long, .long], none⟩ := by decide +kernel
theorem pn_0 : plainName "com/example/suretyline/suretyline/SumsClearPinLaw" = true := by first | (simp [plainName, overriddenIn]; done) | decide +kernel
theorem ef_rm0 (m : MethodId) (x0 : Int32) (x1 : Int32) (x2 : Int64) (x3 : Int64) (x4 : Int64) (x5 : Int64) : entryFrame m #[(.int x0), (.int x1), (.long x2), (.long x3), (.long x4), (.long x5)] maxLocals = mkF m 0 #[.val (.int x0), .val (.int x1), .val (.long x2), .second, .val (.long x3), .second, .val (.long x4), .second, .val (.long x5), .second, .unset, .unset, .unset, .unset, .unset, .unset, .unset, .unset, .unset, .unset, .unset, .unset] [] := by first | (simp [entryFrame, mkF, argsToLocals, Value.category, maxLocals]; done) | rfl
def Q_rm0 (Z : State) (p0 : Int32) (p1 : Int32) (q2 : Int64) (q4 : Int64) (q6 : Int64) (q8 : Int64) (w0 : Addr) (k_w0 : ClassId) (h0 : Heap) (n0 : Nat) (v : Option Value) (h : Heap) (L : List Loc) : Prop := v = some (.int 1) ∧ Fr n0 L
set_option maxRecDepth 65536 in
set_option maxHeartbeats 40000000 in
theorem rm0 (l : Launch) (Z : State) (a0 : Array Value) (hw : ∀ d ∈ tables_1, d.before a0 Z = true) (ws : List Jvm.Cond) (p0 : Int32) (p1 : Int32) (q2 : Int64) (q4 : Int64) (q6 : Int64) (q8 : Int64) (w0 : Addr) (k_w0 : ClassId) (h0 : Heap) (n0 : Nat) (O0 : Old Z n0 h0) (NF : Nar Z w0 k_w0) :
    MetFree l x (head1 (Jvm.Cond.code x code maxLocals ret :: ws) room_1) (fun a U => a = #[(.int p0), (.int p1), (.long q2), (.long q4), (.long q6), (.long q8)] ∧ Z.Warmed39 U.vm ∧ U.heap = h0) (fun _ _ _ _ _ => True) (fun _ U o U' => ∃ v L, o = .returned v ∧ Q_rm0 Z p0 p1 q2 q4 q6 q8 w0 k_w0 h0 n0 v U'.heap L ∧ FrameEnd U o U' L room_1.cells room_1.slots) := by
  refine MetFree.of_bodySF (plainFor_of_name pn_0) hisR ?_
  intro p e s m args below meth c s₁ Bd hml0 hP hK
  obtain ⟨rfl, hZ, hh⟩ := hP
  have hx := Bd.exec
  have hby := Bd.bytes
  have hml : c.maxLocals = 22 := hml0
  have hown : s.vm.findClass "com/example/suretyline/suretyline/SumsClearPinLaw" = some m.cls := findClass_of_methodNamed Bd.named
  have hnm := (name_of_methodNamed Bd.named Bd.method).1
  have X0 : Stand p l e room_1 s m #[(.int p0), (.int p1), (.long q2), (.long q4), (.long q6), (.long q8)] below meth c s₁ [] 0 0 := Stand.of_body Bd
  have e0 : s₁.heap = h0 := by rw [← hh, Bd.state]; rfl
  have N0 := Fr.nil n0
  suffices G : ∀ (Qf : Outcome → State → Prop), Qf = (fun (_ : Array Value) (U : State) (o : Outcome) (U' : State) => ∃ v L, o = .returned v ∧ Q_rm0 Z p0 p1 q2 q4 q6 q8 w0 k_w0 h0 n0 v U'.heap L ∧ FrameEnd U o U' L room_1.cells room_1.slots) #[] s → Goes p.tables e below Qf (s₁.setTop (mkF m 0 #[.val (.int p0), .val (.int p1), .val (.long q2), .second, .val (.long q4), .second, .val (.long q6), .second, .val (.long q8), .second, .unset, .unset, .unset, .unset, .unset, .unset, .unset, .unset, .unset, .unset, .unset, .unset] [])) by
    obtain ⟨s₂, o, g1, g2, g3, g4⟩ := G _ rfl
    exact ⟨s₂, o, castTop (ef_rm0 m _ _ _ _ _ _) g1, g2, g3, g4⟩
  intro Qf hQf
  obtain ⟨S_w0, E_w0, V_w0⟩ := id NF
  refine Goes.to (T' := s₁.setTop (mkF m 1 #[.val (.int p0), .val (.int p1), .val (.long q2), .second, .val (.long q4), .second, .val (.long q6), .second, .val (.long q8), .second, .unset, .unset, .unset, .unset, .unset, .unset, .unset, .unset, .unset, .unset, .unset, .unset] [(.int p0)])) (fun t k => XS.iloadN X0.here hx rfl (hb hby at_0) rfl k) ?_
  refine Goes.to (T' := s₁.setTop (mkF m 3 #[.val (.int p0), .val (.int p1), .val (.long q2), .second, .val (.long q4), .second, .val (.long q6), .second, .val (.long q8), .second, .unset, .unset, .unset, .unset, .unset, .unset, .unset, .unset, .unset, .unset, .unset, .unset] [(.int (7 : Int32)), (.int p0)])) (fun t k => XS.bipush X0.here hx rfl (hb hby at_1) k) ?_
  refine Goes.to (T' := s₁.setTop (mkF m 4 #[.val (.int p0), .val (.int p1), .val (.long q2), .second, .val (.long q4), .second, .val (.long q6), .second, .val (.long q8), .second, .unset, .unset, .unset, .unset, .unset, .unset, .unset, .unset, .unset, .unset, .unset, .unset] [(.int (p0 &&& (7 : Int32)))])) (fun t k => XS.iand X0.here hx rfl (hb hby at_3) rfl k) ?_
  have hka := own_ka p0
  have hab := fun y => own_kab p0 y
  obtain ⟨ka, hdka⟩ : ∃ z : Int32, z = (p0 &&& (7 : Int32)) := ⟨_, rfl⟩
  rw [← hdka] at hka hab ⊢
  refine Goes.to (T' := s₁.setTop (mkF m 6 #[.val (.int p0), .val (.int p1), .val (.long q2), .second, .val (.long q4), .second, .val (.long q6), .second, .val (.long q8), .second, .val (.int ka), .unset, .unset, .unset, .unset, .unset, .unset, .unset, .unset, .unset, .unset, .unset] [])) (fun t k => XS.istore X0.here hx rfl (hb hby at_4) rfl (l' := #[.val (.int p0), .val (.int p1), .val (.long q2), .second, .val (.long q4), .second, .val (.long q6), .second, .val (.long q8), .second, .val (.int ka), .unset, .unset, .unset, .unset, .unset, .unset, .unset, .unset, .unset, .unset, .unset]) rfl k) ?_
  refine Goes.to (T' := s₁.setTop (mkF m 8 #[.val (.int p0), .val (.int p1), .val (.long q2), .second, .val (.long q4), .second, .val (.long q6), .second, .val (.long q8), .second, .val (.int ka), .unset, .unset, .unset, .unset, .unset, .unset, .unset, .unset, .unset, .unset, .unset] [(.int ka)])) (fun t k => XS.iload X0.here hx rfl (hb hby at_6) rfl k) ?_
  refine Goes.to (T' := s₁.setTop (mkF m 9 #[.val (.int p0), .val (.int p1), .val (.long q2), .second, .val (.long q4), .second, .val (.long q6), .second, .val (.long q8), .second, .val (.int ka), .unset, .unset, .unset, .unset, .unset, .unset, .unset, .unset, .unset, .unset, .unset] [(.int (1 : Int32)), (.int ka)])) (fun t k => XS.iconst X0.here hx rfl (hb hby at_8) k) ?_
  refine Goes.to (T' := s₁.setTop (mkF m 10 #[.val (.int p0), .val (.int p1), .val (.long q2), .second, .val (.long q4), .second, .val (.long q6), .second, .val (.long q8), .second, .val (.int ka), .unset, .unset, .unset, .unset, .unset, .unset, .unset, .unset, .unset, .unset, .unset] [(.int (ka + (1 : Int32)))])) (fun t k => XS.iadd X0.here hx rfl (hb hby at_9) rfl k) ?_
  refine Goes.to (T' := s₁.setTop (mkF m 11 #[.val (.int p0), .val (.int p1), .val (.long q2), .second, .val (.long q4), .second, .val (.long q6), .second, .val (.long q8), .second, .val (.int ka), .unset, .unset, .unset, .unset, .unset, .unset, .unset, .unset, .unset, .unset, .unset] [(.int p0), (.int (ka + (1 : Int32)))])) (fun t k => XS.iloadN X0.here hx rfl (hb hby at_10) rfl k) ?_
  refine Goes.to (T' := s₁.setTop (mkF m 12 #[.val (.int p0), .val (.int p1), .val (.long q2), .second, .val (.long q4), .second, .val (.long q6), .second, .val (.long q8), .second, .val (.int ka), .unset, .unset, .unset, .unset, .unset, .unset, .unset, .unset, .unset, .unset, .unset] [(.int (3 : Int32)), (.int p0), (.int (ka + (1 : Int32)))])) (fun t k => XS.iconst X0.here hx rfl (hb hby at_11) k) ?_
  refine Goes.to (T' := s₁.setTop (mkF m 13 #[.val (.int p0), .val (.int p1), .val (.long q2), .second, .val (.long q4), .second, .val (.long q6), .second, .val (.long q8), .second, .val (.int ka), .unset, .unset, .unset, .unset, .unset, .unset, .unset, .unset, .unset, .unset, .unset] [(.int ((p0.toUInt32 >>> ((3 : Int32) &&& 31).toUInt32).toInt32)), (.int (ka + (1 : Int32)))])) (fun t k => XS.iushr X0.here hx rfl (hb hby at_12) rfl k) ?_
  refine Goes.to (T' := s₁.setTop (mkF m 14 #[.val (.int p0), .val (.int p1), .val (.long q2), .second, .val (.long q4), .second, .val (.long q6), .second, .val (.long q8), .second, .val (.int ka), .unset, .unset, .unset, .unset, .unset, .unset, .unset, .unset, .unset, .unset, .unset] [(.int (3 : Int32)), (.int ((p0.toUInt32 >>> ((3 : Int32) &&& 31).toUInt32).toInt32)), (.int (ka + (1 : Int32)))])) (fun t k => XS.iconst X0.here hx rfl (hb hby at_13) k) ?_
  refine Goes.to (T' := s₁.setTop (mkF m 15 #[.val (.int p0), .val (.int p1), .val (.long q2), .second, .val (.long q4), .second, .val (.long q6), .second, .val (.long q8), .second, .val (.int ka), .unset, .unset, .unset, .unset, .unset, .unset, .unset, .unset, .unset, .unset, .unset] [(.int (((p0.toUInt32 >>> ((3 : Int32) &&& 31).toUInt32).toInt32) &&& (3 : Int32))), (.int (ka + (1 : Int32)))])) (fun t k => XS.iand X0.here hx rfl (hb hby at_14) rfl k) ?_
  refine Goes.to (T' := s₁.setTop (mkF m 16 #[.val (.int p0), .val (.int p1), .val (.long q2), .second, .val (.long q4), .second, .val (.long q6), .second, .val (.long q8), .second, .val (.int ka), .unset, .unset, .unset, .unset, .unset, .unset, .unset, .unset, .unset, .unset, .unset] [(.int ((ka + (1 : Int32)) + (((p0.toUInt32 >>> ((3 : Int32) &&& 31).toUInt32).toInt32) &&& (3 : Int32))))])) (fun t k => XS.iadd X0.here hx rfl (hb hby at_15) rfl k) ?_
  refine Goes.to (T' := s₁.setTop (mkF m 18 #[.val (.int p0), .val (.int p1), .val (.long q2), .second, .val (.long q4), .second, .val (.long q6), .second, .val (.long q8), .second, .val (.int ka), .unset, .unset, .unset, .unset, .unset, .unset, .unset, .unset, .unset, .unset, .unset] [(.int (7 : Int32)), (.int ((ka + (1 : Int32)) + (((p0.toUInt32 >>> ((3 : Int32) &&& 31).toUInt32).toInt32) &&& (3 : Int32))))])) (fun t k => XS.bipush X0.here hx rfl (hb hby at_16) k) ?_
  refine Goes.to (T' := s₁.setTop (mkF m 19 #[.val (.int p0), .val (.int p1), .val (.long q2), .second, .val (.long q4), .second, .val (.long q6), .second, .val (.long q8), .second, .val (.int ka), .unset, .unset, .unset, .unset, .unset, .unset, .unset, .unset, .unset, .unset, .unset] [(.int (((ka + (1 : Int32)) + (((p0.toUInt32 >>> ((3 : Int32) &&& 31).toUInt32).toInt32) &&& (3 : Int32))) &&& (7 : Int32)))])) (fun t k => XS.iand X0.here hx rfl (hb hby at_18) rfl k) ?_
  have hkb := own_ka ((ka + (1 : Int32)) + (((p0.toUInt32 >>> ((3 : Int32) &&& 31).toUInt32).toInt32) &&& (3 : Int32)))
  have hab : ¬ ka = (((ka + (1 : Int32)) + (((p0.toUInt32 >>> ((3 : Int32) &&& 31).toUInt32).toInt32) &&& (3 : Int32))) &&& (7 : Int32)) := hab _
  obtain ⟨kb, hdkb⟩ : ∃ z : Int32, z = (((ka + (1 : Int32)) + (((p0.toUInt32 >>> ((3 : Int32) &&& 31).toUInt32).toInt32) &&& (3 : Int32))) &&& (7 : Int32)) := ⟨_, rfl⟩
  rw [← hdkb] at hkb hab ⊢
  refine Goes.to (T' := s₁.setTop (mkF m 21 #[.val (.int p0), .val (.int p1), .val (.long q2), .second, .val (.long q4), .second, .val (.long q6), .second, .val (.long q8), .second, .val (.int ka), .val (.int kb), .unset, .unset, .unset, .unset, .unset, .unset, .unset, .unset, .unset, .unset] [])) (fun t k => XS.istore X0.here hx rfl (hb hby at_19) rfl (l' := #[.val (.int p0), .val (.int p1), .val (.long q2), .second, .val (.long q4), .second, .val (.long q6), .second, .val (.long q8), .second, .val (.int ka), .val (.int kb), .unset, .unset, .unset, .unset, .unset, .unset, .unset, .unset, .unset, .unset]) rfl k) ?_
  refine Goes.to (T' := s₁.setTop (mkF m 22 #[.val (.int p0), .val (.int p1), .val (.long q2), .second, .val (.long q4), .second, .val (.long q6), .second, .val (.long q8), .second, .val (.int ka), .val (.int kb), .unset, .unset, .unset, .unset, .unset, .unset, .unset, .unset, .unset, .unset] [(.int p0)])) (fun t k => XS.iloadN X0.here hx rfl (hb hby at_21) rfl k) ?_
  refine Goes.to (T' := s₁.setTop (mkF m 23 #[.val (.int p0), .val (.int p1), .val (.long q2), .second, .val (.long q4), .second, .val (.long q6), .second, .val (.long q8), .second, .val (.int ka), .val (.int kb), .unset, .unset, .unset, .unset, .unset, .unset, .unset, .unset, .unset, .unset] [(.int (5 : Int32)), (.int p0)])) (fun t k => XS.iconst X0.here hx rfl (hb hby at_22) k) ?_
  refine Goes.to (T' := s₁.setTop (mkF m 24 #[.val (.int p0), .val (.int p1), .val (.long q2), .second, .val (.long q4), .second, .val (.long q6), .second, .val (.long q8), .second, .val (.int ka), .val (.int kb), .unset, .unset, .unset, .unset, .unset, .unset, .unset, .unset, .unset, .unset] [(.int ((p0.toUInt32 >>> ((5 : Int32) &&& 31).toUInt32).toInt32))])) (fun t k => XS.iushr X0.here hx rfl (hb hby at_23) rfl k) ?_
  refine Goes.to (T' := s₁.setTop (mkF m 26 #[.val (.int p0), .val (.int p1), .val (.long q2), .second, .val (.long q4), .second, .val (.long q6), .second, .val (.long q8), .second, .val (.int ka), .val (.int kb), .unset, .unset, .unset, .unset, .unset, .unset, .unset, .unset, .unset, .unset] [(.int (15 : Int32)), (.int ((p0.toUInt32 >>> ((5 : Int32) &&& 31).toUInt32).toInt32))])) (fun t k => XS.bipush X0.here hx rfl (hb hby at_24) k) ?_
  refine Goes.to (T' := s₁.setTop (mkF m 27 #[.val (.int p0), .val (.int p1), .val (.long q2), .second, .val (.long q4), .second, .val (.long q6), .second, .val (.long q8), .second, .val (.int ka), .val (.int kb), .unset, .unset, .unset, .unset, .unset, .unset, .unset, .unset, .unset, .unset] [(.int (((p0.toUInt32 >>> ((5 : Int32) &&& 31).toUInt32).toInt32) &&& (15 : Int32)))])) (fun t k => XS.iand X0.here hx rfl (hb hby at_26) rfl k) ?_
  have hkc := own_kc ((p0.toUInt32 >>> ((5 : Int32) &&& 31).toUInt32).toInt32)
  obtain ⟨kc, hdkc⟩ : ∃ z : Int32, z = (((p0.toUInt32 >>> ((5 : Int32) &&& 31).toUInt32).toInt32) &&& (15 : Int32)) := ⟨_, rfl⟩
  rw [← hdkc] at hkc ⊢
  have nab := own_nen hka.1 hkb.1 hab
  refine Goes.to (T' := s₁.setTop (mkF m 29 #[.val (.int p0), .val (.int p1), .val (.long q2), .second, .val (.long q4), .second, .val (.long q6), .second, .val (.long q8), .second, .val (.int ka), .val (.int kb), .val (.int kc), .unset, .unset, .unset, .unset, .unset, .unset, .unset, .unset, .unset] [])) (fun t k => XS.istore X0.here hx rfl (hb hby at_27) rfl (l' := #[.val (.int p0), .val (.int p1), .val (.long q2), .second, .val (.long q4), .second, .val (.long q6), .second, .val (.long q8), .second, .val (.int ka), .val (.int kb), .val (.int kc), .unset, .unset, .unset, .unset, .unset, .unset, .unset, .unset, .unset]) rfl k) ?_
  have J40 : ∀ (TJ1 : State) (locsJ1 : List Loc) (hx1 : Int64) (XJ1 : Stand p l e room_1 s m #[(.int p0), (.int p1), (.long q2), (.long q4), (.long q6), (.long q8)] below meth c TJ1 locsJ1 0 0) (eJ1 : TJ1.heap = h0) (NJ1 : Fr n0 locsJ1), Goes p.tables e below Qf (TJ1.setTop (mkF m 40 #[.val (.int p0), .val (.int p1), .val (.long q2), .second, .val (.long q4), .second, .val (.long q6), .second, .val (.long q8), .second, .val (.int ka), .val (.int kb), .val (.int kc), .unset, .unset, .unset, .unset, .unset, .unset, .unset, .unset, .unset] [(.long hx1)])) := by
    intro TJ1 locsJ1 hx1 XJ1 eJ1 NJ1 
    refine Goes.to (T' := TJ1.setTop (mkF m 42 #[.val (.int p0), .val (.int p1), .val (.long q2), .second, .val (.long q4), .second, .val (.long q6), .second, .val (.long q8), .second, .val (.int ka), .val (.int kb), .val (.int kc), .val (.long hx1), .second, .unset, .unset, .unset, .unset, .unset, .unset, .unset] [])) (fun t k => XS.lstore XJ1.here hx rfl (hb hby at_40) rfl (l' := #[.val (.int p0), .val (.int p1), .val (.long q2), .second, .val (.long q4), .second, .val (.long q6), .second, .val (.long q8), .second, .val (.int ka), .val (.int kb), .val (.int kc), .val (.long hx1), .second, .unset, .unset, .unset, .unset, .unset, .unset, .unset]) rfl k) ?_
    have J54 : ∀ (TJ2 : State) (locsJ2 : List Loc) (hx2 : Int64) (XJ2 : Stand p l e room_1 s m #[(.int p0), (.int p1), (.long q2), (.long q4), (.long q6), (.long q8)] below meth c TJ2 locsJ2 0 0) (eJ2 : TJ2.heap = h0) (NJ2 : Fr n0 locsJ2), Goes p.tables e below Qf (TJ2.setTop (mkF m 54 #[.val (.int p0), .val (.int p1), .val (.long q2), .second, .val (.long q4), .second, .val (.long q6), .second, .val (.long q8), .second, .val (.int ka), .val (.int kb), .val (.int kc), .val (.long hx1), .second, .unset, .unset, .unset, .unset, .unset, .unset, .unset] [(.long hx2)])) := by
      intro TJ2 locsJ2 hx2 XJ2 eJ2 NJ2 
      refine Goes.to (T' := TJ2.setTop (mkF m 56 #[.val (.int p0), .val (.int p1), .val (.long q2), .second, .val (.long q4), .second, .val (.long q6), .second, .val (.long q8), .second, .val (.int ka), .val (.int kb), .val (.int kc), .val (.long hx1), .second, .val (.long hx2), .second, .unset, .unset, .unset, .unset, .unset] [])) (fun t k => XS.lstore XJ2.here hx rfl (hb hby at_54) rfl (l' := #[.val (.int p0), .val (.int p1), .val (.long q2), .second, .val (.long q4), .second, .val (.long q6), .second, .val (.long q8), .second, .val (.int ka), .val (.int kb), .val (.int kc), .val (.long hx1), .second, .val (.long hx2), .second, .unset, .unset, .unset, .unset, .unset]) rfl k) ?_
      obtain ⟨T3, h3, X3, e3, E3, A3, D3, -, st3⟩ := newO XJ2 hx hZ hown (hw _ (mi 0 rfl)) (hw _ (mi 1 rfl)) (hw _ (mi 2 rfl)) eJ2 (g := (mkF m 56 #[.val (.int p0), .val (.int p1), .val (.long q2), .second, .val (.long q4), .second, .val (.long q6), .second, .val (.long q8), .second, .val (.int ka), .val (.int kb), .val (.int kc), .val (.long hx1), .second, .val (.long hx2), .second, .unset, .unset, .unset, .unset, .unset] [])) rfl (hb hby at_56) (by decide) (by decide)
      obtain ⟨b3, g3⟩ : ∃ z, z = h0.size := ⟨_, rfl⟩
      rw [← g3] at A3 D3 st3
      have g_b3 : n0 ≤ b3 := Nat.le_trans (own_old O0) (Nat.le_of_eq g3.symm)
      have O0 := O0.ext E3
      have E_b3 := A3
      have F_lows_b3 : Fld Z h3 b3 "com/example/suretyline/suretyline/Sums" "lows" "[J" .null := D3 (Or.inl (hw _ (mi 12 rfl))) (ty := (.array .long)) (by decide)
      have F_highs_b3 : Fld Z h3 b3 "com/example/suretyline/suretyline/Sums" "highs" "[J" .null := D3 (Or.inl (hw _ (mi 14 rfl))) (ty := (.array .long)) (by decide)
      have F_scale_b3 : Fld Z h3 b3 "com/example/suretyline/suretyline/Sums" "scale" "I" (.int (0 : Int32)) := D3 (Or.inr (hw _ (mi 16 rfl))) (ty := .int) (by decide)
      refine Goes.to (T' := T3.setTop (mkF m 59 #[.val (.int p0), .val (.int p1), .val (.long q2), .second, .val (.long q4), .second, .val (.long q6), .second, .val (.long q8), .second, .val (.int ka), .val (.int kb), .val (.int kc), .val (.long hx1), .second, .val (.long hx2), .second, .unset, .unset, .unset, .unset, .unset] [(.ref b3)])) st3 ?_
      refine Goes.to (T' := T3.setTop (mkF m 60 #[.val (.int p0), .val (.int p1), .val (.long q2), .second, .val (.long q4), .second, .val (.long q6), .second, .val (.long q8), .second, .val (.int ka), .val (.int kb), .val (.int kc), .val (.long hx1), .second, .val (.long hx2), .second, .unset, .unset, .unset, .unset, .unset] [(.ref b3), (.ref b3)])) (fun t k => XS.dup X3.here hx rfl (hb hby at_59) rfl rfl k) ?_
      refine Goes.to (T' := T3.setTop (mkF m 61 #[.val (.int p0), .val (.int p1), .val (.long q2), .second, .val (.long q4), .second, .val (.long q6), .second, .val (.long q8), .second, .val (.int ka), .val (.int kb), .val (.int kc), .val (.long hx1), .second, .val (.long hx2), .second, .unset, .unset, .unset, .unset, .unset] [(.int (2 : Int32)), (.ref b3), (.ref b3)])) (fun t k => XS.iconst X3.here hx rfl (hb hby at_60) k) ?_
      obtain ⟨_, _, ⟨T4, L4, k4, n4⟩, -, X4, ⟨Lc4, hQ4, l4, y4, z4⟩, st4⟩ := X3.specialBack hx (y := (⟨"com/example/suretyline/suretyline/Sums", "<init>", "(I)V"⟩ : MethodName)) rfl hown (mvT hZ (hw _ (mi 3 rfl))) (mvT hZ (hw _ (mi 4 rfl))) (mvT hZ (hw _ (mi 5 rfl))) (by decide) (backOf (W := 1) (rmS0 l Z a0 hw [] b3 (2 : Int32) w0 k_w0  h3 n0 O0 NF E_b3 F_lows_b3 F_highs_b3 F_scale_b3 g_b3) hZ (hw _ (mi 5 rfl)) (hw _ (mi 2 rfl)) (by decide) (by decide)) (g := (mkF m 61 #[.val (.int p0), .val (.int p1), .val (.long q2), .second, .val (.long q4), .second, .val (.long q6), .second, .val (.long q8), .second, .val (.int ka), .val (.int kb), .val (.int kc), .val (.long hx1), .second, .val (.long hx2), .second, .unset, .unset, .unset, .unset, .unset] [(.int (2 : Int32)), (.ref b3), (.ref b3)])) rfl (by rw [hml]; rfl) (Steps.refl _) (a := b3) (argsL := [(.int (2 : Int32))]) (rest := [(.ref b3)]) (lenOf pd_205 rfl) rfl (by show 2 * 0 + _ ≤ _; exact Nat.le_of_eq rfl) (hb hby at_61) (fun _ _ => ⟨rfl, e3, (by decide : 1 + 0 ≤ _), (by decide : 3 + 0 ≤ _)⟩)
      dsimp only [Pt.U, Pt.locs, Pt.cells, Pt.slots] at X4 l4 y4 z4 st4 hQ4
      subst l4 y4 z4
      obtain ⟨rfl, Nq4, O4, SA4⟩ := hQ4
      have N4 := Fr.app NJ2 Nq4
      obtain ⟨ff4, gg4, hff4, hgg4, SA4⟩ : ∃ f g : Nat → Int64, f = (fun _ => 0) ∧ g = (fun _ => 0) ∧ SA Z T4.heap n0 b3 f g := ⟨_, _, rfl, rfl, SA4⟩
      have E_b3 : Exa Z T4.heap b3 "com/example/suretyline/suretyline/Sums" := by obtain ⟨_, _, _, _, q, -⟩ := id SA4; exact q
      have g_b3 : n0 ≤ b3 := by obtain ⟨_, _, _, _, _, q, -⟩ := id SA4; exact q
      refine Goes.thru (T' := T4.setTop (mkF m 64 #[.val (.int p0), .val (.int p1), .val (.long q2), .second, .val (.long q4), .second, .val (.long q6), .second, .val (.long q8), .second, .val (.int ka), .val (.int kb), .val (.int kc), .val (.long hx1), .second, .val (.long hx2), .second, .unset, .unset, .unset, .unset, .unset] [(.ref b3)])) st4 ?_
      refine Goes.to (T' := T4.setTop (mkF m 66 #[.val (.int p0), .val (.int p1), .val (.long q2), .second, .val (.long q4), .second, .val (.long q6), .second, .val (.long q8), .second, .val (.int ka), .val (.int kb), .val (.int kc), .val (.long hx1), .second, .val (.long hx2), .second, .val (.ref b3), .unset, .unset, .unset, .unset] [])) (fun t k => XS.astore X4.here hx rfl (hb hby at_64) rfl rfl (l' := #[.val (.int p0), .val (.int p1), .val (.long q2), .second, .val (.long q4), .second, .val (.long q6), .second, .val (.long q8), .second, .val (.int ka), .val (.int kb), .val (.int kc), .val (.long hx1), .second, .val (.long hx2), .second, .val (.ref b3), .unset, .unset, .unset, .unset]) rfl k) ?_
      refine Goes.to (T' := T4.setTop (mkF m 68 #[.val (.int p0), .val (.int p1), .val (.long q2), .second, .val (.long q4), .second, .val (.long q6), .second, .val (.long q8), .second, .val (.int ka), .val (.int kb), .val (.int kc), .val (.long hx1), .second, .val (.long hx2), .second, .val (.ref b3), .unset, .unset, .unset, .unset] [(.ref b3)])) (fun t k => XS.aload X4.here hx rfl (hb hby at_66) rfl rfl k) ?_
      refine Goes.to (T' := T4.setTop (mkF m 70 #[.val (.int p0), .val (.int p1), .val (.long q2), .second, .val (.long q4), .second, .val (.long q6), .second, .val (.long q8), .second, .val (.int ka), .val (.int kb), .val (.int kc), .val (.long hx1), .second, .val (.long hx2), .second, .val (.ref b3), .unset, .unset, .unset, .unset] [(.int ka), (.ref b3)])) (fun t k => XS.iload X4.here hx rfl (hb hby at_68) rfl k) ?_
      refine Goes.to (T' := T4.setTop (mkF m 72 #[.val (.int p0), .val (.int p1), .val (.long q2), .second, .val (.long q4), .second, .val (.long q6), .second, .val (.long q8), .second, .val (.int ka), .val (.int kb), .val (.int kc), .val (.long hx1), .second, .val (.long hx2), .second, .val (.ref b3), .unset, .unset, .unset, .unset] [(.long hx1), (.int ka), (.ref b3)])) (fun t k => XS.lload X4.here hx rfl (hb hby at_70) rfl k) ?_
      refine Goes.to (T' := T4.setTop (mkF m 74 #[.val (.int p0), .val (.int p1), .val (.long q2), .second, .val (.long q4), .second, .val (.long q6), .second, .val (.long q8), .second, .val (.int ka), .val (.int kb), .val (.int kc), .val (.long hx1), .second, .val (.long hx2), .second, .val (.ref b3), .unset, .unset, .unset, .unset] [(.long q4), (.long hx1), (.int ka), (.ref b3)])) (fun t k => XS.lload X4.here hx rfl (hb hby at_72) rfl k) ?_
      refine Goes.to (T' := T4.setTop (mkF m 75 #[.val (.int p0), .val (.int p1), .val (.long q2), .second, .val (.long q4), .second, .val (.long q6), .second, .val (.long q8), .second, .val (.int ka), .val (.int kb), .val (.int kc), .val (.long hx1), .second, .val (.long hx2), .second, .val (.ref b3), .unset, .unset, .unset, .unset] [(.long (1 : Int64)), (.long q4), (.long hx1), (.int ka), (.ref b3)])) (fun t k => XS.lconst X4.here hx rfl (hb hby at_74) k) ?_
      obtain ⟨cq5, kq5, q5a, q5b, q5c⟩ := isOf hZ rfl E_b3
      obtain ⟨_, _, ⟨T5, L5, k5, n5⟩, -, X5, ⟨Lc5, hQ5, l5, y5, z5⟩, st5⟩ := X4.virtualBack hx (y := (⟨"com/example/suretyline/suretyline/Sums", "add", "(IJJJ)V"⟩ : MethodName)) (z := (⟨"com/example/suretyline/suretyline/Sums", "add", "(IJJJ)V"⟩ : MethodName)) hown (mvT hZ (hw _ (mi 17 rfl))) (mvT hZ (hw _ (mi 18 rfl))) (notFace_of_selects (args := #[]) (mvT hZ (hw _ (mi 20 rfl)))) (mvT hZ (hw _ (mi 20 rfl))) (mvT hZ (hw _ (mi 19 rfl))) (by decide) (backOf (W := 0) (rmAdd l Z a0 hw [] b3 ka hx1 q4 w0 k_w0 ff4 gg4 0 T4.heap n0 O4 NF SA4 hka.1 hka.2 (own_car0 (by rw [hff4])) (own_ov0 (by rw [hgg4])) own_one0 (own_zz0 (by rw [hgg4]))) hZ (hw _ (mi 21 rfl)) (hw _ (mi 2 rfl)) (by decide) (by decide)) q5a q5c (g := (mkF m 75 #[.val (.int p0), .val (.int p1), .val (.long q2), .second, .val (.long q4), .second, .val (.long q6), .second, .val (.long q8), .second, .val (.int ka), .val (.int kb), .val (.int kc), .val (.long hx1), .second, .val (.long hx2), .second, .val (.ref b3), .unset, .unset, .unset, .unset] [(.long (1 : Int64)), (.long q4), (.long hx1), (.int ka), (.ref b3)])) rfl (by rw [hml]; rfl) (Steps.refl _) (argsL := [(.int ka), (.long hx1), (.long q4), (.long (1 : Int64))]) (rest := []) (lenOf pd_362 rfl) rfl (by show 2 * 0 + _ ≤ _; exact Nat.le_of_eq rfl) (hb hby at_75) (fun _ _ => ⟨rfl, rfl, (by decide : 1 + 2 ≤ _), (by decide : 3 + 48 ≤ _)⟩)
      dsimp only [Pt.U, Pt.locs, Pt.cells, Pt.slots] at X5 l5 y5 z5 st5 hQ5
      subst l5 y5 z5
      obtain ⟨rfl, Nq5, O5, SA5⟩ := hQ5
      have N5 := Fr.app N4 Nq5
      obtain ⟨ff5, gg5, hff5, hgg5, SA5⟩ : ∃ f g : Nat → Int64, f = upd ff4 ka.toNatClampNeg (ff4 ka.toNatClampNeg + q4) ∧ g = upd gg4 ka.toNatClampNeg (gg4 ka.toNatClampNeg + hx1 + 0) ∧ SA Z T5.heap n0 b3 f g := ⟨_, _, rfl, rfl, SA5⟩
      have E_b3 : Exa Z T5.heap b3 "com/example/suretyline/suretyline/Sums" := by obtain ⟨_, _, _, _, q, -⟩ := id SA5; exact q
      have g_b3 : n0 ≤ b3 := by obtain ⟨_, _, _, _, _, q, -⟩ := id SA5; exact q
      refine Goes.thru (T' := T5.setTop (mkF m 78 #[.val (.int p0), .val (.int p1), .val (.long q2), .second, .val (.long q4), .second, .val (.long q6), .second, .val (.long q8), .second, .val (.int ka), .val (.int kb), .val (.int kc), .val (.long hx1), .second, .val (.long hx2), .second, .val (.ref b3), .unset, .unset, .unset, .unset] [])) st5 ?_
      refine Goes.to (T' := T5.setTop (mkF m 80 #[.val (.int p0), .val (.int p1), .val (.long q2), .second, .val (.long q4), .second, .val (.long q6), .second, .val (.long q8), .second, .val (.int ka), .val (.int kb), .val (.int kc), .val (.long hx1), .second, .val (.long hx2), .second, .val (.ref b3), .unset, .unset, .unset, .unset] [(.ref b3)])) (fun t k => XS.aload X5.here hx rfl (hb hby at_78) rfl rfl k) ?_
      refine Goes.to (T' := T5.setTop (mkF m 82 #[.val (.int p0), .val (.int p1), .val (.long q2), .second, .val (.long q4), .second, .val (.long q6), .second, .val (.long q8), .second, .val (.int ka), .val (.int kb), .val (.int kc), .val (.long hx1), .second, .val (.long hx2), .second, .val (.ref b3), .unset, .unset, .unset, .unset] [(.int kb), (.ref b3)])) (fun t k => XS.iload X5.here hx rfl (hb hby at_80) rfl k) ?_
      refine Goes.to (T' := T5.setTop (mkF m 84 #[.val (.int p0), .val (.int p1), .val (.long q2), .second, .val (.long q4), .second, .val (.long q6), .second, .val (.long q8), .second, .val (.int ka), .val (.int kb), .val (.int kc), .val (.long hx1), .second, .val (.long hx2), .second, .val (.ref b3), .unset, .unset, .unset, .unset] [(.long hx2), (.int kb), (.ref b3)])) (fun t k => XS.lload X5.here hx rfl (hb hby at_82) rfl k) ?_
      refine Goes.to (T' := T5.setTop (mkF m 86 #[.val (.int p0), .val (.int p1), .val (.long q2), .second, .val (.long q4), .second, .val (.long q6), .second, .val (.long q8), .second, .val (.int ka), .val (.int kb), .val (.int kc), .val (.long hx1), .second, .val (.long hx2), .second, .val (.ref b3), .unset, .unset, .unset, .unset] [(.long q8), (.long hx2), (.int kb), (.ref b3)])) (fun t k => XS.lload X5.here hx rfl (hb hby at_84) rfl k) ?_
      refine Goes.to (T' := T5.setTop (mkF m 87 #[.val (.int p0), .val (.int p1), .val (.long q2), .second, .val (.long q4), .second, .val (.long q6), .second, .val (.long q8), .second, .val (.int ka), .val (.int kb), .val (.int kc), .val (.long hx1), .second, .val (.long hx2), .second, .val (.ref b3), .unset, .unset, .unset, .unset] [(.long (1 : Int64)), (.long q8), (.long hx2), (.int kb), (.ref b3)])) (fun t k => XS.lconst X5.here hx rfl (hb hby at_86) k) ?_
      obtain ⟨cq6, kq6, q6a, q6b, q6c⟩ := isOf hZ rfl E_b3
      obtain ⟨_, _, ⟨T6, L6, k6, n6⟩, -, X6, ⟨Lc6, hQ6, l6, y6, z6⟩, st6⟩ := X5.virtualBack hx (y := (⟨"com/example/suretyline/suretyline/Sums", "add", "(IJJJ)V"⟩ : MethodName)) (z := (⟨"com/example/suretyline/suretyline/Sums", "add", "(IJJJ)V"⟩ : MethodName)) hown (mvT hZ (hw _ (mi 17 rfl))) (mvT hZ (hw _ (mi 18 rfl))) (notFace_of_selects (args := #[]) (mvT hZ (hw _ (mi 20 rfl)))) (mvT hZ (hw _ (mi 20 rfl))) (mvT hZ (hw _ (mi 19 rfl))) (by decide) (backOf (W := 0) (rmAdd l Z a0 hw [] b3 kb hx2 q8 w0 k_w0 ff5 gg5 0 T5.heap n0 O5 NF SA5 hkb.1 hkb.2 (own_car0 (by rw [hff5, own_upd_ne nab.symm, hff4])) (own_ov0 (by rw [hgg5, own_upd_ne nab.symm, hgg4])) own_one0 (own_zz0 (by rw [hgg5, own_upd_ne nab.symm, hgg4]))) hZ (hw _ (mi 21 rfl)) (hw _ (mi 2 rfl)) (by decide) (by decide)) q6a q6c (g := (mkF m 87 #[.val (.int p0), .val (.int p1), .val (.long q2), .second, .val (.long q4), .second, .val (.long q6), .second, .val (.long q8), .second, .val (.int ka), .val (.int kb), .val (.int kc), .val (.long hx1), .second, .val (.long hx2), .second, .val (.ref b3), .unset, .unset, .unset, .unset] [(.long (1 : Int64)), (.long q8), (.long hx2), (.int kb), (.ref b3)])) rfl (by rw [hml]; rfl) (Steps.refl _) (argsL := [(.int kb), (.long hx2), (.long q8), (.long (1 : Int64))]) (rest := []) (lenOf pd_362 rfl) rfl (by show 2 * 0 + _ ≤ _; exact Nat.le_of_eq rfl) (hb hby at_87) (fun _ _ => ⟨rfl, rfl, (by decide : 3 + 2 ≤ _), (by decide : 51 + 48 ≤ _)⟩)
      dsimp only [Pt.U, Pt.locs, Pt.cells, Pt.slots] at X6 l6 y6 z6 st6 hQ6
      subst l6 y6 z6
      obtain ⟨rfl, Nq6, O6, SA6⟩ := hQ6
      have N6 := Fr.app N5 Nq6
      obtain ⟨ff6, gg6, hff6, hgg6, SA6⟩ : ∃ f g : Nat → Int64, f = upd ff5 kb.toNatClampNeg (ff5 kb.toNatClampNeg + q8) ∧ g = upd gg5 kb.toNatClampNeg (gg5 kb.toNatClampNeg + hx2 + 0) ∧ SA Z T6.heap n0 b3 f g := ⟨_, _, rfl, rfl, SA6⟩
      have E_b3 : Exa Z T6.heap b3 "com/example/suretyline/suretyline/Sums" := by obtain ⟨_, _, _, _, q, -⟩ := id SA6; exact q
      have g_b3 : n0 ≤ b3 := by obtain ⟨_, _, _, _, _, q, -⟩ := id SA6; exact q
      refine Goes.thru (T' := T6.setTop (mkF m 90 #[.val (.int p0), .val (.int p1), .val (.long q2), .second, .val (.long q4), .second, .val (.long q6), .second, .val (.long q8), .second, .val (.int ka), .val (.int kb), .val (.int kc), .val (.long hx1), .second, .val (.long hx2), .second, .val (.ref b3), .unset, .unset, .unset, .unset] [])) st6 ?_
      refine Goes.to (T' := T6.setTop (mkF m 92 #[.val (.int p0), .val (.int p1), .val (.long q2), .second, .val (.long q4), .second, .val (.long q6), .second, .val (.long q8), .second, .val (.int ka), .val (.int kb), .val (.int kc), .val (.long hx1), .second, .val (.long hx2), .second, .val (.ref b3), .unset, .unset, .unset, .unset] [(.ref b3)])) (fun t k => XS.aload X6.here hx rfl (hb hby at_90) rfl rfl k) ?_
      refine Goes.to (T' := T6.setTop (mkF m 94 #[.val (.int p0), .val (.int p1), .val (.long q2), .second, .val (.long q4), .second, .val (.long q6), .second, .val (.long q8), .second, .val (.int ka), .val (.int kb), .val (.int kc), .val (.long hx1), .second, .val (.long hx2), .second, .val (.ref b3), .unset, .unset, .unset, .unset] [(.int kc), (.ref b3)])) (fun t k => XS.iload X6.here hx rfl (hb hby at_92) rfl k) ?_
      obtain ⟨cq7, kq7, q7a, q7b, q7c⟩ := isOf hZ rfl E_b3
      obtain ⟨_, _, ⟨T7, L7, k7, n7⟩, -, X7, ⟨Lc7, hQ7, l7, y7, z7⟩, st7⟩ := X6.virtualBack hx (y := (⟨"com/example/suretyline/suretyline/Sums", "clear", "(I)V"⟩ : MethodName)) (z := (⟨"com/example/suretyline/suretyline/Sums", "clear", "(I)V"⟩ : MethodName)) hown (mvT hZ (hw _ (mi 61 rfl))) (mvT hZ (hw _ (mi 62 rfl))) (notFace_of_selects (args := #[]) (mvT hZ (hw _ (mi 64 rfl)))) (mvT hZ (hw _ (mi 64 rfl))) (mvT hZ (hw _ (mi 63 rfl))) (by decide) (backOf (W := 0) (rmCl l Z a0 hw [] b3 kc w0 k_w0 ff6 gg6 T6.heap n0 O6 NF SA6 hkc.1) hZ (hw _ (mi 65 rfl)) (hw _ (mi 2 rfl)) (by decide) (by decide)) q7a q7c (g := (mkF m 94 #[.val (.int p0), .val (.int p1), .val (.long q2), .second, .val (.long q4), .second, .val (.long q6), .second, .val (.long q8), .second, .val (.int ka), .val (.int kb), .val (.int kc), .val (.long hx1), .second, .val (.long hx2), .second, .val (.ref b3), .unset, .unset, .unset, .unset] [(.int kc), (.ref b3)])) rfl (by rw [hml]; rfl) (Steps.refl _) (argsL := [(.int kc)]) (rest := []) (lenOf pd_205 rfl) rfl (by show 2 * 0 + _ ≤ _; exact Nat.le_of_eq rfl) (hb hby at_94) (fun _ _ => ⟨rfl, rfl, (by decide : 5 + 0 ≤ _), (by decide : 99 + 0 ≤ _)⟩)
      dsimp only [Pt.U, Pt.locs, Pt.cells, Pt.slots] at X7 l7 y7 z7 st7 hQ7
      subst l7 y7 z7
      obtain ⟨rfl, Nq7, O7, SA7⟩ := hQ7
      have N7 := Fr.app N6 Nq7
      obtain ⟨ff7, gg7, hff7, hgg7, SA7⟩ : ∃ f g : Nat → Int64, f = upd ff6 kc.toNatClampNeg 0 ∧ g = upd gg6 kc.toNatClampNeg 0 ∧ SA Z T7.heap n0 b3 f g := ⟨_, _, rfl, rfl, SA7⟩
      have E_b3 : Exa Z T7.heap b3 "com/example/suretyline/suretyline/Sums" := by obtain ⟨_, _, _, _, q, -⟩ := id SA7; exact q
      have g_b3 : n0 ≤ b3 := by obtain ⟨_, _, _, _, _, q, -⟩ := id SA7; exact q
      refine Goes.thru (T' := T7.setTop (mkF m 97 #[.val (.int p0), .val (.int p1), .val (.long q2), .second, .val (.long q4), .second, .val (.long q6), .second, .val (.long q8), .second, .val (.int ka), .val (.int kb), .val (.int kc), .val (.long hx1), .second, .val (.long hx2), .second, .val (.ref b3), .unset, .unset, .unset, .unset] [])) st7 ?_
      refine Goes.to (T' := T7.setTop (mkF m 99 #[.val (.int p0), .val (.int p1), .val (.long q2), .second, .val (.long q4), .second, .val (.long q6), .second, .val (.long q8), .second, .val (.int ka), .val (.int kb), .val (.int kc), .val (.long hx1), .second, .val (.long hx2), .second, .val (.ref b3), .unset, .unset, .unset, .unset] [(.int ka)])) (fun t k => XS.iload X7.here hx rfl (hb hby at_97) rfl k) ?_
      refine Goes.to (T' := T7.setTop (mkF m 101 #[.val (.int p0), .val (.int p1), .val (.long q2), .second, .val (.long q4), .second, .val (.long q6), .second, .val (.long q8), .second, .val (.int ka), .val (.int kb), .val (.int kc), .val (.long hx1), .second, .val (.long hx2), .second, .val (.ref b3), .unset, .unset, .unset, .unset] [(.int kc), (.int ka)])) (fun t k => XS.iload X7.here hx rfl (hb hby at_99) rfl k) ?_
      rcases Decidable.em (ka = kc) with hc101_8 | hc101_8
      · skip
        refine Goes.to (T' := T7.setTop (mkF m 104 #[.val (.int p0), .val (.int p1), .val (.long q2), .second, .val (.long q4), .second, .val (.long q6), .second, .val (.long q8), .second, .val (.int ka), .val (.int kb), .val (.int kc), .val (.long hx1), .second, .val (.long hx2), .second, .val (.ref b3), .unset, .unset, .unset, .unset] [])) (fun t k => XS.icmpNo X7.here hx rfl (hb hby at_101) rfl (teq hc101_8).2 k) ?_
        refine Goes.to (T' := T7.setTop (mkF m 105 #[.val (.int p0), .val (.int p1), .val (.long q2), .second, .val (.long q4), .second, .val (.long q6), .second, .val (.long q8), .second, .val (.int ka), .val (.int kb), .val (.int kc), .val (.long hx1), .second, .val (.long hx2), .second, .val (.ref b3), .unset, .unset, .unset, .unset] [(.long (0 : Int64))])) (fun t k => XS.lconst X7.here hx rfl (hb hby at_104) k) ?_
        refine Goes.to (T' := T7.setTop (mkF m 115 #[.val (.int p0), .val (.int p1), .val (.long q2), .second, .val (.long q4), .second, .val (.long q6), .second, .val (.long q8), .second, .val (.int ka), .val (.int kb), .val (.int kc), .val (.long hx1), .second, .val (.long hx2), .second, .val (.ref b3), .unset, .unset, .unset, .unset] [(.long (0 : Int64))])) (fun t k => XS.goto X7.here hx rfl (pc0 := 105) (pc' := 115) rfl (hb hby at_105) (by decide) (by decide) k) ?_
        refine Goes.to (T' := T7.setTop (mkF m 117 #[.val (.int p0), .val (.int p1), .val (.long q2), .second, .val (.long q4), .second, .val (.long q6), .second, .val (.long q8), .second, .val (.int ka), .val (.int kb), .val (.int kc), .val (.long hx1), .second, .val (.long hx2), .second, .val (.ref b3), .val (.long (0 : Int64)), .second, .unset, .unset] [])) (fun t k => XS.lstore X7.here hx rfl (hb hby at_115) rfl (l' := #[.val (.int p0), .val (.int p1), .val (.long q2), .second, .val (.long q4), .second, .val (.long q6), .second, .val (.long q8), .second, .val (.int ka), .val (.int kb), .val (.int kc), .val (.long hx1), .second, .val (.long hx2), .second, .val (.ref b3), .val (.long (0 : Int64)), .second, .unset, .unset]) rfl k) ?_
        refine Goes.to (T' := T7.setTop (mkF m 119 #[.val (.int p0), .val (.int p1), .val (.long q2), .second, .val (.long q4), .second, .val (.long q6), .second, .val (.long q8), .second, .val (.int ka), .val (.int kb), .val (.int kc), .val (.long hx1), .second, .val (.long hx2), .second, .val (.ref b3), .val (.long (0 : Int64)), .second, .unset, .unset] [(.int kb)])) (fun t k => XS.iload X7.here hx rfl (hb hby at_117) rfl k) ?_
        refine Goes.to (T' := T7.setTop (mkF m 121 #[.val (.int p0), .val (.int p1), .val (.long q2), .second, .val (.long q4), .second, .val (.long q6), .second, .val (.long q8), .second, .val (.int ka), .val (.int kb), .val (.int kc), .val (.long hx1), .second, .val (.long hx2), .second, .val (.ref b3), .val (.long (0 : Int64)), .second, .unset, .unset] [(.int kc), (.int kb)])) (fun t k => XS.iload X7.here hx rfl (hb hby at_119) rfl k) ?_
        rcases Decidable.em (kb = kc) with hc121_9 | hc121_9
        · skip
          refine Goes.to (T' := T7.setTop (mkF m 124 #[.val (.int p0), .val (.int p1), .val (.long q2), .second, .val (.long q4), .second, .val (.long q6), .second, .val (.long q8), .second, .val (.int ka), .val (.int kb), .val (.int kc), .val (.long hx1), .second, .val (.long hx2), .second, .val (.ref b3), .val (.long (0 : Int64)), .second, .unset, .unset] [])) (fun t k => XS.icmpNo X7.here hx rfl (hb hby at_121) rfl (teq hc121_9).2 k) ?_
          refine Goes.to (T' := T7.setTop (mkF m 125 #[.val (.int p0), .val (.int p1), .val (.long q2), .second, .val (.long q4), .second, .val (.long q6), .second, .val (.long q8), .second, .val (.int ka), .val (.int kb), .val (.int kc), .val (.long hx1), .second, .val (.long hx2), .second, .val (.ref b3), .val (.long (0 : Int64)), .second, .unset, .unset] [(.long (0 : Int64))])) (fun t k => XS.lconst X7.here hx rfl (hb hby at_124) k) ?_
          refine Goes.to (T' := T7.setTop (mkF m 135 #[.val (.int p0), .val (.int p1), .val (.long q2), .second, .val (.long q4), .second, .val (.long q6), .second, .val (.long q8), .second, .val (.int ka), .val (.int kb), .val (.int kc), .val (.long hx1), .second, .val (.long hx2), .second, .val (.ref b3), .val (.long (0 : Int64)), .second, .unset, .unset] [(.long (0 : Int64))])) (fun t k => XS.goto X7.here hx rfl (pc0 := 125) (pc' := 135) rfl (hb hby at_125) (by decide) (by decide) k) ?_
          refine Goes.to (T' := T7.setTop (mkF m 137 #[.val (.int p0), .val (.int p1), .val (.long q2), .second, .val (.long q4), .second, .val (.long q6), .second, .val (.long q8), .second, .val (.int ka), .val (.int kb), .val (.int kc), .val (.long hx1), .second, .val (.long hx2), .second, .val (.ref b3), .val (.long (0 : Int64)), .second, .val (.long (0 : Int64)), .second] [])) (fun t k => XS.lstore X7.here hx rfl (hb hby at_135) rfl (l' := #[.val (.int p0), .val (.int p1), .val (.long q2), .second, .val (.long q4), .second, .val (.long q6), .second, .val (.long q8), .second, .val (.int ka), .val (.int kb), .val (.int kc), .val (.long hx1), .second, .val (.long hx2), .second, .val (.ref b3), .val (.long (0 : Int64)), .second, .val (.long (0 : Int64)), .second]) rfl k) ?_
          refine Goes.to (T' := T7.setTop (mkF m 139 #[.val (.int p0), .val (.int p1), .val (.long q2), .second, .val (.long q4), .second, .val (.long q6), .second, .val (.long q8), .second, .val (.int ka), .val (.int kb), .val (.int kc), .val (.long hx1), .second, .val (.long hx2), .second, .val (.ref b3), .val (.long (0 : Int64)), .second, .val (.long (0 : Int64)), .second] [(.ref b3)])) (fun t k => XS.aload X7.here hx rfl (hb hby at_137) rfl rfl k) ?_
          refine Goes.to (T' := T7.setTop (mkF m 141 #[.val (.int p0), .val (.int p1), .val (.long q2), .second, .val (.long q4), .second, .val (.long q6), .second, .val (.long q8), .second, .val (.int ka), .val (.int kb), .val (.int kc), .val (.long hx1), .second, .val (.long hx2), .second, .val (.ref b3), .val (.long (0 : Int64)), .second, .val (.long (0 : Int64)), .second] [(.int kc), (.ref b3)])) (fun t k => XS.iload X7.here hx rfl (hb hby at_139) rfl k) ?_
          obtain ⟨cq10, kq10, q10a, q10b, q10c⟩ := isOf hZ rfl E_b3
          obtain ⟨_, _, ⟨T10, L10, k10, n10⟩, -, X10, ⟨Lc10, hQ10, l10, y10, z10⟩, st10⟩ := X7.virtualBack hx (y := (⟨"com/example/suretyline/suretyline/Sums", "units", "(I)J"⟩ : MethodName)) (z := (⟨"com/example/suretyline/suretyline/Sums", "units", "(I)J"⟩ : MethodName)) hown (mvT hZ (hw _ (mi 71 rfl))) (mvT hZ (hw _ (mi 72 rfl))) (notFace_of_selects (args := #[]) (mvT hZ (hw _ (mi 74 rfl)))) (mvT hZ (hw _ (mi 74 rfl))) (mvT hZ (hw _ (mi 73 rfl))) (by decide) (backOf (W := 0) (rmUn l Z a0 hw [] b3 kc w0 k_w0 ff7 gg7 (0 : Int64) T7.heap n0 O7 NF SA7 hkc.1 (by simp [hff4, hgg4, hff5, hgg5, hff6, hgg6, hff7, hgg7, upd, nab, nab.symm, hc101_8, hc121_9])) hZ (hw _ (mi 75 rfl)) (hw _ (mi 2 rfl)) (by decide) (by decide)) q10a q10c (g := (mkF m 141 #[.val (.int p0), .val (.int p1), .val (.long q2), .second, .val (.long q4), .second, .val (.long q6), .second, .val (.long q8), .second, .val (.int ka), .val (.int kb), .val (.int kc), .val (.long hx1), .second, .val (.long hx2), .second, .val (.ref b3), .val (.long (0 : Int64)), .second, .val (.long (0 : Int64)), .second] [(.int kc), (.ref b3)])) rfl (by rw [hml]; rfl) (Steps.refl _) (argsL := [(.int kc)]) (rest := []) (lenOf pd_152 rfl) rfl (by show 2 * 0 + _ ≤ _; exact Nat.le_of_eq rfl) (hb hby at_141) (fun _ _ => ⟨rfl, rfl, (by decide : 5 + 0 ≤ _), (by decide : 99 + 0 ≤ _)⟩)
          dsimp only [Pt.U, Pt.locs, Pt.cells, Pt.slots] at X10 l10 y10 z10 st10 hQ10
          subst l10 y10 z10
          obtain ⟨rfl, Nq10, e10⟩ := hQ10
          have N10 := Fr.app N7 Nq10
          refine Goes.thru (T' := T10.setTop (mkF m 144 #[.val (.int p0), .val (.int p1), .val (.long q2), .second, .val (.long q4), .second, .val (.long q6), .second, .val (.long q8), .second, .val (.int ka), .val (.int kb), .val (.int kc), .val (.long hx1), .second, .val (.long hx2), .second, .val (.ref b3), .val (.long (0 : Int64)), .second, .val (.long (0 : Int64)), .second] [(.long (0 : Int64))])) st10 ?_
          refine Goes.to (T' := T10.setTop (mkF m 145 #[.val (.int p0), .val (.int p1), .val (.long q2), .second, .val (.long q4), .second, .val (.long q6), .second, .val (.long q8), .second, .val (.int ka), .val (.int kb), .val (.int kc), .val (.long hx1), .second, .val (.long hx2), .second, .val (.ref b3), .val (.long (0 : Int64)), .second, .val (.long (0 : Int64)), .second] [(.long (0 : Int64)), (.long (0 : Int64))])) (fun t k => XS.lconst X10.here hx rfl (hb hby at_144) k) ?_
          refine Goes.to (T' := T10.setTop (mkF m 146 #[.val (.int p0), .val (.int p1), .val (.long q2), .second, .val (.long q4), .second, .val (.long q6), .second, .val (.long q8), .second, .val (.int ka), .val (.int kb), .val (.int kc), .val (.long hx1), .second, .val (.long hx2), .second, .val (.ref b3), .val (.long (0 : Int64)), .second, .val (.long (0 : Int64)), .second] [(.int (lcmpW (0 : Int64) (0 : Int64)))])) (fun t k => XS.lcmp X10.here hx rfl (hb hby at_145) rfl k) ?_
          refine Goes.to (T' := T10.setTop (mkF m 149 #[.val (.int p0), .val (.int p1), .val (.long q2), .second, .val (.long q4), .second, .val (.long q6), .second, .val (.long q8), .second, .val (.int ka), .val (.int kb), .val (.int kc), .val (.long hx1), .second, .val (.long hx2), .second, .val (.ref b3), .val (.long (0 : Int64)), .second, .val (.long (0 : Int64)), .second] [])) (fun t k => XS.ifNo X10.here hx rfl (hb hby at_146) rfl ((if0 _ _).trans (teq (by decide)).2) k) ?_
          refine Goes.to (T' := T10.setTop (mkF m 151 #[.val (.int p0), .val (.int p1), .val (.long q2), .second, .val (.long q4), .second, .val (.long q6), .second, .val (.long q8), .second, .val (.int ka), .val (.int kb), .val (.int kc), .val (.long hx1), .second, .val (.long hx2), .second, .val (.ref b3), .val (.long (0 : Int64)), .second, .val (.long (0 : Int64)), .second] [(.ref b3)])) (fun t k => XS.aload X10.here hx rfl (hb hby at_149) rfl rfl k) ?_
          refine Goes.to (T' := T10.setTop (mkF m 153 #[.val (.int p0), .val (.int p1), .val (.long q2), .second, .val (.long q4), .second, .val (.long q6), .second, .val (.long q8), .second, .val (.int ka), .val (.int kb), .val (.int kc), .val (.long hx1), .second, .val (.long hx2), .second, .val (.ref b3), .val (.long (0 : Int64)), .second, .val (.long (0 : Int64)), .second] [(.int ka), (.ref b3)])) (fun t k => XS.iload X10.here hx rfl (hb hby at_151) rfl k) ?_
          obtain ⟨cq11, kq11, q11a, q11b, q11c⟩ := isOf hZ e10 E_b3
          obtain ⟨_, _, ⟨T11, L11, k11, n11⟩, -, X11, ⟨Lc11, hQ11, l11, y11, z11⟩, st11⟩ := X10.virtualBack hx (y := (⟨"com/example/suretyline/suretyline/Sums", "units", "(I)J"⟩ : MethodName)) (z := (⟨"com/example/suretyline/suretyline/Sums", "units", "(I)J"⟩ : MethodName)) hown (mvT hZ (hw _ (mi 71 rfl))) (mvT hZ (hw _ (mi 72 rfl))) (notFace_of_selects (args := #[]) (mvT hZ (hw _ (mi 74 rfl)))) (mvT hZ (hw _ (mi 74 rfl))) (mvT hZ (hw _ (mi 73 rfl))) (by decide) (backOf (W := 0) (rmUn l Z a0 hw [] b3 ka w0 k_w0 ff7 gg7 (0 : Int64) T7.heap n0 O7 NF SA7 hka.1 (by simp [hff4, hgg4, hff5, hgg5, hff6, hgg6, hff7, hgg7, upd, nab, nab.symm, hc101_8, hc121_9])) hZ (hw _ (mi 75 rfl)) (hw _ (mi 2 rfl)) (by decide) (by decide)) q11a q11c (g := (mkF m 153 #[.val (.int p0), .val (.int p1), .val (.long q2), .second, .val (.long q4), .second, .val (.long q6), .second, .val (.long q8), .second, .val (.int ka), .val (.int kb), .val (.int kc), .val (.long hx1), .second, .val (.long hx2), .second, .val (.ref b3), .val (.long (0 : Int64)), .second, .val (.long (0 : Int64)), .second] [(.int ka), (.ref b3)])) rfl (by rw [hml]; rfl) (Steps.refl _) (argsL := [(.int ka)]) (rest := []) (lenOf pd_152 rfl) rfl (by show 2 * 0 + _ ≤ _; exact Nat.le_of_eq rfl) (hb hby at_153) (fun _ _ => ⟨rfl, e10, (by decide : 5 + 0 ≤ _), (by decide : 99 + 0 ≤ _)⟩)
          dsimp only [Pt.U, Pt.locs, Pt.cells, Pt.slots] at X11 l11 y11 z11 st11 hQ11
          subst l11 y11 z11
          obtain ⟨rfl, Nq11, e11⟩ := hQ11
          have N11 := Fr.app N10 Nq11
          refine Goes.thru (T' := T11.setTop (mkF m 156 #[.val (.int p0), .val (.int p1), .val (.long q2), .second, .val (.long q4), .second, .val (.long q6), .second, .val (.long q8), .second, .val (.int ka), .val (.int kb), .val (.int kc), .val (.long hx1), .second, .val (.long hx2), .second, .val (.ref b3), .val (.long (0 : Int64)), .second, .val (.long (0 : Int64)), .second] [(.long (0 : Int64))])) st11 ?_
          refine Goes.to (T' := T11.setTop (mkF m 158 #[.val (.int p0), .val (.int p1), .val (.long q2), .second, .val (.long q4), .second, .val (.long q6), .second, .val (.long q8), .second, .val (.int ka), .val (.int kb), .val (.int kc), .val (.long hx1), .second, .val (.long hx2), .second, .val (.ref b3), .val (.long (0 : Int64)), .second, .val (.long (0 : Int64)), .second] [(.long (0 : Int64)), (.long (0 : Int64))])) (fun t k => XS.lload X11.here hx rfl (hb hby at_156) rfl k) ?_
          refine Goes.to (T' := T11.setTop (mkF m 159 #[.val (.int p0), .val (.int p1), .val (.long q2), .second, .val (.long q4), .second, .val (.long q6), .second, .val (.long q8), .second, .val (.int ka), .val (.int kb), .val (.int kc), .val (.long hx1), .second, .val (.long hx2), .second, .val (.ref b3), .val (.long (0 : Int64)), .second, .val (.long (0 : Int64)), .second] [(.int (lcmpW (0 : Int64) (0 : Int64)))])) (fun t k => XS.lcmp X11.here hx rfl (hb hby at_158) rfl k) ?_
          refine Goes.to (T' := T11.setTop (mkF m 162 #[.val (.int p0), .val (.int p1), .val (.long q2), .second, .val (.long q4), .second, .val (.long q6), .second, .val (.long q8), .second, .val (.int ka), .val (.int kb), .val (.int kc), .val (.long hx1), .second, .val (.long hx2), .second, .val (.ref b3), .val (.long (0 : Int64)), .second, .val (.long (0 : Int64)), .second] [])) (fun t k => XS.ifNo X11.here hx rfl (hb hby at_159) rfl ((if0 _ _).trans (teq (by decide)).2) k) ?_
          refine Goes.to (T' := T11.setTop (mkF m 164 #[.val (.int p0), .val (.int p1), .val (.long q2), .second, .val (.long q4), .second, .val (.long q6), .second, .val (.long q8), .second, .val (.int ka), .val (.int kb), .val (.int kc), .val (.long hx1), .second, .val (.long hx2), .second, .val (.ref b3), .val (.long (0 : Int64)), .second, .val (.long (0 : Int64)), .second] [(.ref b3)])) (fun t k => XS.aload X11.here hx rfl (hb hby at_162) rfl rfl k) ?_
          refine Goes.to (T' := T11.setTop (mkF m 166 #[.val (.int p0), .val (.int p1), .val (.long q2), .second, .val (.long q4), .second, .val (.long q6), .second, .val (.long q8), .second, .val (.int ka), .val (.int kb), .val (.int kc), .val (.long hx1), .second, .val (.long hx2), .second, .val (.ref b3), .val (.long (0 : Int64)), .second, .val (.long (0 : Int64)), .second] [(.int kb), (.ref b3)])) (fun t k => XS.iload X11.here hx rfl (hb hby at_164) rfl k) ?_
          obtain ⟨cq12, kq12, q12a, q12b, q12c⟩ := isOf hZ e11 E_b3
          obtain ⟨_, _, ⟨T12, L12, k12, n12⟩, -, X12, ⟨Lc12, hQ12, l12, y12, z12⟩, st12⟩ := X11.virtualBack hx (y := (⟨"com/example/suretyline/suretyline/Sums", "units", "(I)J"⟩ : MethodName)) (z := (⟨"com/example/suretyline/suretyline/Sums", "units", "(I)J"⟩ : MethodName)) hown (mvT hZ (hw _ (mi 71 rfl))) (mvT hZ (hw _ (mi 72 rfl))) (notFace_of_selects (args := #[]) (mvT hZ (hw _ (mi 74 rfl)))) (mvT hZ (hw _ (mi 74 rfl))) (mvT hZ (hw _ (mi 73 rfl))) (by decide) (backOf (W := 0) (rmUn l Z a0 hw [] b3 kb w0 k_w0 ff7 gg7 (0 : Int64) T7.heap n0 O7 NF SA7 hkb.1 (by simp [hff4, hgg4, hff5, hgg5, hff6, hgg6, hff7, hgg7, upd, nab, nab.symm, hc101_8, hc121_9])) hZ (hw _ (mi 75 rfl)) (hw _ (mi 2 rfl)) (by decide) (by decide)) q12a q12c (g := (mkF m 166 #[.val (.int p0), .val (.int p1), .val (.long q2), .second, .val (.long q4), .second, .val (.long q6), .second, .val (.long q8), .second, .val (.int ka), .val (.int kb), .val (.int kc), .val (.long hx1), .second, .val (.long hx2), .second, .val (.ref b3), .val (.long (0 : Int64)), .second, .val (.long (0 : Int64)), .second] [(.int kb), (.ref b3)])) rfl (by rw [hml]; rfl) (Steps.refl _) (argsL := [(.int kb)]) (rest := []) (lenOf pd_152 rfl) rfl (by show 2 * 0 + _ ≤ _; exact Nat.le_of_eq rfl) (hb hby at_166) (fun _ _ => ⟨rfl, e11, (by decide : 5 + 0 ≤ _), (by decide : 99 + 0 ≤ _)⟩)
          dsimp only [Pt.U, Pt.locs, Pt.cells, Pt.slots] at X12 l12 y12 z12 st12 hQ12
          subst l12 y12 z12
          obtain ⟨rfl, Nq12, e12⟩ := hQ12
          have N12 := Fr.app N11 Nq12
          refine Goes.thru (T' := T12.setTop (mkF m 169 #[.val (.int p0), .val (.int p1), .val (.long q2), .second, .val (.long q4), .second, .val (.long q6), .second, .val (.long q8), .second, .val (.int ka), .val (.int kb), .val (.int kc), .val (.long hx1), .second, .val (.long hx2), .second, .val (.ref b3), .val (.long (0 : Int64)), .second, .val (.long (0 : Int64)), .second] [(.long (0 : Int64))])) st12 ?_
          refine Goes.to (T' := T12.setTop (mkF m 171 #[.val (.int p0), .val (.int p1), .val (.long q2), .second, .val (.long q4), .second, .val (.long q6), .second, .val (.long q8), .second, .val (.int ka), .val (.int kb), .val (.int kc), .val (.long hx1), .second, .val (.long hx2), .second, .val (.ref b3), .val (.long (0 : Int64)), .second, .val (.long (0 : Int64)), .second] [(.long (0 : Int64)), (.long (0 : Int64))])) (fun t k => XS.lload X12.here hx rfl (hb hby at_169) rfl k) ?_
          refine Goes.to (T' := T12.setTop (mkF m 172 #[.val (.int p0), .val (.int p1), .val (.long q2), .second, .val (.long q4), .second, .val (.long q6), .second, .val (.long q8), .second, .val (.int ka), .val (.int kb), .val (.int kc), .val (.long hx1), .second, .val (.long hx2), .second, .val (.ref b3), .val (.long (0 : Int64)), .second, .val (.long (0 : Int64)), .second] [(.int (lcmpW (0 : Int64) (0 : Int64)))])) (fun t k => XS.lcmp X12.here hx rfl (hb hby at_171) rfl k) ?_
          refine Goes.to (T' := T12.setTop (mkF m 175 #[.val (.int p0), .val (.int p1), .val (.long q2), .second, .val (.long q4), .second, .val (.long q6), .second, .val (.long q8), .second, .val (.int ka), .val (.int kb), .val (.int kc), .val (.long hx1), .second, .val (.long hx2), .second, .val (.ref b3), .val (.long (0 : Int64)), .second, .val (.long (0 : Int64)), .second] [])) (fun t k => XS.ifNo X12.here hx rfl (hb hby at_172) rfl ((if0 _ _).trans (teq (by decide)).2) k) ?_
          refine Goes.to (T' := T12.setTop (mkF m 176 #[.val (.int p0), .val (.int p1), .val (.long q2), .second, .val (.long q4), .second, .val (.long q6), .second, .val (.long q8), .second, .val (.int ka), .val (.int kb), .val (.int kc), .val (.long hx1), .second, .val (.long hx2), .second, .val (.ref b3), .val (.long (0 : Int64)), .second, .val (.long (0 : Int64)), .second] [(.int (1 : Int32))])) (fun t k => XS.iconst X12.here hx rfl (hb hby at_175) k) ?_
          refine Goes.to (T' := T12.setTop (mkF m 180 #[.val (.int p0), .val (.int p1), .val (.long q2), .second, .val (.long q4), .second, .val (.long q6), .second, .val (.long q8), .second, .val (.int ka), .val (.int kb), .val (.int kc), .val (.long hx1), .second, .val (.long hx2), .second, .val (.ref b3), .val (.long (0 : Int64)), .second, .val (.long (0 : Int64)), .second] [(.int (1 : Int32))])) (fun t k => XS.goto X12.here hx rfl (pc0 := 176) (pc' := 180) rfl (hb hby at_176) (by decide) (by decide) k) ?_
          obtain ⟨fs, hrL, hrun, hended, hW, hsame⟩ := X12.leave (v := some (.int (1 : Int32))) (fun h => by rw [Bd.returns] at h; cases h)
          subst hQf
          refine ⟨_, _, retN X12 hx (t := .boolean) Bd.returns (by simp) (hb hby at_180) hrL, hrun, hended, _, _, rfl, ?_, ⟨_, rfl⟩, hW, hsame.mono (by decide) (by decide)⟩
          show (fun (v : Option Value) (h : Heap) (L : List Loc) => v = some (.int 1) ∧ Fr n0 L) (some (.int (1 : Int32))) T12.heap _
          rw [e12]
          exact ⟨rfl, N12⟩
        · skip
          refine Goes.to (T' := T7.setTop (mkF m 128 #[.val (.int p0), .val (.int p1), .val (.long q2), .second, .val (.long q4), .second, .val (.long q6), .second, .val (.long q8), .second, .val (.int ka), .val (.int kb), .val (.int kc), .val (.long hx1), .second, .val (.long hx2), .second, .val (.ref b3), .val (.long (0 : Int64)), .second, .unset, .unset] [])) (fun t k => XS.icmpYes X7.here hx rfl (pc0 := 121) (pc' := 128) rfl (hb hby at_121) rfl (feq hc121_9).2 (by decide) (by decide) k) ?_
          refine Goes.to (T' := T7.setTop (mkF m 130 #[.val (.int p0), .val (.int p1), .val (.long q2), .second, .val (.long q4), .second, .val (.long q6), .second, .val (.long q8), .second, .val (.int ka), .val (.int kb), .val (.int kc), .val (.long hx1), .second, .val (.long hx2), .second, .val (.ref b3), .val (.long (0 : Int64)), .second, .unset, .unset] [(.long hx2)])) (fun t k => XS.lload X7.here hx rfl (hb hby at_128) rfl k) ?_
          refine Goes.to (T' := T7.setTop (mkF m 132 #[.val (.int p0), .val (.int p1), .val (.long q2), .second, .val (.long q4), .second, .val (.long q6), .second, .val (.long q8), .second, .val (.int ka), .val (.int kb), .val (.int kc), .val (.long hx1), .second, .val (.long hx2), .second, .val (.ref b3), .val (.long (0 : Int64)), .second, .unset, .unset] [(.long q8), (.long hx2)])) (fun t k => XS.lload X7.here hx rfl (hb hby at_130) rfl k) ?_
          obtain ⟨_, _, ⟨T13, L13, k13, n13⟩, -, X13, ⟨Lc13, hQ13, l13, y13, z13⟩, st13⟩ := Jvm.LawKit.callS X7 hx (y := (⟨"com/example/suretyline/suretyline/SumsClearPinLaw", "expect", "(JJ)J"⟩ : MethodName)) hown (mvT hZ (hw _ (mi 66 rfl))) (mvT hZ (hw _ (mi 67 rfl))) (mvT hZ (hw _ (mi 68 rfl))) (mvT hZ (hw _ (mi 69 rfl))) (by decide) (backOf (W := 0) (rmEx l Z a0 hw [] hx2 q8 w0 k_w0 (if hx2 = 0 ∧ ¬ q8 < 0 then q8 else -1) T7.heap n0 O7 NF rfl) hZ (hw _ (mi 69 rfl)) (hw _ (mi 68 rfl)) (by decide) (by decide)) (g := (mkF m 132 #[.val (.int p0), .val (.int p1), .val (.long q2), .second, .val (.long q4), .second, .val (.long q6), .second, .val (.long q8), .second, .val (.int ka), .val (.int kb), .val (.int kc), .val (.long hx1), .second, .val (.long hx2), .second, .val (.ref b3), .val (.long (0 : Int64)), .second, .unset, .unset] [(.long q8), (.long hx2)])) rfl (by rw [hml]; rfl) (argsL := [(.long hx2), (.long q8)]) (rest := []) (lenOf pd_69 rfl) rfl (by show 2 * 0 + _ ≤ _; exact Nat.le_of_eq rfl) (hb hby at_132) (fun _ _ => ⟨rfl, rfl, (by decide : 5 + 0 ≤ _), (by decide : 99 + 0 ≤ _)⟩)
          dsimp only [Pt.U, Pt.locs, Pt.cells, Pt.slots] at X13 l13 y13 z13 st13 hQ13
          subst l13 y13 z13
          obtain ⟨rfl, Nq13, e13⟩ := hQ13
          have N13 := Fr.app N7 Nq13
          refine Goes.to (T' := T13.setTop (mkF m 135 #[.val (.int p0), .val (.int p1), .val (.long q2), .second, .val (.long q4), .second, .val (.long q6), .second, .val (.long q8), .second, .val (.int ka), .val (.int kb), .val (.int kc), .val (.long hx1), .second, .val (.long hx2), .second, .val (.ref b3), .val (.long (0 : Int64)), .second, .unset, .unset] [(.long (if hx2 = 0 ∧ ¬ q8 < 0 then q8 else -1))])) st13 ?_
          refine Goes.to (T' := T13.setTop (mkF m 137 #[.val (.int p0), .val (.int p1), .val (.long q2), .second, .val (.long q4), .second, .val (.long q6), .second, .val (.long q8), .second, .val (.int ka), .val (.int kb), .val (.int kc), .val (.long hx1), .second, .val (.long hx2), .second, .val (.ref b3), .val (.long (0 : Int64)), .second, .val (.long (if hx2 = 0 ∧ ¬ q8 < 0 then q8 else -1)), .second] [])) (fun t k => XS.lstore X13.here hx rfl (hb hby at_135) rfl (l' := #[.val (.int p0), .val (.int p1), .val (.long q2), .second, .val (.long q4), .second, .val (.long q6), .second, .val (.long q8), .second, .val (.int ka), .val (.int kb), .val (.int kc), .val (.long hx1), .second, .val (.long hx2), .second, .val (.ref b3), .val (.long (0 : Int64)), .second, .val (.long (if hx2 = 0 ∧ ¬ q8 < 0 then q8 else -1)), .second]) rfl k) ?_
          refine Goes.to (T' := T13.setTop (mkF m 139 #[.val (.int p0), .val (.int p1), .val (.long q2), .second, .val (.long q4), .second, .val (.long q6), .second, .val (.long q8), .second, .val (.int ka), .val (.int kb), .val (.int kc), .val (.long hx1), .second, .val (.long hx2), .second, .val (.ref b3), .val (.long (0 : Int64)), .second, .val (.long (if hx2 = 0 ∧ ¬ q8 < 0 then q8 else -1)), .second] [(.ref b3)])) (fun t k => XS.aload X13.here hx rfl (hb hby at_137) rfl rfl k) ?_
          refine Goes.to (T' := T13.setTop (mkF m 141 #[.val (.int p0), .val (.int p1), .val (.long q2), .second, .val (.long q4), .second, .val (.long q6), .second, .val (.long q8), .second, .val (.int ka), .val (.int kb), .val (.int kc), .val (.long hx1), .second, .val (.long hx2), .second, .val (.ref b3), .val (.long (0 : Int64)), .second, .val (.long (if hx2 = 0 ∧ ¬ q8 < 0 then q8 else -1)), .second] [(.int kc), (.ref b3)])) (fun t k => XS.iload X13.here hx rfl (hb hby at_139) rfl k) ?_
          obtain ⟨cq14, kq14, q14a, q14b, q14c⟩ := isOf hZ e13 E_b3
          obtain ⟨_, _, ⟨T14, L14, k14, n14⟩, -, X14, ⟨Lc14, hQ14, l14, y14, z14⟩, st14⟩ := X13.virtualBack hx (y := (⟨"com/example/suretyline/suretyline/Sums", "units", "(I)J"⟩ : MethodName)) (z := (⟨"com/example/suretyline/suretyline/Sums", "units", "(I)J"⟩ : MethodName)) hown (mvT hZ (hw _ (mi 71 rfl))) (mvT hZ (hw _ (mi 72 rfl))) (notFace_of_selects (args := #[]) (mvT hZ (hw _ (mi 74 rfl)))) (mvT hZ (hw _ (mi 74 rfl))) (mvT hZ (hw _ (mi 73 rfl))) (by decide) (backOf (W := 0) (rmUn l Z a0 hw [] b3 kc w0 k_w0 ff7 gg7 (0 : Int64) T7.heap n0 O7 NF SA7 hkc.1 (by simp [hff4, hgg4, hff5, hgg5, hff6, hgg6, hff7, hgg7, upd, nab, nab.symm, hc101_8, own_nen hkb.1 hkc.1 hc121_9])) hZ (hw _ (mi 75 rfl)) (hw _ (mi 2 rfl)) (by decide) (by decide)) q14a q14c (g := (mkF m 141 #[.val (.int p0), .val (.int p1), .val (.long q2), .second, .val (.long q4), .second, .val (.long q6), .second, .val (.long q8), .second, .val (.int ka), .val (.int kb), .val (.int kc), .val (.long hx1), .second, .val (.long hx2), .second, .val (.ref b3), .val (.long (0 : Int64)), .second, .val (.long (if hx2 = 0 ∧ ¬ q8 < 0 then q8 else -1)), .second] [(.int kc), (.ref b3)])) rfl (by rw [hml]; rfl) (Steps.refl _) (argsL := [(.int kc)]) (rest := []) (lenOf pd_152 rfl) rfl (by show 2 * 0 + _ ≤ _; exact Nat.le_of_eq rfl) (hb hby at_141) (fun _ _ => ⟨rfl, e13, (by decide : 5 + 0 ≤ _), (by decide : 99 + 0 ≤ _)⟩)
          dsimp only [Pt.U, Pt.locs, Pt.cells, Pt.slots] at X14 l14 y14 z14 st14 hQ14
          subst l14 y14 z14
          obtain ⟨rfl, Nq14, e14⟩ := hQ14
          have N14 := Fr.app N13 Nq14
          refine Goes.thru (T' := T14.setTop (mkF m 144 #[.val (.int p0), .val (.int p1), .val (.long q2), .second, .val (.long q4), .second, .val (.long q6), .second, .val (.long q8), .second, .val (.int ka), .val (.int kb), .val (.int kc), .val (.long hx1), .second, .val (.long hx2), .second, .val (.ref b3), .val (.long (0 : Int64)), .second, .val (.long (if hx2 = 0 ∧ ¬ q8 < 0 then q8 else -1)), .second] [(.long (0 : Int64))])) st14 ?_
          refine Goes.to (T' := T14.setTop (mkF m 145 #[.val (.int p0), .val (.int p1), .val (.long q2), .second, .val (.long q4), .second, .val (.long q6), .second, .val (.long q8), .second, .val (.int ka), .val (.int kb), .val (.int kc), .val (.long hx1), .second, .val (.long hx2), .second, .val (.ref b3), .val (.long (0 : Int64)), .second, .val (.long (if hx2 = 0 ∧ ¬ q8 < 0 then q8 else -1)), .second] [(.long (0 : Int64)), (.long (0 : Int64))])) (fun t k => XS.lconst X14.here hx rfl (hb hby at_144) k) ?_
          refine Goes.to (T' := T14.setTop (mkF m 146 #[.val (.int p0), .val (.int p1), .val (.long q2), .second, .val (.long q4), .second, .val (.long q6), .second, .val (.long q8), .second, .val (.int ka), .val (.int kb), .val (.int kc), .val (.long hx1), .second, .val (.long hx2), .second, .val (.ref b3), .val (.long (0 : Int64)), .second, .val (.long (if hx2 = 0 ∧ ¬ q8 < 0 then q8 else -1)), .second] [(.int (lcmpW (0 : Int64) (0 : Int64)))])) (fun t k => XS.lcmp X14.here hx rfl (hb hby at_145) rfl k) ?_
          refine Goes.to (T' := T14.setTop (mkF m 149 #[.val (.int p0), .val (.int p1), .val (.long q2), .second, .val (.long q4), .second, .val (.long q6), .second, .val (.long q8), .second, .val (.int ka), .val (.int kb), .val (.int kc), .val (.long hx1), .second, .val (.long hx2), .second, .val (.ref b3), .val (.long (0 : Int64)), .second, .val (.long (if hx2 = 0 ∧ ¬ q8 < 0 then q8 else -1)), .second] [])) (fun t k => XS.ifNo X14.here hx rfl (hb hby at_146) rfl ((if0 _ _).trans (teq (by decide)).2) k) ?_
          refine Goes.to (T' := T14.setTop (mkF m 151 #[.val (.int p0), .val (.int p1), .val (.long q2), .second, .val (.long q4), .second, .val (.long q6), .second, .val (.long q8), .second, .val (.int ka), .val (.int kb), .val (.int kc), .val (.long hx1), .second, .val (.long hx2), .second, .val (.ref b3), .val (.long (0 : Int64)), .second, .val (.long (if hx2 = 0 ∧ ¬ q8 < 0 then q8 else -1)), .second] [(.ref b3)])) (fun t k => XS.aload X14.here hx rfl (hb hby at_149) rfl rfl k) ?_
          refine Goes.to (T' := T14.setTop (mkF m 153 #[.val (.int p0), .val (.int p1), .val (.long q2), .second, .val (.long q4), .second, .val (.long q6), .second, .val (.long q8), .second, .val (.int ka), .val (.int kb), .val (.int kc), .val (.long hx1), .second, .val (.long hx2), .second, .val (.ref b3), .val (.long (0 : Int64)), .second, .val (.long (if hx2 = 0 ∧ ¬ q8 < 0 then q8 else -1)), .second] [(.int ka), (.ref b3)])) (fun t k => XS.iload X14.here hx rfl (hb hby at_151) rfl k) ?_
          obtain ⟨cq15, kq15, q15a, q15b, q15c⟩ := isOf hZ e14 E_b3
          obtain ⟨_, _, ⟨T15, L15, k15, n15⟩, -, X15, ⟨Lc15, hQ15, l15, y15, z15⟩, st15⟩ := X14.virtualBack hx (y := (⟨"com/example/suretyline/suretyline/Sums", "units", "(I)J"⟩ : MethodName)) (z := (⟨"com/example/suretyline/suretyline/Sums", "units", "(I)J"⟩ : MethodName)) hown (mvT hZ (hw _ (mi 71 rfl))) (mvT hZ (hw _ (mi 72 rfl))) (notFace_of_selects (args := #[]) (mvT hZ (hw _ (mi 74 rfl)))) (mvT hZ (hw _ (mi 74 rfl))) (mvT hZ (hw _ (mi 73 rfl))) (by decide) (backOf (W := 0) (rmUn l Z a0 hw [] b3 ka w0 k_w0 ff7 gg7 (0 : Int64) T7.heap n0 O7 NF SA7 hka.1 (by simp [hff4, hgg4, hff5, hgg5, hff6, hgg6, hff7, hgg7, upd, nab, nab.symm, hc101_8, own_nen hkb.1 hkc.1 hc121_9])) hZ (hw _ (mi 75 rfl)) (hw _ (mi 2 rfl)) (by decide) (by decide)) q15a q15c (g := (mkF m 153 #[.val (.int p0), .val (.int p1), .val (.long q2), .second, .val (.long q4), .second, .val (.long q6), .second, .val (.long q8), .second, .val (.int ka), .val (.int kb), .val (.int kc), .val (.long hx1), .second, .val (.long hx2), .second, .val (.ref b3), .val (.long (0 : Int64)), .second, .val (.long (if hx2 = 0 ∧ ¬ q8 < 0 then q8 else -1)), .second] [(.int ka), (.ref b3)])) rfl (by rw [hml]; rfl) (Steps.refl _) (argsL := [(.int ka)]) (rest := []) (lenOf pd_152 rfl) rfl (by show 2 * 0 + _ ≤ _; exact Nat.le_of_eq rfl) (hb hby at_153) (fun _ _ => ⟨rfl, e14, (by decide : 5 + 0 ≤ _), (by decide : 99 + 0 ≤ _)⟩)
          dsimp only [Pt.U, Pt.locs, Pt.cells, Pt.slots] at X15 l15 y15 z15 st15 hQ15
          subst l15 y15 z15
          obtain ⟨rfl, Nq15, e15⟩ := hQ15
          have N15 := Fr.app N14 Nq15
          refine Goes.thru (T' := T15.setTop (mkF m 156 #[.val (.int p0), .val (.int p1), .val (.long q2), .second, .val (.long q4), .second, .val (.long q6), .second, .val (.long q8), .second, .val (.int ka), .val (.int kb), .val (.int kc), .val (.long hx1), .second, .val (.long hx2), .second, .val (.ref b3), .val (.long (0 : Int64)), .second, .val (.long (if hx2 = 0 ∧ ¬ q8 < 0 then q8 else -1)), .second] [(.long (0 : Int64))])) st15 ?_
          refine Goes.to (T' := T15.setTop (mkF m 158 #[.val (.int p0), .val (.int p1), .val (.long q2), .second, .val (.long q4), .second, .val (.long q6), .second, .val (.long q8), .second, .val (.int ka), .val (.int kb), .val (.int kc), .val (.long hx1), .second, .val (.long hx2), .second, .val (.ref b3), .val (.long (0 : Int64)), .second, .val (.long (if hx2 = 0 ∧ ¬ q8 < 0 then q8 else -1)), .second] [(.long (0 : Int64)), (.long (0 : Int64))])) (fun t k => XS.lload X15.here hx rfl (hb hby at_156) rfl k) ?_
          refine Goes.to (T' := T15.setTop (mkF m 159 #[.val (.int p0), .val (.int p1), .val (.long q2), .second, .val (.long q4), .second, .val (.long q6), .second, .val (.long q8), .second, .val (.int ka), .val (.int kb), .val (.int kc), .val (.long hx1), .second, .val (.long hx2), .second, .val (.ref b3), .val (.long (0 : Int64)), .second, .val (.long (if hx2 = 0 ∧ ¬ q8 < 0 then q8 else -1)), .second] [(.int (lcmpW (0 : Int64) (0 : Int64)))])) (fun t k => XS.lcmp X15.here hx rfl (hb hby at_158) rfl k) ?_
          refine Goes.to (T' := T15.setTop (mkF m 162 #[.val (.int p0), .val (.int p1), .val (.long q2), .second, .val (.long q4), .second, .val (.long q6), .second, .val (.long q8), .second, .val (.int ka), .val (.int kb), .val (.int kc), .val (.long hx1), .second, .val (.long hx2), .second, .val (.ref b3), .val (.long (0 : Int64)), .second, .val (.long (if hx2 = 0 ∧ ¬ q8 < 0 then q8 else -1)), .second] [])) (fun t k => XS.ifNo X15.here hx rfl (hb hby at_159) rfl ((if0 _ _).trans (teq (by decide)).2) k) ?_
          refine Goes.to (T' := T15.setTop (mkF m 164 #[.val (.int p0), .val (.int p1), .val (.long q2), .second, .val (.long q4), .second, .val (.long q6), .second, .val (.long q8), .second, .val (.int ka), .val (.int kb), .val (.int kc), .val (.long hx1), .second, .val (.long hx2), .second, .val (.ref b3), .val (.long (0 : Int64)), .second, .val (.long (if hx2 = 0 ∧ ¬ q8 < 0 then q8 else -1)), .second] [(.ref b3)])) (fun t k => XS.aload X15.here hx rfl (hb hby at_162) rfl rfl k) ?_
          refine Goes.to (T' := T15.setTop (mkF m 166 #[.val (.int p0), .val (.int p1), .val (.long q2), .second, .val (.long q4), .second, .val (.long q6), .second, .val (.long q8), .second, .val (.int ka), .val (.int kb), .val (.int kc), .val (.long hx1), .second, .val (.long hx2), .second, .val (.ref b3), .val (.long (0 : Int64)), .second, .val (.long (if hx2 = 0 ∧ ¬ q8 < 0 then q8 else -1)), .second] [(.int kb), (.ref b3)])) (fun t k => XS.iload X15.here hx rfl (hb hby at_164) rfl k) ?_
          obtain ⟨cq16, kq16, q16a, q16b, q16c⟩ := isOf hZ e15 E_b3
          obtain ⟨_, _, ⟨T16, L16, k16, n16⟩, -, X16, ⟨Lc16, hQ16, l16, y16, z16⟩, st16⟩ := X15.virtualBack hx (y := (⟨"com/example/suretyline/suretyline/Sums", "units", "(I)J"⟩ : MethodName)) (z := (⟨"com/example/suretyline/suretyline/Sums", "units", "(I)J"⟩ : MethodName)) hown (mvT hZ (hw _ (mi 71 rfl))) (mvT hZ (hw _ (mi 72 rfl))) (notFace_of_selects (args := #[]) (mvT hZ (hw _ (mi 74 rfl)))) (mvT hZ (hw _ (mi 74 rfl))) (mvT hZ (hw _ (mi 73 rfl))) (by decide) (backOf (W := 0) (rmUn l Z a0 hw [] b3 kb w0 k_w0 ff7 gg7 (if hx2 = 0 ∧ ¬ q8 < 0 then q8 else -1) T7.heap n0 O7 NF SA7 hkb.1 (by simp [hff4, hgg4, hff5, hgg5, hff6, hgg6, hff7, hgg7, upd, nab, nab.symm, hc101_8, own_nen hkb.1 hkc.1 hc121_9])) hZ (hw _ (mi 75 rfl)) (hw _ (mi 2 rfl)) (by decide) (by decide)) q16a q16c (g := (mkF m 166 #[.val (.int p0), .val (.int p1), .val (.long q2), .second, .val (.long q4), .second, .val (.long q6), .second, .val (.long q8), .second, .val (.int ka), .val (.int kb), .val (.int kc), .val (.long hx1), .second, .val (.long hx2), .second, .val (.ref b3), .val (.long (0 : Int64)), .second, .val (.long (if hx2 = 0 ∧ ¬ q8 < 0 then q8 else -1)), .second] [(.int kb), (.ref b3)])) rfl (by rw [hml]; rfl) (Steps.refl _) (argsL := [(.int kb)]) (rest := []) (lenOf pd_152 rfl) rfl (by show 2 * 0 + _ ≤ _; exact Nat.le_of_eq rfl) (hb hby at_166) (fun _ _ => ⟨rfl, e15, (by decide : 5 + 0 ≤ _), (by decide : 99 + 0 ≤ _)⟩)
          dsimp only [Pt.U, Pt.locs, Pt.cells, Pt.slots] at X16 l16 y16 z16 st16 hQ16
          subst l16 y16 z16
          obtain ⟨rfl, Nq16, e16⟩ := hQ16
          have N16 := Fr.app N15 Nq16
          refine Goes.thru (T' := T16.setTop (mkF m 169 #[.val (.int p0), .val (.int p1), .val (.long q2), .second, .val (.long q4), .second, .val (.long q6), .second, .val (.long q8), .second, .val (.int ka), .val (.int kb), .val (.int kc), .val (.long hx1), .second, .val (.long hx2), .second, .val (.ref b3), .val (.long (0 : Int64)), .second, .val (.long (if hx2 = 0 ∧ ¬ q8 < 0 then q8 else -1)), .second] [(.long (if hx2 = 0 ∧ ¬ q8 < 0 then q8 else -1))])) st16 ?_
          refine Goes.to (T' := T16.setTop (mkF m 171 #[.val (.int p0), .val (.int p1), .val (.long q2), .second, .val (.long q4), .second, .val (.long q6), .second, .val (.long q8), .second, .val (.int ka), .val (.int kb), .val (.int kc), .val (.long hx1), .second, .val (.long hx2), .second, .val (.ref b3), .val (.long (0 : Int64)), .second, .val (.long (if hx2 = 0 ∧ ¬ q8 < 0 then q8 else -1)), .second] [(.long (if hx2 = 0 ∧ ¬ q8 < 0 then q8 else -1)), (.long (if hx2 = 0 ∧ ¬ q8 < 0 then q8 else -1))])) (fun t k => XS.lload X16.here hx rfl (hb hby at_169) rfl k) ?_
          refine Goes.to (T' := T16.setTop (mkF m 172 #[.val (.int p0), .val (.int p1), .val (.long q2), .second, .val (.long q4), .second, .val (.long q6), .second, .val (.long q8), .second, .val (.int ka), .val (.int kb), .val (.int kc), .val (.long hx1), .second, .val (.long hx2), .second, .val (.ref b3), .val (.long (0 : Int64)), .second, .val (.long (if hx2 = 0 ∧ ¬ q8 < 0 then q8 else -1)), .second] [(.int (lcmpW (if hx2 = 0 ∧ ¬ q8 < 0 then q8 else -1) (if hx2 = 0 ∧ ¬ q8 < 0 then q8 else -1)))])) (fun t k => XS.lcmp X16.here hx rfl (hb hby at_171) rfl k) ?_
          have hc172_17 : (if hx2 = 0 ∧ ¬ q8 < 0 then q8 else -1) = (if hx2 = 0 ∧ ¬ q8 < 0 then q8 else -1) := rfl
          refine Goes.to (T' := T16.setTop (mkF m 175 #[.val (.int p0), .val (.int p1), .val (.long q2), .second, .val (.long q4), .second, .val (.long q6), .second, .val (.long q8), .second, .val (.int ka), .val (.int kb), .val (.int kc), .val (.long hx1), .second, .val (.long hx2), .second, .val (.ref b3), .val (.long (0 : Int64)), .second, .val (.long (if hx2 = 0 ∧ ¬ q8 < 0 then q8 else -1)), .second] [])) (fun t k => XS.ifNo X16.here hx rfl (hb hby at_172) rfl ((if0 _ _).trans (teq ((lw_eq (if hx2 = 0 ∧ ¬ q8 < 0 then q8 else -1) (if hx2 = 0 ∧ ¬ q8 < 0 then q8 else -1)).mpr hc172_17)).2) k) ?_
          refine Goes.to (T' := T16.setTop (mkF m 176 #[.val (.int p0), .val (.int p1), .val (.long q2), .second, .val (.long q4), .second, .val (.long q6), .second, .val (.long q8), .second, .val (.int ka), .val (.int kb), .val (.int kc), .val (.long hx1), .second, .val (.long hx2), .second, .val (.ref b3), .val (.long (0 : Int64)), .second, .val (.long (if hx2 = 0 ∧ ¬ q8 < 0 then q8 else -1)), .second] [(.int (1 : Int32))])) (fun t k => XS.iconst X16.here hx rfl (hb hby at_175) k) ?_
          refine Goes.to (T' := T16.setTop (mkF m 180 #[.val (.int p0), .val (.int p1), .val (.long q2), .second, .val (.long q4), .second, .val (.long q6), .second, .val (.long q8), .second, .val (.int ka), .val (.int kb), .val (.int kc), .val (.long hx1), .second, .val (.long hx2), .second, .val (.ref b3), .val (.long (0 : Int64)), .second, .val (.long (if hx2 = 0 ∧ ¬ q8 < 0 then q8 else -1)), .second] [(.int (1 : Int32))])) (fun t k => XS.goto X16.here hx rfl (pc0 := 176) (pc' := 180) rfl (hb hby at_176) (by decide) (by decide) k) ?_
          obtain ⟨fs, hrL, hrun, hended, hW, hsame⟩ := X16.leave (v := some (.int (1 : Int32))) (fun h => by rw [Bd.returns] at h; cases h)
          subst hQf
          refine ⟨_, _, retN X16 hx (t := .boolean) Bd.returns (by simp) (hb hby at_180) hrL, hrun, hended, _, _, rfl, ?_, ⟨_, rfl⟩, hW, hsame.mono (by decide) (by decide)⟩
          show (fun (v : Option Value) (h : Heap) (L : List Loc) => v = some (.int 1) ∧ Fr n0 L) (some (.int (1 : Int32))) T16.heap _
          rw [e16]
          exact ⟨rfl, N16⟩
      · skip
        refine Goes.to (T' := T7.setTop (mkF m 108 #[.val (.int p0), .val (.int p1), .val (.long q2), .second, .val (.long q4), .second, .val (.long q6), .second, .val (.long q8), .second, .val (.int ka), .val (.int kb), .val (.int kc), .val (.long hx1), .second, .val (.long hx2), .second, .val (.ref b3), .unset, .unset, .unset, .unset] [])) (fun t k => XS.icmpYes X7.here hx rfl (pc0 := 101) (pc' := 108) rfl (hb hby at_101) rfl (feq hc101_8).2 (by decide) (by decide) k) ?_
        refine Goes.to (T' := T7.setTop (mkF m 110 #[.val (.int p0), .val (.int p1), .val (.long q2), .second, .val (.long q4), .second, .val (.long q6), .second, .val (.long q8), .second, .val (.int ka), .val (.int kb), .val (.int kc), .val (.long hx1), .second, .val (.long hx2), .second, .val (.ref b3), .unset, .unset, .unset, .unset] [(.long hx1)])) (fun t k => XS.lload X7.here hx rfl (hb hby at_108) rfl k) ?_
        refine Goes.to (T' := T7.setTop (mkF m 112 #[.val (.int p0), .val (.int p1), .val (.long q2), .second, .val (.long q4), .second, .val (.long q6), .second, .val (.long q8), .second, .val (.int ka), .val (.int kb), .val (.int kc), .val (.long hx1), .second, .val (.long hx2), .second, .val (.ref b3), .unset, .unset, .unset, .unset] [(.long q4), (.long hx1)])) (fun t k => XS.lload X7.here hx rfl (hb hby at_110) rfl k) ?_
        obtain ⟨_, _, ⟨T18, L18, k18, n18⟩, -, X18, ⟨Lc18, hQ18, l18, y18, z18⟩, st18⟩ := Jvm.LawKit.callS X7 hx (y := (⟨"com/example/suretyline/suretyline/SumsClearPinLaw", "expect", "(JJ)J"⟩ : MethodName)) hown (mvT hZ (hw _ (mi 66 rfl))) (mvT hZ (hw _ (mi 67 rfl))) (mvT hZ (hw _ (mi 68 rfl))) (mvT hZ (hw _ (mi 69 rfl))) (by decide) (backOf (W := 0) (rmEx l Z a0 hw [] hx1 q4 w0 k_w0 (if hx1 = 0 ∧ ¬ q4 < 0 then q4 else -1) T7.heap n0 O7 NF rfl) hZ (hw _ (mi 69 rfl)) (hw _ (mi 68 rfl)) (by decide) (by decide)) (g := (mkF m 112 #[.val (.int p0), .val (.int p1), .val (.long q2), .second, .val (.long q4), .second, .val (.long q6), .second, .val (.long q8), .second, .val (.int ka), .val (.int kb), .val (.int kc), .val (.long hx1), .second, .val (.long hx2), .second, .val (.ref b3), .unset, .unset, .unset, .unset] [(.long q4), (.long hx1)])) rfl (by rw [hml]; rfl) (argsL := [(.long hx1), (.long q4)]) (rest := []) (lenOf pd_69 rfl) rfl (by show 2 * 0 + _ ≤ _; exact Nat.le_of_eq rfl) (hb hby at_112) (fun _ _ => ⟨rfl, rfl, (by decide : 5 + 0 ≤ _), (by decide : 99 + 0 ≤ _)⟩)
        dsimp only [Pt.U, Pt.locs, Pt.cells, Pt.slots] at X18 l18 y18 z18 st18 hQ18
        subst l18 y18 z18
        obtain ⟨rfl, Nq18, e18⟩ := hQ18
        have N18 := Fr.app N7 Nq18
        refine Goes.to (T' := T18.setTop (mkF m 115 #[.val (.int p0), .val (.int p1), .val (.long q2), .second, .val (.long q4), .second, .val (.long q6), .second, .val (.long q8), .second, .val (.int ka), .val (.int kb), .val (.int kc), .val (.long hx1), .second, .val (.long hx2), .second, .val (.ref b3), .unset, .unset, .unset, .unset] [(.long (if hx1 = 0 ∧ ¬ q4 < 0 then q4 else -1))])) st18 ?_
        refine Goes.to (T' := T18.setTop (mkF m 117 #[.val (.int p0), .val (.int p1), .val (.long q2), .second, .val (.long q4), .second, .val (.long q6), .second, .val (.long q8), .second, .val (.int ka), .val (.int kb), .val (.int kc), .val (.long hx1), .second, .val (.long hx2), .second, .val (.ref b3), .val (.long (if hx1 = 0 ∧ ¬ q4 < 0 then q4 else -1)), .second, .unset, .unset] [])) (fun t k => XS.lstore X18.here hx rfl (hb hby at_115) rfl (l' := #[.val (.int p0), .val (.int p1), .val (.long q2), .second, .val (.long q4), .second, .val (.long q6), .second, .val (.long q8), .second, .val (.int ka), .val (.int kb), .val (.int kc), .val (.long hx1), .second, .val (.long hx2), .second, .val (.ref b3), .val (.long (if hx1 = 0 ∧ ¬ q4 < 0 then q4 else -1)), .second, .unset, .unset]) rfl k) ?_
        refine Goes.to (T' := T18.setTop (mkF m 119 #[.val (.int p0), .val (.int p1), .val (.long q2), .second, .val (.long q4), .second, .val (.long q6), .second, .val (.long q8), .second, .val (.int ka), .val (.int kb), .val (.int kc), .val (.long hx1), .second, .val (.long hx2), .second, .val (.ref b3), .val (.long (if hx1 = 0 ∧ ¬ q4 < 0 then q4 else -1)), .second, .unset, .unset] [(.int kb)])) (fun t k => XS.iload X18.here hx rfl (hb hby at_117) rfl k) ?_
        refine Goes.to (T' := T18.setTop (mkF m 121 #[.val (.int p0), .val (.int p1), .val (.long q2), .second, .val (.long q4), .second, .val (.long q6), .second, .val (.long q8), .second, .val (.int ka), .val (.int kb), .val (.int kc), .val (.long hx1), .second, .val (.long hx2), .second, .val (.ref b3), .val (.long (if hx1 = 0 ∧ ¬ q4 < 0 then q4 else -1)), .second, .unset, .unset] [(.int kc), (.int kb)])) (fun t k => XS.iload X18.here hx rfl (hb hby at_119) rfl k) ?_
        rcases Decidable.em (kb = kc) with hc121_19 | hc121_19
        · skip
          refine Goes.to (T' := T18.setTop (mkF m 124 #[.val (.int p0), .val (.int p1), .val (.long q2), .second, .val (.long q4), .second, .val (.long q6), .second, .val (.long q8), .second, .val (.int ka), .val (.int kb), .val (.int kc), .val (.long hx1), .second, .val (.long hx2), .second, .val (.ref b3), .val (.long (if hx1 = 0 ∧ ¬ q4 < 0 then q4 else -1)), .second, .unset, .unset] [])) (fun t k => XS.icmpNo X18.here hx rfl (hb hby at_121) rfl (teq hc121_19).2 k) ?_
          refine Goes.to (T' := T18.setTop (mkF m 125 #[.val (.int p0), .val (.int p1), .val (.long q2), .second, .val (.long q4), .second, .val (.long q6), .second, .val (.long q8), .second, .val (.int ka), .val (.int kb), .val (.int kc), .val (.long hx1), .second, .val (.long hx2), .second, .val (.ref b3), .val (.long (if hx1 = 0 ∧ ¬ q4 < 0 then q4 else -1)), .second, .unset, .unset] [(.long (0 : Int64))])) (fun t k => XS.lconst X18.here hx rfl (hb hby at_124) k) ?_
          refine Goes.to (T' := T18.setTop (mkF m 135 #[.val (.int p0), .val (.int p1), .val (.long q2), .second, .val (.long q4), .second, .val (.long q6), .second, .val (.long q8), .second, .val (.int ka), .val (.int kb), .val (.int kc), .val (.long hx1), .second, .val (.long hx2), .second, .val (.ref b3), .val (.long (if hx1 = 0 ∧ ¬ q4 < 0 then q4 else -1)), .second, .unset, .unset] [(.long (0 : Int64))])) (fun t k => XS.goto X18.here hx rfl (pc0 := 125) (pc' := 135) rfl (hb hby at_125) (by decide) (by decide) k) ?_
          refine Goes.to (T' := T18.setTop (mkF m 137 #[.val (.int p0), .val (.int p1), .val (.long q2), .second, .val (.long q4), .second, .val (.long q6), .second, .val (.long q8), .second, .val (.int ka), .val (.int kb), .val (.int kc), .val (.long hx1), .second, .val (.long hx2), .second, .val (.ref b3), .val (.long (if hx1 = 0 ∧ ¬ q4 < 0 then q4 else -1)), .second, .val (.long (0 : Int64)), .second] [])) (fun t k => XS.lstore X18.here hx rfl (hb hby at_135) rfl (l' := #[.val (.int p0), .val (.int p1), .val (.long q2), .second, .val (.long q4), .second, .val (.long q6), .second, .val (.long q8), .second, .val (.int ka), .val (.int kb), .val (.int kc), .val (.long hx1), .second, .val (.long hx2), .second, .val (.ref b3), .val (.long (if hx1 = 0 ∧ ¬ q4 < 0 then q4 else -1)), .second, .val (.long (0 : Int64)), .second]) rfl k) ?_
          refine Goes.to (T' := T18.setTop (mkF m 139 #[.val (.int p0), .val (.int p1), .val (.long q2), .second, .val (.long q4), .second, .val (.long q6), .second, .val (.long q8), .second, .val (.int ka), .val (.int kb), .val (.int kc), .val (.long hx1), .second, .val (.long hx2), .second, .val (.ref b3), .val (.long (if hx1 = 0 ∧ ¬ q4 < 0 then q4 else -1)), .second, .val (.long (0 : Int64)), .second] [(.ref b3)])) (fun t k => XS.aload X18.here hx rfl (hb hby at_137) rfl rfl k) ?_
          refine Goes.to (T' := T18.setTop (mkF m 141 #[.val (.int p0), .val (.int p1), .val (.long q2), .second, .val (.long q4), .second, .val (.long q6), .second, .val (.long q8), .second, .val (.int ka), .val (.int kb), .val (.int kc), .val (.long hx1), .second, .val (.long hx2), .second, .val (.ref b3), .val (.long (if hx1 = 0 ∧ ¬ q4 < 0 then q4 else -1)), .second, .val (.long (0 : Int64)), .second] [(.int kc), (.ref b3)])) (fun t k => XS.iload X18.here hx rfl (hb hby at_139) rfl k) ?_
          obtain ⟨cq20, kq20, q20a, q20b, q20c⟩ := isOf hZ e18 E_b3
          obtain ⟨_, _, ⟨T20, L20, k20, n20⟩, -, X20, ⟨Lc20, hQ20, l20, y20, z20⟩, st20⟩ := X18.virtualBack hx (y := (⟨"com/example/suretyline/suretyline/Sums", "units", "(I)J"⟩ : MethodName)) (z := (⟨"com/example/suretyline/suretyline/Sums", "units", "(I)J"⟩ : MethodName)) hown (mvT hZ (hw _ (mi 71 rfl))) (mvT hZ (hw _ (mi 72 rfl))) (notFace_of_selects (args := #[]) (mvT hZ (hw _ (mi 74 rfl)))) (mvT hZ (hw _ (mi 74 rfl))) (mvT hZ (hw _ (mi 73 rfl))) (by decide) (backOf (W := 0) (rmUn l Z a0 hw [] b3 kc w0 k_w0 ff7 gg7 (0 : Int64) T7.heap n0 O7 NF SA7 hkc.1 (by simp [hff4, hgg4, hff5, hgg5, hff6, hgg6, hff7, hgg7, upd, nab, nab.symm, own_nen hka.1 hkc.1 hc101_8, hc121_19])) hZ (hw _ (mi 75 rfl)) (hw _ (mi 2 rfl)) (by decide) (by decide)) q20a q20c (g := (mkF m 141 #[.val (.int p0), .val (.int p1), .val (.long q2), .second, .val (.long q4), .second, .val (.long q6), .second, .val (.long q8), .second, .val (.int ka), .val (.int kb), .val (.int kc), .val (.long hx1), .second, .val (.long hx2), .second, .val (.ref b3), .val (.long (if hx1 = 0 ∧ ¬ q4 < 0 then q4 else -1)), .second, .val (.long (0 : Int64)), .second] [(.int kc), (.ref b3)])) rfl (by rw [hml]; rfl) (Steps.refl _) (argsL := [(.int kc)]) (rest := []) (lenOf pd_152 rfl) rfl (by show 2 * 0 + _ ≤ _; exact Nat.le_of_eq rfl) (hb hby at_141) (fun _ _ => ⟨rfl, e18, (by decide : 5 + 0 ≤ _), (by decide : 99 + 0 ≤ _)⟩)
          dsimp only [Pt.U, Pt.locs, Pt.cells, Pt.slots] at X20 l20 y20 z20 st20 hQ20
          subst l20 y20 z20
          obtain ⟨rfl, Nq20, e20⟩ := hQ20
          have N20 := Fr.app N18 Nq20
          refine Goes.thru (T' := T20.setTop (mkF m 144 #[.val (.int p0), .val (.int p1), .val (.long q2), .second, .val (.long q4), .second, .val (.long q6), .second, .val (.long q8), .second, .val (.int ka), .val (.int kb), .val (.int kc), .val (.long hx1), .second, .val (.long hx2), .second, .val (.ref b3), .val (.long (if hx1 = 0 ∧ ¬ q4 < 0 then q4 else -1)), .second, .val (.long (0 : Int64)), .second] [(.long (0 : Int64))])) st20 ?_
          refine Goes.to (T' := T20.setTop (mkF m 145 #[.val (.int p0), .val (.int p1), .val (.long q2), .second, .val (.long q4), .second, .val (.long q6), .second, .val (.long q8), .second, .val (.int ka), .val (.int kb), .val (.int kc), .val (.long hx1), .second, .val (.long hx2), .second, .val (.ref b3), .val (.long (if hx1 = 0 ∧ ¬ q4 < 0 then q4 else -1)), .second, .val (.long (0 : Int64)), .second] [(.long (0 : Int64)), (.long (0 : Int64))])) (fun t k => XS.lconst X20.here hx rfl (hb hby at_144) k) ?_
          refine Goes.to (T' := T20.setTop (mkF m 146 #[.val (.int p0), .val (.int p1), .val (.long q2), .second, .val (.long q4), .second, .val (.long q6), .second, .val (.long q8), .second, .val (.int ka), .val (.int kb), .val (.int kc), .val (.long hx1), .second, .val (.long hx2), .second, .val (.ref b3), .val (.long (if hx1 = 0 ∧ ¬ q4 < 0 then q4 else -1)), .second, .val (.long (0 : Int64)), .second] [(.int (lcmpW (0 : Int64) (0 : Int64)))])) (fun t k => XS.lcmp X20.here hx rfl (hb hby at_145) rfl k) ?_
          refine Goes.to (T' := T20.setTop (mkF m 149 #[.val (.int p0), .val (.int p1), .val (.long q2), .second, .val (.long q4), .second, .val (.long q6), .second, .val (.long q8), .second, .val (.int ka), .val (.int kb), .val (.int kc), .val (.long hx1), .second, .val (.long hx2), .second, .val (.ref b3), .val (.long (if hx1 = 0 ∧ ¬ q4 < 0 then q4 else -1)), .second, .val (.long (0 : Int64)), .second] [])) (fun t k => XS.ifNo X20.here hx rfl (hb hby at_146) rfl ((if0 _ _).trans (teq (by decide)).2) k) ?_
          refine Goes.to (T' := T20.setTop (mkF m 151 #[.val (.int p0), .val (.int p1), .val (.long q2), .second, .val (.long q4), .second, .val (.long q6), .second, .val (.long q8), .second, .val (.int ka), .val (.int kb), .val (.int kc), .val (.long hx1), .second, .val (.long hx2), .second, .val (.ref b3), .val (.long (if hx1 = 0 ∧ ¬ q4 < 0 then q4 else -1)), .second, .val (.long (0 : Int64)), .second] [(.ref b3)])) (fun t k => XS.aload X20.here hx rfl (hb hby at_149) rfl rfl k) ?_
          refine Goes.to (T' := T20.setTop (mkF m 153 #[.val (.int p0), .val (.int p1), .val (.long q2), .second, .val (.long q4), .second, .val (.long q6), .second, .val (.long q8), .second, .val (.int ka), .val (.int kb), .val (.int kc), .val (.long hx1), .second, .val (.long hx2), .second, .val (.ref b3), .val (.long (if hx1 = 0 ∧ ¬ q4 < 0 then q4 else -1)), .second, .val (.long (0 : Int64)), .second] [(.int ka), (.ref b3)])) (fun t k => XS.iload X20.here hx rfl (hb hby at_151) rfl k) ?_
          obtain ⟨cq21, kq21, q21a, q21b, q21c⟩ := isOf hZ e20 E_b3
          obtain ⟨_, _, ⟨T21, L21, k21, n21⟩, -, X21, ⟨Lc21, hQ21, l21, y21, z21⟩, st21⟩ := X20.virtualBack hx (y := (⟨"com/example/suretyline/suretyline/Sums", "units", "(I)J"⟩ : MethodName)) (z := (⟨"com/example/suretyline/suretyline/Sums", "units", "(I)J"⟩ : MethodName)) hown (mvT hZ (hw _ (mi 71 rfl))) (mvT hZ (hw _ (mi 72 rfl))) (notFace_of_selects (args := #[]) (mvT hZ (hw _ (mi 74 rfl)))) (mvT hZ (hw _ (mi 74 rfl))) (mvT hZ (hw _ (mi 73 rfl))) (by decide) (backOf (W := 0) (rmUn l Z a0 hw [] b3 ka w0 k_w0 ff7 gg7 (if hx1 = 0 ∧ ¬ q4 < 0 then q4 else -1) T7.heap n0 O7 NF SA7 hka.1 (by simp [hff4, hgg4, hff5, hgg5, hff6, hgg6, hff7, hgg7, upd, nab, nab.symm, own_nen hka.1 hkc.1 hc101_8, hc121_19])) hZ (hw _ (mi 75 rfl)) (hw _ (mi 2 rfl)) (by decide) (by decide)) q21a q21c (g := (mkF m 153 #[.val (.int p0), .val (.int p1), .val (.long q2), .second, .val (.long q4), .second, .val (.long q6), .second, .val (.long q8), .second, .val (.int ka), .val (.int kb), .val (.int kc), .val (.long hx1), .second, .val (.long hx2), .second, .val (.ref b3), .val (.long (if hx1 = 0 ∧ ¬ q4 < 0 then q4 else -1)), .second, .val (.long (0 : Int64)), .second] [(.int ka), (.ref b3)])) rfl (by rw [hml]; rfl) (Steps.refl _) (argsL := [(.int ka)]) (rest := []) (lenOf pd_152 rfl) rfl (by show 2 * 0 + _ ≤ _; exact Nat.le_of_eq rfl) (hb hby at_153) (fun _ _ => ⟨rfl, e20, (by decide : 5 + 0 ≤ _), (by decide : 99 + 0 ≤ _)⟩)
          dsimp only [Pt.U, Pt.locs, Pt.cells, Pt.slots] at X21 l21 y21 z21 st21 hQ21
          subst l21 y21 z21
          obtain ⟨rfl, Nq21, e21⟩ := hQ21
          have N21 := Fr.app N20 Nq21
          refine Goes.thru (T' := T21.setTop (mkF m 156 #[.val (.int p0), .val (.int p1), .val (.long q2), .second, .val (.long q4), .second, .val (.long q6), .second, .val (.long q8), .second, .val (.int ka), .val (.int kb), .val (.int kc), .val (.long hx1), .second, .val (.long hx2), .second, .val (.ref b3), .val (.long (if hx1 = 0 ∧ ¬ q4 < 0 then q4 else -1)), .second, .val (.long (0 : Int64)), .second] [(.long (if hx1 = 0 ∧ ¬ q4 < 0 then q4 else -1))])) st21 ?_
          refine Goes.to (T' := T21.setTop (mkF m 158 #[.val (.int p0), .val (.int p1), .val (.long q2), .second, .val (.long q4), .second, .val (.long q6), .second, .val (.long q8), .second, .val (.int ka), .val (.int kb), .val (.int kc), .val (.long hx1), .second, .val (.long hx2), .second, .val (.ref b3), .val (.long (if hx1 = 0 ∧ ¬ q4 < 0 then q4 else -1)), .second, .val (.long (0 : Int64)), .second] [(.long (if hx1 = 0 ∧ ¬ q4 < 0 then q4 else -1)), (.long (if hx1 = 0 ∧ ¬ q4 < 0 then q4 else -1))])) (fun t k => XS.lload X21.here hx rfl (hb hby at_156) rfl k) ?_
          refine Goes.to (T' := T21.setTop (mkF m 159 #[.val (.int p0), .val (.int p1), .val (.long q2), .second, .val (.long q4), .second, .val (.long q6), .second, .val (.long q8), .second, .val (.int ka), .val (.int kb), .val (.int kc), .val (.long hx1), .second, .val (.long hx2), .second, .val (.ref b3), .val (.long (if hx1 = 0 ∧ ¬ q4 < 0 then q4 else -1)), .second, .val (.long (0 : Int64)), .second] [(.int (lcmpW (if hx1 = 0 ∧ ¬ q4 < 0 then q4 else -1) (if hx1 = 0 ∧ ¬ q4 < 0 then q4 else -1)))])) (fun t k => XS.lcmp X21.here hx rfl (hb hby at_158) rfl k) ?_
          have hc159_22 : (if hx1 = 0 ∧ ¬ q4 < 0 then q4 else -1) = (if hx1 = 0 ∧ ¬ q4 < 0 then q4 else -1) := rfl
          refine Goes.to (T' := T21.setTop (mkF m 162 #[.val (.int p0), .val (.int p1), .val (.long q2), .second, .val (.long q4), .second, .val (.long q6), .second, .val (.long q8), .second, .val (.int ka), .val (.int kb), .val (.int kc), .val (.long hx1), .second, .val (.long hx2), .second, .val (.ref b3), .val (.long (if hx1 = 0 ∧ ¬ q4 < 0 then q4 else -1)), .second, .val (.long (0 : Int64)), .second] [])) (fun t k => XS.ifNo X21.here hx rfl (hb hby at_159) rfl ((if0 _ _).trans (teq ((lw_eq (if hx1 = 0 ∧ ¬ q4 < 0 then q4 else -1) (if hx1 = 0 ∧ ¬ q4 < 0 then q4 else -1)).mpr hc159_22)).2) k) ?_
          refine Goes.to (T' := T21.setTop (mkF m 164 #[.val (.int p0), .val (.int p1), .val (.long q2), .second, .val (.long q4), .second, .val (.long q6), .second, .val (.long q8), .second, .val (.int ka), .val (.int kb), .val (.int kc), .val (.long hx1), .second, .val (.long hx2), .second, .val (.ref b3), .val (.long (if hx1 = 0 ∧ ¬ q4 < 0 then q4 else -1)), .second, .val (.long (0 : Int64)), .second] [(.ref b3)])) (fun t k => XS.aload X21.here hx rfl (hb hby at_162) rfl rfl k) ?_
          refine Goes.to (T' := T21.setTop (mkF m 166 #[.val (.int p0), .val (.int p1), .val (.long q2), .second, .val (.long q4), .second, .val (.long q6), .second, .val (.long q8), .second, .val (.int ka), .val (.int kb), .val (.int kc), .val (.long hx1), .second, .val (.long hx2), .second, .val (.ref b3), .val (.long (if hx1 = 0 ∧ ¬ q4 < 0 then q4 else -1)), .second, .val (.long (0 : Int64)), .second] [(.int kb), (.ref b3)])) (fun t k => XS.iload X21.here hx rfl (hb hby at_164) rfl k) ?_
          obtain ⟨cq23, kq23, q23a, q23b, q23c⟩ := isOf hZ e21 E_b3
          obtain ⟨_, _, ⟨T23, L23, k23, n23⟩, -, X23, ⟨Lc23, hQ23, l23, y23, z23⟩, st23⟩ := X21.virtualBack hx (y := (⟨"com/example/suretyline/suretyline/Sums", "units", "(I)J"⟩ : MethodName)) (z := (⟨"com/example/suretyline/suretyline/Sums", "units", "(I)J"⟩ : MethodName)) hown (mvT hZ (hw _ (mi 71 rfl))) (mvT hZ (hw _ (mi 72 rfl))) (notFace_of_selects (args := #[]) (mvT hZ (hw _ (mi 74 rfl)))) (mvT hZ (hw _ (mi 74 rfl))) (mvT hZ (hw _ (mi 73 rfl))) (by decide) (backOf (W := 0) (rmUn l Z a0 hw [] b3 kb w0 k_w0 ff7 gg7 (0 : Int64) T7.heap n0 O7 NF SA7 hkb.1 (by simp [hff4, hgg4, hff5, hgg5, hff6, hgg6, hff7, hgg7, upd, nab, nab.symm, own_nen hka.1 hkc.1 hc101_8, hc121_19])) hZ (hw _ (mi 75 rfl)) (hw _ (mi 2 rfl)) (by decide) (by decide)) q23a q23c (g := (mkF m 166 #[.val (.int p0), .val (.int p1), .val (.long q2), .second, .val (.long q4), .second, .val (.long q6), .second, .val (.long q8), .second, .val (.int ka), .val (.int kb), .val (.int kc), .val (.long hx1), .second, .val (.long hx2), .second, .val (.ref b3), .val (.long (if hx1 = 0 ∧ ¬ q4 < 0 then q4 else -1)), .second, .val (.long (0 : Int64)), .second] [(.int kb), (.ref b3)])) rfl (by rw [hml]; rfl) (Steps.refl _) (argsL := [(.int kb)]) (rest := []) (lenOf pd_152 rfl) rfl (by show 2 * 0 + _ ≤ _; exact Nat.le_of_eq rfl) (hb hby at_166) (fun _ _ => ⟨rfl, e21, (by decide : 5 + 0 ≤ _), (by decide : 99 + 0 ≤ _)⟩)
          dsimp only [Pt.U, Pt.locs, Pt.cells, Pt.slots] at X23 l23 y23 z23 st23 hQ23
          subst l23 y23 z23
          obtain ⟨rfl, Nq23, e23⟩ := hQ23
          have N23 := Fr.app N21 Nq23
          refine Goes.thru (T' := T23.setTop (mkF m 169 #[.val (.int p0), .val (.int p1), .val (.long q2), .second, .val (.long q4), .second, .val (.long q6), .second, .val (.long q8), .second, .val (.int ka), .val (.int kb), .val (.int kc), .val (.long hx1), .second, .val (.long hx2), .second, .val (.ref b3), .val (.long (if hx1 = 0 ∧ ¬ q4 < 0 then q4 else -1)), .second, .val (.long (0 : Int64)), .second] [(.long (0 : Int64))])) st23 ?_
          refine Goes.to (T' := T23.setTop (mkF m 171 #[.val (.int p0), .val (.int p1), .val (.long q2), .second, .val (.long q4), .second, .val (.long q6), .second, .val (.long q8), .second, .val (.int ka), .val (.int kb), .val (.int kc), .val (.long hx1), .second, .val (.long hx2), .second, .val (.ref b3), .val (.long (if hx1 = 0 ∧ ¬ q4 < 0 then q4 else -1)), .second, .val (.long (0 : Int64)), .second] [(.long (0 : Int64)), (.long (0 : Int64))])) (fun t k => XS.lload X23.here hx rfl (hb hby at_169) rfl k) ?_
          refine Goes.to (T' := T23.setTop (mkF m 172 #[.val (.int p0), .val (.int p1), .val (.long q2), .second, .val (.long q4), .second, .val (.long q6), .second, .val (.long q8), .second, .val (.int ka), .val (.int kb), .val (.int kc), .val (.long hx1), .second, .val (.long hx2), .second, .val (.ref b3), .val (.long (if hx1 = 0 ∧ ¬ q4 < 0 then q4 else -1)), .second, .val (.long (0 : Int64)), .second] [(.int (lcmpW (0 : Int64) (0 : Int64)))])) (fun t k => XS.lcmp X23.here hx rfl (hb hby at_171) rfl k) ?_
          refine Goes.to (T' := T23.setTop (mkF m 175 #[.val (.int p0), .val (.int p1), .val (.long q2), .second, .val (.long q4), .second, .val (.long q6), .second, .val (.long q8), .second, .val (.int ka), .val (.int kb), .val (.int kc), .val (.long hx1), .second, .val (.long hx2), .second, .val (.ref b3), .val (.long (if hx1 = 0 ∧ ¬ q4 < 0 then q4 else -1)), .second, .val (.long (0 : Int64)), .second] [])) (fun t k => XS.ifNo X23.here hx rfl (hb hby at_172) rfl ((if0 _ _).trans (teq (by decide)).2) k) ?_
          refine Goes.to (T' := T23.setTop (mkF m 176 #[.val (.int p0), .val (.int p1), .val (.long q2), .second, .val (.long q4), .second, .val (.long q6), .second, .val (.long q8), .second, .val (.int ka), .val (.int kb), .val (.int kc), .val (.long hx1), .second, .val (.long hx2), .second, .val (.ref b3), .val (.long (if hx1 = 0 ∧ ¬ q4 < 0 then q4 else -1)), .second, .val (.long (0 : Int64)), .second] [(.int (1 : Int32))])) (fun t k => XS.iconst X23.here hx rfl (hb hby at_175) k) ?_
          refine Goes.to (T' := T23.setTop (mkF m 180 #[.val (.int p0), .val (.int p1), .val (.long q2), .second, .val (.long q4), .second, .val (.long q6), .second, .val (.long q8), .second, .val (.int ka), .val (.int kb), .val (.int kc), .val (.long hx1), .second, .val (.long hx2), .second, .val (.ref b3), .val (.long (if hx1 = 0 ∧ ¬ q4 < 0 then q4 else -1)), .second, .val (.long (0 : Int64)), .second] [(.int (1 : Int32))])) (fun t k => XS.goto X23.here hx rfl (pc0 := 176) (pc' := 180) rfl (hb hby at_176) (by decide) (by decide) k) ?_
          obtain ⟨fs, hrL, hrun, hended, hW, hsame⟩ := X23.leave (v := some (.int (1 : Int32))) (fun h => by rw [Bd.returns] at h; cases h)
          subst hQf
          refine ⟨_, _, retN X23 hx (t := .boolean) Bd.returns (by simp) (hb hby at_180) hrL, hrun, hended, _, _, rfl, ?_, ⟨_, rfl⟩, hW, hsame.mono (by decide) (by decide)⟩
          show (fun (v : Option Value) (h : Heap) (L : List Loc) => v = some (.int 1) ∧ Fr n0 L) (some (.int (1 : Int32))) T23.heap _
          rw [e23]
          exact ⟨rfl, N23⟩
        · skip
          refine Goes.to (T' := T18.setTop (mkF m 128 #[.val (.int p0), .val (.int p1), .val (.long q2), .second, .val (.long q4), .second, .val (.long q6), .second, .val (.long q8), .second, .val (.int ka), .val (.int kb), .val (.int kc), .val (.long hx1), .second, .val (.long hx2), .second, .val (.ref b3), .val (.long (if hx1 = 0 ∧ ¬ q4 < 0 then q4 else -1)), .second, .unset, .unset] [])) (fun t k => XS.icmpYes X18.here hx rfl (pc0 := 121) (pc' := 128) rfl (hb hby at_121) rfl (feq hc121_19).2 (by decide) (by decide) k) ?_
          refine Goes.to (T' := T18.setTop (mkF m 130 #[.val (.int p0), .val (.int p1), .val (.long q2), .second, .val (.long q4), .second, .val (.long q6), .second, .val (.long q8), .second, .val (.int ka), .val (.int kb), .val (.int kc), .val (.long hx1), .second, .val (.long hx2), .second, .val (.ref b3), .val (.long (if hx1 = 0 ∧ ¬ q4 < 0 then q4 else -1)), .second, .unset, .unset] [(.long hx2)])) (fun t k => XS.lload X18.here hx rfl (hb hby at_128) rfl k) ?_
          refine Goes.to (T' := T18.setTop (mkF m 132 #[.val (.int p0), .val (.int p1), .val (.long q2), .second, .val (.long q4), .second, .val (.long q6), .second, .val (.long q8), .second, .val (.int ka), .val (.int kb), .val (.int kc), .val (.long hx1), .second, .val (.long hx2), .second, .val (.ref b3), .val (.long (if hx1 = 0 ∧ ¬ q4 < 0 then q4 else -1)), .second, .unset, .unset] [(.long q8), (.long hx2)])) (fun t k => XS.lload X18.here hx rfl (hb hby at_130) rfl k) ?_
          obtain ⟨_, _, ⟨T24, L24, k24, n24⟩, -, X24, ⟨Lc24, hQ24, l24, y24, z24⟩, st24⟩ := Jvm.LawKit.callS X18 hx (y := (⟨"com/example/suretyline/suretyline/SumsClearPinLaw", "expect", "(JJ)J"⟩ : MethodName)) hown (mvT hZ (hw _ (mi 66 rfl))) (mvT hZ (hw _ (mi 67 rfl))) (mvT hZ (hw _ (mi 68 rfl))) (mvT hZ (hw _ (mi 69 rfl))) (by decide) (backOf (W := 0) (rmEx l Z a0 hw [] hx2 q8 w0 k_w0 (if hx2 = 0 ∧ ¬ q8 < 0 then q8 else -1) T7.heap n0 O7 NF rfl) hZ (hw _ (mi 69 rfl)) (hw _ (mi 68 rfl)) (by decide) (by decide)) (g := (mkF m 132 #[.val (.int p0), .val (.int p1), .val (.long q2), .second, .val (.long q4), .second, .val (.long q6), .second, .val (.long q8), .second, .val (.int ka), .val (.int kb), .val (.int kc), .val (.long hx1), .second, .val (.long hx2), .second, .val (.ref b3), .val (.long (if hx1 = 0 ∧ ¬ q4 < 0 then q4 else -1)), .second, .unset, .unset] [(.long q8), (.long hx2)])) rfl (by rw [hml]; rfl) (argsL := [(.long hx2), (.long q8)]) (rest := []) (lenOf pd_69 rfl) rfl (by show 2 * 0 + _ ≤ _; exact Nat.le_of_eq rfl) (hb hby at_132) (fun _ _ => ⟨rfl, e18, (by decide : 5 + 0 ≤ _), (by decide : 99 + 0 ≤ _)⟩)
          dsimp only [Pt.U, Pt.locs, Pt.cells, Pt.slots] at X24 l24 y24 z24 st24 hQ24
          subst l24 y24 z24
          obtain ⟨rfl, Nq24, e24⟩ := hQ24
          have N24 := Fr.app N18 Nq24
          refine Goes.to (T' := T24.setTop (mkF m 135 #[.val (.int p0), .val (.int p1), .val (.long q2), .second, .val (.long q4), .second, .val (.long q6), .second, .val (.long q8), .second, .val (.int ka), .val (.int kb), .val (.int kc), .val (.long hx1), .second, .val (.long hx2), .second, .val (.ref b3), .val (.long (if hx1 = 0 ∧ ¬ q4 < 0 then q4 else -1)), .second, .unset, .unset] [(.long (if hx2 = 0 ∧ ¬ q8 < 0 then q8 else -1))])) st24 ?_
          refine Goes.to (T' := T24.setTop (mkF m 137 #[.val (.int p0), .val (.int p1), .val (.long q2), .second, .val (.long q4), .second, .val (.long q6), .second, .val (.long q8), .second, .val (.int ka), .val (.int kb), .val (.int kc), .val (.long hx1), .second, .val (.long hx2), .second, .val (.ref b3), .val (.long (if hx1 = 0 ∧ ¬ q4 < 0 then q4 else -1)), .second, .val (.long (if hx2 = 0 ∧ ¬ q8 < 0 then q8 else -1)), .second] [])) (fun t k => XS.lstore X24.here hx rfl (hb hby at_135) rfl (l' := #[.val (.int p0), .val (.int p1), .val (.long q2), .second, .val (.long q4), .second, .val (.long q6), .second, .val (.long q8), .second, .val (.int ka), .val (.int kb), .val (.int kc), .val (.long hx1), .second, .val (.long hx2), .second, .val (.ref b3), .val (.long (if hx1 = 0 ∧ ¬ q4 < 0 then q4 else -1)), .second, .val (.long (if hx2 = 0 ∧ ¬ q8 < 0 then q8 else -1)), .second]) rfl k) ?_
          refine Goes.to (T' := T24.setTop (mkF m 139 #[.val (.int p0), .val (.int p1), .val (.long q2), .second, .val (.long q4), .second, .val (.long q6), .second, .val (.long q8), .second, .val (.int ka), .val (.int kb), .val (.int kc), .val (.long hx1), .second, .val (.long hx2), .second, .val (.ref b3), .val (.long (if hx1 = 0 ∧ ¬ q4 < 0 then q4 else -1)), .second, .val (.long (if hx2 = 0 ∧ ¬ q8 < 0 then q8 else -1)), .second] [(.ref b3)])) (fun t k => XS.aload X24.here hx rfl (hb hby at_137) rfl rfl k) ?_
          refine Goes.to (T' := T24.setTop (mkF m 141 #[.val (.int p0), .val (.int p1), .val (.long q2), .second, .val (.long q4), .second, .val (.long q6), .second, .val (.long q8), .second, .val (.int ka), .val (.int kb), .val (.int kc), .val (.long hx1), .second, .val (.long hx2), .second, .val (.ref b3), .val (.long (if hx1 = 0 ∧ ¬ q4 < 0 then q4 else -1)), .second, .val (.long (if hx2 = 0 ∧ ¬ q8 < 0 then q8 else -1)), .second] [(.int kc), (.ref b3)])) (fun t k => XS.iload X24.here hx rfl (hb hby at_139) rfl k) ?_
          obtain ⟨cq25, kq25, q25a, q25b, q25c⟩ := isOf hZ e24 E_b3
          obtain ⟨_, _, ⟨T25, L25, k25, n25⟩, -, X25, ⟨Lc25, hQ25, l25, y25, z25⟩, st25⟩ := X24.virtualBack hx (y := (⟨"com/example/suretyline/suretyline/Sums", "units", "(I)J"⟩ : MethodName)) (z := (⟨"com/example/suretyline/suretyline/Sums", "units", "(I)J"⟩ : MethodName)) hown (mvT hZ (hw _ (mi 71 rfl))) (mvT hZ (hw _ (mi 72 rfl))) (notFace_of_selects (args := #[]) (mvT hZ (hw _ (mi 74 rfl)))) (mvT hZ (hw _ (mi 74 rfl))) (mvT hZ (hw _ (mi 73 rfl))) (by decide) (backOf (W := 0) (rmUn l Z a0 hw [] b3 kc w0 k_w0 ff7 gg7 (0 : Int64) T7.heap n0 O7 NF SA7 hkc.1 (by simp [hff4, hgg4, hff5, hgg5, hff6, hgg6, hff7, hgg7, upd, nab, nab.symm, own_nen hka.1 hkc.1 hc101_8, own_nen hkb.1 hkc.1 hc121_19])) hZ (hw _ (mi 75 rfl)) (hw _ (mi 2 rfl)) (by decide) (by decide)) q25a q25c (g := (mkF m 141 #[.val (.int p0), .val (.int p1), .val (.long q2), .second, .val (.long q4), .second, .val (.long q6), .second, .val (.long q8), .second, .val (.int ka), .val (.int kb), .val (.int kc), .val (.long hx1), .second, .val (.long hx2), .second, .val (.ref b3), .val (.long (if hx1 = 0 ∧ ¬ q4 < 0 then q4 else -1)), .second, .val (.long (if hx2 = 0 ∧ ¬ q8 < 0 then q8 else -1)), .second] [(.int kc), (.ref b3)])) rfl (by rw [hml]; rfl) (Steps.refl _) (argsL := [(.int kc)]) (rest := []) (lenOf pd_152 rfl) rfl (by show 2 * 0 + _ ≤ _; exact Nat.le_of_eq rfl) (hb hby at_141) (fun _ _ => ⟨rfl, e24, (by decide : 5 + 0 ≤ _), (by decide : 99 + 0 ≤ _)⟩)
          dsimp only [Pt.U, Pt.locs, Pt.cells, Pt.slots] at X25 l25 y25 z25 st25 hQ25
          subst l25 y25 z25
          obtain ⟨rfl, Nq25, e25⟩ := hQ25
          have N25 := Fr.app N24 Nq25
          refine Goes.thru (T' := T25.setTop (mkF m 144 #[.val (.int p0), .val (.int p1), .val (.long q2), .second, .val (.long q4), .second, .val (.long q6), .second, .val (.long q8), .second, .val (.int ka), .val (.int kb), .val (.int kc), .val (.long hx1), .second, .val (.long hx2), .second, .val (.ref b3), .val (.long (if hx1 = 0 ∧ ¬ q4 < 0 then q4 else -1)), .second, .val (.long (if hx2 = 0 ∧ ¬ q8 < 0 then q8 else -1)), .second] [(.long (0 : Int64))])) st25 ?_
          refine Goes.to (T' := T25.setTop (mkF m 145 #[.val (.int p0), .val (.int p1), .val (.long q2), .second, .val (.long q4), .second, .val (.long q6), .second, .val (.long q8), .second, .val (.int ka), .val (.int kb), .val (.int kc), .val (.long hx1), .second, .val (.long hx2), .second, .val (.ref b3), .val (.long (if hx1 = 0 ∧ ¬ q4 < 0 then q4 else -1)), .second, .val (.long (if hx2 = 0 ∧ ¬ q8 < 0 then q8 else -1)), .second] [(.long (0 : Int64)), (.long (0 : Int64))])) (fun t k => XS.lconst X25.here hx rfl (hb hby at_144) k) ?_
          refine Goes.to (T' := T25.setTop (mkF m 146 #[.val (.int p0), .val (.int p1), .val (.long q2), .second, .val (.long q4), .second, .val (.long q6), .second, .val (.long q8), .second, .val (.int ka), .val (.int kb), .val (.int kc), .val (.long hx1), .second, .val (.long hx2), .second, .val (.ref b3), .val (.long (if hx1 = 0 ∧ ¬ q4 < 0 then q4 else -1)), .second, .val (.long (if hx2 = 0 ∧ ¬ q8 < 0 then q8 else -1)), .second] [(.int (lcmpW (0 : Int64) (0 : Int64)))])) (fun t k => XS.lcmp X25.here hx rfl (hb hby at_145) rfl k) ?_
          refine Goes.to (T' := T25.setTop (mkF m 149 #[.val (.int p0), .val (.int p1), .val (.long q2), .second, .val (.long q4), .second, .val (.long q6), .second, .val (.long q8), .second, .val (.int ka), .val (.int kb), .val (.int kc), .val (.long hx1), .second, .val (.long hx2), .second, .val (.ref b3), .val (.long (if hx1 = 0 ∧ ¬ q4 < 0 then q4 else -1)), .second, .val (.long (if hx2 = 0 ∧ ¬ q8 < 0 then q8 else -1)), .second] [])) (fun t k => XS.ifNo X25.here hx rfl (hb hby at_146) rfl ((if0 _ _).trans (teq (by decide)).2) k) ?_
          refine Goes.to (T' := T25.setTop (mkF m 151 #[.val (.int p0), .val (.int p1), .val (.long q2), .second, .val (.long q4), .second, .val (.long q6), .second, .val (.long q8), .second, .val (.int ka), .val (.int kb), .val (.int kc), .val (.long hx1), .second, .val (.long hx2), .second, .val (.ref b3), .val (.long (if hx1 = 0 ∧ ¬ q4 < 0 then q4 else -1)), .second, .val (.long (if hx2 = 0 ∧ ¬ q8 < 0 then q8 else -1)), .second] [(.ref b3)])) (fun t k => XS.aload X25.here hx rfl (hb hby at_149) rfl rfl k) ?_
          refine Goes.to (T' := T25.setTop (mkF m 153 #[.val (.int p0), .val (.int p1), .val (.long q2), .second, .val (.long q4), .second, .val (.long q6), .second, .val (.long q8), .second, .val (.int ka), .val (.int kb), .val (.int kc), .val (.long hx1), .second, .val (.long hx2), .second, .val (.ref b3), .val (.long (if hx1 = 0 ∧ ¬ q4 < 0 then q4 else -1)), .second, .val (.long (if hx2 = 0 ∧ ¬ q8 < 0 then q8 else -1)), .second] [(.int ka), (.ref b3)])) (fun t k => XS.iload X25.here hx rfl (hb hby at_151) rfl k) ?_
          obtain ⟨cq26, kq26, q26a, q26b, q26c⟩ := isOf hZ e25 E_b3
          obtain ⟨_, _, ⟨T26, L26, k26, n26⟩, -, X26, ⟨Lc26, hQ26, l26, y26, z26⟩, st26⟩ := X25.virtualBack hx (y := (⟨"com/example/suretyline/suretyline/Sums", "units", "(I)J"⟩ : MethodName)) (z := (⟨"com/example/suretyline/suretyline/Sums", "units", "(I)J"⟩ : MethodName)) hown (mvT hZ (hw _ (mi 71 rfl))) (mvT hZ (hw _ (mi 72 rfl))) (notFace_of_selects (args := #[]) (mvT hZ (hw _ (mi 74 rfl)))) (mvT hZ (hw _ (mi 74 rfl))) (mvT hZ (hw _ (mi 73 rfl))) (by decide) (backOf (W := 0) (rmUn l Z a0 hw [] b3 ka w0 k_w0 ff7 gg7 (if hx1 = 0 ∧ ¬ q4 < 0 then q4 else -1) T7.heap n0 O7 NF SA7 hka.1 (by simp [hff4, hgg4, hff5, hgg5, hff6, hgg6, hff7, hgg7, upd, nab, nab.symm, own_nen hka.1 hkc.1 hc101_8, own_nen hkb.1 hkc.1 hc121_19])) hZ (hw _ (mi 75 rfl)) (hw _ (mi 2 rfl)) (by decide) (by decide)) q26a q26c (g := (mkF m 153 #[.val (.int p0), .val (.int p1), .val (.long q2), .second, .val (.long q4), .second, .val (.long q6), .second, .val (.long q8), .second, .val (.int ka), .val (.int kb), .val (.int kc), .val (.long hx1), .second, .val (.long hx2), .second, .val (.ref b3), .val (.long (if hx1 = 0 ∧ ¬ q4 < 0 then q4 else -1)), .second, .val (.long (if hx2 = 0 ∧ ¬ q8 < 0 then q8 else -1)), .second] [(.int ka), (.ref b3)])) rfl (by rw [hml]; rfl) (Steps.refl _) (argsL := [(.int ka)]) (rest := []) (lenOf pd_152 rfl) rfl (by show 2 * 0 + _ ≤ _; exact Nat.le_of_eq rfl) (hb hby at_153) (fun _ _ => ⟨rfl, e25, (by decide : 5 + 0 ≤ _), (by decide : 99 + 0 ≤ _)⟩)
          dsimp only [Pt.U, Pt.locs, Pt.cells, Pt.slots] at X26 l26 y26 z26 st26 hQ26
          subst l26 y26 z26
          obtain ⟨rfl, Nq26, e26⟩ := hQ26
          have N26 := Fr.app N25 Nq26
          refine Goes.thru (T' := T26.setTop (mkF m 156 #[.val (.int p0), .val (.int p1), .val (.long q2), .second, .val (.long q4), .second, .val (.long q6), .second, .val (.long q8), .second, .val (.int ka), .val (.int kb), .val (.int kc), .val (.long hx1), .second, .val (.long hx2), .second, .val (.ref b3), .val (.long (if hx1 = 0 ∧ ¬ q4 < 0 then q4 else -1)), .second, .val (.long (if hx2 = 0 ∧ ¬ q8 < 0 then q8 else -1)), .second] [(.long (if hx1 = 0 ∧ ¬ q4 < 0 then q4 else -1))])) st26 ?_
          refine Goes.to (T' := T26.setTop (mkF m 158 #[.val (.int p0), .val (.int p1), .val (.long q2), .second, .val (.long q4), .second, .val (.long q6), .second, .val (.long q8), .second, .val (.int ka), .val (.int kb), .val (.int kc), .val (.long hx1), .second, .val (.long hx2), .second, .val (.ref b3), .val (.long (if hx1 = 0 ∧ ¬ q4 < 0 then q4 else -1)), .second, .val (.long (if hx2 = 0 ∧ ¬ q8 < 0 then q8 else -1)), .second] [(.long (if hx1 = 0 ∧ ¬ q4 < 0 then q4 else -1)), (.long (if hx1 = 0 ∧ ¬ q4 < 0 then q4 else -1))])) (fun t k => XS.lload X26.here hx rfl (hb hby at_156) rfl k) ?_
          refine Goes.to (T' := T26.setTop (mkF m 159 #[.val (.int p0), .val (.int p1), .val (.long q2), .second, .val (.long q4), .second, .val (.long q6), .second, .val (.long q8), .second, .val (.int ka), .val (.int kb), .val (.int kc), .val (.long hx1), .second, .val (.long hx2), .second, .val (.ref b3), .val (.long (if hx1 = 0 ∧ ¬ q4 < 0 then q4 else -1)), .second, .val (.long (if hx2 = 0 ∧ ¬ q8 < 0 then q8 else -1)), .second] [(.int (lcmpW (if hx1 = 0 ∧ ¬ q4 < 0 then q4 else -1) (if hx1 = 0 ∧ ¬ q4 < 0 then q4 else -1)))])) (fun t k => XS.lcmp X26.here hx rfl (hb hby at_158) rfl k) ?_
          have hc159_27 : (if hx1 = 0 ∧ ¬ q4 < 0 then q4 else -1) = (if hx1 = 0 ∧ ¬ q4 < 0 then q4 else -1) := rfl
          refine Goes.to (T' := T26.setTop (mkF m 162 #[.val (.int p0), .val (.int p1), .val (.long q2), .second, .val (.long q4), .second, .val (.long q6), .second, .val (.long q8), .second, .val (.int ka), .val (.int kb), .val (.int kc), .val (.long hx1), .second, .val (.long hx2), .second, .val (.ref b3), .val (.long (if hx1 = 0 ∧ ¬ q4 < 0 then q4 else -1)), .second, .val (.long (if hx2 = 0 ∧ ¬ q8 < 0 then q8 else -1)), .second] [])) (fun t k => XS.ifNo X26.here hx rfl (hb hby at_159) rfl ((if0 _ _).trans (teq ((lw_eq (if hx1 = 0 ∧ ¬ q4 < 0 then q4 else -1) (if hx1 = 0 ∧ ¬ q4 < 0 then q4 else -1)).mpr hc159_27)).2) k) ?_
          refine Goes.to (T' := T26.setTop (mkF m 164 #[.val (.int p0), .val (.int p1), .val (.long q2), .second, .val (.long q4), .second, .val (.long q6), .second, .val (.long q8), .second, .val (.int ka), .val (.int kb), .val (.int kc), .val (.long hx1), .second, .val (.long hx2), .second, .val (.ref b3), .val (.long (if hx1 = 0 ∧ ¬ q4 < 0 then q4 else -1)), .second, .val (.long (if hx2 = 0 ∧ ¬ q8 < 0 then q8 else -1)), .second] [(.ref b3)])) (fun t k => XS.aload X26.here hx rfl (hb hby at_162) rfl rfl k) ?_
          refine Goes.to (T' := T26.setTop (mkF m 166 #[.val (.int p0), .val (.int p1), .val (.long q2), .second, .val (.long q4), .second, .val (.long q6), .second, .val (.long q8), .second, .val (.int ka), .val (.int kb), .val (.int kc), .val (.long hx1), .second, .val (.long hx2), .second, .val (.ref b3), .val (.long (if hx1 = 0 ∧ ¬ q4 < 0 then q4 else -1)), .second, .val (.long (if hx2 = 0 ∧ ¬ q8 < 0 then q8 else -1)), .second] [(.int kb), (.ref b3)])) (fun t k => XS.iload X26.here hx rfl (hb hby at_164) rfl k) ?_
          obtain ⟨cq28, kq28, q28a, q28b, q28c⟩ := isOf hZ e26 E_b3
          obtain ⟨_, _, ⟨T28, L28, k28, n28⟩, -, X28, ⟨Lc28, hQ28, l28, y28, z28⟩, st28⟩ := X26.virtualBack hx (y := (⟨"com/example/suretyline/suretyline/Sums", "units", "(I)J"⟩ : MethodName)) (z := (⟨"com/example/suretyline/suretyline/Sums", "units", "(I)J"⟩ : MethodName)) hown (mvT hZ (hw _ (mi 71 rfl))) (mvT hZ (hw _ (mi 72 rfl))) (notFace_of_selects (args := #[]) (mvT hZ (hw _ (mi 74 rfl)))) (mvT hZ (hw _ (mi 74 rfl))) (mvT hZ (hw _ (mi 73 rfl))) (by decide) (backOf (W := 0) (rmUn l Z a0 hw [] b3 kb w0 k_w0 ff7 gg7 (if hx2 = 0 ∧ ¬ q8 < 0 then q8 else -1) T7.heap n0 O7 NF SA7 hkb.1 (by simp [hff4, hgg4, hff5, hgg5, hff6, hgg6, hff7, hgg7, upd, nab, nab.symm, own_nen hka.1 hkc.1 hc101_8, own_nen hkb.1 hkc.1 hc121_19])) hZ (hw _ (mi 75 rfl)) (hw _ (mi 2 rfl)) (by decide) (by decide)) q28a q28c (g := (mkF m 166 #[.val (.int p0), .val (.int p1), .val (.long q2), .second, .val (.long q4), .second, .val (.long q6), .second, .val (.long q8), .second, .val (.int ka), .val (.int kb), .val (.int kc), .val (.long hx1), .second, .val (.long hx2), .second, .val (.ref b3), .val (.long (if hx1 = 0 ∧ ¬ q4 < 0 then q4 else -1)), .second, .val (.long (if hx2 = 0 ∧ ¬ q8 < 0 then q8 else -1)), .second] [(.int kb), (.ref b3)])) rfl (by rw [hml]; rfl) (Steps.refl _) (argsL := [(.int kb)]) (rest := []) (lenOf pd_152 rfl) rfl (by show 2 * 0 + _ ≤ _; exact Nat.le_of_eq rfl) (hb hby at_166) (fun _ _ => ⟨rfl, e26, (by decide : 5 + 0 ≤ _), (by decide : 99 + 0 ≤ _)⟩)
          dsimp only [Pt.U, Pt.locs, Pt.cells, Pt.slots] at X28 l28 y28 z28 st28 hQ28
          subst l28 y28 z28
          obtain ⟨rfl, Nq28, e28⟩ := hQ28
          have N28 := Fr.app N26 Nq28
          refine Goes.thru (T' := T28.setTop (mkF m 169 #[.val (.int p0), .val (.int p1), .val (.long q2), .second, .val (.long q4), .second, .val (.long q6), .second, .val (.long q8), .second, .val (.int ka), .val (.int kb), .val (.int kc), .val (.long hx1), .second, .val (.long hx2), .second, .val (.ref b3), .val (.long (if hx1 = 0 ∧ ¬ q4 < 0 then q4 else -1)), .second, .val (.long (if hx2 = 0 ∧ ¬ q8 < 0 then q8 else -1)), .second] [(.long (if hx2 = 0 ∧ ¬ q8 < 0 then q8 else -1))])) st28 ?_
          refine Goes.to (T' := T28.setTop (mkF m 171 #[.val (.int p0), .val (.int p1), .val (.long q2), .second, .val (.long q4), .second, .val (.long q6), .second, .val (.long q8), .second, .val (.int ka), .val (.int kb), .val (.int kc), .val (.long hx1), .second, .val (.long hx2), .second, .val (.ref b3), .val (.long (if hx1 = 0 ∧ ¬ q4 < 0 then q4 else -1)), .second, .val (.long (if hx2 = 0 ∧ ¬ q8 < 0 then q8 else -1)), .second] [(.long (if hx2 = 0 ∧ ¬ q8 < 0 then q8 else -1)), (.long (if hx2 = 0 ∧ ¬ q8 < 0 then q8 else -1))])) (fun t k => XS.lload X28.here hx rfl (hb hby at_169) rfl k) ?_
          refine Goes.to (T' := T28.setTop (mkF m 172 #[.val (.int p0), .val (.int p1), .val (.long q2), .second, .val (.long q4), .second, .val (.long q6), .second, .val (.long q8), .second, .val (.int ka), .val (.int kb), .val (.int kc), .val (.long hx1), .second, .val (.long hx2), .second, .val (.ref b3), .val (.long (if hx1 = 0 ∧ ¬ q4 < 0 then q4 else -1)), .second, .val (.long (if hx2 = 0 ∧ ¬ q8 < 0 then q8 else -1)), .second] [(.int (lcmpW (if hx2 = 0 ∧ ¬ q8 < 0 then q8 else -1) (if hx2 = 0 ∧ ¬ q8 < 0 then q8 else -1)))])) (fun t k => XS.lcmp X28.here hx rfl (hb hby at_171) rfl k) ?_
          have hc172_29 : (if hx2 = 0 ∧ ¬ q8 < 0 then q8 else -1) = (if hx2 = 0 ∧ ¬ q8 < 0 then q8 else -1) := rfl
          refine Goes.to (T' := T28.setTop (mkF m 175 #[.val (.int p0), .val (.int p1), .val (.long q2), .second, .val (.long q4), .second, .val (.long q6), .second, .val (.long q8), .second, .val (.int ka), .val (.int kb), .val (.int kc), .val (.long hx1), .second, .val (.long hx2), .second, .val (.ref b3), .val (.long (if hx1 = 0 ∧ ¬ q4 < 0 then q4 else -1)), .second, .val (.long (if hx2 = 0 ∧ ¬ q8 < 0 then q8 else -1)), .second] [])) (fun t k => XS.ifNo X28.here hx rfl (hb hby at_172) rfl ((if0 _ _).trans (teq ((lw_eq (if hx2 = 0 ∧ ¬ q8 < 0 then q8 else -1) (if hx2 = 0 ∧ ¬ q8 < 0 then q8 else -1)).mpr hc172_29)).2) k) ?_
          refine Goes.to (T' := T28.setTop (mkF m 176 #[.val (.int p0), .val (.int p1), .val (.long q2), .second, .val (.long q4), .second, .val (.long q6), .second, .val (.long q8), .second, .val (.int ka), .val (.int kb), .val (.int kc), .val (.long hx1), .second, .val (.long hx2), .second, .val (.ref b3), .val (.long (if hx1 = 0 ∧ ¬ q4 < 0 then q4 else -1)), .second, .val (.long (if hx2 = 0 ∧ ¬ q8 < 0 then q8 else -1)), .second] [(.int (1 : Int32))])) (fun t k => XS.iconst X28.here hx rfl (hb hby at_175) k) ?_
          refine Goes.to (T' := T28.setTop (mkF m 180 #[.val (.int p0), .val (.int p1), .val (.long q2), .second, .val (.long q4), .second, .val (.long q6), .second, .val (.long q8), .second, .val (.int ka), .val (.int kb), .val (.int kc), .val (.long hx1), .second, .val (.long hx2), .second, .val (.ref b3), .val (.long (if hx1 = 0 ∧ ¬ q4 < 0 then q4 else -1)), .second, .val (.long (if hx2 = 0 ∧ ¬ q8 < 0 then q8 else -1)), .second] [(.int (1 : Int32))])) (fun t k => XS.goto X28.here hx rfl (pc0 := 176) (pc' := 180) rfl (hb hby at_176) (by decide) (by decide) k) ?_
          obtain ⟨fs, hrL, hrun, hended, hW, hsame⟩ := X28.leave (v := some (.int (1 : Int32))) (fun h => by rw [Bd.returns] at h; cases h)
          subst hQf
          refine ⟨_, _, retN X28 hx (t := .boolean) Bd.returns (by simp) (hb hby at_180) hrL, hrun, hended, _, _, rfl, ?_, ⟨_, rfl⟩, hW, hsame.mono (by decide) (by decide)⟩
          show (fun (v : Option Value) (h : Heap) (L : List Loc) => v = some (.int 1) ∧ Fr n0 L) (some (.int (1 : Int32))) T28.heap _
          rw [e28]
          exact ⟨rfl, N28⟩
    refine Goes.to (T' := TJ1.setTop (mkF m 43 #[.val (.int p0), .val (.int p1), .val (.long q2), .second, .val (.long q4), .second, .val (.long q6), .second, .val (.long q8), .second, .val (.int ka), .val (.int kb), .val (.int kc), .val (.long hx1), .second, .unset, .unset, .unset, .unset, .unset, .unset, .unset] [(.int p1)])) (fun t k => XS.iloadN XJ1.here hx rfl (hb hby at_42) rfl k) ?_
    refine Goes.to (T' := TJ1.setTop (mkF m 44 #[.val (.int p0), .val (.int p1), .val (.long q2), .second, .val (.long q4), .second, .val (.long q6), .second, .val (.long q8), .second, .val (.int ka), .val (.int kb), .val (.int kc), .val (.long hx1), .second, .unset, .unset, .unset, .unset, .unset, .unset, .unset] [(.int (2 : Int32)), (.int p1)])) (fun t k => XS.iconst XJ1.here hx rfl (hb hby at_43) k) ?_
    refine Goes.to (T' := TJ1.setTop (mkF m 45 #[.val (.int p0), .val (.int p1), .val (.long q2), .second, .val (.long q4), .second, .val (.long q6), .second, .val (.long q8), .second, .val (.int ka), .val (.int kb), .val (.int kc), .val (.long hx1), .second, .unset, .unset, .unset, .unset, .unset, .unset, .unset] [(.int (p1 &&& (2 : Int32)))])) (fun t k => XS.iand XJ1.here hx rfl (hb hby at_44) rfl k) ?_
    rcases Decidable.em ((p1 &&& (2 : Int32)) = (0 : Int32)) with hc45_30 | hc45_30
    · skip
      refine Goes.to (T' := TJ1.setTop (mkF m 53 #[.val (.int p0), .val (.int p1), .val (.long q2), .second, .val (.long q4), .second, .val (.long q6), .second, .val (.long q8), .second, .val (.int ka), .val (.int kb), .val (.int kc), .val (.long hx1), .second, .unset, .unset, .unset, .unset, .unset, .unset, .unset] [])) (fun t k => XS.ifYes XJ1.here hx rfl (pc0 := 45) (pc' := 53) rfl (hb hby at_45) rfl ((if0 _ _).trans (teq hc45_30).1) (by decide) (by decide) k) ?_
      refine Goes.to (T' := TJ1.setTop (mkF m 54 #[.val (.int p0), .val (.int p1), .val (.long q2), .second, .val (.long q4), .second, .val (.long q6), .second, .val (.long q8), .second, .val (.int ka), .val (.int kb), .val (.int kc), .val (.long hx1), .second, .unset, .unset, .unset, .unset, .unset, .unset, .unset] [(.long (0 : Int64))])) (fun t k => XS.lconst XJ1.here hx rfl (hb hby at_53) k) ?_
      exact J54 _ _ (0 : Int64) XJ1 eJ1 NJ1 
    · skip
      refine Goes.to (T' := TJ1.setTop (mkF m 48 #[.val (.int p0), .val (.int p1), .val (.long q2), .second, .val (.long q4), .second, .val (.long q6), .second, .val (.long q8), .second, .val (.int ka), .val (.int kb), .val (.int kc), .val (.long hx1), .second, .unset, .unset, .unset, .unset, .unset, .unset, .unset] [])) (fun t k => XS.ifNo XJ1.here hx rfl (hb hby at_45) rfl ((if0 _ _).trans (feq hc45_30).1) k) ?_
      refine Goes.to (T' := TJ1.setTop (mkF m 50 #[.val (.int p0), .val (.int p1), .val (.long q2), .second, .val (.long q4), .second, .val (.long q6), .second, .val (.long q8), .second, .val (.int ka), .val (.int kb), .val (.int kc), .val (.long hx1), .second, .unset, .unset, .unset, .unset, .unset, .unset, .unset] [(.long q6)])) (fun t k => XS.lload XJ1.here hx rfl (hb hby at_48) rfl k) ?_
      refine Goes.to (T' := TJ1.setTop (mkF m 54 #[.val (.int p0), .val (.int p1), .val (.long q2), .second, .val (.long q4), .second, .val (.long q6), .second, .val (.long q8), .second, .val (.int ka), .val (.int kb), .val (.int kc), .val (.long hx1), .second, .unset, .unset, .unset, .unset, .unset, .unset, .unset] [(.long q6)])) (fun t k => XS.goto XJ1.here hx rfl (pc0 := 50) (pc' := 54) rfl (hb hby at_50) (by decide) (by decide) k) ?_
      exact J54 _ _ q6 XJ1 eJ1 NJ1 
  refine Goes.to (T' := s₁.setTop (mkF m 30 #[.val (.int p0), .val (.int p1), .val (.long q2), .second, .val (.long q4), .second, .val (.long q6), .second, .val (.long q8), .second, .val (.int ka), .val (.int kb), .val (.int kc), .unset, .unset, .unset, .unset, .unset, .unset, .unset, .unset, .unset] [(.int p1)])) (fun t k => XS.iloadN X0.here hx rfl (hb hby at_29) rfl k) ?_
  refine Goes.to (T' := s₁.setTop (mkF m 31 #[.val (.int p0), .val (.int p1), .val (.long q2), .second, .val (.long q4), .second, .val (.long q6), .second, .val (.long q8), .second, .val (.int ka), .val (.int kb), .val (.int kc), .unset, .unset, .unset, .unset, .unset, .unset, .unset, .unset, .unset] [(.int (1 : Int32)), (.int p1)])) (fun t k => XS.iconst X0.here hx rfl (hb hby at_30) k) ?_
  refine Goes.to (T' := s₁.setTop (mkF m 32 #[.val (.int p0), .val (.int p1), .val (.long q2), .second, .val (.long q4), .second, .val (.long q6), .second, .val (.long q8), .second, .val (.int ka), .val (.int kb), .val (.int kc), .unset, .unset, .unset, .unset, .unset, .unset, .unset, .unset, .unset] [(.int (p1 &&& (1 : Int32)))])) (fun t k => XS.iand X0.here hx rfl (hb hby at_31) rfl k) ?_
  rcases Decidable.em ((p1 &&& (1 : Int32)) = (0 : Int32)) with hc32_31 | hc32_31
  · skip
    refine Goes.to (T' := s₁.setTop (mkF m 39 #[.val (.int p0), .val (.int p1), .val (.long q2), .second, .val (.long q4), .second, .val (.long q6), .second, .val (.long q8), .second, .val (.int ka), .val (.int kb), .val (.int kc), .unset, .unset, .unset, .unset, .unset, .unset, .unset, .unset, .unset] [])) (fun t k => XS.ifYes X0.here hx rfl (pc0 := 32) (pc' := 39) rfl (hb hby at_32) rfl ((if0 _ _).trans (teq hc32_31).1) (by decide) (by decide) k) ?_
    refine Goes.to (T' := s₁.setTop (mkF m 40 #[.val (.int p0), .val (.int p1), .val (.long q2), .second, .val (.long q4), .second, .val (.long q6), .second, .val (.long q8), .second, .val (.int ka), .val (.int kb), .val (.int kc), .unset, .unset, .unset, .unset, .unset, .unset, .unset, .unset, .unset] [(.long (0 : Int64))])) (fun t k => XS.lconst X0.here hx rfl (hb hby at_39) k) ?_
    exact J40 _ _ (0 : Int64) X0 e0 N0 
  · skip
    refine Goes.to (T' := s₁.setTop (mkF m 35 #[.val (.int p0), .val (.int p1), .val (.long q2), .second, .val (.long q4), .second, .val (.long q6), .second, .val (.long q8), .second, .val (.int ka), .val (.int kb), .val (.int kc), .unset, .unset, .unset, .unset, .unset, .unset, .unset, .unset, .unset] [])) (fun t k => XS.ifNo X0.here hx rfl (hb hby at_32) rfl ((if0 _ _).trans (feq hc32_31).1) k) ?_
    refine Goes.to (T' := s₁.setTop (mkF m 36 #[.val (.int p0), .val (.int p1), .val (.long q2), .second, .val (.long q4), .second, .val (.long q6), .second, .val (.long q8), .second, .val (.int ka), .val (.int kb), .val (.int kc), .unset, .unset, .unset, .unset, .unset, .unset, .unset, .unset, .unset] [(.long q2)])) (fun t k => XS.lloadN X0.here hx rfl (hb hby at_35) rfl k) ?_
    refine Goes.to (T' := s₁.setTop (mkF m 40 #[.val (.int p0), .val (.int p1), .val (.long q2), .second, .val (.long q4), .second, .val (.long q6), .second, .val (.long q8), .second, .val (.int ka), .val (.int kb), .val (.int kc), .unset, .unset, .unset, .unset, .unset, .unset, .unset, .unset, .unset] [(.long q2)])) (fun t k => XS.goto X0.here hx rfl (pc0 := 36) (pc' := 40) rfl (hb hby at_36) (by decide) (by decide) k) ?_
    exact J40 _ _ q2 X0 e0 N0 
set_option maxRecDepth 65536 in
set_option maxHeartbeats 40000000 in
theorem comes_1 {Post : Tables → Env → Array Value → State → Outcome → State → Prop} (hpost : ∀ tb e args s v u, (limb_1_1.after args s (.returned v) u = true ∧ limb_1_2.after args s (.returned v) u = true ∧ True) → FrameEnd s (.returned v) u (Jvm.fieldLocs frame_1_writes args s ++ Jvm.arrayLocs frame_1_arrays args s ++ Jvm.staticLocs frame_1_statics s) 24 192 → Post tb e args s (.returned v) u) :
    ArmFor flags0 classFile x code maxLocals ret World_1 tables_1 room_1 Calls_1 rest_1 Pre_1 Post := by
  intro l hfl _ _ p e ha hc hk s m args below hf hA hF happ hP
  obtain ⟨hcalls, hrest, hpre⟩ := hP
  obtain ⟨-, -, -, hnamed, -, -, -, hat⟩ := (Spec.applies_iff hf).mp happ
  obtain ⟨hg, hn⟩ := and_e (Cond.before_iff.mp (show (Jvm.Cond.and given_1 narrow_1).before args s = true from hpre))
  obtain ⟨gc, gr0⟩ := and_e hg
  obtain ⟨w0, w1, w2, w3, w4, w5, rfl⟩ : ∃ w0 w1 w2 w3 w4 w5 : Value, args = #[w0, w1, w2, w3, w4, w5] := by
    have hs : args.size = 6 := by simpa [Cond.value, given_1] using gc
    obtain ⟨L⟩ := args
    match L, hs with
    | [w0, w1, w2, w3, w4, w5], _ => exact ⟨w0, w1, w2, w3, w4, w5, rfl⟩
  have hw := fun d (hd : d ∈ tables_1) => atoms_spec (ws := Jvm.Cond.code x code maxLocals ret :: tables_1) hat d (List.mem_cons_of_mem _ hd)
  have hfit : Fit s := fun {y c} hc i hi => by
    obtain ⟨ha, rfl⟩ := Array.getElem?_eq_some_iff.mp hc
    have q := List.all_eq_true.mp ((Array.all_eq_true_iff_forall_mem.mp hF) _ (Array.getElem_mem ha)) i (List.mem_range.mpr hi)
    simpa [Array.getElem?_eq_getElem hi] using q
  obtain ⟨gv0, gr1⟩ := and_e gr0
  obtain ⟨i0, ei0⟩ := is_v gv0
  obtain rfl : w0 = (.int i0) := Option.some.inj ei0
  obtain ⟨gv1, gr2⟩ := and_e gr1
  obtain ⟨i1, ei1⟩ := is_v gv1
  obtain rfl : w1 = (.int i1) := Option.some.inj ei1
  obtain ⟨gv2, gr3⟩ := and_e gr2
  obtain ⟨i2, ei2⟩ := isL_v gv2
  obtain rfl : w2 = (.long i2) := Option.some.inj ei2
  obtain ⟨gv3, gr4⟩ := and_e gr3
  obtain ⟨i3, ei3⟩ := isL_v gv3
  obtain rfl : w3 = (.long i3) := Option.some.inj ei3
  obtain ⟨gv4, gr5⟩ := and_e gr4
  obtain ⟨i4, ei4⟩ := isL_v gv4
  obtain rfl : w4 = (.long i4) := Option.some.inj ei4
  obtain ⟨i5, ei5⟩ := isL_v gr5
  obtain rfl : w5 = (.long i5) := Option.some.inj ei5
  obtain ⟨nl1, nr1⟩ := and_e hn
  obtain ⟨nl2, nr2⟩ := and_e nr1
  obtain ⟨w0, ev_w0⟩ := arr_v nl1
  have S_w0 : Sta s s.heap "com/example/suretyline/suretyline/Sums" "NONE" "[J" (.ref w0) := Sta.start ev_w0 (Or.inr ⟨(hw _ (mi 2 rfl)), (hw _ (mi 10 rfl))⟩)
  have E_w0 : Exa s s.heap w0 "[J" := Exa.start ev_w0 nl2
  obtain ⟨cl_w0, A_w0⟩ := Arr.start ev_w0 nl1
  have len_w0 := own_len ev_w0 A_w0 nr2
  obtain ⟨k_w0, ek_w0⟩ : ∃ z, z = cl_w0.cls := ⟨_, rfl⟩
  have V_w0 : Arv s s.heap w0 k_w0 .long (0 : Int32) [] (.long (0 : Int64)) := ek_w0 ▸ Arv.start hfit A_w0 len_w0.1 len_w0.2 (by decide) rfl trivial
  obtain ⟨n, o, h1, h2, h3, _, L, rfl, ⟨rfl, N⟩, hq⟩ := rm0 l s _ hw tables_1 i0 i1 i2 i3 i4 i5 w0 k_w0 s.heap s.heap.size (Old.start s) ⟨S_w0, E_w0, V_w0⟩ p e ha hc hk s m _ below hf ((Spec.applies_iff_loose hf).mp happ).1 ⟨rfl, State.Warmed39.refl s, rfl⟩ trivial
  refine ⟨n, _, h1, h2, h3, hpost _ _ _ _ _ _ ⟨Cond.after_iff.mpr rfl, Cond.after_iff.mpr (eq_i res_at (Term.int_eval (1)) rfl), trivial⟩ ⟨hq.1, hq.2.1, (hq.2.2.sift fun y hy => Or.inr (N y hy)).mono (by decide) (by decide)⟩⟩
theorem main_1_1 : Claimed_1_1 := comes_1 fun _ _ _ _ _ _ h hF => ⟨h.1, hF⟩
theorem main_1_2 : Claimed_1_2 := comes_1 fun _ _ _ _ _ _ h hF => ⟨h.2.1, hF⟩
end Jvm.Pilot.@@N@@
namespace Jvm.Pilot.@@N@@
open Jvm Jvm.ClassFile Sem Op Lib Jvm.Free Jvm.Stand Jvm.Pilot.@@N@@.Jvm.D
/-! MADE BY PROGRAM (witnessworld.py) out of the Statement's table words and the real class files: 19 classes; the members and pool entries that the words name. The judged class is class 1, her method 2. -/
namespace start1
open Jvm.ClassFile
def u (s : String) : CpInfo := .utf8 (stringToUtf16 s)
/-- a pool by its gaps: so many unusable entries, then the entry; so many at the end -/
def gap : Nat → List CpInfo → List CpInfo
  | 0, r => r
  | n + 1, r => .unusable :: gap n r
def poolList (es : List (Nat × CpInfo)) (last : Nat) : List CpInfo := es.foldr (fun e r => gap e.1 (e.2 :: r)) (gap last [])
def pool (es : List (Nat × CpInfo)) (last : Nat) : Array CpInfo := ⟨poolList es last⟩
def fileOf (pool : Array CpInfo) (this : Nat) (attrs : Array Attribute := #[]) (ms : Array MethodInfo := #[]) (fl : Nat := 33) (sup : Nat := 0) (ifs : Array Nat := #[]) (fds : Array FieldInfo := #[]) : ClassFile where
  minorVersion := 0
  majorVersion := 65
  constantPool := pool
  accessFlags := fl
  thisClass := this
  superClass := sup
  interfaces := ifs
  fields := fds
  methods := ms
  attributes := attrs
def plain (name : String) (sup : Option ClassId) : Class where
  name := name
  kind := .ordinary
  loader := none
  accessFlags := 33
  super := sup
  interfaces := #[]
  cf := none
  fields := #[]
  methods := #[]
  instanceTypes := #[]
  staticTypes := #[]
  resolved := #[]
  callSites := []
  init := .initialized
  statics := none
  mirror := none

def pool0 : Array CpInfo := pool [(5, u "<init>"), (0, u "()V"), (1, .class_ 10), (1, u "java/lang/Object")] 113

def k0c0 : Code := { maxStack := 0, maxLocals := 1, code := object_method_1_code, exceptionTable := #[], attributes := #[] }
def k0m0 : Method := { name := "<init>", desc := "()V", sig := { parameters := [], returnType := none }, accessFlags := 1, code := some k0c0 }
/-- java/lang/Object -/
def k0 : Class := { plain "java/lang/Object" none with
  accessFlags := 33
  interfaces := #[]
  cf := some (fileOf pool0 8 #[] #[{ accessFlags := 1, nameIndex := 5, descriptorIndex := 6, attributes := #[] }] 33 0 #[] #[])
  fields := #[]
  methods := #[k0m0]
  instanceTypes := #[]
  staticTypes := #[]
  resolved := Array.replicate 124 none
  statics := none }

def pool1 : Array CpInfo := pool [(2, .class_ 4), (1, u "java/lang/Object"), (0, u "<init>"), (0, u "()V"), (0, .long 18446744073709551615), (1, .class_ 10), (0, u "com/example/suretyline/suretyline/Sums"), (0, .methodref 9 12), (0, .nameAndType 5 13), (0, u "(I)V"), (0, .methodref 9 15), (0, .nameAndType 16 17), (0, u "add"), (0, u "(IJJJ)V"), (0, .methodref 9 19), (0, .nameAndType 20 13), (0, u "clear"), (0, .methodref 22 23), (0, .class_ 24), (0, .nameAndType 25 26), (0, u "com/example/suretyline/suretyline/SumsClearPinLaw"), (0, u "expect"), (0, u "(JJ)J"), (0, .methodref 9 28), (0, .nameAndType 29 30), (0, u "units"), (0, u "(I)J"), (3, u "law"), (0, u "(IIJJJJ)Z")] 2

def k1m0 : Method := { name := "<init>", desc := "()V", sig := { parameters := [], returnType := none }, accessFlags := 2, code := none }
def k1c1 : Code := { maxStack := 4, maxLocals := 4, code := method_2_code, exceptionTable := #[], attributes := #[] }
def k1m1 : Method := { name := "expect", desc := "(JJ)J", sig := { parameters := [.long, .long], returnType := some .long }, accessFlags := 10, code := some k1c1 }
def k1c2 : Code := { maxStack := 8, maxLocals := 22, code := code, exceptionTable := #[], attributes := #[] }
def k1m2 : Method := { name := "law", desc := "(IIJJJJ)Z", sig := { parameters := [.int, .int, .long, .long, .long, .long], returnType := some .boolean }, accessFlags := 9, code := some k1c2 }
/-- com/example/suretyline/suretyline/SumsClearPinLaw -/
def k1 : Class := { plain "com/example/suretyline/suretyline/SumsClearPinLaw" (some 0) with
  accessFlags := 49
  interfaces := #[]
  cf := some (fileOf pool1 22 #[] #[{ accessFlags := 2, nameIndex := 5, descriptorIndex := 6, attributes := #[] }, { accessFlags := 10, nameIndex := 25, descriptorIndex := 26, attributes := #[] }, { accessFlags := 9, nameIndex := 34, descriptorIndex := 35, attributes := #[] }] 49 2 #[] #[])
  fields := #[]
  methods := #[k1m0, k1m1, k1m2]
  instanceTypes := #[]
  staticTypes := #[]
  resolved := Array.replicate 38 none
  statics := none }

def pool2 : Array CpInfo := pool [(1, .methodref 2 3), (0, .class_ 4), (0, .nameAndType 5 6), (0, u "java/lang/Object"), (0, u "<init>"), (0, u "()V"), (0, .fieldref 8 9), (0, .class_ 10), (0, .nameAndType 11 12), (0, u "com/example/suretyline/suretyline/Sums"), (0, u "NONE"), (0, u "[J"), (0, .fieldref 8 14), (0, .nameAndType 15 12), (0, u "lows"), (0, .fieldref 8 17), (0, .nameAndType 18 12), (0, u "highs"), (0, .fieldref 8 20), (0, .nameAndType 21 22), (0, u "scale"), (0, u "I"), (0, .methodref 8 24), (0, .nameAndType 25 26), (0, u "high"), (0, u "(I)J"), (0, .methodref 8 28), (0, .nameAndType 29 26), (0, u "low"), (2, u "add"), (0, u "(IJJJ)V"), (2, u "units"), (20, u "TWO_TO_64"), (0, u "Ljava/math/BigInteger;"), (6, .long 18446744073709551615), (21, .methodref 88 89), (0, .class_ 90), (0, .nameAndType 91 92), (0, u "java/lang/Math"), (0, u "max"), (0, u "(II)I"), (0, .methodref 94 95), (0, .class_ 96), (0, .nameAndType 97 98), (0, u "java/util/Arrays"), (0, u "copyOf"), (0, u "([JI)[J"), (0, .methodref 8 100), (0, .nameAndType 101 102), (0, u "unsignedMultiplyHigh"), (0, u "(JJ)J"), (0, .methodref 104 105), (0, .class_ 106), (0, .nameAndType 107 108), (0, u "java/lang/Long"), (0, u "compareUnsigned"), (0, u "(JJ)I"), (7, .methodref 8 117), (0, .nameAndType 118 119), (0, u "ensureHighs"), (0, u "(I)V"), (0, .methodref 88 121), (0, .nameAndType 122 102), (0, u "multiplyHigh"), (9, u "clear")] 3

def k2c0 : Code := { maxStack := 2, maxLocals := 2, code := prog_38_method_1_code, exceptionTable := #[], attributes := #[] }
def k2m0 : Method := { name := "<init>", desc := "(I)V", sig := { parameters := [.int], returnType := none }, accessFlags := 0, code := some k2c0 }
def k2c1 : Code := { maxStack := 4, maxLocals := 2, code := prog_38_method_4_code, exceptionTable := #[], attributes := #[] }
def k2m1 : Method := { name := "units", desc := "(I)J", sig := { parameters := [.int], returnType := some .long }, accessFlags := 0, code := some k2c1 }
def k2c2 : Code := { maxStack := 4, maxLocals := 2, code := prog_38_method_6_code, exceptionTable := #[], attributes := #[] }
def k2m2 : Method := { name := "clear", desc := "(I)V", sig := { parameters := [.int], returnType := none }, accessFlags := 0, code := some k2c2 }
def k2c3 : Code := { maxStack := 6, maxLocals := 21, code := prog_38_method_7_code, exceptionTable := #[], attributes := #[] }
def k2m3 : Method := { name := "add", desc := "(IJJJ)V", sig := { parameters := [.int, .long, .long, .long], returnType := none }, accessFlags := 0, code := some k2c3 }
def k2c4 : Code := { maxStack := 6, maxLocals := 4, code := prog_38_method_8_code, exceptionTable := #[], attributes := #[] }
def k2m4 : Method := { name := "unsignedMultiplyHigh", desc := "(JJ)J", sig := { parameters := [.long, .long], returnType := some .long }, accessFlags := 10, code := some k2c4 }
def k2c5 : Code := { maxStack := 2, maxLocals := 2, code := prog_38_method_9_code, exceptionTable := #[], attributes := #[] }
def k2m5 : Method := { name := "low", desc := "(I)J", sig := { parameters := [.int], returnType := some .long }, accessFlags := 2, code := some k2c5 }
def k2c6 : Code := { maxStack := 2, maxLocals := 2, code := prog_38_method_10_code, exceptionTable := #[], attributes := #[] }
def k2m6 : Method := { name := "high", desc := "(I)J", sig := { parameters := [.int], returnType := some .long }, accessFlags := 2, code := some k2c6 }
def k2c7 : Code := { maxStack := 4, maxLocals := 2, code := prog_38_method_11_code, exceptionTable := #[], attributes := #[] }
def k2m7 : Method := { name := "ensureHighs", desc := "(I)V", sig := { parameters := [.int], returnType := none }, accessFlags := 2, code := some k2c7 }
/-- com/example/suretyline/suretyline/Sums -/
def k2 : Class := { plain "com/example/suretyline/suretyline/Sums" (some 0) with
  accessFlags := 48
  interfaces := #[]
  cf := some (fileOf pool2 8 #[] #[{ accessFlags := 0, nameIndex := 5, descriptorIndex := 119, attributes := #[] }, { accessFlags := 0, nameIndex := 36, descriptorIndex := 26, attributes := #[] }, { accessFlags := 0, nameIndex := 132, descriptorIndex := 119, attributes := #[] }, { accessFlags := 0, nameIndex := 32, descriptorIndex := 33, attributes := #[] }, { accessFlags := 10, nameIndex := 101, descriptorIndex := 102, attributes := #[] }, { accessFlags := 2, nameIndex := 29, descriptorIndex := 26, attributes := #[] }, { accessFlags := 2, nameIndex := 25, descriptorIndex := 26, attributes := #[] }, { accessFlags := 2, nameIndex := 118, descriptorIndex := 119, attributes := #[] }] 48 2 #[] #[{ accessFlags := 26, nameIndex := 11, descriptorIndex := 12, attributes := #[] }, { accessFlags := 26, nameIndex := 57, descriptorIndex := 58, attributes := #[] }, { accessFlags := 18, nameIndex := 21, descriptorIndex := 22, attributes := #[] }, { accessFlags := 2, nameIndex := 15, descriptorIndex := 12, attributes := #[] }, { accessFlags := 2, nameIndex := 18, descriptorIndex := 12, attributes := #[] }])
  fields := #[{ name := "NONE", type := (.array .long), accessFlags := 26, slot := 0, constantValue := 0 }, { name := "TWO_TO_64", type := (.object "java/math/BigInteger"), accessFlags := 26, slot := 1, constantValue := 0 }, { name := "scale", type := .int, accessFlags := 18, slot := 0, constantValue := 0 }, { name := "lows", type := (.array .long), accessFlags := 2, slot := 1, constantValue := 0 }, { name := "highs", type := (.array .long), accessFlags := 2, slot := 2, constantValue := 0 }]
  methods := #[k2m0, k2m1, k2m2, k2m3, k2m4, k2m5, k2m6, k2m7]
  instanceTypes := #[.int, (.array .long), (.array .long)]
  staticTypes := #[(.array .long), (.object "java/math/BigInteger")]
  resolved := Array.replicate 136 none
  statics := some 0 }

def pool3 : Array CpInfo := pool [(1, .class_ 2), (0, u "java/lang/Math"), (1, .class_ 6), (1, u "java/lang/Object"), (0, u "<init>"), (0, u "()V"), (89, .class_ 100), (1, u "java/lang/Math$RandomNumberGeneratorHolder"), (20, u "(JJ)J"), (16, .long 4294967295), (3, u "multiplyHigh"), (29, u "negativeZeroFloatBits"), (0, u "J"), (2, u "negativeZeroDoubleBits"), (21, u "max"), (2, u "min"), (43, u "$assertionsDisabled"), (0, u "Z"), (88, u "(II)I"), (2, u "twoToTheDoubleScaleDown"), (0, u "D"), (4, u "twoToTheDoubleScaleUp"), (9, u "E"), (3, u "PI"), (2, u "TAU"), (2, u "DEGREES_TO_RADIANS"), (0, u "RADIANS_TO_DEGREES")] 94

def k3m0 : Method := { name := "<init>", desc := "()V", sig := { parameters := [], returnType := none }, accessFlags := 2, code := none }
def k3c1 : Code := { maxStack := 6, maxLocals := 20, code := jdk_29_method_45_code, exceptionTable := #[], attributes := #[] }
def k3m1 : Method := { name := "multiplyHigh", desc := "(JJ)J", sig := { parameters := [.long, .long], returnType := some .long }, accessFlags := 9, code := some k3c1 }
def k3c2 : Code := { maxStack := 2, maxLocals := 2, code := jdk_29_method_65_code, exceptionTable := #[], attributes := #[] }
def k3m2 : Method := { name := "max", desc := "(II)I", sig := { parameters := [.int, .int], returnType := some .int }, accessFlags := 9, code := some k3c2 }
def k3c3 : Code := { maxStack := 2, maxLocals := 2, code := jdk_29_method_69_code, exceptionTable := #[], attributes := #[] }
def k3m3 : Method := { name := "min", desc := "(II)I", sig := { parameters := [.int, .int], returnType := some .int }, accessFlags := 9, code := some k3c3 }
/-- java/lang/Math -/
def k3 : Class := { plain "java/lang/Math" (some 0) with
  accessFlags := 49
  interfaces := #[]
  cf := some (fileOf pool3 1 #[.nestMembers #[98]] #[{ accessFlags := 2, nameIndex := 7, descriptorIndex := 8, attributes := #[] }, { accessFlags := 9, nameIndex := 142, descriptorIndex := 121, attributes := #[] }, { accessFlags := 9, nameIndex := 198, descriptorIndex := 335, attributes := #[] }, { accessFlags := 9, nameIndex := 201, descriptorIndex := 335, attributes := #[] }] 49 4 #[] #[{ accessFlags := 25, nameIndex := 354, descriptorIndex := 339, attributes := #[] }, { accessFlags := 25, nameIndex := 358, descriptorIndex := 339, attributes := #[] }, { accessFlags := 25, nameIndex := 361, descriptorIndex := 339, attributes := #[] }, { accessFlags := 26, nameIndex := 364, descriptorIndex := 339, attributes := #[] }, { accessFlags := 26, nameIndex := 365, descriptorIndex := 339, attributes := #[] }, { accessFlags := 26, nameIndex := 172, descriptorIndex := 173, attributes := #[] }, { accessFlags := 26, nameIndex := 176, descriptorIndex := 173, attributes := #[] }, { accessFlags := 8, nameIndex := 344, descriptorIndex := 339, attributes := #[] }, { accessFlags := 8, nameIndex := 338, descriptorIndex := 339, attributes := #[] }, { accessFlags := 4120, nameIndex := 245, descriptorIndex := 246, attributes := #[] }])
  fields := #[{ name := "E", type := .double, accessFlags := 25, slot := 0, constantValue := 0 }, { name := "PI", type := .double, accessFlags := 25, slot := 1, constantValue := 0 }, { name := "TAU", type := .double, accessFlags := 25, slot := 2, constantValue := 0 }, { name := "DEGREES_TO_RADIANS", type := .double, accessFlags := 26, slot := 3, constantValue := 0 }, { name := "RADIANS_TO_DEGREES", type := .double, accessFlags := 26, slot := 4, constantValue := 0 }, { name := "negativeZeroFloatBits", type := .long, accessFlags := 26, slot := 5, constantValue := 0 }, { name := "negativeZeroDoubleBits", type := .long, accessFlags := 26, slot := 6, constantValue := 0 }, { name := "twoToTheDoubleScaleUp", type := .double, accessFlags := 8, slot := 7, constantValue := 0 }, { name := "twoToTheDoubleScaleDown", type := .double, accessFlags := 8, slot := 8, constantValue := 0 }, { name := "$assertionsDisabled", type := .boolean, accessFlags := 4120, slot := 9, constantValue := 0 }]
  methods := #[k3m0, k3m1, k3m2, k3m3]
  instanceTypes := #[]
  staticTypes := #[.double, .double, .double, .double, .double, .long, .long, .double, .double, .boolean]
  resolved := Array.replicate 460 none
  statics := none }

def pool4 : Array CpInfo := pool [(2, .class_ 4), (1, u "java/lang/Object"), (0, u "<init>"), (0, u "()V"), (7, .class_ 16), (1, u "java/util/Arrays"), (57, .class_ 76), (1, u "java/util/Arrays$NaturalOrder"), (36, .class_ 115), (1, u "java/util/Arrays$LegacyMergeSort"), (1, u "Z"), (32, .methodref 151 152), (0, .class_ 153), (0, .nameAndType 154 155), (0, u "java/lang/System"), (0, u "arraycopy"), (0, u "(Ljava/lang/Object;ILjava/lang/Object;II)V"), (146, u "copyOf"), (1, .methodref 305 306), (0, .class_ 307), (0, .nameAndType 308 309), (0, u "java/lang/Math"), (0, u "min"), (0, u "(II)I"), (65, .class_ 376), (0, u "java/util/Arrays$ArrayList"), (68, u "$assertionsDisabled"), (269, u "MIN_ARRAY_SORT_GRAN"), (0, u "I"), (2, u "INSERTIONSORT_THRESHOLD"), (152, u "([JI)[J"), (102, .class_ 976), (0, u "java/util/Arrays$ArrayItr")] 52

def k4m0 : Method := { name := "<init>", desc := "()V", sig := { parameters := [], returnType := none }, accessFlags := 2, code := none }
def k4c1 : Code := { maxStack := 6, maxLocals := 3, code := jdk_65_method_124_code, exceptionTable := #[], attributes := #[] }
def k4m1 : Method := { name := "copyOf", desc := "([JI)[J", sig := { parameters := [(.array .long), .int], returnType := some (.array .long) }, accessFlags := 9, code := some k4c1 }
/-- java/util/Arrays -/
def k4 : Class := { plain "java/util/Arrays" (some 0) with
  accessFlags := 49
  interfaces := #[]
  cf := some (fileOf pool4 14 #[.nestMembers #[975, 375, 113, 74]] #[{ accessFlags := 2, nameIndex := 5, descriptorIndex := 6, attributes := #[] }, { accessFlags := 9, nameIndex := 302, descriptorIndex := 872, attributes := #[] }] 49 2 #[] #[{ accessFlags := 26, nameIndex := 715, descriptorIndex := 716, attributes := #[] }, { accessFlags := 26, nameIndex := 719, descriptorIndex := 716, attributes := #[] }, { accessFlags := 4120, nameIndex := 445, descriptorIndex := 117, attributes := #[] }])
  fields := #[{ name := "MIN_ARRAY_SORT_GRAN", type := .int, accessFlags := 26, slot := 0, constantValue := 0 }, { name := "INSERTIONSORT_THRESHOLD", type := .int, accessFlags := 26, slot := 1, constantValue := 0 }, { name := "$assertionsDisabled", type := .boolean, accessFlags := 4120, slot := 2, constantValue := 0 }]
  methods := #[k4m0, k4m1]
  instanceTypes := #[]
  staticTypes := #[.int, .int, .boolean]
  resolved := Array.replicate 1029 none
  statics := none }

def pool5 : Array CpInfo := pool [(2, .class_ 4), (1, u "java/lang/Object"), (0, u "<init>"), (0, u "()V"), (1, .class_ 10), (1, u "java/lang/System"), (0, u "allowSecurityManager"), (0, u "I"), (16, u "cons"), (0, u "Ljava/io/Console;"), (77, .class_ 110), (1, u "java/lang/System$CallersHolder"), (43, u "initialErrStream"), (0, u "Ljava/io/PrintStream;"), (19, u "security"), (0, u "Ljava/lang/SecurityManager;"), (31, .class_ 209), (0, u "java/lang/System$1"), (7, u "props"), (0, u "Ljava/util/Properties;"), (2, u "lineSeparator"), (0, u "Ljava/lang/String;"), (96, .class_ 321), (1, u "java/lang/System$LoggerFinder"), (5, .class_ 328), (0, u "java/lang/System$Logger"), (67, u "err"), (2, u "out"), (91, u "notSupportedJnuEncoding"), (15, u "in"), (17, u "initialIn"), (0, u "Ljava/io/InputStream;"), (35, u "bootLayer"), (0, u "Ljava/lang/ModuleLayer;"), (99, .class_ 664), (0, u "java/lang/System$2"), (9, u "NEVER"), (2, u "MAYBE"), (49, u "arraycopy"), (0, u "(Ljava/lang/Object;ILjava/lang/Object;II)V"), (72, .class_ 802), (0, u "java/lang/System$Logger$Level")] 31

def k5m0 : Method := { name := "<init>", desc := "()V", sig := { parameters := [], returnType := none }, accessFlags := 2, code := none }
def k5m1 : Method := { name := "arraycopy", desc := "(Ljava/lang/Object;ILjava/lang/Object;II)V", sig := { parameters := [(.object "java/lang/Object"), .int, (.object "java/lang/Object"), .int, .int], returnType := none }, accessFlags := 265, code := none }
/-- java/lang/System -/
def k5 : Class := { plain "java/lang/System" (some 0) with
  accessFlags := 49
  interfaces := #[]
  cf := some (fileOf pool5 8 #[.nestMembers #[319, 327, 801, 108, 663, 208]] #[{ accessFlags := 2, nameIndex := 5, descriptorIndex := 6, attributes := #[] }, { accessFlags := 265, nameIndex := 727, descriptorIndex := 728, attributes := #[] }] 49 2 #[] #[{ accessFlags := 25, nameIndex := 507, descriptorIndex := 526, attributes := #[] }, { accessFlags := 25, nameIndex := 399, descriptorIndex := 155, attributes := #[] }, { accessFlags := 25, nameIndex := 396, descriptorIndex := 155, attributes := #[] }, { accessFlags := 10, nameIndex := 525, descriptorIndex := 526, attributes := #[] }, { accessFlags := 26, nameIndex := 674, descriptorIndex := 12, attributes := #[] }, { accessFlags := 26, nameIndex := 677, descriptorIndex := 12, attributes := #[] }, { accessFlags := 10, nameIndex := 11, descriptorIndex := 12, attributes := #[] }, { accessFlags := 74, nameIndex := 175, descriptorIndex := 176, attributes := #[] }, { accessFlags := 10, nameIndex := 491, descriptorIndex := 222, attributes := #[] }, { accessFlags := 74, nameIndex := 29, descriptorIndex := 30, attributes := #[] }, { accessFlags := 74, nameIndex := 154, descriptorIndex := 155, attributes := #[] }, { accessFlags := 10, nameIndex := 217, descriptorIndex := 218, attributes := #[] }, { accessFlags := 10, nameIndex := 221, descriptorIndex := 222, attributes := #[] }, { accessFlags := 8, nameIndex := 562, descriptorIndex := 563, attributes := #[] }])
  fields := #[{ name := "in", type := (.object "java/io/InputStream"), accessFlags := 25, slot := 0, constantValue := 0 }, { name := "out", type := (.object "java/io/PrintStream"), accessFlags := 25, slot := 1, constantValue := 0 }, { name := "err", type := (.object "java/io/PrintStream"), accessFlags := 25, slot := 2, constantValue := 0 }, { name := "initialIn", type := (.object "java/io/InputStream"), accessFlags := 10, slot := 3, constantValue := 0 }, { name := "NEVER", type := .int, accessFlags := 26, slot := 4, constantValue := 0 }, { name := "MAYBE", type := .int, accessFlags := 26, slot := 5, constantValue := 0 }, { name := "allowSecurityManager", type := .int, accessFlags := 10, slot := 6, constantValue := 0 }, { name := "security", type := (.object "java/lang/SecurityManager"), accessFlags := 74, slot := 7, constantValue := 0 }, { name := "notSupportedJnuEncoding", type := (.object "java/lang/String"), accessFlags := 10, slot := 8, constantValue := 0 }, { name := "cons", type := (.object "java/io/Console"), accessFlags := 74, slot := 9, constantValue := 0 }, { name := "initialErrStream", type := (.object "java/io/PrintStream"), accessFlags := 74, slot := 10, constantValue := 0 }, { name := "props", type := (.object "java/util/Properties"), accessFlags := 10, slot := 11, constantValue := 0 }, { name := "lineSeparator", type := (.object "java/lang/String"), accessFlags := 10, slot := 12, constantValue := 0 }, { name := "bootLayer", type := (.object "java/lang/ModuleLayer"), accessFlags := 8, slot := 13, constantValue := 0 }]
  methods := #[k5m0, k5m1]
  instanceTypes := #[]
  staticTypes := #[(.object "java/io/InputStream"), (.object "java/io/PrintStream"), (.object "java/io/PrintStream"), (.object "java/io/InputStream"), .int, .int, .int, (.object "java/lang/SecurityManager"), (.object "java/lang/String"), (.object "java/io/Console"), (.object "java/io/PrintStream"), (.object "java/util/Properties"), (.object "java/lang/String"), (.object "java/lang/ModuleLayer")]
  resolved := Array.replicate 834 none
  statics := none }

def pool6 : Array CpInfo := pool [(1, .class_ 2), (0, u "java/io/Serializable"), (0, .class_ 4), (0, u "java/lang/Object")] 2

/-- java/io/Serializable -/
def k6 : Class := { plain "java/io/Serializable" (some 0) with
  accessFlags := 1537
  interfaces := #[]
  cf := some (fileOf pool6 1 #[] #[] 1537 3 #[] #[])
  fields := #[]
  methods := #[]
  instanceTypes := #[]
  staticTypes := #[]
  resolved := Array.replicate 7 none
  statics := none }

def pool7 : Array CpInfo := pool [(2, .class_ 4), (1, u "java/lang/Object"), (0, u "<init>"), (0, u "()V"), (1, .class_ 10), (1, u "java/lang/Number"), (2, .class_ 14), (0, u "java/io/Serializable"), (0, u "serialVersionUID"), (0, u "J")] 20

def k7m0 : Method := { name := "<init>", desc := "()V", sig := { parameters := [], returnType := none }, accessFlags := 1, code := none }
/-- java/lang/Number -/
def k7 : Class := { plain "java/lang/Number" (some 0) with
  accessFlags := 1057
  interfaces := #[6]
  cf := some (fileOf pool7 8 #[] #[{ accessFlags := 1, nameIndex := 5, descriptorIndex := 6, attributes := #[] }] 1057 2 #[13] #[{ accessFlags := 26, nameIndex := 15, descriptorIndex := 16, attributes := #[] }])
  fields := #[{ name := "serialVersionUID", type := .long, accessFlags := 26, slot := 0, constantValue := 0 }]
  methods := #[k7m0]
  instanceTypes := #[]
  staticTypes := #[.long]
  resolved := Array.replicate 37 none
  statics := none }

def pool8 : Array CpInfo := pool [(1, .class_ 2), (0, u "java/lang/Comparable"), (0, .class_ 4), (0, u "java/lang/Object")] 7

/-- java/lang/Comparable -/
def k8 : Class := { plain "java/lang/Comparable" (some 0) with
  accessFlags := 1537
  interfaces := #[]
  cf := some (fileOf pool8 1 #[] #[] 1537 3 #[] #[])
  fields := #[]
  methods := #[]
  instanceTypes := #[]
  staticTypes := #[]
  resolved := Array.replicate 12 none
  statics := none }

def pool9 : Array CpInfo := pool [(1, .class_ 2), (0, u "java/lang/constant/Constable"), (0, .class_ 4), (0, u "java/lang/Object")] 6

/-- java/lang/constant/Constable -/
def k9 : Class := { plain "java/lang/constant/Constable" (some 0) with
  accessFlags := 1537
  interfaces := #[]
  cf := some (fileOf pool9 1 #[] #[] 1537 3 #[] #[])
  fields := #[]
  methods := #[]
  instanceTypes := #[]
  staticTypes := #[]
  resolved := Array.replicate 11 none
  statics := none }

def pool10 : Array CpInfo := pool [(1, .class_ 2), (0, u "java/lang/constant/ConstantDesc"), (0, .class_ 4), (0, u "java/lang/Object")] 32

/-- java/lang/constant/ConstantDesc -/
def k10 : Class := { plain "java/lang/constant/ConstantDesc" (some 0) with
  accessFlags := 1537
  interfaces := #[]
  cf := some (fileOf pool10 1 #[] #[] 1537 3 #[] #[])
  fields := #[]
  methods := #[]
  instanceTypes := #[]
  staticTypes := #[]
  resolved := Array.replicate 37 none
  statics := none }

def pool11 : Array CpInfo := pool [(1, .class_ 2), (0, u "java/lang/Long"), (165, .long 9223372036854775808), (66, .class_ 237), (1, u "java/lang/Long$LongCache"), (33, .class_ 272), (0, u "java/lang/Number"), (2, u "value"), (0, u "J"), (25, .methodref 1 303), (0, .nameAndType 304 305), (0, u "compare"), (0, u "(JJ)I"), (55, u "TYPE"), (0, u "Ljava/lang/Class;"), (0, .class_ 364), (0, u "java/lang/Comparable"), (0, .class_ 366), (0, u "java/lang/constant/Constable"), (0, .class_ 368), (0, u "java/lang/constant/ConstantDesc"), (0, u "MIN_VALUE"), (1, u "MAX_VALUE"), (4, u "SIZE"), (0, u "I"), (1, u "BYTES"), (1, u "serialVersionUID"), (87, u "compareUnsigned")] 54

def k11c0 : Code := { maxStack := 4, maxLocals := 4, code := jdk_35_method_42_code, exceptionTable := #[], attributes := #[] }
def k11m0 : Method := { name := "compare", desc := "(JJ)I", sig := { parameters := [.long, .long], returnType := some .int }, accessFlags := 9, code := some k11c0 }
def k11c1 : Code := { maxStack := 6, maxLocals := 4, code := jdk_35_method_43_code, exceptionTable := #[], attributes := #[] }
def k11m1 : Method := { name := "compareUnsigned", desc := "(JJ)I", sig := { parameters := [.long, .long], returnType := some .int }, accessFlags := 9, code := some k11c1 }
/-- java/lang/Long -/
def k11 : Class := { plain "java/lang/Long" (some 7) with
  accessFlags := 49
  interfaces := #[8, 9, 10]
  cf := some (fileOf pool11 1 #[.nestMembers #[235]] #[{ accessFlags := 9, nameIndex := 304, descriptorIndex := 305, attributes := #[] }, { accessFlags := 9, nameIndex := 469, descriptorIndex := 305, attributes := #[] }] 49 271 #[363, 365, 367] #[{ accessFlags := 25, nameIndex := 369, descriptorIndex := 276, attributes := #[] }, { accessFlags := 25, nameIndex := 371, descriptorIndex := 276, attributes := #[] }, { accessFlags := 25, nameIndex := 361, descriptorIndex := 362, attributes := #[] }, { accessFlags := 18, nameIndex := 275, descriptorIndex := 276, attributes := #[] }, { accessFlags := 25, nameIndex := 376, descriptorIndex := 377, attributes := #[] }, { accessFlags := 25, nameIndex := 379, descriptorIndex := 377, attributes := #[] }, { accessFlags := 26, nameIndex := 381, descriptorIndex := 276, attributes := #[] }])
  fields := #[{ name := "MIN_VALUE", type := .long, accessFlags := 25, slot := 0, constantValue := 0 }, { name := "MAX_VALUE", type := .long, accessFlags := 25, slot := 1, constantValue := 0 }, { name := "TYPE", type := (.object "java/lang/Class"), accessFlags := 25, slot := 2, constantValue := 0 }, { name := "value", type := .long, accessFlags := 18, slot := 0, constantValue := 0 }, { name := "SIZE", type := .int, accessFlags := 25, slot := 3, constantValue := 0 }, { name := "BYTES", type := .int, accessFlags := 25, slot := 4, constantValue := 0 }, { name := "serialVersionUID", type := .long, accessFlags := 26, slot := 5, constantValue := 0 }]
  methods := #[k11m0, k11m1]
  instanceTypes := #[.long]
  staticTypes := #[.long, .long, (.object "java/lang/Class"), .int, .int, .long]
  resolved := Array.replicate 524 none
  statics := none }

def pool12 : Array CpInfo := pool [(1, u "java/lang/Cloneable"), (0, .class_ 1), (0, u "java/lang/Object"), (0, .class_ 3)] 3

/-- java/lang/Cloneable -/
def k12 : Class := { plain "java/lang/Cloneable" (some 0) with
  accessFlags := 1537
  interfaces := #[]
  cf := some (fileOf pool12 2 #[] #[] 1537 4 #[] #[])
  fields := #[]
  methods := #[]
  instanceTypes := #[]
  staticTypes := #[]
  resolved := Array.replicate 8 none
  statics := none }

/-- the primitive byte -/
def k13 : Class := { plain "byte" none with kind := .primitive 'B', accessFlags := 0x411 }
/-- [B -/
def k14 : Class := { plain "[B" (some 0) with kind := .array 13 .byte, interfaces := #[12, 6], accessFlags := 1041 }

/-- the primitive int -/
def k15 : Class := { plain "int" none with kind := .primitive 'I', accessFlags := 0x411 }
/-- [I -/
def k16 : Class := { plain "[I" (some 0) with kind := .array 15 .int, interfaces := #[12, 6], accessFlags := 1041 }

/-- the primitive long -/
def k17 : Class := { plain "long" none with kind := .primitive 'J', accessFlags := 0x411 }
/-- [J -/
def k18 : Class := { plain "[J" (some 0) with kind := .array 17 .long, interfaces := #[12, 6], accessFlags := 1041 }

def heap : Heap := #[{ cls := 2, slots := #[.ref 1, .null], vm := .statics 2 },
  { cls := 18, slots := #[], vm := .none }]
def classes : Array Class := #[k0, k1, k2, k3, k4, k5, k6, k7, k8, k9, k10, k11, k12, k13, k14, k15, k16, k17, k18]
def interned : List (Array UInt16 × Addr) := []
def slotsUsed : Nat := 2
def theMethod : MethodId := ⟨1, 2⟩
def args0 : Array Value := #[.int 5, .int 6, .long 7, .long 8, .long 9, .long 10]
def aboutOver (below : List Frame) : State where
  vm := { classes := classes, interned := interned.toArray }
  heap := heap
  slotsUsed := slotsUsed
  threads := #[{ frames := .invoking theMethod args0 :: below }]
def below0 : List Frame := [.native { method := ⟨0, 0⟩, args := #[] }]
def about1 : State := aboutOver below0
def p0 : Program := .bare "" "" ""
def e0 : Env := launch0.env 0 0 0
theorem w_frames : about1.frames = Frame.invoking theMethod args0 :: below0 := rfl
set_option maxRecDepth 65536 in
theorem w_args : argsFit about1.vm theMethod args0 = true := by decide +kernel
set_option maxRecDepth 65536 in
theorem w_heap : heapFits about1 = true := by decide +kernel
set_option maxRecDepth 65536 in
theorem w_runnable : about1.curStatus? = some .runnable := by decide +kernel
set_option maxRecDepth 65536 in
theorem w_alone : about1.alone = true := by decide +kernel
set_option maxRecDepth 65536 in
theorem w_named : about1.methodNamed? x = some theMethod := by decide +kernel
set_option maxRecDepth 65536 in
theorem w_hears : about1.hears theMethod below0 = true := by decide +kernel
set_option maxRecDepth 65536 in
theorem w_ripe : about1.ripe theMethod args0 below0 = true := by decide +kernel
theorem w_running : about1.status = .running := rfl
set_option maxRecDepth 65536 in
theorem w_room : about1.hasRoom e0.platform room_1 = true :=
  launch0.hasRoom_least _ room_1 (by decide +kernel) (by decide +kernel) (by decide +kernel) (by decide +kernel) (by decide +kernel) (by decide +kernel)
theorem allAtoms_all (ts : List Jvm.Cond) (a : Array Jvm.Value) (st : Jvm.State) : (allAtoms ts).before a st = ts.all (fun c => c.before a st) := by
  induction ts with
  | nil => rfl
  | cons c t ih =>
    show (Jvm.Cond.and c (allAtoms t)).before a st = _
    rw [Jvm.Cond.before_and, ih, List.all_cons]
def words1 : List Jvm.Cond := Jvm.Cond.code x code maxLocals ret :: tables_1
/-- a 'code' word, met by the world's own term for the bytes: nothing is compared byte by byte -/
theorem code_word {y : MethodName} {bytes : ByteArray} {mx : Nat} {rt : Option FieldType} {a : Array Value} {s : State} {m : MethodId} {meth : Method} {c : Code} (h1 : s.methodNamed? y = some m) (h2 : s.vm.method? m = some meth) (h3 : meth.code = some c) (h4 : c.code = bytes)
    (h5 : (c.maxLocals == mx && c.exceptionTable.isEmpty && decide (c.maxStack ≤ mostOperands) && decide (meth.sig.returnType = rt) && !meth.locks && decide (parseMethodDescriptor y.desc = some meth.sig)) = true) : (Jvm.Cond.code y bytes mx rt).before a s = true := by
  simp only [Bool.and_eq_true, beq_iff_eq, Bool.not_eq_true', decide_eq_true_eq] at h5
  obtain ⟨⟨⟨⟨⟨g1, g2⟩, g3⟩, g4⟩, g5⟩, g6⟩ := h5
  simp [Cond.before, Cond.holds, Cond.value, h1, h2, h3, h4, g1, g2, g3, g4, g5, g6]
def isCode : Jvm.Cond → Bool
  | .code _ _ _ _ => true
  | _ => false
theorem all_split {L : List Jvm.Cond} {P : Jvm.Cond → Bool} (h1 : L.all (fun c => isCode c || P c) = true) (h2 : ∀ c ∈ L.filter isCode, P c = true) : L.all P = true := by
  refine List.all_eq_true.mpr fun c hc => ?_
  have h := List.all_eq_true.mp h1 c hc
  rcases Bool.eq_false_or_eq_true (isCode c) with hi | hi
  · exact h2 c (List.mem_filter.mpr ⟨hc, hi⟩)
  · simpa [hi] using h
set_option maxRecDepth 65536 in
theorem w_c0 : (Jvm.Cond.code x code maxLocals ret).before args0 about1 = true := code_word (m := ⟨1, 2⟩) (meth := k1m2) (c := k1c2) (by decide +kernel) rfl rfl rfl (by decide +kernel)
set_option maxRecDepth 65536 in
theorem w_c1 : (Jvm.Cond.code ({ cls := "com/example/suretyline/suretyline/Sums", name := "<init>", desc := "(I)V" } : Jvm.MethodName) prog_38_method_1_code (2 : Nat) (Option.none : Option Jvm.ClassFile.FieldType)).before args0 about1 = true := code_word (m := ⟨2, 0⟩) (meth := k2m0) (c := k2c0) (by decide +kernel) rfl rfl rfl (by decide +kernel)
set_option maxRecDepth 65536 in
theorem w_c2 : (Jvm.Cond.code ({ cls := "java/lang/Object", name := "<init>", desc := "()V" } : Jvm.MethodName) object_method_1_code (1 : Nat) (Option.none : Option Jvm.ClassFile.FieldType)).before args0 about1 = true := code_word (m := ⟨0, 0⟩) (meth := k0m0) (c := k0c0) (by decide +kernel) rfl rfl rfl (by decide +kernel)
set_option maxRecDepth 65536 in
theorem w_c3 : (Jvm.Cond.code ({ cls := "com/example/suretyline/suretyline/Sums", name := "add", desc := "(IJJJ)V" } : Jvm.MethodName) prog_38_method_7_code (21 : Nat) (Option.none : Option Jvm.ClassFile.FieldType)).before args0 about1 = true := code_word (m := ⟨2, 3⟩) (meth := k2m3) (c := k2c3) (by decide +kernel) rfl rfl rfl (by decide +kernel)
set_option maxRecDepth 65536 in
theorem w_c4 : (Jvm.Cond.code ({ cls := "java/lang/Math", name := "max", desc := "(II)I" } : Jvm.MethodName) jdk_29_method_65_code (2 : Nat) (Option.some Jvm.ClassFile.FieldType.int)).before args0 about1 = true := code_word (m := ⟨3, 2⟩) (meth := k3m2) (c := k3c2) (by decide +kernel) rfl rfl rfl (by decide +kernel)
set_option maxRecDepth 65536 in
theorem w_c5 : (Jvm.Cond.code ({ cls := "java/util/Arrays", name := "copyOf", desc := "([JI)[J" } : Jvm.MethodName) jdk_65_method_124_code (3 : Nat) (Option.some (Jvm.ClassFile.FieldType.array Jvm.ClassFile.FieldType.long))).before args0 about1 = true := code_word (m := ⟨4, 1⟩) (meth := k4m1) (c := k4c1) (by decide +kernel) rfl rfl rfl (by decide +kernel)
set_option maxRecDepth 65536 in
theorem w_c6 : (Jvm.Cond.code ({ cls := "java/lang/Math", name := "min", desc := "(II)I" } : Jvm.MethodName) jdk_29_method_69_code (2 : Nat) (Option.some Jvm.ClassFile.FieldType.int)).before args0 about1 = true := code_word (m := ⟨3, 3⟩) (meth := k3m3) (c := k3c3) (by decide +kernel) rfl rfl rfl (by decide +kernel)
set_option maxRecDepth 65536 in
theorem w_c7 : (Jvm.Cond.code ({ cls := "com/example/suretyline/suretyline/Sums", name := "unsignedMultiplyHigh", desc := "(JJ)J" } : Jvm.MethodName) prog_38_method_8_code (4 : Nat) (Option.some Jvm.ClassFile.FieldType.long)).before args0 about1 = true := code_word (m := ⟨2, 4⟩) (meth := k2m4) (c := k2c4) (by decide +kernel) rfl rfl rfl (by decide +kernel)
set_option maxRecDepth 65536 in
theorem w_c8 : (Jvm.Cond.code ({ cls := "java/lang/Math", name := "multiplyHigh", desc := "(JJ)J" } : Jvm.MethodName) jdk_29_method_45_code (20 : Nat) (Option.some Jvm.ClassFile.FieldType.long)).before args0 about1 = true := code_word (m := ⟨3, 1⟩) (meth := k3m1) (c := k3c1) (by decide +kernel) rfl rfl rfl (by decide +kernel)
set_option maxRecDepth 65536 in
theorem w_c9 : (Jvm.Cond.code ({ cls := "java/lang/Long", name := "compareUnsigned", desc := "(JJ)I" } : Jvm.MethodName) jdk_35_method_43_code (4 : Nat) (Option.some Jvm.ClassFile.FieldType.int)).before args0 about1 = true := code_word (m := ⟨11, 1⟩) (meth := k11m1) (c := k11c1) (by decide +kernel) rfl rfl rfl (by decide +kernel)
set_option maxRecDepth 65536 in
theorem w_c10 : (Jvm.Cond.code ({ cls := "java/lang/Long", name := "compare", desc := "(JJ)I" } : Jvm.MethodName) jdk_35_method_42_code (4 : Nat) (Option.some Jvm.ClassFile.FieldType.int)).before args0 about1 = true := code_word (m := ⟨11, 0⟩) (meth := k11m0) (c := k11c0) (by decide +kernel) rfl rfl rfl (by decide +kernel)
set_option maxRecDepth 65536 in
theorem w_c11 : (Jvm.Cond.code ({ cls := "com/example/suretyline/suretyline/Sums", name := "high", desc := "(I)J" } : Jvm.MethodName) prog_38_method_10_code (2 : Nat) (Option.some Jvm.ClassFile.FieldType.long)).before args0 about1 = true := code_word (m := ⟨2, 6⟩) (meth := k2m6) (c := k2c6) (by decide +kernel) rfl rfl rfl (by decide +kernel)
set_option maxRecDepth 65536 in
theorem w_c12 : (Jvm.Cond.code ({ cls := "com/example/suretyline/suretyline/Sums", name := "ensureHighs", desc := "(I)V" } : Jvm.MethodName) prog_38_method_11_code (2 : Nat) (Option.none : Option Jvm.ClassFile.FieldType)).before args0 about1 = true := code_word (m := ⟨2, 7⟩) (meth := k2m7) (c := k2c7) (by decide +kernel) rfl rfl rfl (by decide +kernel)
set_option maxRecDepth 65536 in
theorem w_c13 : (Jvm.Cond.code ({ cls := "com/example/suretyline/suretyline/Sums", name := "clear", desc := "(I)V" } : Jvm.MethodName) prog_38_method_6_code (2 : Nat) (Option.none : Option Jvm.ClassFile.FieldType)).before args0 about1 = true := code_word (m := ⟨2, 2⟩) (meth := k2m2) (c := k2c2) (by decide +kernel) rfl rfl rfl (by decide +kernel)
set_option maxRecDepth 65536 in
theorem w_c14 : (Jvm.Cond.code ({ cls := "com/example/suretyline/suretyline/SumsClearPinLaw", name := "expect", desc := "(JJ)J" } : Jvm.MethodName) method_2_code (4 : Nat) (Option.some Jvm.ClassFile.FieldType.long)).before args0 about1 = true := code_word (m := ⟨1, 1⟩) (meth := k1m1) (c := k1c1) (by decide +kernel) rfl rfl rfl (by decide +kernel)
set_option maxRecDepth 65536 in
theorem w_c15 : (Jvm.Cond.code ({ cls := "com/example/suretyline/suretyline/Sums", name := "units", desc := "(I)J" } : Jvm.MethodName) prog_38_method_4_code (2 : Nat) (Option.some Jvm.ClassFile.FieldType.long)).before args0 about1 = true := code_word (m := ⟨2, 1⟩) (meth := k2m1) (c := k2c1) (by decide +kernel) rfl rfl rfl (by decide +kernel)
set_option maxRecDepth 65536 in
theorem w_c16 : (Jvm.Cond.code ({ cls := "com/example/suretyline/suretyline/Sums", name := "low", desc := "(I)J" } : Jvm.MethodName) prog_38_method_9_code (2 : Nat) (Option.some Jvm.ClassFile.FieldType.long)).before args0 about1 = true := code_word (m := ⟨2, 5⟩) (meth := k2m5) (c := k2c5) (by decide +kernel) rfl rfl rfl (by decide +kernel)
def codes1 : List Jvm.Cond := [Jvm.Cond.code x code maxLocals ret, Jvm.Cond.code ({ cls := "com/example/suretyline/suretyline/Sums", name := "<init>", desc := "(I)V" } : Jvm.MethodName) prog_38_method_1_code (2 : Nat) (Option.none : Option Jvm.ClassFile.FieldType), Jvm.Cond.code ({ cls := "java/lang/Object", name := "<init>", desc := "()V" } : Jvm.MethodName) object_method_1_code (1 : Nat) (Option.none : Option Jvm.ClassFile.FieldType), Jvm.Cond.code ({ cls := "com/example/suretyline/suretyline/Sums", name := "add", desc := "(IJJJ)V" } : Jvm.MethodName) prog_38_method_7_code (21 : Nat) (Option.none : Option Jvm.ClassFile.FieldType), Jvm.Cond.code ({ cls := "java/lang/Math", name := "max", desc := "(II)I" } : Jvm.MethodName) jdk_29_method_65_code (2 : Nat) (Option.some Jvm.ClassFile.FieldType.int), Jvm.Cond.code ({ cls := "java/util/Arrays", name := "copyOf", desc := "([JI)[J" } : Jvm.MethodName) jdk_65_method_124_code (3 : Nat) (Option.some (Jvm.ClassFile.FieldType.array Jvm.ClassFile.FieldType.long)), Jvm.Cond.code ({ cls := "java/lang/Math", name := "min", desc := "(II)I" } : Jvm.MethodName) jdk_29_method_69_code (2 : Nat) (Option.some Jvm.ClassFile.FieldType.int), Jvm.Cond.code ({ cls := "com/example/suretyline/suretyline/Sums", name := "unsignedMultiplyHigh", desc := "(JJ)J" } : Jvm.MethodName) prog_38_method_8_code (4 : Nat) (Option.some Jvm.ClassFile.FieldType.long), Jvm.Cond.code ({ cls := "java/lang/Math", name := "multiplyHigh", desc := "(JJ)J" } : Jvm.MethodName) jdk_29_method_45_code (20 : Nat) (Option.some Jvm.ClassFile.FieldType.long), Jvm.Cond.code ({ cls := "java/lang/Long", name := "compareUnsigned", desc := "(JJ)I" } : Jvm.MethodName) jdk_35_method_43_code (4 : Nat) (Option.some Jvm.ClassFile.FieldType.int), Jvm.Cond.code ({ cls := "java/lang/Long", name := "compare", desc := "(JJ)I" } : Jvm.MethodName) jdk_35_method_42_code (4 : Nat) (Option.some Jvm.ClassFile.FieldType.int), Jvm.Cond.code ({ cls := "com/example/suretyline/suretyline/Sums", name := "high", desc := "(I)J" } : Jvm.MethodName) prog_38_method_10_code (2 : Nat) (Option.some Jvm.ClassFile.FieldType.long), Jvm.Cond.code ({ cls := "com/example/suretyline/suretyline/Sums", name := "ensureHighs", desc := "(I)V" } : Jvm.MethodName) prog_38_method_11_code (2 : Nat) (Option.none : Option Jvm.ClassFile.FieldType), Jvm.Cond.code ({ cls := "com/example/suretyline/suretyline/Sums", name := "clear", desc := "(I)V" } : Jvm.MethodName) prog_38_method_6_code (2 : Nat) (Option.none : Option Jvm.ClassFile.FieldType), Jvm.Cond.code ({ cls := "com/example/suretyline/suretyline/SumsClearPinLaw", name := "expect", desc := "(JJ)J" } : Jvm.MethodName) method_2_code (4 : Nat) (Option.some Jvm.ClassFile.FieldType.long), Jvm.Cond.code ({ cls := "com/example/suretyline/suretyline/Sums", name := "units", desc := "(I)J" } : Jvm.MethodName) prog_38_method_4_code (2 : Nat) (Option.some Jvm.ClassFile.FieldType.long), Jvm.Cond.code ({ cls := "com/example/suretyline/suretyline/Sums", name := "low", desc := "(I)J" } : Jvm.MethodName) prog_38_method_9_code (2 : Nat) (Option.some Jvm.ClassFile.FieldType.long)]
set_option maxRecDepth 65536 in
theorem codes_eq : words1.filter isCode = codes1 := rfl
theorem w_codes : ∀ c ∈ words1.filter isCode, c.before args0 about1 = true := by
  rw [codes_eq]
  intro c hc
  simp only [codes1, List.mem_cons, List.not_mem_nil, or_false] at hc
  rcases hc with rfl | rfl | rfl | rfl | rfl | rfl | rfl | rfl | rfl | rfl | rfl | rfl | rfl | rfl | rfl | rfl | rfl
  · exact w_c0
  · exact w_c1
  · exact w_c2
  · exact w_c3
  · exact w_c4
  · exact w_c5
  · exact w_c6
  · exact w_c7
  · exact w_c8
  · exact w_c9
  · exact w_c10
  · exact w_c11
  · exact w_c12
  · exact w_c13
  · exact w_c14
  · exact w_c15
  · exact w_c16
set_option maxRecDepth 65536 in
theorem w_t1 : (words1.take 24).all (fun c => isCode c || c.before args0 about1) = true := by decide +kernel
set_option maxRecDepth 65536 in
theorem w_t2 : ((words1.drop 24).take 24).all (fun c => isCode c || c.before args0 about1) = true := by decide +kernel
set_option maxRecDepth 65536 in
theorem w_t3 : (((words1.drop 24).drop 24).take 24).all (fun c => isCode c || c.before args0 about1) = true := by decide +kernel
set_option maxRecDepth 65536 in
theorem w_t4 : (((words1.drop 24).drop 24).drop 24).all (fun c => isCode c || c.before args0 about1) = true := by decide +kernel
theorem w_tables : (allAtoms (Jvm.Cond.code x code maxLocals ret :: tables_1)).before args0 about1 = true := by
  rw [allAtoms_all]
  show words1.all (fun c => c.before args0 about1) = true
  refine all_split ?_ w_codes
  rw [← List.take_append_drop 24 words1, List.all_append, w_t1, ← List.take_append_drop 24 (words1.drop 24), List.all_append, w_t2, ← List.take_append_drop 24 ((words1.drop 24).drop 24), List.all_append, w_t3, w_t4]
  rfl
set_option maxRecDepth 65536 in
theorem w_case : (Jvm.Cond.and given_1 narrow_1).before args0 about1 = true := by decide +kernel
theorem w_applies : (headSpec (Jvm.Cond.code x code maxLocals ret :: tables_1) room_1).applies x e0.platform about1 = true :=
  (Spec.applies_iff w_frames).mpr ⟨w_running, w_runnable, w_alone, w_named, w_hears, w_ripe, w_room, w_tables⟩
theorem atStart : AtStart classFile x code maxLocals ret World_1 tables_1 room_1 Calls_1 rest_1 Pre_1 launch0 p0 e0 about1 theMethod args0 below0 :=
  ⟨lists_1, trivial, launch0.admits_env _ _ _, launch0.least_env, fairChoices_fair.cas, fairChoices_fair.clock, w_frames, w_args, w_heap, w_applies, trivial, trivial, w_case⟩
end start1
theorem witness_1 : WitnessClaimed_1 := ⟨start1.p0, start1.e0, start1.about1, start1.theMethod, start1.args0, start1.below0, start1.atStart⟩
end Jvm.Pilot.@@N@@
