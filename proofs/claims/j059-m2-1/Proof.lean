import JvmDerived
import JvmDerived.Pilot.@@N@@Statement
import JvmDerived.Pilot.@@N@@Code
set_option linter.unusedVariables false
set_option linter.unusedSimpArgs false
namespace Jvm.Pilot.@@N@@
open Jvm Jvm.ClassFile Sem Op Lib Jvm.Free Jvm.Stand Jvm.LawKit Jvm.RoadKit Bundle Jvm.Pilot.@@N@@.Jvm.D
/-- from T the run goes on to an end of which Qf says what it is -/
def Goes (tb : Tables) (e : Env) (below : List Frame) (Qf : Outcome → State → Prop) (T : State) : Prop := ∃ s₂ o, Steps tb e below T s₂ ∧ s₂.status = .running ∧ Ended s₂ below o ∧ Qf o s₂
theorem Goes.to {tb : Tables} {e : Env} {below : List Frame} {Qf : Outcome → State → Prop} {T T' : State} (k : ∀ t, Steps tb e below T' t → Steps tb e below T t) (h : Goes tb e below Qf T') : Goes tb e below Qf T := by
  obtain ⟨s, o, h1, h2⟩ := h; exact ⟨s, o, k s h1, h2⟩
theorem Goes.thru {tb : Tables} {e : Env} {below : List Frame} {Qf : Outcome → State → Prop} {T T' : State} (k : Steps tb e below T T') (h : Goes tb e below Qf T') : Goes tb e below Qf T := by
  obtain ⟨s, o, h1, h2⟩ := h; exact ⟨s, o, k.trans h1, h2⟩
theorem own_old {Z : State} {n0 : Nat} {h : Heap} (O : Old Z n0 h) : n0 ≤ h.size := O.1 ▸ O.2.1
theorem own_ext_keep {h h' : Heap} (K : Keep h h' []) : Ext h h' := ⟨K.1, fun a c q => K.2.1 a c q nin0⟩
theorem own_nsroot {Z : State} {a0 : Array Value} {O K : String} {n : Nat} (w : (Jvm.Cond.noSuperclass O).before a0 Z = true) (wk : (Jvm.Cond.instantiable K n).before a0 Z = true) (hn : O ≠ K) : NS Z O K := by
  obtain ⟨c, k, h1, h2, h3, -, -⟩ := Cond.noSuperclass_spec w
  obtain ⟨t, k2, g1, -⟩ := Cond.instantiable_spec wk
  have ne := ids_ne h1 g1 hn
  refine ⟨c, t, h1, g1, fun fuel => ?_⟩
  cases fuel with
  | zero => rfl
  | succ f => simp [Vm.isSubclassAux, ne, h2, h3]
theorem own_nsno {Z : State} {a0 : Array Value} {C S K : String} {n : Nat} (w : (Jvm.Cond.superclass C S).before a0 Z = true) (wk : (Jvm.Cond.instantiable K n).before a0 Z = true) (ns : NS Z C K) (hn : C ≠ K) : ∃ c t, Z.vm.findClass C = some c ∧ Z.vm.findClass K = some t ∧ Z.vm.assignable c t = false := by
  obtain ⟨c, t, h0, g0, n3⟩ := ns
  obtain ⟨p, k, kp, h1, h2, h3, h4, h5, -, h7⟩ := Cond.superclass_spec h0 w
  obtain ⟨t', k', g1, g2, g5, g7, -⟩ := Cond.instantiable_spec wk
  cases g0.symm.trans g1
  have ne := ids_ne h0 g0 hn
  refine ⟨c, t, h0, g0, ?_⟩
  show Z.vm.assignableAux (255 + 1) c t = false
  simp [Vm.assignableAux, ne, h2, g2, h5, g5, (Bool.or_eq_false_iff.mp g7).1, Vm.isSubclass, n3]
theorem own_selp {s : State} {args : Array Value} {y : MethodName} {n : Nat} (wi : (Jvm.Cond.instantiable y.cls n).before args s = true) (hp : (Jvm.Cond.privateMethod y).before args s = true) (hinst : (Jvm.Cond.instanceMethod y).before args s = true) (hy : y.cls ≠ "java/lang/invoke/MethodHandle" ∧ y.cls ≠ "java/lang/invoke/VarHandle") : (Jvm.Cond.selects y.cls y y).before args s = true := by
  obtain ⟨c, k, h1, h2, -, h4, -⟩ := Cond.instantiable_spec wi
  exact selects_self_of_private h1 h2 (Bool.or_eq_false_iff.mp h4).1 (Cond.privateMethod_at hp) hinst hy
theorem own_keep_ext {h h' : Heap} (E : Ext h h') : Keep h h' [] := (Keep.refl h []).ext E
theorem own_len {s : State} {args : Array Value} {t : Term} {a : Addr} {cl : Cell} {ty : FieldType} {k : Int32} (ht : t.eval args s none [] s = some (.ref a)) (A : Arr s s.heap a cl ty) (h : (Cond.eq (.length t) (.int k)).value args s none s [] = some true) : cl.slots.size < 2 ^ 31 ∧ cl.slots.size.toInt32 = k := by
  obtain ⟨x, y, e1, e2, -, k2⟩ := cmp_v (Or.inl h)
  obtain rfl : Value.int k = y := Option.some.inj e2
  obtain ⟨z, rfl⟩ := k2
  have q : (z = k) := gotT (P := z = k) (by simp [Cond.value, e1, e2]) h
  subst q
  have hA := A.fin (Vm.Alike.refl _)
  by_cases hl : cl.slots.size < 2 ^ 31
  · rw [len_f ht hA hl] at e1
    exact ⟨hl, by simpa using e1⟩
  · simp [Term.eval, ht, hA, hl] at e1
theorem own_stR {s : State} {args : Array Value} {t u : Term} {b : Addr} (h : (Cond.eq t u).value args s none s [] = some true) (hu : u.eval args s none [] s = some (.ref b)) : t.eval args s none [] s = some (.ref b) := by
  obtain ⟨x, y, e1, e2, k1, k2⟩ := cmp_v (Or.inl h)
  obtain rfl : y = Value.ref b := Option.some.inj (e2.symm.trans hu)
  have hx : x.isRef = true := by cases x <;> simp [Kin, Value.isRef] at k1 k2 ⊢
  have q : x = Value.ref b := gotT (eq_R e1 e2 hx rfl) h
  subst q; exact e1
theorem own_fldI {s : State} {args : Array Value} {t : Term} {a : Addr} {C n d : String} {k : Int32} (ht : t.eval args s none [] s = some (.ref a)) (h : (Cond.eq (.field t C n d) (.int k)).value args s none s [] = some true) : Fld s s.heap a C n d (.int k) := by
  obtain ⟨x, y, e1, e2, -, k2⟩ := cmp_v (Or.inl h)
  obtain rfl : Value.int k = y := Option.some.inj e2
  obtain ⟨z, rfl⟩ := k2
  have q : (z = k) := gotT (P := z = k) (by simp [Cond.value, e1, e2]) h
  subst q
  exact Fld.start (by rw [← fld_at ht]; exact e1)
theorem own_fldL {s : State} {args : Array Value} {t : Term} {a : Addr} {C n d : String} {k : Int64} (ht : t.eval args s none [] s = some (.ref a)) (h : (Cond.eq (.field t C n d) (.long k)).value args s none s [] = some true) : Fld s s.heap a C n d (.long k) := by
  obtain ⟨x, y, e1, e2, -, k2⟩ := cmp_v (Or.inl h)
  obtain rfl : Value.long k = y := Option.some.inj e2
  obtain ⟨z, rfl⟩ := k2
  have q : (z = k) := gotT (P := z = k) (by simp [Cond.value, e1, e2]) h
  subst q
  exact Fld.start (by rw [← fld_at ht]; exact e1)
theorem own_fldN {s : State} {args : Array Value} {t : Term} {a : Addr} {C n d : String} (ht : t.eval args s none [] s = some (.ref a)) (h : (Cond.eq (.field t C n d) .null).value args s none s [] = some true) : Fld s s.heap a C n d .null :=
  Fld.start (by rw [← fld_at ht]; exact null_v h)
theorem own_fldR {s : State} {args : Array Value} {t : Term} {a b : Addr} {C n d : String} (ht : t.eval args s none [] s = some (.ref a)) (h : (Term.field t C n d).eval args s none [] s = some (.ref b)) : Fld s s.heap a C n d (.ref b) :=
  Fld.start (by rw [← fld_at ht]; exact h)
theorem own_stI {s : State} {args : Array Value} {t : Term} {k : Int32} (h : (Cond.eq t (.int k)).value args s none s [] = some true) : t.eval args s none [] s = some (.int k) := by
  obtain ⟨x, y, e1, e2, -, k2⟩ := cmp_v (Or.inl h)
  obtain rfl : Value.int k = y := Option.some.inj e2
  obtain ⟨z, rfl⟩ := k2
  have q : (z = k) := gotT (P := z = k) (by simp [Cond.value, e1, e2]) h
  subst q; exact e1
theorem own_and3 (x : Int32) : (x &&& (3 : Int32)) = (0 : Int32) ∨ (x &&& (3 : Int32)) = (1 : Int32) ∨ (x &&& (3 : Int32)) = (2 : Int32) ∨ (x &&& (3 : Int32)) = (3 : Int32) := by
  have h := c_mask x 3 2 (by decide) (by decide)
  have e0 : (0 : Int32).toInt = 0 := rfl
  have e1 : (1 : Int32).toInt = 1 := rfl
  have e2 : (2 : Int32).toInt = 2 := rfl
  have e3 : (3 : Int32).toInt = 3 := rfl
  simp only [← Int32.toInt_inj, h, e0, e1, e2, e3]
  omega
def Nar (Z : State) (w_BloodType_O : Addr) (w_BloodType_AB : Addr) (w_BloodType_B : Addr) (w_BloodType_A : Addr) : Prop := (Sta Z Z.heap "com/example/veilmatch/veilmatch/model/BloodType" "O" "Lcom/example/veilmatch/veilmatch/model/BloodType;" (.ref w_BloodType_O)) ∧ (Exa Z Z.heap w_BloodType_O "com/example/veilmatch/veilmatch/model/BloodType") ∧ (Sta Z Z.heap "com/example/veilmatch/veilmatch/model/BloodType" "AB" "Lcom/example/veilmatch/veilmatch/model/BloodType;" (.ref w_BloodType_AB)) ∧ (Exa Z Z.heap w_BloodType_AB "com/example/veilmatch/veilmatch/model/BloodType") ∧ (Sta Z Z.heap "com/example/veilmatch/veilmatch/model/BloodType" "B" "Lcom/example/veilmatch/veilmatch/model/BloodType;" (.ref w_BloodType_B)) ∧ (Exa Z Z.heap w_BloodType_B "com/example/veilmatch/veilmatch/model/BloodType") ∧ (Sta Z Z.heap "com/example/veilmatch/veilmatch/model/BloodType" "A" "Lcom/example/veilmatch/veilmatch/model/BloodType;" (.ref w_BloodType_A)) ∧ (Exa Z Z.heap w_BloodType_A "com/example/veilmatch/veilmatch/model/BloodType") ∧ (Fld Z Z.heap w_BloodType_B "java/lang/Enum" "ordinal" "I" (.int (2 : Int32))) ∧ (Fld Z Z.heap w_BloodType_O "java/lang/Enum" "ordinal" "I" (.int (0 : Int32))) ∧ (Fld Z Z.heap w_BloodType_A "java/lang/Enum" "ordinal" "I" (.int (1 : Int32))) ∧ (Fld Z Z.heap w_BloodType_AB "java/lang/Enum" "ordinal" "I" (.int (3 : Int32)))
theorem d1_0 : decode method_2_code 0 = .ok (.iload_n 0, 1) := by decide +kernel
theorem d1_1 : decode method_2_code 1 = .ok (.ifCond .ne 7, 3) := by decide +kernel
theorem d1_4 : decode method_2_code 4 = .ok (.getstatic 7, 3) := by decide +kernel
theorem d1_7 : decode method_2_code 7 = .ok (.areturn, 1) := by decide +kernel
theorem d1_8 : decode method_2_code 8 = .ok (.iload_n 0, 1) := by decide +kernel
theorem d1_9 : decode method_2_code 9 = .ok (.iconst 1, 1) := by decide +kernel
theorem d1_10 : decode method_2_code 10 = .ok (.if_icmp .ne 7, 3) := by decide +kernel
theorem d1_13 : decode method_2_code 13 = .ok (.getstatic 13, 3) := by decide +kernel
theorem d1_16 : decode method_2_code 16 = .ok (.areturn, 1) := by decide +kernel
theorem d1_17 : decode method_2_code 17 = .ok (.iload_n 0, 1) := by decide +kernel
theorem d1_18 : decode method_2_code 18 = .ok (.iconst 2, 1) := by decide +kernel
theorem d1_19 : decode method_2_code 19 = .ok (.if_icmp .ne 7, 3) := by decide +kernel
theorem d1_22 : decode method_2_code 22 = .ok (.getstatic 16, 3) := by decide +kernel
theorem d1_25 : decode method_2_code 25 = .ok (.areturn, 1) := by decide +kernel
theorem d1_26 : decode method_2_code 26 = .ok (.getstatic 19, 3) := by decide +kernel
theorem d1_29 : decode method_2_code 29 = .ok (.areturn, 1) := by decide +kernel
theorem pn_1 : plainName "com/example/veilmatch/veilmatch/model/BloodTypeCanGiveToPinLaw" = true := by first | (simp [plainName, overriddenIn]; done) | decide +kernel
theorem ef_rmP (m : MethodId) (x0 : Int32) : entryFrame m #[(.int x0)] 1 = mkF m 0 #[.val (.int x0)] [] := by first | (simp [entryFrame, mkF, argsToLocals, Value.category]; done) | rfl
def Q_rmP (Z : State) (p0 : Int32) (w_BloodType_O : Addr) (w_BloodType_AB : Addr) (w_BloodType_B : Addr) (w_BloodType_A : Addr) (r : Addr) (h0 : Heap) (n0 : Nat) (v : Option Value) (h : Heap) (L : List Loc) : Prop := v = some (.ref r) ∧ Fr n0 L ∧ h = h0
set_option maxRecDepth 65536 in
set_option maxHeartbeats 40000000 in
theorem rmP (l : Launch) (Z : State) (a0 : Array Value) (hw : ∀ d ∈ tables_1, d.before a0 Z = true) (ws : List Jvm.Cond) (p0 : Int32) (w_BloodType_O : Addr) (w_BloodType_AB : Addr) (w_BloodType_B : Addr) (w_BloodType_A : Addr) (r : Addr) (h0 : Heap) (n0 : Nat) (O0 : Old Z n0 h0) (NF : Nar Z w_BloodType_O w_BloodType_AB w_BloodType_B w_BloodType_A) (hr : r = if p0 = 0 then w_BloodType_O else if p0 = 1 then w_BloodType_A else if p0 = 2 then w_BloodType_B else w_BloodType_AB) :
    MetFree l (⟨"com/example/veilmatch/veilmatch/model/BloodTypeCanGiveToPinLaw", "pick", "(I)Lcom/example/veilmatch/veilmatch/model/BloodType;"⟩ : MethodName) (head1 (Jvm.Cond.code (⟨"com/example/veilmatch/veilmatch/model/BloodTypeCanGiveToPinLaw", "pick", "(I)Lcom/example/veilmatch/veilmatch/model/BloodType;"⟩ : MethodName) method_2_code 1 (some (.object "com/example/veilmatch/veilmatch/model/BloodType")) :: ws) ({ frames := 0, cells := 0, slots := 0, locals := 0 } : Room)) (fun a U => a = #[(.int p0)] ∧ Z.Warmed39 U.vm ∧ U.heap = h0) (fun _ _ _ _ _ => True) (fun _ U o U' => ∃ v L, o = .returned v ∧ Q_rmP Z p0 w_BloodType_O w_BloodType_AB w_BloodType_B w_BloodType_A r h0 n0 v U'.heap L ∧ FrameEnd U o U' L ({ frames := 0, cells := 0, slots := 0, locals := 0 } : Room).cells ({ frames := 0, cells := 0, slots := 0, locals := 0 } : Room).slots) := by
  refine MetFree.of_bodySF (plainFor_of_name pn_1) hisR ?_
  intro p e s m args below meth c s₁ Bd hml0 hP hK
  obtain ⟨rfl, hZ, hh⟩ := hP
  have hx := Bd.exec
  have hby := Bd.bytes
  have hml : c.maxLocals = 1 := hml0
  have hown : s.vm.findClass "com/example/veilmatch/veilmatch/model/BloodTypeCanGiveToPinLaw" = some m.cls := findClass_of_methodNamed Bd.named
  have hnm := (name_of_methodNamed Bd.named Bd.method).1
  have X0 : Stand p l e ({ frames := 0, cells := 0, slots := 0, locals := 0 } : Room) s m #[(.int p0)] below meth c s₁ [] 0 0 := Stand.of_body Bd
  have e0 : s₁.heap = h0 := by rw [← hh, Bd.state]; rfl
  have N0 := Fr.nil n0
  suffices G : ∀ (Qf : Outcome → State → Prop), Qf = (fun (_ : Array Value) (U : State) (o : Outcome) (U' : State) => ∃ v L, o = .returned v ∧ Q_rmP Z p0 w_BloodType_O w_BloodType_AB w_BloodType_B w_BloodType_A r h0 n0 v U'.heap L ∧ FrameEnd U o U' L ({ frames := 0, cells := 0, slots := 0, locals := 0 } : Room).cells ({ frames := 0, cells := 0, slots := 0, locals := 0 } : Room).slots) #[] s → Goes p.tables e below Qf (s₁.setTop (mkF m 0 #[.val (.int p0)] [])) by
    obtain ⟨s₂, o, g1, g2, g3, g4⟩ := G _ rfl
    exact ⟨s₂, o, castTop (ef_rmP m _) g1, g2, g3, g4⟩
  intro Qf hQf
  obtain ⟨S_w_BloodType_O, E_w_BloodType_O, S_w_BloodType_AB, E_w_BloodType_AB, S_w_BloodType_B, E_w_BloodType_B, S_w_BloodType_A, E_w_BloodType_A, F_ordinal_w_BloodType_B, F_ordinal_w_BloodType_O, F_ordinal_w_BloodType_A, F_ordinal_w_BloodType_AB⟩ := id NF
  refine Goes.to (T' := s₁.setTop (mkF m 1 #[.val (.int p0)] [(.int p0)])) (fun t k => XS.iloadN X0.here hx rfl (hb hby d1_0) rfl k) ?_
  rcases Decidable.em (p0 = (0 : Int32)) with hc1_1 | hc1_1
  · skip
    refine Goes.to (T' := s₁.setTop (mkF m 4 #[.val (.int p0)] [])) (fun t k => XS.ifNo X0.here hx rfl (hb hby d1_1) rfl ((if0 _ _).trans (teq hc1_1).2) k) ?_
    obtain ⟨T2, X2, e2, st2⟩ := getS2 X0 hx hZ hown (host := "") (Or.inl (hw _ (List.mem_of_getElem? (i := 4) rfl))) Via.refl e0 (S_w_BloodType_O.ext O0.2) (g := (mkF m 4 #[.val (.int p0)] [])) rfl (hb hby d1_4)
    refine Goes.to (T' := T2.setTop (mkF m 7 #[.val (.int p0)] [(.ref w_BloodType_O)])) st2 ?_
    obtain ⟨fs, hrL, hrun, hended, hW, hsame⟩ := X2.leave (v := some (.ref w_BloodType_O)) (fun h => by rw [Bd.returns] at h; cases h)
    subst hQf
    refine ⟨_, _, retOut X2 hx Bd.returns rfl (Or.inr (Or.inr (Or.inr (Or.inr ⟨rfl, rfl, rfl⟩)))) (hb hby d1_7) hrL, hrun, hended, _, _, rfl, ?_, ⟨_, rfl⟩, hW, hsame.mono (by decide) (by decide)⟩
    show (fun (v : Option Value) (h : Heap) (L : List Loc) => v = some (.ref r) ∧ Fr n0 L ∧ h = h0) (some (.ref w_BloodType_O)) T2.heap _
    rw [e2]
    have hv : w_BloodType_O = r := by rw [hr]; simp [hc1_1]
    exact ⟨by rw [hv], N0, rfl⟩
  · skip
    refine Goes.to (T' := s₁.setTop (mkF m 8 #[.val (.int p0)] [])) (fun t k => XS.ifYes X0.here hx rfl (pc0 := 1) (pc' := 8) rfl (hb hby d1_1) rfl ((if0 _ _).trans (feq hc1_1).2) (by decide) (by decide) k) ?_
    refine Goes.to (T' := s₁.setTop (mkF m 9 #[.val (.int p0)] [(.int p0)])) (fun t k => XS.iloadN X0.here hx rfl (hb hby d1_8) rfl k) ?_
    refine Goes.to (T' := s₁.setTop (mkF m 10 #[.val (.int p0)] [(.int (1 : Int32)), (.int p0)])) (fun t k => XS.iconst X0.here hx rfl (hb hby d1_9) k) ?_
    rcases Decidable.em (p0 = (1 : Int32)) with hc10_3 | hc10_3
    · skip
      refine Goes.to (T' := s₁.setTop (mkF m 13 #[.val (.int p0)] [])) (fun t k => XS.icmpNo X0.here hx rfl (hb hby d1_10) rfl (teq hc10_3).2 k) ?_
      obtain ⟨T4, X4, e4, st4⟩ := getS2 X0 hx hZ hown (host := "") (Or.inl (hw _ (List.mem_of_getElem? (i := 17) rfl))) Via.refl e0 (S_w_BloodType_A.ext O0.2) (g := (mkF m 13 #[.val (.int p0)] [])) rfl (hb hby d1_13)
      refine Goes.to (T' := T4.setTop (mkF m 16 #[.val (.int p0)] [(.ref w_BloodType_A)])) st4 ?_
      obtain ⟨fs, hrL, hrun, hended, hW, hsame⟩ := X4.leave (v := some (.ref w_BloodType_A)) (fun h => by rw [Bd.returns] at h; cases h)
      subst hQf
      refine ⟨_, _, retOut X4 hx Bd.returns rfl (Or.inr (Or.inr (Or.inr (Or.inr ⟨rfl, rfl, rfl⟩)))) (hb hby d1_16) hrL, hrun, hended, _, _, rfl, ?_, ⟨_, rfl⟩, hW, hsame.mono (by decide) (by decide)⟩
      show (fun (v : Option Value) (h : Heap) (L : List Loc) => v = some (.ref r) ∧ Fr n0 L ∧ h = h0) (some (.ref w_BloodType_A)) T4.heap _
      rw [e4]
      have hv : w_BloodType_A = r := by rw [hr]; simp [hc1_1, hc10_3]
      exact ⟨by rw [hv], N0, rfl⟩
    · skip
      refine Goes.to (T' := s₁.setTop (mkF m 17 #[.val (.int p0)] [])) (fun t k => XS.icmpYes X0.here hx rfl (pc0 := 10) (pc' := 17) rfl (hb hby d1_10) rfl (feq hc10_3).2 (by decide) (by decide) k) ?_
      refine Goes.to (T' := s₁.setTop (mkF m 18 #[.val (.int p0)] [(.int p0)])) (fun t k => XS.iloadN X0.here hx rfl (hb hby d1_17) rfl k) ?_
      refine Goes.to (T' := s₁.setTop (mkF m 19 #[.val (.int p0)] [(.int (2 : Int32)), (.int p0)])) (fun t k => XS.iconst X0.here hx rfl (hb hby d1_18) k) ?_
      rcases Decidable.em (p0 = (2 : Int32)) with hc19_5 | hc19_5
      · skip
        refine Goes.to (T' := s₁.setTop (mkF m 22 #[.val (.int p0)] [])) (fun t k => XS.icmpNo X0.here hx rfl (hb hby d1_19) rfl (teq hc19_5).2 k) ?_
        obtain ⟨T6, X6, e6, st6⟩ := getS2 X0 hx hZ hown (host := "") (Or.inl (hw _ (List.mem_of_getElem? (i := 15) rfl))) Via.refl e0 (S_w_BloodType_B.ext O0.2) (g := (mkF m 22 #[.val (.int p0)] [])) rfl (hb hby d1_22)
        refine Goes.to (T' := T6.setTop (mkF m 25 #[.val (.int p0)] [(.ref w_BloodType_B)])) st6 ?_
        obtain ⟨fs, hrL, hrun, hended, hW, hsame⟩ := X6.leave (v := some (.ref w_BloodType_B)) (fun h => by rw [Bd.returns] at h; cases h)
        subst hQf
        refine ⟨_, _, retOut X6 hx Bd.returns rfl (Or.inr (Or.inr (Or.inr (Or.inr ⟨rfl, rfl, rfl⟩)))) (hb hby d1_25) hrL, hrun, hended, _, _, rfl, ?_, ⟨_, rfl⟩, hW, hsame.mono (by decide) (by decide)⟩
        show (fun (v : Option Value) (h : Heap) (L : List Loc) => v = some (.ref r) ∧ Fr n0 L ∧ h = h0) (some (.ref w_BloodType_B)) T6.heap _
        rw [e6]
        have hv : w_BloodType_B = r := by rw [hr]; simp [hc1_1, hc10_3, hc19_5]
        exact ⟨by rw [hv], N0, rfl⟩
      · skip
        refine Goes.to (T' := s₁.setTop (mkF m 26 #[.val (.int p0)] [])) (fun t k => XS.icmpYes X0.here hx rfl (pc0 := 19) (pc' := 26) rfl (hb hby d1_19) rfl (feq hc19_5).2 (by decide) (by decide) k) ?_
        obtain ⟨T7, X7, e7, st7⟩ := getS2 X0 hx hZ hown (host := "") (Or.inl (hw _ (List.mem_of_getElem? (i := 7) rfl))) Via.refl e0 (S_w_BloodType_AB.ext O0.2) (g := (mkF m 26 #[.val (.int p0)] [])) rfl (hb hby d1_26)
        refine Goes.to (T' := T7.setTop (mkF m 29 #[.val (.int p0)] [(.ref w_BloodType_AB)])) st7 ?_
        obtain ⟨fs, hrL, hrun, hended, hW, hsame⟩ := X7.leave (v := some (.ref w_BloodType_AB)) (fun h => by rw [Bd.returns] at h; cases h)
        subst hQf
        refine ⟨_, _, retOut X7 hx Bd.returns rfl (Or.inr (Or.inr (Or.inr (Or.inr ⟨rfl, rfl, rfl⟩)))) (hb hby d1_29) hrL, hrun, hended, _, _, rfl, ?_, ⟨_, rfl⟩, hW, hsame.mono (by decide) (by decide)⟩
        show (fun (v : Option Value) (h : Heap) (L : List Loc) => v = some (.ref r) ∧ Fr n0 L ∧ h = h0) (some (.ref w_BloodType_AB)) T7.heap _
        rw [e7]
        have hv : w_BloodType_AB = r := by rw [hr]; simp [hc1_1, hc10_3, hc19_5]
        exact ⟨by rw [hv], N0, rfl⟩
theorem d2_0 : decode prog_10_method_4_code 0 = .ok (.aload_n 0, 1) := by decide +kernel
theorem d2_1 : decode prog_10_method_4_code 1 = .ok (.getstatic 3, 3) := by decide +kernel
theorem d2_4 : decode prog_10_method_4_code 4 = .ok (.if_acmp .eq 15, 3) := by decide +kernel
theorem d2_7 : decode prog_10_method_4_code 7 = .ok (.aload_n 0, 1) := by decide +kernel
theorem d2_8 : decode prog_10_method_4_code 8 = .ok (.aload_n 1, 1) := by decide +kernel
theorem d2_9 : decode prog_10_method_4_code 9 = .ok (.if_acmp .eq 10, 3) := by decide +kernel
theorem d2_12 : decode prog_10_method_4_code 12 = .ok (.aload_n 1, 1) := by decide +kernel
theorem d2_13 : decode prog_10_method_4_code 13 = .ok (.getstatic 13, 3) := by decide +kernel
theorem d2_16 : decode prog_10_method_4_code 16 = .ok (.if_acmp .ne 7, 3) := by decide +kernel
theorem d2_19 : decode prog_10_method_4_code 19 = .ok (.iconst 1, 1) := by decide +kernel
theorem d2_20 : decode prog_10_method_4_code 20 = .ok (.goto 4, 3) := by decide +kernel
theorem d2_23 : decode prog_10_method_4_code 23 = .ok (.iconst 0, 1) := by decide +kernel
theorem d2_24 : decode prog_10_method_4_code 24 = .ok (.ireturn, 1) := by decide +kernel
theorem pn_2 : plainName "com/example/veilmatch/veilmatch/model/BloodType" = true := by first | (simp [plainName, overriddenIn]; done) | decide +kernel
theorem ef_rmG (m : MethodId) (x0 : Addr) (x1 : Addr) : entryFrame m #[(.ref x0), (.ref x1)] 2 = mkF m 0 #[.val (.ref x0), .val (.ref x1)] [] := by first | (simp [entryFrame, mkF, argsToLocals, Value.category]; done) | rfl
def Q_rmG (Z : State) (xa : Addr) (xb : Addr) (w_BloodType_O : Addr) (w_BloodType_AB : Addr) (w_BloodType_B : Addr) (w_BloodType_A : Addr) (r : Int32) (h0 : Heap) (n0 : Nat) (v : Option Value) (h : Heap) (L : List Loc) : Prop := v = some (.int r) ∧ Fr n0 L ∧ h = h0
set_option maxRecDepth 65536 in
set_option maxHeartbeats 40000000 in
theorem rmG (l : Launch) (Z : State) (a0 : Array Value) (hw : ∀ d ∈ tables_1, d.before a0 Z = true) (ws : List Jvm.Cond) (xa : Addr) (xb : Addr) (w_BloodType_O : Addr) (w_BloodType_AB : Addr) (w_BloodType_B : Addr) (w_BloodType_A : Addr) (r : Int32) (h0 : Heap) (n0 : Nat) (O0 : Old Z n0 h0) (NF : Nar Z w_BloodType_O w_BloodType_AB w_BloodType_B w_BloodType_A) (hr : r = if xa = w_BloodType_O ∨ xa = xb ∨ xb = w_BloodType_AB then 1 else 0) :
    MetFree l (⟨"com/example/veilmatch/veilmatch/model/BloodType", "canGiveTo", "(Lcom/example/veilmatch/veilmatch/model/BloodType;)Z"⟩ : MethodName) (head1 (Jvm.Cond.code (⟨"com/example/veilmatch/veilmatch/model/BloodType", "canGiveTo", "(Lcom/example/veilmatch/veilmatch/model/BloodType;)Z"⟩ : MethodName) prog_10_method_4_code 2 (some .boolean) :: ws) ({ frames := 0, cells := 0, slots := 0, locals := 0 } : Room)) (fun a U => a = #[(.ref xa), (.ref xb)] ∧ Z.Warmed39 U.vm ∧ U.heap = h0) (fun _ _ _ _ _ => True) (fun _ U o U' => ∃ v L, o = .returned v ∧ Q_rmG Z xa xb w_BloodType_O w_BloodType_AB w_BloodType_B w_BloodType_A r h0 n0 v U'.heap L ∧ FrameEnd U o U' L ({ frames := 0, cells := 0, slots := 0, locals := 0 } : Room).cells ({ frames := 0, cells := 0, slots := 0, locals := 0 } : Room).slots) := by
  refine MetFree.of_bodySF (plainFor_of_name pn_2) hisR ?_
  intro p e s m args below meth c s₁ Bd hml0 hP hK
  obtain ⟨rfl, hZ, hh⟩ := hP
  have hx := Bd.exec
  have hby := Bd.bytes
  have hml : c.maxLocals = 2 := hml0
  have hown : s.vm.findClass "com/example/veilmatch/veilmatch/model/BloodType" = some m.cls := findClass_of_methodNamed Bd.named
  have hnm := (name_of_methodNamed Bd.named Bd.method).1
  have X0 : Stand p l e ({ frames := 0, cells := 0, slots := 0, locals := 0 } : Room) s m #[(.ref xa), (.ref xb)] below meth c s₁ [] 0 0 := Stand.of_body Bd
  have e0 : s₁.heap = h0 := by rw [← hh, Bd.state]; rfl
  have N0 := Fr.nil n0
  suffices G : ∀ (Qf : Outcome → State → Prop), Qf = (fun (_ : Array Value) (U : State) (o : Outcome) (U' : State) => ∃ v L, o = .returned v ∧ Q_rmG Z xa xb w_BloodType_O w_BloodType_AB w_BloodType_B w_BloodType_A r h0 n0 v U'.heap L ∧ FrameEnd U o U' L ({ frames := 0, cells := 0, slots := 0, locals := 0 } : Room).cells ({ frames := 0, cells := 0, slots := 0, locals := 0 } : Room).slots) #[] s → Goes p.tables e below Qf (s₁.setTop (mkF m 0 #[.val (.ref xa), .val (.ref xb)] [])) by
    obtain ⟨s₂, o, g1, g2, g3, g4⟩ := G _ rfl
    exact ⟨s₂, o, castTop (ef_rmG m _ _) g1, g2, g3, g4⟩
  intro Qf hQf
  obtain ⟨S_w_BloodType_O, E_w_BloodType_O, S_w_BloodType_AB, E_w_BloodType_AB, S_w_BloodType_B, E_w_BloodType_B, S_w_BloodType_A, E_w_BloodType_A, F_ordinal_w_BloodType_B, F_ordinal_w_BloodType_O, F_ordinal_w_BloodType_A, F_ordinal_w_BloodType_AB⟩ := id NF
  refine Goes.to (T' := s₁.setTop (mkF m 1 #[.val (.ref xa), .val (.ref xb)] [(.ref xa)])) (fun t k => XS.aloadN X0.here hx rfl (hb hby d2_0) rfl rfl k) ?_
  obtain ⟨T1, X1, e1, st1⟩ := getS2 X0 hx hZ hown (host := "") (Or.inl (hw _ (List.mem_of_getElem? (i := 14) rfl))) Via.refl e0 (S_w_BloodType_O.ext O0.2) (g := (mkF m 1 #[.val (.ref xa), .val (.ref xb)] [(.ref xa)])) rfl (hb hby d2_1)
  refine Goes.to (T' := T1.setTop (mkF m 4 #[.val (.ref xa), .val (.ref xb)] [(.ref w_BloodType_O), (.ref xa)])) st1 ?_
  rcases Decidable.em (xa = w_BloodType_O) with hc4_2 | hc4_2
  · skip
    refine Goes.to (T' := T1.setTop (mkF m 19 #[.val (.ref xa), .val (.ref xb)] [])) (fun t k => Jvm.RoadKit.acmp (g := (mkF m 4 #[.val (.ref xa), .val (.ref xb)] [(.ref w_BloodType_O), (.ref xa)])) X1 hx rfl rfl rfl (pc0 := 4) (pc' := 19) (same := true) rfl (hb hby d2_4) rfl (decide_eq_true (congrArg Value.ref hc4_2)) (by decide) (by decide) k) ?_
    refine Goes.to (T' := T1.setTop (mkF m 20 #[.val (.ref xa), .val (.ref xb)] [(.int (1 : Int32))])) (fun t k => XS.iconst X1.here hx rfl (hb hby d2_19) k) ?_
    refine Goes.to (T' := T1.setTop (mkF m 24 #[.val (.ref xa), .val (.ref xb)] [(.int (1 : Int32))])) (fun t k => XS.goto X1.here hx rfl (pc0 := 20) (pc' := 24) rfl (hb hby d2_20) (by decide) (by decide) k) ?_
    obtain ⟨fs, hrL, hrun, hended, hW, hsame⟩ := X1.leave (v := some (.int (1 : Int32))) (fun h => by rw [Bd.returns] at h; cases h)
    subst hQf
    refine ⟨_, _, retN X1 hx (t := .boolean) Bd.returns (by simp) (hb hby d2_24) hrL, hrun, hended, _, _, rfl, ?_, ⟨_, rfl⟩, hW, hsame.mono (by decide) (by decide)⟩
    show (fun (v : Option Value) (h : Heap) (L : List Loc) => v = some (.int r) ∧ Fr n0 L ∧ h = h0) (some (.int (1 : Int32))) T1.heap _
    rw [e1]
    have hv : (1 : Int32) = r := by rw [hr]; simp [hc4_2]
    exact ⟨by rw [hv], N0, rfl⟩
  · skip
    refine Goes.to (T' := T1.setTop (mkF m 7 #[.val (.ref xa), .val (.ref xb)] [])) (fun t k => Jvm.RoadKit.acmp (g := (mkF m 4 #[.val (.ref xa), .val (.ref xb)] [(.ref w_BloodType_O), (.ref xa)])) X1 hx rfl rfl rfl (pc0 := 4) (pc' := 7) (same := false) rfl (hb hby d2_4) rfl (decide_eq_false fun q => hc4_2 (Value.ref.inj q)) (by decide) (by decide) k) ?_
    refine Goes.to (T' := T1.setTop (mkF m 8 #[.val (.ref xa), .val (.ref xb)] [(.ref xa)])) (fun t k => XS.aloadN X1.here hx rfl (hb hby d2_7) rfl rfl k) ?_
    refine Goes.to (T' := T1.setTop (mkF m 9 #[.val (.ref xa), .val (.ref xb)] [(.ref xb), (.ref xa)])) (fun t k => XS.aloadN X1.here hx rfl (hb hby d2_8) rfl rfl k) ?_
    rcases Decidable.em (xa = xb) with hc9_3 | hc9_3
    · skip
      refine Goes.to (T' := T1.setTop (mkF m 19 #[.val (.ref xa), .val (.ref xb)] [])) (fun t k => Jvm.RoadKit.acmp (g := (mkF m 9 #[.val (.ref xa), .val (.ref xb)] [(.ref xb), (.ref xa)])) X1 hx rfl rfl rfl (pc0 := 9) (pc' := 19) (same := true) rfl (hb hby d2_9) rfl (decide_eq_true (congrArg Value.ref hc9_3)) (by decide) (by decide) k) ?_
      refine Goes.to (T' := T1.setTop (mkF m 20 #[.val (.ref xa), .val (.ref xb)] [(.int (1 : Int32))])) (fun t k => XS.iconst X1.here hx rfl (hb hby d2_19) k) ?_
      refine Goes.to (T' := T1.setTop (mkF m 24 #[.val (.ref xa), .val (.ref xb)] [(.int (1 : Int32))])) (fun t k => XS.goto X1.here hx rfl (pc0 := 20) (pc' := 24) rfl (hb hby d2_20) (by decide) (by decide) k) ?_
      obtain ⟨fs, hrL, hrun, hended, hW, hsame⟩ := X1.leave (v := some (.int (1 : Int32))) (fun h => by rw [Bd.returns] at h; cases h)
      subst hQf
      refine ⟨_, _, retN X1 hx (t := .boolean) Bd.returns (by simp) (hb hby d2_24) hrL, hrun, hended, _, _, rfl, ?_, ⟨_, rfl⟩, hW, hsame.mono (by decide) (by decide)⟩
      show (fun (v : Option Value) (h : Heap) (L : List Loc) => v = some (.int r) ∧ Fr n0 L ∧ h = h0) (some (.int (1 : Int32))) T1.heap _
      rw [e1]
      have hv : (1 : Int32) = r := by rw [hr]; simp [hc4_2, hc9_3]
      exact ⟨by rw [hv], N0, rfl⟩
    · skip
      refine Goes.to (T' := T1.setTop (mkF m 12 #[.val (.ref xa), .val (.ref xb)] [])) (fun t k => Jvm.RoadKit.acmp (g := (mkF m 9 #[.val (.ref xa), .val (.ref xb)] [(.ref xb), (.ref xa)])) X1 hx rfl rfl rfl (pc0 := 9) (pc' := 12) (same := false) rfl (hb hby d2_9) rfl (decide_eq_false fun q => hc9_3 (Value.ref.inj q)) (by decide) (by decide) k) ?_
      refine Goes.to (T' := T1.setTop (mkF m 13 #[.val (.ref xa), .val (.ref xb)] [(.ref xb)])) (fun t k => XS.aloadN X1.here hx rfl (hb hby d2_12) rfl rfl k) ?_
      obtain ⟨T4, X4, e4, st4⟩ := getS2 X1 hx hZ hown (host := "") (Or.inl (hw _ (List.mem_of_getElem? (i := 19) rfl))) Via.refl e1 (S_w_BloodType_AB.ext O0.2) (g := (mkF m 13 #[.val (.ref xa), .val (.ref xb)] [(.ref xb)])) rfl (hb hby d2_13)
      refine Goes.to (T' := T4.setTop (mkF m 16 #[.val (.ref xa), .val (.ref xb)] [(.ref w_BloodType_AB), (.ref xb)])) st4 ?_
      rcases Decidable.em (xb = w_BloodType_AB) with hc16_5 | hc16_5
      · skip
        refine Goes.to (T' := T4.setTop (mkF m 19 #[.val (.ref xa), .val (.ref xb)] [])) (fun t k => Jvm.RoadKit.acmp (g := (mkF m 16 #[.val (.ref xa), .val (.ref xb)] [(.ref w_BloodType_AB), (.ref xb)])) X4 hx rfl rfl rfl (pc0 := 16) (pc' := 19) (same := true) rfl (hb hby d2_16) rfl (decide_eq_true (congrArg Value.ref hc16_5)) (by decide) (by decide) k) ?_
        refine Goes.to (T' := T4.setTop (mkF m 20 #[.val (.ref xa), .val (.ref xb)] [(.int (1 : Int32))])) (fun t k => XS.iconst X4.here hx rfl (hb hby d2_19) k) ?_
        refine Goes.to (T' := T4.setTop (mkF m 24 #[.val (.ref xa), .val (.ref xb)] [(.int (1 : Int32))])) (fun t k => XS.goto X4.here hx rfl (pc0 := 20) (pc' := 24) rfl (hb hby d2_20) (by decide) (by decide) k) ?_
        obtain ⟨fs, hrL, hrun, hended, hW, hsame⟩ := X4.leave (v := some (.int (1 : Int32))) (fun h => by rw [Bd.returns] at h; cases h)
        subst hQf
        refine ⟨_, _, retN X4 hx (t := .boolean) Bd.returns (by simp) (hb hby d2_24) hrL, hrun, hended, _, _, rfl, ?_, ⟨_, rfl⟩, hW, hsame.mono (by decide) (by decide)⟩
        show (fun (v : Option Value) (h : Heap) (L : List Loc) => v = some (.int r) ∧ Fr n0 L ∧ h = h0) (some (.int (1 : Int32))) T4.heap _
        rw [e4]
        have hv : (1 : Int32) = r := by rw [hr]; simp [hc4_2, hc9_3, hc16_5]
        exact ⟨by rw [hv], N0, rfl⟩
      · skip
        refine Goes.to (T' := T4.setTop (mkF m 23 #[.val (.ref xa), .val (.ref xb)] [])) (fun t k => Jvm.RoadKit.acmp (g := (mkF m 16 #[.val (.ref xa), .val (.ref xb)] [(.ref w_BloodType_AB), (.ref xb)])) X4 hx rfl rfl rfl (pc0 := 16) (pc' := 23) (same := false) rfl (hb hby d2_16) rfl (decide_eq_false fun q => hc16_5 (Value.ref.inj q)) (by decide) (by decide) k) ?_
        refine Goes.to (T' := T4.setTop (mkF m 24 #[.val (.ref xa), .val (.ref xb)] [(.int (0 : Int32))])) (fun t k => XS.iconst X4.here hx rfl (hb hby d2_23) k) ?_
        obtain ⟨fs, hrL, hrun, hended, hW, hsame⟩ := X4.leave (v := some (.int (0 : Int32))) (fun h => by rw [Bd.returns] at h; cases h)
        subst hQf
        refine ⟨_, _, retN X4 hx (t := .boolean) Bd.returns (by simp) (hb hby d2_24) hrL, hrun, hended, _, _, rfl, ?_, ⟨_, rfl⟩, hW, hsame.mono (by decide) (by decide)⟩
        show (fun (v : Option Value) (h : Heap) (L : List Loc) => v = some (.int r) ∧ Fr n0 L ∧ h = h0) (some (.int (0 : Int32))) T4.heap _
        rw [e4]
        have hv : (0 : Int32) = r := by rw [hr]; simp [hc4_2, hc9_3, hc16_5]
        exact ⟨by rw [hv], N0, rfl⟩
theorem pd_31 : parseMethodDescriptor "(I)Lcom/example/veilmatch/veilmatch/model/BloodType;" = some ⟨[.int], some (.object "com/example/veilmatch/veilmatch/model/BloodType")⟩ := by decide +kernel
theorem pd_32 : parseMethodDescriptor "(Lcom/example/veilmatch/veilmatch/model/BloodType;)Z" = some ⟨[(.object "com/example/veilmatch/veilmatch/model/BloodType")], some .boolean⟩ := by decide +kernel
theorem pn_0 : plainName "com/example/veilmatch/veilmatch/model/BloodTypeCanGiveToPinLaw" = true := by first | (simp [plainName, overriddenIn]; done) | decide +kernel
theorem ef_rm0 (m : MethodId) (x0 : Int32) (x1 : Int32) : entryFrame m #[(.int x0), (.int x1)] maxLocals = mkF m 0 #[.val (.int x0), .val (.int x1), .unset, .unset, .unset, .unset, .unset] [] := by first | (simp [entryFrame, mkF, argsToLocals, Value.category, maxLocals]; done) | rfl
def Q_rm0 (Z : State) (p0 : Int32) (p1 : Int32) (w_BloodType_O : Addr) (w_BloodType_AB : Addr) (w_BloodType_B : Addr) (w_BloodType_A : Addr) (h0 : Heap) (n0 : Nat) (v : Option Value) (h : Heap) (L : List Loc) : Prop := v = some (.int 1) ∧ Fr n0 L
set_option maxRecDepth 65536 in
set_option maxHeartbeats 40000000 in
theorem rm0 (l : Launch) (Z : State) (a0 : Array Value) (hw : ∀ d ∈ tables_1, d.before a0 Z = true) (ws : List Jvm.Cond) (p0 : Int32) (p1 : Int32) (w_BloodType_O : Addr) (w_BloodType_AB : Addr) (w_BloodType_B : Addr) (w_BloodType_A : Addr) (h0 : Heap) (n0 : Nat) (O0 : Old Z n0 h0) (NF : Nar Z w_BloodType_O w_BloodType_AB w_BloodType_B w_BloodType_A) :
    MetFree l x (head1 (Jvm.Cond.code x code maxLocals ret :: ws) room_1) (fun a U => a = #[(.int p0), (.int p1)] ∧ Z.Warmed39 U.vm ∧ U.heap = h0) (fun _ _ _ _ _ => True) (fun _ U o U' => ∃ v L, o = .returned v ∧ Q_rm0 Z p0 p1 w_BloodType_O w_BloodType_AB w_BloodType_B w_BloodType_A h0 n0 v U'.heap L ∧ FrameEnd U o U' L room_1.cells room_1.slots) := by
  refine MetFree.of_bodySF (plainFor_of_name pn_0) hisR ?_
  intro p e s m args below meth c s₁ Bd hml0 hP hK
  obtain ⟨rfl, hZ, hh⟩ := hP
  have hx := Bd.exec
  have hby := Bd.bytes
  have hml : c.maxLocals = 7 := hml0
  have hown : s.vm.findClass "com/example/veilmatch/veilmatch/model/BloodTypeCanGiveToPinLaw" = some m.cls := findClass_of_methodNamed Bd.named
  have hnm := (name_of_methodNamed Bd.named Bd.method).1
  have X0 : Stand p l e room_1 s m #[(.int p0), (.int p1)] below meth c s₁ [] 0 0 := Stand.of_body Bd
  have e0 : s₁.heap = h0 := by rw [← hh, Bd.state]; rfl
  have N0 := Fr.nil n0
  suffices G : ∀ (Qf : Outcome → State → Prop), Qf = (fun (_ : Array Value) (U : State) (o : Outcome) (U' : State) => ∃ v L, o = .returned v ∧ Q_rm0 Z p0 p1 w_BloodType_O w_BloodType_AB w_BloodType_B w_BloodType_A h0 n0 v U'.heap L ∧ FrameEnd U o U' L room_1.cells room_1.slots) #[] s → Goes p.tables e below Qf (s₁.setTop (mkF m 0 #[.val (.int p0), .val (.int p1), .unset, .unset, .unset, .unset, .unset] [])) by
    obtain ⟨s₂, o, g1, g2, g3, g4⟩ := G _ rfl
    exact ⟨s₂, o, castTop (ef_rm0 m _ _) g1, g2, g3, g4⟩
  intro Qf hQf
  obtain ⟨S_w_BloodType_O, E_w_BloodType_O, S_w_BloodType_AB, E_w_BloodType_AB, S_w_BloodType_B, E_w_BloodType_B, S_w_BloodType_A, E_w_BloodType_A, F_ordinal_w_BloodType_B, F_ordinal_w_BloodType_O, F_ordinal_w_BloodType_A, F_ordinal_w_BloodType_AB⟩ := id NF
  refine Goes.to (T' := s₁.setTop (mkF m 1 #[.val (.int p0), .val (.int p1), .unset, .unset, .unset, .unset, .unset] [(.int p0)])) (fun t k => XS.iloadN X0.here hx rfl (hb hby at_0) rfl k) ?_
  refine Goes.to (T' := s₁.setTop (mkF m 2 #[.val (.int p0), .val (.int p1), .unset, .unset, .unset, .unset, .unset] [(.int (3 : Int32)), (.int p0)])) (fun t k => XS.iconst X0.here hx rfl (hb hby at_1) k) ?_
  refine Goes.to (T' := s₁.setTop (mkF m 3 #[.val (.int p0), .val (.int p1), .unset, .unset, .unset, .unset, .unset] [(.int (p0 &&& (3 : Int32)))])) (fun t k => XS.iand X0.here hx rfl (hb hby at_2) rfl k) ?_
  rcases own_and3 p0 with hv_1 | hv_1 | hv_1 | hv_1
  · rw [hv_1]
    refine Goes.to (T' := s₁.setTop (mkF m 4 #[.val (.int p0), .val (.int p1), .val (.int (0 : Int32)), .unset, .unset, .unset, .unset] [])) (fun t k => XS.istoreN X0.here hx rfl (hb hby at_3) rfl (l' := #[.val (.int p0), .val (.int p1), .val (.int (0 : Int32)), .unset, .unset, .unset, .unset]) rfl k) ?_
    refine Goes.to (T' := s₁.setTop (mkF m 5 #[.val (.int p0), .val (.int p1), .val (.int (0 : Int32)), .unset, .unset, .unset, .unset] [(.int p1)])) (fun t k => XS.iloadN X0.here hx rfl (hb hby at_4) rfl k) ?_
    refine Goes.to (T' := s₁.setTop (mkF m 6 #[.val (.int p0), .val (.int p1), .val (.int (0 : Int32)), .unset, .unset, .unset, .unset] [(.int (3 : Int32)), (.int p1)])) (fun t k => XS.iconst X0.here hx rfl (hb hby at_5) k) ?_
    refine Goes.to (T' := s₁.setTop (mkF m 7 #[.val (.int p0), .val (.int p1), .val (.int (0 : Int32)), .unset, .unset, .unset, .unset] [(.int (p1 &&& (3 : Int32)))])) (fun t k => XS.iand X0.here hx rfl (hb hby at_6) rfl k) ?_
    rcases own_and3 p1 with hv_2 | hv_2 | hv_2 | hv_2
    · rw [hv_2]
      refine Goes.to (T' := s₁.setTop (mkF m 8 #[.val (.int p0), .val (.int p1), .val (.int (0 : Int32)), .val (.int (0 : Int32)), .unset, .unset, .unset] [])) (fun t k => XS.istoreN X0.here hx rfl (hb hby at_7) rfl (l' := #[.val (.int p0), .val (.int p1), .val (.int (0 : Int32)), .val (.int (0 : Int32)), .unset, .unset, .unset]) rfl k) ?_
      refine Goes.to (T' := s₁.setTop (mkF m 9 #[.val (.int p0), .val (.int p1), .val (.int (0 : Int32)), .val (.int (0 : Int32)), .unset, .unset, .unset] [(.int (0 : Int32))])) (fun t k => XS.iloadN X0.here hx rfl (hb hby at_8) rfl k) ?_
      obtain ⟨_, _, ⟨T3, L3, k3, n3⟩, -, X3, ⟨Lc3, hQ3, l3, y3, z3⟩, st3⟩ := Jvm.LawKit.callS X0 hx (y := (⟨"com/example/veilmatch/veilmatch/model/BloodTypeCanGiveToPinLaw", "pick", "(I)Lcom/example/veilmatch/veilmatch/model/BloodType;"⟩ : MethodName)) hown (mvT hZ (hw _ (List.mem_of_getElem? (i := 0) rfl))) (mvT hZ (hw _ (List.mem_of_getElem? (i := 1) rfl))) (mvT hZ (hw _ (List.mem_of_getElem? (i := 2) rfl))) (mvT hZ (hw _ (List.mem_of_getElem? (i := 3) rfl))) (by decide) (backOf (W := 0) (rmP l Z a0 hw [] (0 : Int32) w_BloodType_O w_BloodType_AB w_BloodType_B w_BloodType_A w_BloodType_O h0 n0 O0 NF (by simp)) hZ (hw _ (List.mem_of_getElem? (i := 3) rfl)) (hw _ (List.mem_of_getElem? (i := 2) rfl)) (by decide) (by decide)) (g := (mkF m 9 #[.val (.int p0), .val (.int p1), .val (.int (0 : Int32)), .val (.int (0 : Int32)), .unset, .unset, .unset] [(.int (0 : Int32))])) rfl (by rw [hml]; rfl) (argsL := [(.int (0 : Int32))]) (rest := []) (lenOf pd_31 rfl) rfl (by show 2 * 0 + _ ≤ _; exact Nat.le_of_eq rfl) (hb hby at_9) (fun _ _ => ⟨rfl, e0, (by decide : 0 + 0 ≤ _), (by decide : 0 + 0 ≤ _)⟩)
      dsimp only [Pt.U, Pt.locs, Pt.cells, Pt.slots] at X3 l3 y3 z3 st3 hQ3
      subst l3 y3 z3
      obtain ⟨rfl, Nq3, e3⟩ := hQ3
      have N3 := Fr.app N0 Nq3
      refine Goes.to (T' := T3.setTop (mkF m 12 #[.val (.int p0), .val (.int p1), .val (.int (0 : Int32)), .val (.int (0 : Int32)), .unset, .unset, .unset] [(.ref w_BloodType_O)])) st3 ?_
      refine Goes.to (T' := T3.setTop (mkF m 14 #[.val (.int p0), .val (.int p1), .val (.int (0 : Int32)), .val (.int (0 : Int32)), .val (.ref w_BloodType_O), .unset, .unset] [])) (fun t k => XS.astore X3.here hx rfl (hb hby at_12) rfl rfl (l' := #[.val (.int p0), .val (.int p1), .val (.int (0 : Int32)), .val (.int (0 : Int32)), .val (.ref w_BloodType_O), .unset, .unset]) rfl k) ?_
      refine Goes.to (T' := T3.setTop (mkF m 15 #[.val (.int p0), .val (.int p1), .val (.int (0 : Int32)), .val (.int (0 : Int32)), .val (.ref w_BloodType_O), .unset, .unset] [(.int (0 : Int32))])) (fun t k => XS.iloadN X3.here hx rfl (hb hby at_14) rfl k) ?_
      obtain ⟨_, _, ⟨T4, L4, k4, n4⟩, -, X4, ⟨Lc4, hQ4, l4, y4, z4⟩, st4⟩ := Jvm.LawKit.callS X3 hx (y := (⟨"com/example/veilmatch/veilmatch/model/BloodTypeCanGiveToPinLaw", "pick", "(I)Lcom/example/veilmatch/veilmatch/model/BloodType;"⟩ : MethodName)) hown (mvT hZ (hw _ (List.mem_of_getElem? (i := 0) rfl))) (mvT hZ (hw _ (List.mem_of_getElem? (i := 1) rfl))) (mvT hZ (hw _ (List.mem_of_getElem? (i := 2) rfl))) (mvT hZ (hw _ (List.mem_of_getElem? (i := 3) rfl))) (by decide) (backOf (W := 0) (rmP l Z a0 hw [] (0 : Int32) w_BloodType_O w_BloodType_AB w_BloodType_B w_BloodType_A w_BloodType_O h0 n0 O0 NF (by simp)) hZ (hw _ (List.mem_of_getElem? (i := 3) rfl)) (hw _ (List.mem_of_getElem? (i := 2) rfl)) (by decide) (by decide)) (g := (mkF m 15 #[.val (.int p0), .val (.int p1), .val (.int (0 : Int32)), .val (.int (0 : Int32)), .val (.ref w_BloodType_O), .unset, .unset] [(.int (0 : Int32))])) rfl (by rw [hml]; rfl) (argsL := [(.int (0 : Int32))]) (rest := []) (lenOf pd_31 rfl) rfl (by show 2 * 0 + _ ≤ _; exact Nat.le_of_eq rfl) (hb hby at_15) (fun _ _ => ⟨rfl, e3, (by decide : 0 + 0 ≤ _), (by decide : 0 + 0 ≤ _)⟩)
      dsimp only [Pt.U, Pt.locs, Pt.cells, Pt.slots] at X4 l4 y4 z4 st4 hQ4
      subst l4 y4 z4
      obtain ⟨rfl, Nq4, e4⟩ := hQ4
      have N4 := Fr.app N3 Nq4
      refine Goes.to (T' := T4.setTop (mkF m 18 #[.val (.int p0), .val (.int p1), .val (.int (0 : Int32)), .val (.int (0 : Int32)), .val (.ref w_BloodType_O), .unset, .unset] [(.ref w_BloodType_O)])) st4 ?_
      refine Goes.to (T' := T4.setTop (mkF m 20 #[.val (.int p0), .val (.int p1), .val (.int (0 : Int32)), .val (.int (0 : Int32)), .val (.ref w_BloodType_O), .val (.ref w_BloodType_O), .unset] [])) (fun t k => XS.astore X4.here hx rfl (hb hby at_18) rfl rfl (l' := #[.val (.int p0), .val (.int p1), .val (.int (0 : Int32)), .val (.int (0 : Int32)), .val (.ref w_BloodType_O), .val (.ref w_BloodType_O), .unset]) rfl k) ?_
      refine Goes.to (T' := T4.setTop (mkF m 21 #[.val (.int p0), .val (.int p1), .val (.int (0 : Int32)), .val (.int (0 : Int32)), .val (.ref w_BloodType_O), .val (.ref w_BloodType_O), .unset] [(.int (0 : Int32))])) (fun t k => XS.iloadN X4.here hx rfl (hb hby at_20) rfl k) ?_
      refine Goes.to (T' := T4.setTop (mkF m 22 #[.val (.int p0), .val (.int p1), .val (.int (0 : Int32)), .val (.int (0 : Int32)), .val (.ref w_BloodType_O), .val (.ref w_BloodType_O), .unset] [(.int (0 : Int32)), (.int (0 : Int32))])) (fun t k => XS.iloadN X4.here hx rfl (hb hby at_21) rfl k) ?_
      refine Goes.to (T' := T4.setTop (mkF m 23 #[.val (.int p0), .val (.int p1), .val (.int (0 : Int32)), .val (.int (0 : Int32)), .val (.ref w_BloodType_O), .val (.ref w_BloodType_O), .unset] [(.int (-1 : Int32)), (.int (0 : Int32)), (.int (0 : Int32))])) (fun t k => XS.iconst X4.here hx rfl (hb hby at_22) k) ?_
      refine Goes.to (T' := T4.setTop (mkF m 24 #[.val (.int p0), .val (.int p1), .val (.int (0 : Int32)), .val (.int (0 : Int32)), .val (.ref w_BloodType_O), .val (.ref w_BloodType_O), .unset] [(.int ((0 : Int32) ^^^ (-1 : Int32))), (.int (0 : Int32))])) (fun t k => XS.ixor X4.here hx rfl (hb hby at_23) rfl k) ?_
      rw [show ((0 : Int32) ^^^ (-1 : Int32)) = (-1 : Int32) from by decide +kernel]
      refine Goes.to (T' := T4.setTop (mkF m 25 #[.val (.int p0), .val (.int p1), .val (.int (0 : Int32)), .val (.int (0 : Int32)), .val (.ref w_BloodType_O), .val (.ref w_BloodType_O), .unset] [(.int ((0 : Int32) &&& (-1 : Int32)))])) (fun t k => XS.iand X4.here hx rfl (hb hby at_24) rfl k) ?_
      rw [show ((0 : Int32) &&& (-1 : Int32)) = (0 : Int32) from by decide +kernel]
      refine Goes.to (T' := T4.setTop (mkF m 28 #[.val (.int p0), .val (.int p1), .val (.int (0 : Int32)), .val (.int (0 : Int32)), .val (.ref w_BloodType_O), .val (.ref w_BloodType_O), .unset] [])) (fun t k => XS.ifNo X4.here hx rfl (hb hby at_25) rfl ((if0 _ _).trans (teq (by decide)).2) k) ?_
      refine Goes.to (T' := T4.setTop (mkF m 29 #[.val (.int p0), .val (.int p1), .val (.int (0 : Int32)), .val (.int (0 : Int32)), .val (.ref w_BloodType_O), .val (.ref w_BloodType_O), .unset] [(.int (1 : Int32))])) (fun t k => XS.iconst X4.here hx rfl (hb hby at_28) k) ?_
      refine Goes.to (T' := T4.setTop (mkF m 33 #[.val (.int p0), .val (.int p1), .val (.int (0 : Int32)), .val (.int (0 : Int32)), .val (.ref w_BloodType_O), .val (.ref w_BloodType_O), .unset] [(.int (1 : Int32))])) (fun t k => XS.goto X4.here hx rfl (pc0 := 29) (pc' := 33) rfl (hb hby at_29) (by decide) (by decide) k) ?_
      refine Goes.to (T' := T4.setTop (mkF m 35 #[.val (.int p0), .val (.int p1), .val (.int (0 : Int32)), .val (.int (0 : Int32)), .val (.ref w_BloodType_O), .val (.ref w_BloodType_O), .val (.int (1 : Int32))] [])) (fun t k => XS.istore X4.here hx rfl (hb hby at_33) rfl (l' := #[.val (.int p0), .val (.int p1), .val (.int (0 : Int32)), .val (.int (0 : Int32)), .val (.ref w_BloodType_O), .val (.ref w_BloodType_O), .val (.int (1 : Int32))]) rfl k) ?_
      refine Goes.to (T' := T4.setTop (mkF m 37 #[.val (.int p0), .val (.int p1), .val (.int (0 : Int32)), .val (.int (0 : Int32)), .val (.ref w_BloodType_O), .val (.ref w_BloodType_O), .val (.int (1 : Int32))] [(.ref w_BloodType_O)])) (fun t k => XS.aload X4.here hx rfl (hb hby at_35) rfl rfl k) ?_
      refine Goes.to (T' := T4.setTop (mkF m 39 #[.val (.int p0), .val (.int p1), .val (.int (0 : Int32)), .val (.int (0 : Int32)), .val (.ref w_BloodType_O), .val (.ref w_BloodType_O), .val (.int (1 : Int32))] [(.ref w_BloodType_O), (.ref w_BloodType_O)])) (fun t k => XS.aload X4.here hx rfl (hb hby at_37) rfl rfl k) ?_
      obtain ⟨cq5, kq5, q5a, q5b, q5c⟩ := isOf hZ e4 (E_w_BloodType_O.ext O0.2)
      obtain ⟨_, _, ⟨T5, L5, k5, n5⟩, -, X5, ⟨Lc5, hQ5, l5, y5, z5⟩, st5⟩ := X4.virtualBack hx (y := (⟨"com/example/veilmatch/veilmatch/model/BloodType", "canGiveTo", "(Lcom/example/veilmatch/veilmatch/model/BloodType;)Z"⟩ : MethodName)) (z := (⟨"com/example/veilmatch/veilmatch/model/BloodType", "canGiveTo", "(Lcom/example/veilmatch/veilmatch/model/BloodType;)Z"⟩ : MethodName)) hown (mvT hZ (hw _ (List.mem_of_getElem? (i := 9) rfl))) (mvT hZ (hw _ (List.mem_of_getElem? (i := 10) rfl))) (notFace_of_selects (args := #[]) (mvT hZ (hw _ (List.mem_of_getElem? (i := 12) rfl)))) (mvT hZ (hw _ (List.mem_of_getElem? (i := 12) rfl))) (mvT hZ (hw _ (List.mem_of_getElem? (i := 11) rfl))) (by decide) (backOf (W := 0) (rmG l Z a0 hw [] w_BloodType_O w_BloodType_O w_BloodType_O w_BloodType_AB w_BloodType_B w_BloodType_A (1 : Int32) h0 n0 O0 NF (by simp)) hZ (hw _ (List.mem_of_getElem? (i := 13) rfl)) (hw _ (List.mem_of_getElem? (i := 5) rfl)) (by decide) (by decide)) q5a q5c (g := (mkF m 39 #[.val (.int p0), .val (.int p1), .val (.int (0 : Int32)), .val (.int (0 : Int32)), .val (.ref w_BloodType_O), .val (.ref w_BloodType_O), .val (.int (1 : Int32))] [(.ref w_BloodType_O), (.ref w_BloodType_O)])) rfl (by rw [hml]; rfl) (Steps.refl _) (argsL := [(.ref w_BloodType_O)]) (rest := []) (lenOf pd_32 rfl) rfl (by show 2 * 0 + _ ≤ _; exact Nat.le_of_eq rfl) (hb hby at_39) (fun _ _ => ⟨rfl, e4, (by decide : 0 + 0 ≤ _), (by decide : 0 + 0 ≤ _)⟩)
      dsimp only [Pt.U, Pt.locs, Pt.cells, Pt.slots] at X5 l5 y5 z5 st5 hQ5
      subst l5 y5 z5
      obtain ⟨rfl, Nq5, e5⟩ := hQ5
      have N5 := Fr.app N4 Nq5
      refine Goes.thru (T' := T5.setTop (mkF m 42 #[.val (.int p0), .val (.int p1), .val (.int (0 : Int32)), .val (.int (0 : Int32)), .val (.ref w_BloodType_O), .val (.ref w_BloodType_O), .val (.int (1 : Int32))] [(.int (1 : Int32))])) st5 ?_
      refine Goes.to (T' := T5.setTop (mkF m 44 #[.val (.int p0), .val (.int p1), .val (.int (0 : Int32)), .val (.int (0 : Int32)), .val (.ref w_BloodType_O), .val (.ref w_BloodType_O), .val (.int (1 : Int32))] [(.int (1 : Int32)), (.int (1 : Int32))])) (fun t k => XS.iload X5.here hx rfl (hb hby at_42) rfl k) ?_
      refine Goes.to (T' := T5.setTop (mkF m 47 #[.val (.int p0), .val (.int p1), .val (.int (0 : Int32)), .val (.int (0 : Int32)), .val (.ref w_BloodType_O), .val (.ref w_BloodType_O), .val (.int (1 : Int32))] [])) (fun t k => XS.icmpNo X5.here hx rfl (hb hby at_44) rfl (teq (by decide)).2 k) ?_
      refine Goes.to (T' := T5.setTop (mkF m 48 #[.val (.int p0), .val (.int p1), .val (.int (0 : Int32)), .val (.int (0 : Int32)), .val (.ref w_BloodType_O), .val (.ref w_BloodType_O), .val (.int (1 : Int32))] [(.int (1 : Int32))])) (fun t k => XS.iconst X5.here hx rfl (hb hby at_47) k) ?_
      refine Goes.to (T' := T5.setTop (mkF m 52 #[.val (.int p0), .val (.int p1), .val (.int (0 : Int32)), .val (.int (0 : Int32)), .val (.ref w_BloodType_O), .val (.ref w_BloodType_O), .val (.int (1 : Int32))] [(.int (1 : Int32))])) (fun t k => XS.goto X5.here hx rfl (pc0 := 48) (pc' := 52) rfl (hb hby at_48) (by decide) (by decide) k) ?_
      obtain ⟨fs, hrL, hrun, hended, hW, hsame⟩ := X5.leave (v := some (.int (1 : Int32))) (fun h => by rw [Bd.returns] at h; cases h)
      subst hQf
      refine ⟨_, _, retN X5 hx (t := .boolean) Bd.returns (by simp) (hb hby at_52) hrL, hrun, hended, _, _, rfl, ?_, ⟨_, rfl⟩, hW, hsame.mono (by decide) (by decide)⟩
      show (fun (v : Option Value) (h : Heap) (L : List Loc) => v = some (.int 1) ∧ Fr n0 L) (some (.int (1 : Int32))) T5.heap _
      rw [e5]
      exact ⟨rfl, N5⟩
    · rw [hv_2]
      refine Goes.to (T' := s₁.setTop (mkF m 8 #[.val (.int p0), .val (.int p1), .val (.int (0 : Int32)), .val (.int (1 : Int32)), .unset, .unset, .unset] [])) (fun t k => XS.istoreN X0.here hx rfl (hb hby at_7) rfl (l' := #[.val (.int p0), .val (.int p1), .val (.int (0 : Int32)), .val (.int (1 : Int32)), .unset, .unset, .unset]) rfl k) ?_
      refine Goes.to (T' := s₁.setTop (mkF m 9 #[.val (.int p0), .val (.int p1), .val (.int (0 : Int32)), .val (.int (1 : Int32)), .unset, .unset, .unset] [(.int (0 : Int32))])) (fun t k => XS.iloadN X0.here hx rfl (hb hby at_8) rfl k) ?_
      obtain ⟨_, _, ⟨T6, L6, k6, n6⟩, -, X6, ⟨Lc6, hQ6, l6, y6, z6⟩, st6⟩ := Jvm.LawKit.callS X0 hx (y := (⟨"com/example/veilmatch/veilmatch/model/BloodTypeCanGiveToPinLaw", "pick", "(I)Lcom/example/veilmatch/veilmatch/model/BloodType;"⟩ : MethodName)) hown (mvT hZ (hw _ (List.mem_of_getElem? (i := 0) rfl))) (mvT hZ (hw _ (List.mem_of_getElem? (i := 1) rfl))) (mvT hZ (hw _ (List.mem_of_getElem? (i := 2) rfl))) (mvT hZ (hw _ (List.mem_of_getElem? (i := 3) rfl))) (by decide) (backOf (W := 0) (rmP l Z a0 hw [] (0 : Int32) w_BloodType_O w_BloodType_AB w_BloodType_B w_BloodType_A w_BloodType_O h0 n0 O0 NF (by simp)) hZ (hw _ (List.mem_of_getElem? (i := 3) rfl)) (hw _ (List.mem_of_getElem? (i := 2) rfl)) (by decide) (by decide)) (g := (mkF m 9 #[.val (.int p0), .val (.int p1), .val (.int (0 : Int32)), .val (.int (1 : Int32)), .unset, .unset, .unset] [(.int (0 : Int32))])) rfl (by rw [hml]; rfl) (argsL := [(.int (0 : Int32))]) (rest := []) (lenOf pd_31 rfl) rfl (by show 2 * 0 + _ ≤ _; exact Nat.le_of_eq rfl) (hb hby at_9) (fun _ _ => ⟨rfl, e0, (by decide : 0 + 0 ≤ _), (by decide : 0 + 0 ≤ _)⟩)
      dsimp only [Pt.U, Pt.locs, Pt.cells, Pt.slots] at X6 l6 y6 z6 st6 hQ6
      subst l6 y6 z6
      obtain ⟨rfl, Nq6, e6⟩ := hQ6
      have N6 := Fr.app N0 Nq6
      refine Goes.to (T' := T6.setTop (mkF m 12 #[.val (.int p0), .val (.int p1), .val (.int (0 : Int32)), .val (.int (1 : Int32)), .unset, .unset, .unset] [(.ref w_BloodType_O)])) st6 ?_
      refine Goes.to (T' := T6.setTop (mkF m 14 #[.val (.int p0), .val (.int p1), .val (.int (0 : Int32)), .val (.int (1 : Int32)), .val (.ref w_BloodType_O), .unset, .unset] [])) (fun t k => XS.astore X6.here hx rfl (hb hby at_12) rfl rfl (l' := #[.val (.int p0), .val (.int p1), .val (.int (0 : Int32)), .val (.int (1 : Int32)), .val (.ref w_BloodType_O), .unset, .unset]) rfl k) ?_
      refine Goes.to (T' := T6.setTop (mkF m 15 #[.val (.int p0), .val (.int p1), .val (.int (0 : Int32)), .val (.int (1 : Int32)), .val (.ref w_BloodType_O), .unset, .unset] [(.int (1 : Int32))])) (fun t k => XS.iloadN X6.here hx rfl (hb hby at_14) rfl k) ?_
      obtain ⟨_, _, ⟨T7, L7, k7, n7⟩, -, X7, ⟨Lc7, hQ7, l7, y7, z7⟩, st7⟩ := Jvm.LawKit.callS X6 hx (y := (⟨"com/example/veilmatch/veilmatch/model/BloodTypeCanGiveToPinLaw", "pick", "(I)Lcom/example/veilmatch/veilmatch/model/BloodType;"⟩ : MethodName)) hown (mvT hZ (hw _ (List.mem_of_getElem? (i := 0) rfl))) (mvT hZ (hw _ (List.mem_of_getElem? (i := 1) rfl))) (mvT hZ (hw _ (List.mem_of_getElem? (i := 2) rfl))) (mvT hZ (hw _ (List.mem_of_getElem? (i := 3) rfl))) (by decide) (backOf (W := 0) (rmP l Z a0 hw [] (1 : Int32) w_BloodType_O w_BloodType_AB w_BloodType_B w_BloodType_A w_BloodType_A h0 n0 O0 NF (by simp)) hZ (hw _ (List.mem_of_getElem? (i := 3) rfl)) (hw _ (List.mem_of_getElem? (i := 2) rfl)) (by decide) (by decide)) (g := (mkF m 15 #[.val (.int p0), .val (.int p1), .val (.int (0 : Int32)), .val (.int (1 : Int32)), .val (.ref w_BloodType_O), .unset, .unset] [(.int (1 : Int32))])) rfl (by rw [hml]; rfl) (argsL := [(.int (1 : Int32))]) (rest := []) (lenOf pd_31 rfl) rfl (by show 2 * 0 + _ ≤ _; exact Nat.le_of_eq rfl) (hb hby at_15) (fun _ _ => ⟨rfl, e6, (by decide : 0 + 0 ≤ _), (by decide : 0 + 0 ≤ _)⟩)
      dsimp only [Pt.U, Pt.locs, Pt.cells, Pt.slots] at X7 l7 y7 z7 st7 hQ7
      subst l7 y7 z7
      obtain ⟨rfl, Nq7, e7⟩ := hQ7
      have N7 := Fr.app N6 Nq7
      refine Goes.to (T' := T7.setTop (mkF m 18 #[.val (.int p0), .val (.int p1), .val (.int (0 : Int32)), .val (.int (1 : Int32)), .val (.ref w_BloodType_O), .unset, .unset] [(.ref w_BloodType_A)])) st7 ?_
      refine Goes.to (T' := T7.setTop (mkF m 20 #[.val (.int p0), .val (.int p1), .val (.int (0 : Int32)), .val (.int (1 : Int32)), .val (.ref w_BloodType_O), .val (.ref w_BloodType_A), .unset] [])) (fun t k => XS.astore X7.here hx rfl (hb hby at_18) rfl rfl (l' := #[.val (.int p0), .val (.int p1), .val (.int (0 : Int32)), .val (.int (1 : Int32)), .val (.ref w_BloodType_O), .val (.ref w_BloodType_A), .unset]) rfl k) ?_
      refine Goes.to (T' := T7.setTop (mkF m 21 #[.val (.int p0), .val (.int p1), .val (.int (0 : Int32)), .val (.int (1 : Int32)), .val (.ref w_BloodType_O), .val (.ref w_BloodType_A), .unset] [(.int (0 : Int32))])) (fun t k => XS.iloadN X7.here hx rfl (hb hby at_20) rfl k) ?_
      refine Goes.to (T' := T7.setTop (mkF m 22 #[.val (.int p0), .val (.int p1), .val (.int (0 : Int32)), .val (.int (1 : Int32)), .val (.ref w_BloodType_O), .val (.ref w_BloodType_A), .unset] [(.int (1 : Int32)), (.int (0 : Int32))])) (fun t k => XS.iloadN X7.here hx rfl (hb hby at_21) rfl k) ?_
      refine Goes.to (T' := T7.setTop (mkF m 23 #[.val (.int p0), .val (.int p1), .val (.int (0 : Int32)), .val (.int (1 : Int32)), .val (.ref w_BloodType_O), .val (.ref w_BloodType_A), .unset] [(.int (-1 : Int32)), (.int (1 : Int32)), (.int (0 : Int32))])) (fun t k => XS.iconst X7.here hx rfl (hb hby at_22) k) ?_
      refine Goes.to (T' := T7.setTop (mkF m 24 #[.val (.int p0), .val (.int p1), .val (.int (0 : Int32)), .val (.int (1 : Int32)), .val (.ref w_BloodType_O), .val (.ref w_BloodType_A), .unset] [(.int ((1 : Int32) ^^^ (-1 : Int32))), (.int (0 : Int32))])) (fun t k => XS.ixor X7.here hx rfl (hb hby at_23) rfl k) ?_
      rw [show ((1 : Int32) ^^^ (-1 : Int32)) = (-2 : Int32) from by decide +kernel]
      refine Goes.to (T' := T7.setTop (mkF m 25 #[.val (.int p0), .val (.int p1), .val (.int (0 : Int32)), .val (.int (1 : Int32)), .val (.ref w_BloodType_O), .val (.ref w_BloodType_A), .unset] [(.int ((0 : Int32) &&& (-2 : Int32)))])) (fun t k => XS.iand X7.here hx rfl (hb hby at_24) rfl k) ?_
      rw [show ((0 : Int32) &&& (-2 : Int32)) = (0 : Int32) from by decide +kernel]
      refine Goes.to (T' := T7.setTop (mkF m 28 #[.val (.int p0), .val (.int p1), .val (.int (0 : Int32)), .val (.int (1 : Int32)), .val (.ref w_BloodType_O), .val (.ref w_BloodType_A), .unset] [])) (fun t k => XS.ifNo X7.here hx rfl (hb hby at_25) rfl ((if0 _ _).trans (teq (by decide)).2) k) ?_
      refine Goes.to (T' := T7.setTop (mkF m 29 #[.val (.int p0), .val (.int p1), .val (.int (0 : Int32)), .val (.int (1 : Int32)), .val (.ref w_BloodType_O), .val (.ref w_BloodType_A), .unset] [(.int (1 : Int32))])) (fun t k => XS.iconst X7.here hx rfl (hb hby at_28) k) ?_
      refine Goes.to (T' := T7.setTop (mkF m 33 #[.val (.int p0), .val (.int p1), .val (.int (0 : Int32)), .val (.int (1 : Int32)), .val (.ref w_BloodType_O), .val (.ref w_BloodType_A), .unset] [(.int (1 : Int32))])) (fun t k => XS.goto X7.here hx rfl (pc0 := 29) (pc' := 33) rfl (hb hby at_29) (by decide) (by decide) k) ?_
      refine Goes.to (T' := T7.setTop (mkF m 35 #[.val (.int p0), .val (.int p1), .val (.int (0 : Int32)), .val (.int (1 : Int32)), .val (.ref w_BloodType_O), .val (.ref w_BloodType_A), .val (.int (1 : Int32))] [])) (fun t k => XS.istore X7.here hx rfl (hb hby at_33) rfl (l' := #[.val (.int p0), .val (.int p1), .val (.int (0 : Int32)), .val (.int (1 : Int32)), .val (.ref w_BloodType_O), .val (.ref w_BloodType_A), .val (.int (1 : Int32))]) rfl k) ?_
      refine Goes.to (T' := T7.setTop (mkF m 37 #[.val (.int p0), .val (.int p1), .val (.int (0 : Int32)), .val (.int (1 : Int32)), .val (.ref w_BloodType_O), .val (.ref w_BloodType_A), .val (.int (1 : Int32))] [(.ref w_BloodType_O)])) (fun t k => XS.aload X7.here hx rfl (hb hby at_35) rfl rfl k) ?_
      refine Goes.to (T' := T7.setTop (mkF m 39 #[.val (.int p0), .val (.int p1), .val (.int (0 : Int32)), .val (.int (1 : Int32)), .val (.ref w_BloodType_O), .val (.ref w_BloodType_A), .val (.int (1 : Int32))] [(.ref w_BloodType_A), (.ref w_BloodType_O)])) (fun t k => XS.aload X7.here hx rfl (hb hby at_37) rfl rfl k) ?_
      obtain ⟨cq8, kq8, q8a, q8b, q8c⟩ := isOf hZ e7 (E_w_BloodType_O.ext O0.2)
      obtain ⟨_, _, ⟨T8, L8, k8, n8⟩, -, X8, ⟨Lc8, hQ8, l8, y8, z8⟩, st8⟩ := X7.virtualBack hx (y := (⟨"com/example/veilmatch/veilmatch/model/BloodType", "canGiveTo", "(Lcom/example/veilmatch/veilmatch/model/BloodType;)Z"⟩ : MethodName)) (z := (⟨"com/example/veilmatch/veilmatch/model/BloodType", "canGiveTo", "(Lcom/example/veilmatch/veilmatch/model/BloodType;)Z"⟩ : MethodName)) hown (mvT hZ (hw _ (List.mem_of_getElem? (i := 9) rfl))) (mvT hZ (hw _ (List.mem_of_getElem? (i := 10) rfl))) (notFace_of_selects (args := #[]) (mvT hZ (hw _ (List.mem_of_getElem? (i := 12) rfl)))) (mvT hZ (hw _ (List.mem_of_getElem? (i := 12) rfl))) (mvT hZ (hw _ (List.mem_of_getElem? (i := 11) rfl))) (by decide) (backOf (W := 0) (rmG l Z a0 hw [] w_BloodType_O w_BloodType_A w_BloodType_O w_BloodType_AB w_BloodType_B w_BloodType_A (1 : Int32) h0 n0 O0 NF (by simp)) hZ (hw _ (List.mem_of_getElem? (i := 13) rfl)) (hw _ (List.mem_of_getElem? (i := 5) rfl)) (by decide) (by decide)) q8a q8c (g := (mkF m 39 #[.val (.int p0), .val (.int p1), .val (.int (0 : Int32)), .val (.int (1 : Int32)), .val (.ref w_BloodType_O), .val (.ref w_BloodType_A), .val (.int (1 : Int32))] [(.ref w_BloodType_A), (.ref w_BloodType_O)])) rfl (by rw [hml]; rfl) (Steps.refl _) (argsL := [(.ref w_BloodType_A)]) (rest := []) (lenOf pd_32 rfl) rfl (by show 2 * 0 + _ ≤ _; exact Nat.le_of_eq rfl) (hb hby at_39) (fun _ _ => ⟨rfl, e7, (by decide : 0 + 0 ≤ _), (by decide : 0 + 0 ≤ _)⟩)
      dsimp only [Pt.U, Pt.locs, Pt.cells, Pt.slots] at X8 l8 y8 z8 st8 hQ8
      subst l8 y8 z8
      obtain ⟨rfl, Nq8, e8⟩ := hQ8
      have N8 := Fr.app N7 Nq8
      refine Goes.thru (T' := T8.setTop (mkF m 42 #[.val (.int p0), .val (.int p1), .val (.int (0 : Int32)), .val (.int (1 : Int32)), .val (.ref w_BloodType_O), .val (.ref w_BloodType_A), .val (.int (1 : Int32))] [(.int (1 : Int32))])) st8 ?_
      refine Goes.to (T' := T8.setTop (mkF m 44 #[.val (.int p0), .val (.int p1), .val (.int (0 : Int32)), .val (.int (1 : Int32)), .val (.ref w_BloodType_O), .val (.ref w_BloodType_A), .val (.int (1 : Int32))] [(.int (1 : Int32)), (.int (1 : Int32))])) (fun t k => XS.iload X8.here hx rfl (hb hby at_42) rfl k) ?_
      refine Goes.to (T' := T8.setTop (mkF m 47 #[.val (.int p0), .val (.int p1), .val (.int (0 : Int32)), .val (.int (1 : Int32)), .val (.ref w_BloodType_O), .val (.ref w_BloodType_A), .val (.int (1 : Int32))] [])) (fun t k => XS.icmpNo X8.here hx rfl (hb hby at_44) rfl (teq (by decide)).2 k) ?_
      refine Goes.to (T' := T8.setTop (mkF m 48 #[.val (.int p0), .val (.int p1), .val (.int (0 : Int32)), .val (.int (1 : Int32)), .val (.ref w_BloodType_O), .val (.ref w_BloodType_A), .val (.int (1 : Int32))] [(.int (1 : Int32))])) (fun t k => XS.iconst X8.here hx rfl (hb hby at_47) k) ?_
      refine Goes.to (T' := T8.setTop (mkF m 52 #[.val (.int p0), .val (.int p1), .val (.int (0 : Int32)), .val (.int (1 : Int32)), .val (.ref w_BloodType_O), .val (.ref w_BloodType_A), .val (.int (1 : Int32))] [(.int (1 : Int32))])) (fun t k => XS.goto X8.here hx rfl (pc0 := 48) (pc' := 52) rfl (hb hby at_48) (by decide) (by decide) k) ?_
      obtain ⟨fs, hrL, hrun, hended, hW, hsame⟩ := X8.leave (v := some (.int (1 : Int32))) (fun h => by rw [Bd.returns] at h; cases h)
      subst hQf
      refine ⟨_, _, retN X8 hx (t := .boolean) Bd.returns (by simp) (hb hby at_52) hrL, hrun, hended, _, _, rfl, ?_, ⟨_, rfl⟩, hW, hsame.mono (by decide) (by decide)⟩
      show (fun (v : Option Value) (h : Heap) (L : List Loc) => v = some (.int 1) ∧ Fr n0 L) (some (.int (1 : Int32))) T8.heap _
      rw [e8]
      exact ⟨rfl, N8⟩
    · rw [hv_2]
      refine Goes.to (T' := s₁.setTop (mkF m 8 #[.val (.int p0), .val (.int p1), .val (.int (0 : Int32)), .val (.int (2 : Int32)), .unset, .unset, .unset] [])) (fun t k => XS.istoreN X0.here hx rfl (hb hby at_7) rfl (l' := #[.val (.int p0), .val (.int p1), .val (.int (0 : Int32)), .val (.int (2 : Int32)), .unset, .unset, .unset]) rfl k) ?_
      refine Goes.to (T' := s₁.setTop (mkF m 9 #[.val (.int p0), .val (.int p1), .val (.int (0 : Int32)), .val (.int (2 : Int32)), .unset, .unset, .unset] [(.int (0 : Int32))])) (fun t k => XS.iloadN X0.here hx rfl (hb hby at_8) rfl k) ?_
      obtain ⟨_, _, ⟨T9, L9, k9, n9⟩, -, X9, ⟨Lc9, hQ9, l9, y9, z9⟩, st9⟩ := Jvm.LawKit.callS X0 hx (y := (⟨"com/example/veilmatch/veilmatch/model/BloodTypeCanGiveToPinLaw", "pick", "(I)Lcom/example/veilmatch/veilmatch/model/BloodType;"⟩ : MethodName)) hown (mvT hZ (hw _ (List.mem_of_getElem? (i := 0) rfl))) (mvT hZ (hw _ (List.mem_of_getElem? (i := 1) rfl))) (mvT hZ (hw _ (List.mem_of_getElem? (i := 2) rfl))) (mvT hZ (hw _ (List.mem_of_getElem? (i := 3) rfl))) (by decide) (backOf (W := 0) (rmP l Z a0 hw [] (0 : Int32) w_BloodType_O w_BloodType_AB w_BloodType_B w_BloodType_A w_BloodType_O h0 n0 O0 NF (by simp)) hZ (hw _ (List.mem_of_getElem? (i := 3) rfl)) (hw _ (List.mem_of_getElem? (i := 2) rfl)) (by decide) (by decide)) (g := (mkF m 9 #[.val (.int p0), .val (.int p1), .val (.int (0 : Int32)), .val (.int (2 : Int32)), .unset, .unset, .unset] [(.int (0 : Int32))])) rfl (by rw [hml]; rfl) (argsL := [(.int (0 : Int32))]) (rest := []) (lenOf pd_31 rfl) rfl (by show 2 * 0 + _ ≤ _; exact Nat.le_of_eq rfl) (hb hby at_9) (fun _ _ => ⟨rfl, e0, (by decide : 0 + 0 ≤ _), (by decide : 0 + 0 ≤ _)⟩)
      dsimp only [Pt.U, Pt.locs, Pt.cells, Pt.slots] at X9 l9 y9 z9 st9 hQ9
      subst l9 y9 z9
      obtain ⟨rfl, Nq9, e9⟩ := hQ9
      have N9 := Fr.app N0 Nq9
      refine Goes.to (T' := T9.setTop (mkF m 12 #[.val (.int p0), .val (.int p1), .val (.int (0 : Int32)), .val (.int (2 : Int32)), .unset, .unset, .unset] [(.ref w_BloodType_O)])) st9 ?_
      refine Goes.to (T' := T9.setTop (mkF m 14 #[.val (.int p0), .val (.int p1), .val (.int (0 : Int32)), .val (.int (2 : Int32)), .val (.ref w_BloodType_O), .unset, .unset] [])) (fun t k => XS.astore X9.here hx rfl (hb hby at_12) rfl rfl (l' := #[.val (.int p0), .val (.int p1), .val (.int (0 : Int32)), .val (.int (2 : Int32)), .val (.ref w_BloodType_O), .unset, .unset]) rfl k) ?_
      refine Goes.to (T' := T9.setTop (mkF m 15 #[.val (.int p0), .val (.int p1), .val (.int (0 : Int32)), .val (.int (2 : Int32)), .val (.ref w_BloodType_O), .unset, .unset] [(.int (2 : Int32))])) (fun t k => XS.iloadN X9.here hx rfl (hb hby at_14) rfl k) ?_
      obtain ⟨_, _, ⟨T10, L10, k10, n10⟩, -, X10, ⟨Lc10, hQ10, l10, y10, z10⟩, st10⟩ := Jvm.LawKit.callS X9 hx (y := (⟨"com/example/veilmatch/veilmatch/model/BloodTypeCanGiveToPinLaw", "pick", "(I)Lcom/example/veilmatch/veilmatch/model/BloodType;"⟩ : MethodName)) hown (mvT hZ (hw _ (List.mem_of_getElem? (i := 0) rfl))) (mvT hZ (hw _ (List.mem_of_getElem? (i := 1) rfl))) (mvT hZ (hw _ (List.mem_of_getElem? (i := 2) rfl))) (mvT hZ (hw _ (List.mem_of_getElem? (i := 3) rfl))) (by decide) (backOf (W := 0) (rmP l Z a0 hw [] (2 : Int32) w_BloodType_O w_BloodType_AB w_BloodType_B w_BloodType_A w_BloodType_B h0 n0 O0 NF (by simp)) hZ (hw _ (List.mem_of_getElem? (i := 3) rfl)) (hw _ (List.mem_of_getElem? (i := 2) rfl)) (by decide) (by decide)) (g := (mkF m 15 #[.val (.int p0), .val (.int p1), .val (.int (0 : Int32)), .val (.int (2 : Int32)), .val (.ref w_BloodType_O), .unset, .unset] [(.int (2 : Int32))])) rfl (by rw [hml]; rfl) (argsL := [(.int (2 : Int32))]) (rest := []) (lenOf pd_31 rfl) rfl (by show 2 * 0 + _ ≤ _; exact Nat.le_of_eq rfl) (hb hby at_15) (fun _ _ => ⟨rfl, e9, (by decide : 0 + 0 ≤ _), (by decide : 0 + 0 ≤ _)⟩)
      dsimp only [Pt.U, Pt.locs, Pt.cells, Pt.slots] at X10 l10 y10 z10 st10 hQ10
      subst l10 y10 z10
      obtain ⟨rfl, Nq10, e10⟩ := hQ10
      have N10 := Fr.app N9 Nq10
      refine Goes.to (T' := T10.setTop (mkF m 18 #[.val (.int p0), .val (.int p1), .val (.int (0 : Int32)), .val (.int (2 : Int32)), .val (.ref w_BloodType_O), .unset, .unset] [(.ref w_BloodType_B)])) st10 ?_
      refine Goes.to (T' := T10.setTop (mkF m 20 #[.val (.int p0), .val (.int p1), .val (.int (0 : Int32)), .val (.int (2 : Int32)), .val (.ref w_BloodType_O), .val (.ref w_BloodType_B), .unset] [])) (fun t k => XS.astore X10.here hx rfl (hb hby at_18) rfl rfl (l' := #[.val (.int p0), .val (.int p1), .val (.int (0 : Int32)), .val (.int (2 : Int32)), .val (.ref w_BloodType_O), .val (.ref w_BloodType_B), .unset]) rfl k) ?_
      refine Goes.to (T' := T10.setTop (mkF m 21 #[.val (.int p0), .val (.int p1), .val (.int (0 : Int32)), .val (.int (2 : Int32)), .val (.ref w_BloodType_O), .val (.ref w_BloodType_B), .unset] [(.int (0 : Int32))])) (fun t k => XS.iloadN X10.here hx rfl (hb hby at_20) rfl k) ?_
      refine Goes.to (T' := T10.setTop (mkF m 22 #[.val (.int p0), .val (.int p1), .val (.int (0 : Int32)), .val (.int (2 : Int32)), .val (.ref w_BloodType_O), .val (.ref w_BloodType_B), .unset] [(.int (2 : Int32)), (.int (0 : Int32))])) (fun t k => XS.iloadN X10.here hx rfl (hb hby at_21) rfl k) ?_
      refine Goes.to (T' := T10.setTop (mkF m 23 #[.val (.int p0), .val (.int p1), .val (.int (0 : Int32)), .val (.int (2 : Int32)), .val (.ref w_BloodType_O), .val (.ref w_BloodType_B), .unset] [(.int (-1 : Int32)), (.int (2 : Int32)), (.int (0 : Int32))])) (fun t k => XS.iconst X10.here hx rfl (hb hby at_22) k) ?_
      refine Goes.to (T' := T10.setTop (mkF m 24 #[.val (.int p0), .val (.int p1), .val (.int (0 : Int32)), .val (.int (2 : Int32)), .val (.ref w_BloodType_O), .val (.ref w_BloodType_B), .unset] [(.int ((2 : Int32) ^^^ (-1 : Int32))), (.int (0 : Int32))])) (fun t k => XS.ixor X10.here hx rfl (hb hby at_23) rfl k) ?_
      rw [show ((2 : Int32) ^^^ (-1 : Int32)) = (-3 : Int32) from by decide +kernel]
      refine Goes.to (T' := T10.setTop (mkF m 25 #[.val (.int p0), .val (.int p1), .val (.int (0 : Int32)), .val (.int (2 : Int32)), .val (.ref w_BloodType_O), .val (.ref w_BloodType_B), .unset] [(.int ((0 : Int32) &&& (-3 : Int32)))])) (fun t k => XS.iand X10.here hx rfl (hb hby at_24) rfl k) ?_
      rw [show ((0 : Int32) &&& (-3 : Int32)) = (0 : Int32) from by decide +kernel]
      refine Goes.to (T' := T10.setTop (mkF m 28 #[.val (.int p0), .val (.int p1), .val (.int (0 : Int32)), .val (.int (2 : Int32)), .val (.ref w_BloodType_O), .val (.ref w_BloodType_B), .unset] [])) (fun t k => XS.ifNo X10.here hx rfl (hb hby at_25) rfl ((if0 _ _).trans (teq (by decide)).2) k) ?_
      refine Goes.to (T' := T10.setTop (mkF m 29 #[.val (.int p0), .val (.int p1), .val (.int (0 : Int32)), .val (.int (2 : Int32)), .val (.ref w_BloodType_O), .val (.ref w_BloodType_B), .unset] [(.int (1 : Int32))])) (fun t k => XS.iconst X10.here hx rfl (hb hby at_28) k) ?_
      refine Goes.to (T' := T10.setTop (mkF m 33 #[.val (.int p0), .val (.int p1), .val (.int (0 : Int32)), .val (.int (2 : Int32)), .val (.ref w_BloodType_O), .val (.ref w_BloodType_B), .unset] [(.int (1 : Int32))])) (fun t k => XS.goto X10.here hx rfl (pc0 := 29) (pc' := 33) rfl (hb hby at_29) (by decide) (by decide) k) ?_
      refine Goes.to (T' := T10.setTop (mkF m 35 #[.val (.int p0), .val (.int p1), .val (.int (0 : Int32)), .val (.int (2 : Int32)), .val (.ref w_BloodType_O), .val (.ref w_BloodType_B), .val (.int (1 : Int32))] [])) (fun t k => XS.istore X10.here hx rfl (hb hby at_33) rfl (l' := #[.val (.int p0), .val (.int p1), .val (.int (0 : Int32)), .val (.int (2 : Int32)), .val (.ref w_BloodType_O), .val (.ref w_BloodType_B), .val (.int (1 : Int32))]) rfl k) ?_
      refine Goes.to (T' := T10.setTop (mkF m 37 #[.val (.int p0), .val (.int p1), .val (.int (0 : Int32)), .val (.int (2 : Int32)), .val (.ref w_BloodType_O), .val (.ref w_BloodType_B), .val (.int (1 : Int32))] [(.ref w_BloodType_O)])) (fun t k => XS.aload X10.here hx rfl (hb hby at_35) rfl rfl k) ?_
      refine Goes.to (T' := T10.setTop (mkF m 39 #[.val (.int p0), .val (.int p1), .val (.int (0 : Int32)), .val (.int (2 : Int32)), .val (.ref w_BloodType_O), .val (.ref w_BloodType_B), .val (.int (1 : Int32))] [(.ref w_BloodType_B), (.ref w_BloodType_O)])) (fun t k => XS.aload X10.here hx rfl (hb hby at_37) rfl rfl k) ?_
      obtain ⟨cq11, kq11, q11a, q11b, q11c⟩ := isOf hZ e10 (E_w_BloodType_O.ext O0.2)
      obtain ⟨_, _, ⟨T11, L11, k11, n11⟩, -, X11, ⟨Lc11, hQ11, l11, y11, z11⟩, st11⟩ := X10.virtualBack hx (y := (⟨"com/example/veilmatch/veilmatch/model/BloodType", "canGiveTo", "(Lcom/example/veilmatch/veilmatch/model/BloodType;)Z"⟩ : MethodName)) (z := (⟨"com/example/veilmatch/veilmatch/model/BloodType", "canGiveTo", "(Lcom/example/veilmatch/veilmatch/model/BloodType;)Z"⟩ : MethodName)) hown (mvT hZ (hw _ (List.mem_of_getElem? (i := 9) rfl))) (mvT hZ (hw _ (List.mem_of_getElem? (i := 10) rfl))) (notFace_of_selects (args := #[]) (mvT hZ (hw _ (List.mem_of_getElem? (i := 12) rfl)))) (mvT hZ (hw _ (List.mem_of_getElem? (i := 12) rfl))) (mvT hZ (hw _ (List.mem_of_getElem? (i := 11) rfl))) (by decide) (backOf (W := 0) (rmG l Z a0 hw [] w_BloodType_O w_BloodType_B w_BloodType_O w_BloodType_AB w_BloodType_B w_BloodType_A (1 : Int32) h0 n0 O0 NF (by simp)) hZ (hw _ (List.mem_of_getElem? (i := 13) rfl)) (hw _ (List.mem_of_getElem? (i := 5) rfl)) (by decide) (by decide)) q11a q11c (g := (mkF m 39 #[.val (.int p0), .val (.int p1), .val (.int (0 : Int32)), .val (.int (2 : Int32)), .val (.ref w_BloodType_O), .val (.ref w_BloodType_B), .val (.int (1 : Int32))] [(.ref w_BloodType_B), (.ref w_BloodType_O)])) rfl (by rw [hml]; rfl) (Steps.refl _) (argsL := [(.ref w_BloodType_B)]) (rest := []) (lenOf pd_32 rfl) rfl (by show 2 * 0 + _ ≤ _; exact Nat.le_of_eq rfl) (hb hby at_39) (fun _ _ => ⟨rfl, e10, (by decide : 0 + 0 ≤ _), (by decide : 0 + 0 ≤ _)⟩)
      dsimp only [Pt.U, Pt.locs, Pt.cells, Pt.slots] at X11 l11 y11 z11 st11 hQ11
      subst l11 y11 z11
      obtain ⟨rfl, Nq11, e11⟩ := hQ11
      have N11 := Fr.app N10 Nq11
      refine Goes.thru (T' := T11.setTop (mkF m 42 #[.val (.int p0), .val (.int p1), .val (.int (0 : Int32)), .val (.int (2 : Int32)), .val (.ref w_BloodType_O), .val (.ref w_BloodType_B), .val (.int (1 : Int32))] [(.int (1 : Int32))])) st11 ?_
      refine Goes.to (T' := T11.setTop (mkF m 44 #[.val (.int p0), .val (.int p1), .val (.int (0 : Int32)), .val (.int (2 : Int32)), .val (.ref w_BloodType_O), .val (.ref w_BloodType_B), .val (.int (1 : Int32))] [(.int (1 : Int32)), (.int (1 : Int32))])) (fun t k => XS.iload X11.here hx rfl (hb hby at_42) rfl k) ?_
      refine Goes.to (T' := T11.setTop (mkF m 47 #[.val (.int p0), .val (.int p1), .val (.int (0 : Int32)), .val (.int (2 : Int32)), .val (.ref w_BloodType_O), .val (.ref w_BloodType_B), .val (.int (1 : Int32))] [])) (fun t k => XS.icmpNo X11.here hx rfl (hb hby at_44) rfl (teq (by decide)).2 k) ?_
      refine Goes.to (T' := T11.setTop (mkF m 48 #[.val (.int p0), .val (.int p1), .val (.int (0 : Int32)), .val (.int (2 : Int32)), .val (.ref w_BloodType_O), .val (.ref w_BloodType_B), .val (.int (1 : Int32))] [(.int (1 : Int32))])) (fun t k => XS.iconst X11.here hx rfl (hb hby at_47) k) ?_
      refine Goes.to (T' := T11.setTop (mkF m 52 #[.val (.int p0), .val (.int p1), .val (.int (0 : Int32)), .val (.int (2 : Int32)), .val (.ref w_BloodType_O), .val (.ref w_BloodType_B), .val (.int (1 : Int32))] [(.int (1 : Int32))])) (fun t k => XS.goto X11.here hx rfl (pc0 := 48) (pc' := 52) rfl (hb hby at_48) (by decide) (by decide) k) ?_
      obtain ⟨fs, hrL, hrun, hended, hW, hsame⟩ := X11.leave (v := some (.int (1 : Int32))) (fun h => by rw [Bd.returns] at h; cases h)
      subst hQf
      refine ⟨_, _, retN X11 hx (t := .boolean) Bd.returns (by simp) (hb hby at_52) hrL, hrun, hended, _, _, rfl, ?_, ⟨_, rfl⟩, hW, hsame.mono (by decide) (by decide)⟩
      show (fun (v : Option Value) (h : Heap) (L : List Loc) => v = some (.int 1) ∧ Fr n0 L) (some (.int (1 : Int32))) T11.heap _
      rw [e11]
      exact ⟨rfl, N11⟩
    · rw [hv_2]
      refine Goes.to (T' := s₁.setTop (mkF m 8 #[.val (.int p0), .val (.int p1), .val (.int (0 : Int32)), .val (.int (3 : Int32)), .unset, .unset, .unset] [])) (fun t k => XS.istoreN X0.here hx rfl (hb hby at_7) rfl (l' := #[.val (.int p0), .val (.int p1), .val (.int (0 : Int32)), .val (.int (3 : Int32)), .unset, .unset, .unset]) rfl k) ?_
      refine Goes.to (T' := s₁.setTop (mkF m 9 #[.val (.int p0), .val (.int p1), .val (.int (0 : Int32)), .val (.int (3 : Int32)), .unset, .unset, .unset] [(.int (0 : Int32))])) (fun t k => XS.iloadN X0.here hx rfl (hb hby at_8) rfl k) ?_
      obtain ⟨_, _, ⟨T12, L12, k12, n12⟩, -, X12, ⟨Lc12, hQ12, l12, y12, z12⟩, st12⟩ := Jvm.LawKit.callS X0 hx (y := (⟨"com/example/veilmatch/veilmatch/model/BloodTypeCanGiveToPinLaw", "pick", "(I)Lcom/example/veilmatch/veilmatch/model/BloodType;"⟩ : MethodName)) hown (mvT hZ (hw _ (List.mem_of_getElem? (i := 0) rfl))) (mvT hZ (hw _ (List.mem_of_getElem? (i := 1) rfl))) (mvT hZ (hw _ (List.mem_of_getElem? (i := 2) rfl))) (mvT hZ (hw _ (List.mem_of_getElem? (i := 3) rfl))) (by decide) (backOf (W := 0) (rmP l Z a0 hw [] (0 : Int32) w_BloodType_O w_BloodType_AB w_BloodType_B w_BloodType_A w_BloodType_O h0 n0 O0 NF (by simp)) hZ (hw _ (List.mem_of_getElem? (i := 3) rfl)) (hw _ (List.mem_of_getElem? (i := 2) rfl)) (by decide) (by decide)) (g := (mkF m 9 #[.val (.int p0), .val (.int p1), .val (.int (0 : Int32)), .val (.int (3 : Int32)), .unset, .unset, .unset] [(.int (0 : Int32))])) rfl (by rw [hml]; rfl) (argsL := [(.int (0 : Int32))]) (rest := []) (lenOf pd_31 rfl) rfl (by show 2 * 0 + _ ≤ _; exact Nat.le_of_eq rfl) (hb hby at_9) (fun _ _ => ⟨rfl, e0, (by decide : 0 + 0 ≤ _), (by decide : 0 + 0 ≤ _)⟩)
      dsimp only [Pt.U, Pt.locs, Pt.cells, Pt.slots] at X12 l12 y12 z12 st12 hQ12
      subst l12 y12 z12
      obtain ⟨rfl, Nq12, e12⟩ := hQ12
      have N12 := Fr.app N0 Nq12
      refine Goes.to (T' := T12.setTop (mkF m 12 #[.val (.int p0), .val (.int p1), .val (.int (0 : Int32)), .val (.int (3 : Int32)), .unset, .unset, .unset] [(.ref w_BloodType_O)])) st12 ?_
      refine Goes.to (T' := T12.setTop (mkF m 14 #[.val (.int p0), .val (.int p1), .val (.int (0 : Int32)), .val (.int (3 : Int32)), .val (.ref w_BloodType_O), .unset, .unset] [])) (fun t k => XS.astore X12.here hx rfl (hb hby at_12) rfl rfl (l' := #[.val (.int p0), .val (.int p1), .val (.int (0 : Int32)), .val (.int (3 : Int32)), .val (.ref w_BloodType_O), .unset, .unset]) rfl k) ?_
      refine Goes.to (T' := T12.setTop (mkF m 15 #[.val (.int p0), .val (.int p1), .val (.int (0 : Int32)), .val (.int (3 : Int32)), .val (.ref w_BloodType_O), .unset, .unset] [(.int (3 : Int32))])) (fun t k => XS.iloadN X12.here hx rfl (hb hby at_14) rfl k) ?_
      obtain ⟨_, _, ⟨T13, L13, k13, n13⟩, -, X13, ⟨Lc13, hQ13, l13, y13, z13⟩, st13⟩ := Jvm.LawKit.callS X12 hx (y := (⟨"com/example/veilmatch/veilmatch/model/BloodTypeCanGiveToPinLaw", "pick", "(I)Lcom/example/veilmatch/veilmatch/model/BloodType;"⟩ : MethodName)) hown (mvT hZ (hw _ (List.mem_of_getElem? (i := 0) rfl))) (mvT hZ (hw _ (List.mem_of_getElem? (i := 1) rfl))) (mvT hZ (hw _ (List.mem_of_getElem? (i := 2) rfl))) (mvT hZ (hw _ (List.mem_of_getElem? (i := 3) rfl))) (by decide) (backOf (W := 0) (rmP l Z a0 hw [] (3 : Int32) w_BloodType_O w_BloodType_AB w_BloodType_B w_BloodType_A w_BloodType_AB h0 n0 O0 NF (by simp)) hZ (hw _ (List.mem_of_getElem? (i := 3) rfl)) (hw _ (List.mem_of_getElem? (i := 2) rfl)) (by decide) (by decide)) (g := (mkF m 15 #[.val (.int p0), .val (.int p1), .val (.int (0 : Int32)), .val (.int (3 : Int32)), .val (.ref w_BloodType_O), .unset, .unset] [(.int (3 : Int32))])) rfl (by rw [hml]; rfl) (argsL := [(.int (3 : Int32))]) (rest := []) (lenOf pd_31 rfl) rfl (by show 2 * 0 + _ ≤ _; exact Nat.le_of_eq rfl) (hb hby at_15) (fun _ _ => ⟨rfl, e12, (by decide : 0 + 0 ≤ _), (by decide : 0 + 0 ≤ _)⟩)
      dsimp only [Pt.U, Pt.locs, Pt.cells, Pt.slots] at X13 l13 y13 z13 st13 hQ13
      subst l13 y13 z13
      obtain ⟨rfl, Nq13, e13⟩ := hQ13
      have N13 := Fr.app N12 Nq13
      refine Goes.to (T' := T13.setTop (mkF m 18 #[.val (.int p0), .val (.int p1), .val (.int (0 : Int32)), .val (.int (3 : Int32)), .val (.ref w_BloodType_O), .unset, .unset] [(.ref w_BloodType_AB)])) st13 ?_
      refine Goes.to (T' := T13.setTop (mkF m 20 #[.val (.int p0), .val (.int p1), .val (.int (0 : Int32)), .val (.int (3 : Int32)), .val (.ref w_BloodType_O), .val (.ref w_BloodType_AB), .unset] [])) (fun t k => XS.astore X13.here hx rfl (hb hby at_18) rfl rfl (l' := #[.val (.int p0), .val (.int p1), .val (.int (0 : Int32)), .val (.int (3 : Int32)), .val (.ref w_BloodType_O), .val (.ref w_BloodType_AB), .unset]) rfl k) ?_
      refine Goes.to (T' := T13.setTop (mkF m 21 #[.val (.int p0), .val (.int p1), .val (.int (0 : Int32)), .val (.int (3 : Int32)), .val (.ref w_BloodType_O), .val (.ref w_BloodType_AB), .unset] [(.int (0 : Int32))])) (fun t k => XS.iloadN X13.here hx rfl (hb hby at_20) rfl k) ?_
      refine Goes.to (T' := T13.setTop (mkF m 22 #[.val (.int p0), .val (.int p1), .val (.int (0 : Int32)), .val (.int (3 : Int32)), .val (.ref w_BloodType_O), .val (.ref w_BloodType_AB), .unset] [(.int (3 : Int32)), (.int (0 : Int32))])) (fun t k => XS.iloadN X13.here hx rfl (hb hby at_21) rfl k) ?_
      refine Goes.to (T' := T13.setTop (mkF m 23 #[.val (.int p0), .val (.int p1), .val (.int (0 : Int32)), .val (.int (3 : Int32)), .val (.ref w_BloodType_O), .val (.ref w_BloodType_AB), .unset] [(.int (-1 : Int32)), (.int (3 : Int32)), (.int (0 : Int32))])) (fun t k => XS.iconst X13.here hx rfl (hb hby at_22) k) ?_
      refine Goes.to (T' := T13.setTop (mkF m 24 #[.val (.int p0), .val (.int p1), .val (.int (0 : Int32)), .val (.int (3 : Int32)), .val (.ref w_BloodType_O), .val (.ref w_BloodType_AB), .unset] [(.int ((3 : Int32) ^^^ (-1 : Int32))), (.int (0 : Int32))])) (fun t k => XS.ixor X13.here hx rfl (hb hby at_23) rfl k) ?_
      rw [show ((3 : Int32) ^^^ (-1 : Int32)) = (-4 : Int32) from by decide +kernel]
      refine Goes.to (T' := T13.setTop (mkF m 25 #[.val (.int p0), .val (.int p1), .val (.int (0 : Int32)), .val (.int (3 : Int32)), .val (.ref w_BloodType_O), .val (.ref w_BloodType_AB), .unset] [(.int ((0 : Int32) &&& (-4 : Int32)))])) (fun t k => XS.iand X13.here hx rfl (hb hby at_24) rfl k) ?_
      rw [show ((0 : Int32) &&& (-4 : Int32)) = (0 : Int32) from by decide +kernel]
      refine Goes.to (T' := T13.setTop (mkF m 28 #[.val (.int p0), .val (.int p1), .val (.int (0 : Int32)), .val (.int (3 : Int32)), .val (.ref w_BloodType_O), .val (.ref w_BloodType_AB), .unset] [])) (fun t k => XS.ifNo X13.here hx rfl (hb hby at_25) rfl ((if0 _ _).trans (teq (by decide)).2) k) ?_
      refine Goes.to (T' := T13.setTop (mkF m 29 #[.val (.int p0), .val (.int p1), .val (.int (0 : Int32)), .val (.int (3 : Int32)), .val (.ref w_BloodType_O), .val (.ref w_BloodType_AB), .unset] [(.int (1 : Int32))])) (fun t k => XS.iconst X13.here hx rfl (hb hby at_28) k) ?_
      refine Goes.to (T' := T13.setTop (mkF m 33 #[.val (.int p0), .val (.int p1), .val (.int (0 : Int32)), .val (.int (3 : Int32)), .val (.ref w_BloodType_O), .val (.ref w_BloodType_AB), .unset] [(.int (1 : Int32))])) (fun t k => XS.goto X13.here hx rfl (pc0 := 29) (pc' := 33) rfl (hb hby at_29) (by decide) (by decide) k) ?_
      refine Goes.to (T' := T13.setTop (mkF m 35 #[.val (.int p0), .val (.int p1), .val (.int (0 : Int32)), .val (.int (3 : Int32)), .val (.ref w_BloodType_O), .val (.ref w_BloodType_AB), .val (.int (1 : Int32))] [])) (fun t k => XS.istore X13.here hx rfl (hb hby at_33) rfl (l' := #[.val (.int p0), .val (.int p1), .val (.int (0 : Int32)), .val (.int (3 : Int32)), .val (.ref w_BloodType_O), .val (.ref w_BloodType_AB), .val (.int (1 : Int32))]) rfl k) ?_
      refine Goes.to (T' := T13.setTop (mkF m 37 #[.val (.int p0), .val (.int p1), .val (.int (0 : Int32)), .val (.int (3 : Int32)), .val (.ref w_BloodType_O), .val (.ref w_BloodType_AB), .val (.int (1 : Int32))] [(.ref w_BloodType_O)])) (fun t k => XS.aload X13.here hx rfl (hb hby at_35) rfl rfl k) ?_
      refine Goes.to (T' := T13.setTop (mkF m 39 #[.val (.int p0), .val (.int p1), .val (.int (0 : Int32)), .val (.int (3 : Int32)), .val (.ref w_BloodType_O), .val (.ref w_BloodType_AB), .val (.int (1 : Int32))] [(.ref w_BloodType_AB), (.ref w_BloodType_O)])) (fun t k => XS.aload X13.here hx rfl (hb hby at_37) rfl rfl k) ?_
      obtain ⟨cq14, kq14, q14a, q14b, q14c⟩ := isOf hZ e13 (E_w_BloodType_O.ext O0.2)
      obtain ⟨_, _, ⟨T14, L14, k14, n14⟩, -, X14, ⟨Lc14, hQ14, l14, y14, z14⟩, st14⟩ := X13.virtualBack hx (y := (⟨"com/example/veilmatch/veilmatch/model/BloodType", "canGiveTo", "(Lcom/example/veilmatch/veilmatch/model/BloodType;)Z"⟩ : MethodName)) (z := (⟨"com/example/veilmatch/veilmatch/model/BloodType", "canGiveTo", "(Lcom/example/veilmatch/veilmatch/model/BloodType;)Z"⟩ : MethodName)) hown (mvT hZ (hw _ (List.mem_of_getElem? (i := 9) rfl))) (mvT hZ (hw _ (List.mem_of_getElem? (i := 10) rfl))) (notFace_of_selects (args := #[]) (mvT hZ (hw _ (List.mem_of_getElem? (i := 12) rfl)))) (mvT hZ (hw _ (List.mem_of_getElem? (i := 12) rfl))) (mvT hZ (hw _ (List.mem_of_getElem? (i := 11) rfl))) (by decide) (backOf (W := 0) (rmG l Z a0 hw [] w_BloodType_O w_BloodType_AB w_BloodType_O w_BloodType_AB w_BloodType_B w_BloodType_A (1 : Int32) h0 n0 O0 NF (by simp)) hZ (hw _ (List.mem_of_getElem? (i := 13) rfl)) (hw _ (List.mem_of_getElem? (i := 5) rfl)) (by decide) (by decide)) q14a q14c (g := (mkF m 39 #[.val (.int p0), .val (.int p1), .val (.int (0 : Int32)), .val (.int (3 : Int32)), .val (.ref w_BloodType_O), .val (.ref w_BloodType_AB), .val (.int (1 : Int32))] [(.ref w_BloodType_AB), (.ref w_BloodType_O)])) rfl (by rw [hml]; rfl) (Steps.refl _) (argsL := [(.ref w_BloodType_AB)]) (rest := []) (lenOf pd_32 rfl) rfl (by show 2 * 0 + _ ≤ _; exact Nat.le_of_eq rfl) (hb hby at_39) (fun _ _ => ⟨rfl, e13, (by decide : 0 + 0 ≤ _), (by decide : 0 + 0 ≤ _)⟩)
      dsimp only [Pt.U, Pt.locs, Pt.cells, Pt.slots] at X14 l14 y14 z14 st14 hQ14
      subst l14 y14 z14
      obtain ⟨rfl, Nq14, e14⟩ := hQ14
      have N14 := Fr.app N13 Nq14
      refine Goes.thru (T' := T14.setTop (mkF m 42 #[.val (.int p0), .val (.int p1), .val (.int (0 : Int32)), .val (.int (3 : Int32)), .val (.ref w_BloodType_O), .val (.ref w_BloodType_AB), .val (.int (1 : Int32))] [(.int (1 : Int32))])) st14 ?_
      refine Goes.to (T' := T14.setTop (mkF m 44 #[.val (.int p0), .val (.int p1), .val (.int (0 : Int32)), .val (.int (3 : Int32)), .val (.ref w_BloodType_O), .val (.ref w_BloodType_AB), .val (.int (1 : Int32))] [(.int (1 : Int32)), (.int (1 : Int32))])) (fun t k => XS.iload X14.here hx rfl (hb hby at_42) rfl k) ?_
      refine Goes.to (T' := T14.setTop (mkF m 47 #[.val (.int p0), .val (.int p1), .val (.int (0 : Int32)), .val (.int (3 : Int32)), .val (.ref w_BloodType_O), .val (.ref w_BloodType_AB), .val (.int (1 : Int32))] [])) (fun t k => XS.icmpNo X14.here hx rfl (hb hby at_44) rfl (teq (by decide)).2 k) ?_
      refine Goes.to (T' := T14.setTop (mkF m 48 #[.val (.int p0), .val (.int p1), .val (.int (0 : Int32)), .val (.int (3 : Int32)), .val (.ref w_BloodType_O), .val (.ref w_BloodType_AB), .val (.int (1 : Int32))] [(.int (1 : Int32))])) (fun t k => XS.iconst X14.here hx rfl (hb hby at_47) k) ?_
      refine Goes.to (T' := T14.setTop (mkF m 52 #[.val (.int p0), .val (.int p1), .val (.int (0 : Int32)), .val (.int (3 : Int32)), .val (.ref w_BloodType_O), .val (.ref w_BloodType_AB), .val (.int (1 : Int32))] [(.int (1 : Int32))])) (fun t k => XS.goto X14.here hx rfl (pc0 := 48) (pc' := 52) rfl (hb hby at_48) (by decide) (by decide) k) ?_
      obtain ⟨fs, hrL, hrun, hended, hW, hsame⟩ := X14.leave (v := some (.int (1 : Int32))) (fun h => by rw [Bd.returns] at h; cases h)
      subst hQf
      refine ⟨_, _, retN X14 hx (t := .boolean) Bd.returns (by simp) (hb hby at_52) hrL, hrun, hended, _, _, rfl, ?_, ⟨_, rfl⟩, hW, hsame.mono (by decide) (by decide)⟩
      show (fun (v : Option Value) (h : Heap) (L : List Loc) => v = some (.int 1) ∧ Fr n0 L) (some (.int (1 : Int32))) T14.heap _
      rw [e14]
      exact ⟨rfl, N14⟩
  · rw [hv_1]
    refine Goes.to (T' := s₁.setTop (mkF m 4 #[.val (.int p0), .val (.int p1), .val (.int (1 : Int32)), .unset, .unset, .unset, .unset] [])) (fun t k => XS.istoreN X0.here hx rfl (hb hby at_3) rfl (l' := #[.val (.int p0), .val (.int p1), .val (.int (1 : Int32)), .unset, .unset, .unset, .unset]) rfl k) ?_
    refine Goes.to (T' := s₁.setTop (mkF m 5 #[.val (.int p0), .val (.int p1), .val (.int (1 : Int32)), .unset, .unset, .unset, .unset] [(.int p1)])) (fun t k => XS.iloadN X0.here hx rfl (hb hby at_4) rfl k) ?_
    refine Goes.to (T' := s₁.setTop (mkF m 6 #[.val (.int p0), .val (.int p1), .val (.int (1 : Int32)), .unset, .unset, .unset, .unset] [(.int (3 : Int32)), (.int p1)])) (fun t k => XS.iconst X0.here hx rfl (hb hby at_5) k) ?_
    refine Goes.to (T' := s₁.setTop (mkF m 7 #[.val (.int p0), .val (.int p1), .val (.int (1 : Int32)), .unset, .unset, .unset, .unset] [(.int (p1 &&& (3 : Int32)))])) (fun t k => XS.iand X0.here hx rfl (hb hby at_6) rfl k) ?_
    rcases own_and3 p1 with hv_15 | hv_15 | hv_15 | hv_15
    · rw [hv_15]
      refine Goes.to (T' := s₁.setTop (mkF m 8 #[.val (.int p0), .val (.int p1), .val (.int (1 : Int32)), .val (.int (0 : Int32)), .unset, .unset, .unset] [])) (fun t k => XS.istoreN X0.here hx rfl (hb hby at_7) rfl (l' := #[.val (.int p0), .val (.int p1), .val (.int (1 : Int32)), .val (.int (0 : Int32)), .unset, .unset, .unset]) rfl k) ?_
      refine Goes.to (T' := s₁.setTop (mkF m 9 #[.val (.int p0), .val (.int p1), .val (.int (1 : Int32)), .val (.int (0 : Int32)), .unset, .unset, .unset] [(.int (1 : Int32))])) (fun t k => XS.iloadN X0.here hx rfl (hb hby at_8) rfl k) ?_
      obtain ⟨_, _, ⟨T16, L16, k16, n16⟩, -, X16, ⟨Lc16, hQ16, l16, y16, z16⟩, st16⟩ := Jvm.LawKit.callS X0 hx (y := (⟨"com/example/veilmatch/veilmatch/model/BloodTypeCanGiveToPinLaw", "pick", "(I)Lcom/example/veilmatch/veilmatch/model/BloodType;"⟩ : MethodName)) hown (mvT hZ (hw _ (List.mem_of_getElem? (i := 0) rfl))) (mvT hZ (hw _ (List.mem_of_getElem? (i := 1) rfl))) (mvT hZ (hw _ (List.mem_of_getElem? (i := 2) rfl))) (mvT hZ (hw _ (List.mem_of_getElem? (i := 3) rfl))) (by decide) (backOf (W := 0) (rmP l Z a0 hw [] (1 : Int32) w_BloodType_O w_BloodType_AB w_BloodType_B w_BloodType_A w_BloodType_A h0 n0 O0 NF (by simp)) hZ (hw _ (List.mem_of_getElem? (i := 3) rfl)) (hw _ (List.mem_of_getElem? (i := 2) rfl)) (by decide) (by decide)) (g := (mkF m 9 #[.val (.int p0), .val (.int p1), .val (.int (1 : Int32)), .val (.int (0 : Int32)), .unset, .unset, .unset] [(.int (1 : Int32))])) rfl (by rw [hml]; rfl) (argsL := [(.int (1 : Int32))]) (rest := []) (lenOf pd_31 rfl) rfl (by show 2 * 0 + _ ≤ _; exact Nat.le_of_eq rfl) (hb hby at_9) (fun _ _ => ⟨rfl, e0, (by decide : 0 + 0 ≤ _), (by decide : 0 + 0 ≤ _)⟩)
      dsimp only [Pt.U, Pt.locs, Pt.cells, Pt.slots] at X16 l16 y16 z16 st16 hQ16
      subst l16 y16 z16
      obtain ⟨rfl, Nq16, e16⟩ := hQ16
      have N16 := Fr.app N0 Nq16
      refine Goes.to (T' := T16.setTop (mkF m 12 #[.val (.int p0), .val (.int p1), .val (.int (1 : Int32)), .val (.int (0 : Int32)), .unset, .unset, .unset] [(.ref w_BloodType_A)])) st16 ?_
      refine Goes.to (T' := T16.setTop (mkF m 14 #[.val (.int p0), .val (.int p1), .val (.int (1 : Int32)), .val (.int (0 : Int32)), .val (.ref w_BloodType_A), .unset, .unset] [])) (fun t k => XS.astore X16.here hx rfl (hb hby at_12) rfl rfl (l' := #[.val (.int p0), .val (.int p1), .val (.int (1 : Int32)), .val (.int (0 : Int32)), .val (.ref w_BloodType_A), .unset, .unset]) rfl k) ?_
      refine Goes.to (T' := T16.setTop (mkF m 15 #[.val (.int p0), .val (.int p1), .val (.int (1 : Int32)), .val (.int (0 : Int32)), .val (.ref w_BloodType_A), .unset, .unset] [(.int (0 : Int32))])) (fun t k => XS.iloadN X16.here hx rfl (hb hby at_14) rfl k) ?_
      obtain ⟨_, _, ⟨T17, L17, k17, n17⟩, -, X17, ⟨Lc17, hQ17, l17, y17, z17⟩, st17⟩ := Jvm.LawKit.callS X16 hx (y := (⟨"com/example/veilmatch/veilmatch/model/BloodTypeCanGiveToPinLaw", "pick", "(I)Lcom/example/veilmatch/veilmatch/model/BloodType;"⟩ : MethodName)) hown (mvT hZ (hw _ (List.mem_of_getElem? (i := 0) rfl))) (mvT hZ (hw _ (List.mem_of_getElem? (i := 1) rfl))) (mvT hZ (hw _ (List.mem_of_getElem? (i := 2) rfl))) (mvT hZ (hw _ (List.mem_of_getElem? (i := 3) rfl))) (by decide) (backOf (W := 0) (rmP l Z a0 hw [] (0 : Int32) w_BloodType_O w_BloodType_AB w_BloodType_B w_BloodType_A w_BloodType_O h0 n0 O0 NF (by simp)) hZ (hw _ (List.mem_of_getElem? (i := 3) rfl)) (hw _ (List.mem_of_getElem? (i := 2) rfl)) (by decide) (by decide)) (g := (mkF m 15 #[.val (.int p0), .val (.int p1), .val (.int (1 : Int32)), .val (.int (0 : Int32)), .val (.ref w_BloodType_A), .unset, .unset] [(.int (0 : Int32))])) rfl (by rw [hml]; rfl) (argsL := [(.int (0 : Int32))]) (rest := []) (lenOf pd_31 rfl) rfl (by show 2 * 0 + _ ≤ _; exact Nat.le_of_eq rfl) (hb hby at_15) (fun _ _ => ⟨rfl, e16, (by decide : 0 + 0 ≤ _), (by decide : 0 + 0 ≤ _)⟩)
      dsimp only [Pt.U, Pt.locs, Pt.cells, Pt.slots] at X17 l17 y17 z17 st17 hQ17
      subst l17 y17 z17
      obtain ⟨rfl, Nq17, e17⟩ := hQ17
      have N17 := Fr.app N16 Nq17
      refine Goes.to (T' := T17.setTop (mkF m 18 #[.val (.int p0), .val (.int p1), .val (.int (1 : Int32)), .val (.int (0 : Int32)), .val (.ref w_BloodType_A), .unset, .unset] [(.ref w_BloodType_O)])) st17 ?_
      refine Goes.to (T' := T17.setTop (mkF m 20 #[.val (.int p0), .val (.int p1), .val (.int (1 : Int32)), .val (.int (0 : Int32)), .val (.ref w_BloodType_A), .val (.ref w_BloodType_O), .unset] [])) (fun t k => XS.astore X17.here hx rfl (hb hby at_18) rfl rfl (l' := #[.val (.int p0), .val (.int p1), .val (.int (1 : Int32)), .val (.int (0 : Int32)), .val (.ref w_BloodType_A), .val (.ref w_BloodType_O), .unset]) rfl k) ?_
      refine Goes.to (T' := T17.setTop (mkF m 21 #[.val (.int p0), .val (.int p1), .val (.int (1 : Int32)), .val (.int (0 : Int32)), .val (.ref w_BloodType_A), .val (.ref w_BloodType_O), .unset] [(.int (1 : Int32))])) (fun t k => XS.iloadN X17.here hx rfl (hb hby at_20) rfl k) ?_
      refine Goes.to (T' := T17.setTop (mkF m 22 #[.val (.int p0), .val (.int p1), .val (.int (1 : Int32)), .val (.int (0 : Int32)), .val (.ref w_BloodType_A), .val (.ref w_BloodType_O), .unset] [(.int (0 : Int32)), (.int (1 : Int32))])) (fun t k => XS.iloadN X17.here hx rfl (hb hby at_21) rfl k) ?_
      refine Goes.to (T' := T17.setTop (mkF m 23 #[.val (.int p0), .val (.int p1), .val (.int (1 : Int32)), .val (.int (0 : Int32)), .val (.ref w_BloodType_A), .val (.ref w_BloodType_O), .unset] [(.int (-1 : Int32)), (.int (0 : Int32)), (.int (1 : Int32))])) (fun t k => XS.iconst X17.here hx rfl (hb hby at_22) k) ?_
      refine Goes.to (T' := T17.setTop (mkF m 24 #[.val (.int p0), .val (.int p1), .val (.int (1 : Int32)), .val (.int (0 : Int32)), .val (.ref w_BloodType_A), .val (.ref w_BloodType_O), .unset] [(.int ((0 : Int32) ^^^ (-1 : Int32))), (.int (1 : Int32))])) (fun t k => XS.ixor X17.here hx rfl (hb hby at_23) rfl k) ?_
      rw [show ((0 : Int32) ^^^ (-1 : Int32)) = (-1 : Int32) from by decide +kernel]
      refine Goes.to (T' := T17.setTop (mkF m 25 #[.val (.int p0), .val (.int p1), .val (.int (1 : Int32)), .val (.int (0 : Int32)), .val (.ref w_BloodType_A), .val (.ref w_BloodType_O), .unset] [(.int ((1 : Int32) &&& (-1 : Int32)))])) (fun t k => XS.iand X17.here hx rfl (hb hby at_24) rfl k) ?_
      rw [show ((1 : Int32) &&& (-1 : Int32)) = (1 : Int32) from by decide +kernel]
      refine Goes.to (T' := T17.setTop (mkF m 32 #[.val (.int p0), .val (.int p1), .val (.int (1 : Int32)), .val (.int (0 : Int32)), .val (.ref w_BloodType_A), .val (.ref w_BloodType_O), .unset] [])) (fun t k => XS.ifYes X17.here hx rfl (pc0 := 25) (pc' := 32) rfl (hb hby at_25) rfl ((if0 _ _).trans (feq (by decide)).2) (by decide) (by decide) k) ?_
      refine Goes.to (T' := T17.setTop (mkF m 33 #[.val (.int p0), .val (.int p1), .val (.int (1 : Int32)), .val (.int (0 : Int32)), .val (.ref w_BloodType_A), .val (.ref w_BloodType_O), .unset] [(.int (0 : Int32))])) (fun t k => XS.iconst X17.here hx rfl (hb hby at_32) k) ?_
      refine Goes.to (T' := T17.setTop (mkF m 35 #[.val (.int p0), .val (.int p1), .val (.int (1 : Int32)), .val (.int (0 : Int32)), .val (.ref w_BloodType_A), .val (.ref w_BloodType_O), .val (.int (0 : Int32))] [])) (fun t k => XS.istore X17.here hx rfl (hb hby at_33) rfl (l' := #[.val (.int p0), .val (.int p1), .val (.int (1 : Int32)), .val (.int (0 : Int32)), .val (.ref w_BloodType_A), .val (.ref w_BloodType_O), .val (.int (0 : Int32))]) rfl k) ?_
      refine Goes.to (T' := T17.setTop (mkF m 37 #[.val (.int p0), .val (.int p1), .val (.int (1 : Int32)), .val (.int (0 : Int32)), .val (.ref w_BloodType_A), .val (.ref w_BloodType_O), .val (.int (0 : Int32))] [(.ref w_BloodType_A)])) (fun t k => XS.aload X17.here hx rfl (hb hby at_35) rfl rfl k) ?_
      refine Goes.to (T' := T17.setTop (mkF m 39 #[.val (.int p0), .val (.int p1), .val (.int (1 : Int32)), .val (.int (0 : Int32)), .val (.ref w_BloodType_A), .val (.ref w_BloodType_O), .val (.int (0 : Int32))] [(.ref w_BloodType_O), (.ref w_BloodType_A)])) (fun t k => XS.aload X17.here hx rfl (hb hby at_37) rfl rfl k) ?_
      have hne1 := (Fld.ne F_ordinal_w_BloodType_A F_ordinal_w_BloodType_O (by simp))
      have hne2 := (Fld.ne F_ordinal_w_BloodType_A F_ordinal_w_BloodType_O (by simp))
      have hne3 := (Fld.ne F_ordinal_w_BloodType_O F_ordinal_w_BloodType_AB (by simp))
      obtain ⟨cq18, kq18, q18a, q18b, q18c⟩ := isOf hZ e17 (E_w_BloodType_A.ext O0.2)
      obtain ⟨_, _, ⟨T18, L18, k18, n18⟩, -, X18, ⟨Lc18, hQ18, l18, y18, z18⟩, st18⟩ := X17.virtualBack hx (y := (⟨"com/example/veilmatch/veilmatch/model/BloodType", "canGiveTo", "(Lcom/example/veilmatch/veilmatch/model/BloodType;)Z"⟩ : MethodName)) (z := (⟨"com/example/veilmatch/veilmatch/model/BloodType", "canGiveTo", "(Lcom/example/veilmatch/veilmatch/model/BloodType;)Z"⟩ : MethodName)) hown (mvT hZ (hw _ (List.mem_of_getElem? (i := 9) rfl))) (mvT hZ (hw _ (List.mem_of_getElem? (i := 10) rfl))) (notFace_of_selects (args := #[]) (mvT hZ (hw _ (List.mem_of_getElem? (i := 12) rfl)))) (mvT hZ (hw _ (List.mem_of_getElem? (i := 12) rfl))) (mvT hZ (hw _ (List.mem_of_getElem? (i := 11) rfl))) (by decide) (backOf (W := 0) (rmG l Z a0 hw [] w_BloodType_A w_BloodType_O w_BloodType_O w_BloodType_AB w_BloodType_B w_BloodType_A (0 : Int32) h0 n0 O0 NF (by simp [hne1, hne2, hne3])) hZ (hw _ (List.mem_of_getElem? (i := 13) rfl)) (hw _ (List.mem_of_getElem? (i := 5) rfl)) (by decide) (by decide)) q18a q18c (g := (mkF m 39 #[.val (.int p0), .val (.int p1), .val (.int (1 : Int32)), .val (.int (0 : Int32)), .val (.ref w_BloodType_A), .val (.ref w_BloodType_O), .val (.int (0 : Int32))] [(.ref w_BloodType_O), (.ref w_BloodType_A)])) rfl (by rw [hml]; rfl) (Steps.refl _) (argsL := [(.ref w_BloodType_O)]) (rest := []) (lenOf pd_32 rfl) rfl (by show 2 * 0 + _ ≤ _; exact Nat.le_of_eq rfl) (hb hby at_39) (fun _ _ => ⟨rfl, e17, (by decide : 0 + 0 ≤ _), (by decide : 0 + 0 ≤ _)⟩)
      dsimp only [Pt.U, Pt.locs, Pt.cells, Pt.slots] at X18 l18 y18 z18 st18 hQ18
      subst l18 y18 z18
      obtain ⟨rfl, Nq18, e18⟩ := hQ18
      have N18 := Fr.app N17 Nq18
      refine Goes.thru (T' := T18.setTop (mkF m 42 #[.val (.int p0), .val (.int p1), .val (.int (1 : Int32)), .val (.int (0 : Int32)), .val (.ref w_BloodType_A), .val (.ref w_BloodType_O), .val (.int (0 : Int32))] [(.int (0 : Int32))])) st18 ?_
      refine Goes.to (T' := T18.setTop (mkF m 44 #[.val (.int p0), .val (.int p1), .val (.int (1 : Int32)), .val (.int (0 : Int32)), .val (.ref w_BloodType_A), .val (.ref w_BloodType_O), .val (.int (0 : Int32))] [(.int (0 : Int32)), (.int (0 : Int32))])) (fun t k => XS.iload X18.here hx rfl (hb hby at_42) rfl k) ?_
      refine Goes.to (T' := T18.setTop (mkF m 47 #[.val (.int p0), .val (.int p1), .val (.int (1 : Int32)), .val (.int (0 : Int32)), .val (.ref w_BloodType_A), .val (.ref w_BloodType_O), .val (.int (0 : Int32))] [])) (fun t k => XS.icmpNo X18.here hx rfl (hb hby at_44) rfl (teq (by decide)).2 k) ?_
      refine Goes.to (T' := T18.setTop (mkF m 48 #[.val (.int p0), .val (.int p1), .val (.int (1 : Int32)), .val (.int (0 : Int32)), .val (.ref w_BloodType_A), .val (.ref w_BloodType_O), .val (.int (0 : Int32))] [(.int (1 : Int32))])) (fun t k => XS.iconst X18.here hx rfl (hb hby at_47) k) ?_
      refine Goes.to (T' := T18.setTop (mkF m 52 #[.val (.int p0), .val (.int p1), .val (.int (1 : Int32)), .val (.int (0 : Int32)), .val (.ref w_BloodType_A), .val (.ref w_BloodType_O), .val (.int (0 : Int32))] [(.int (1 : Int32))])) (fun t k => XS.goto X18.here hx rfl (pc0 := 48) (pc' := 52) rfl (hb hby at_48) (by decide) (by decide) k) ?_
      obtain ⟨fs, hrL, hrun, hended, hW, hsame⟩ := X18.leave (v := some (.int (1 : Int32))) (fun h => by rw [Bd.returns] at h; cases h)
      subst hQf
      refine ⟨_, _, retN X18 hx (t := .boolean) Bd.returns (by simp) (hb hby at_52) hrL, hrun, hended, _, _, rfl, ?_, ⟨_, rfl⟩, hW, hsame.mono (by decide) (by decide)⟩
      show (fun (v : Option Value) (h : Heap) (L : List Loc) => v = some (.int 1) ∧ Fr n0 L) (some (.int (1 : Int32))) T18.heap _
      rw [e18]
      exact ⟨rfl, N18⟩
    · rw [hv_15]
      refine Goes.to (T' := s₁.setTop (mkF m 8 #[.val (.int p0), .val (.int p1), .val (.int (1 : Int32)), .val (.int (1 : Int32)), .unset, .unset, .unset] [])) (fun t k => XS.istoreN X0.here hx rfl (hb hby at_7) rfl (l' := #[.val (.int p0), .val (.int p1), .val (.int (1 : Int32)), .val (.int (1 : Int32)), .unset, .unset, .unset]) rfl k) ?_
      refine Goes.to (T' := s₁.setTop (mkF m 9 #[.val (.int p0), .val (.int p1), .val (.int (1 : Int32)), .val (.int (1 : Int32)), .unset, .unset, .unset] [(.int (1 : Int32))])) (fun t k => XS.iloadN X0.here hx rfl (hb hby at_8) rfl k) ?_
      obtain ⟨_, _, ⟨T19, L19, k19, n19⟩, -, X19, ⟨Lc19, hQ19, l19, y19, z19⟩, st19⟩ := Jvm.LawKit.callS X0 hx (y := (⟨"com/example/veilmatch/veilmatch/model/BloodTypeCanGiveToPinLaw", "pick", "(I)Lcom/example/veilmatch/veilmatch/model/BloodType;"⟩ : MethodName)) hown (mvT hZ (hw _ (List.mem_of_getElem? (i := 0) rfl))) (mvT hZ (hw _ (List.mem_of_getElem? (i := 1) rfl))) (mvT hZ (hw _ (List.mem_of_getElem? (i := 2) rfl))) (mvT hZ (hw _ (List.mem_of_getElem? (i := 3) rfl))) (by decide) (backOf (W := 0) (rmP l Z a0 hw [] (1 : Int32) w_BloodType_O w_BloodType_AB w_BloodType_B w_BloodType_A w_BloodType_A h0 n0 O0 NF (by simp)) hZ (hw _ (List.mem_of_getElem? (i := 3) rfl)) (hw _ (List.mem_of_getElem? (i := 2) rfl)) (by decide) (by decide)) (g := (mkF m 9 #[.val (.int p0), .val (.int p1), .val (.int (1 : Int32)), .val (.int (1 : Int32)), .unset, .unset, .unset] [(.int (1 : Int32))])) rfl (by rw [hml]; rfl) (argsL := [(.int (1 : Int32))]) (rest := []) (lenOf pd_31 rfl) rfl (by show 2 * 0 + _ ≤ _; exact Nat.le_of_eq rfl) (hb hby at_9) (fun _ _ => ⟨rfl, e0, (by decide : 0 + 0 ≤ _), (by decide : 0 + 0 ≤ _)⟩)
      dsimp only [Pt.U, Pt.locs, Pt.cells, Pt.slots] at X19 l19 y19 z19 st19 hQ19
      subst l19 y19 z19
      obtain ⟨rfl, Nq19, e19⟩ := hQ19
      have N19 := Fr.app N0 Nq19
      refine Goes.to (T' := T19.setTop (mkF m 12 #[.val (.int p0), .val (.int p1), .val (.int (1 : Int32)), .val (.int (1 : Int32)), .unset, .unset, .unset] [(.ref w_BloodType_A)])) st19 ?_
      refine Goes.to (T' := T19.setTop (mkF m 14 #[.val (.int p0), .val (.int p1), .val (.int (1 : Int32)), .val (.int (1 : Int32)), .val (.ref w_BloodType_A), .unset, .unset] [])) (fun t k => XS.astore X19.here hx rfl (hb hby at_12) rfl rfl (l' := #[.val (.int p0), .val (.int p1), .val (.int (1 : Int32)), .val (.int (1 : Int32)), .val (.ref w_BloodType_A), .unset, .unset]) rfl k) ?_
      refine Goes.to (T' := T19.setTop (mkF m 15 #[.val (.int p0), .val (.int p1), .val (.int (1 : Int32)), .val (.int (1 : Int32)), .val (.ref w_BloodType_A), .unset, .unset] [(.int (1 : Int32))])) (fun t k => XS.iloadN X19.here hx rfl (hb hby at_14) rfl k) ?_
      obtain ⟨_, _, ⟨T20, L20, k20, n20⟩, -, X20, ⟨Lc20, hQ20, l20, y20, z20⟩, st20⟩ := Jvm.LawKit.callS X19 hx (y := (⟨"com/example/veilmatch/veilmatch/model/BloodTypeCanGiveToPinLaw", "pick", "(I)Lcom/example/veilmatch/veilmatch/model/BloodType;"⟩ : MethodName)) hown (mvT hZ (hw _ (List.mem_of_getElem? (i := 0) rfl))) (mvT hZ (hw _ (List.mem_of_getElem? (i := 1) rfl))) (mvT hZ (hw _ (List.mem_of_getElem? (i := 2) rfl))) (mvT hZ (hw _ (List.mem_of_getElem? (i := 3) rfl))) (by decide) (backOf (W := 0) (rmP l Z a0 hw [] (1 : Int32) w_BloodType_O w_BloodType_AB w_BloodType_B w_BloodType_A w_BloodType_A h0 n0 O0 NF (by simp)) hZ (hw _ (List.mem_of_getElem? (i := 3) rfl)) (hw _ (List.mem_of_getElem? (i := 2) rfl)) (by decide) (by decide)) (g := (mkF m 15 #[.val (.int p0), .val (.int p1), .val (.int (1 : Int32)), .val (.int (1 : Int32)), .val (.ref w_BloodType_A), .unset, .unset] [(.int (1 : Int32))])) rfl (by rw [hml]; rfl) (argsL := [(.int (1 : Int32))]) (rest := []) (lenOf pd_31 rfl) rfl (by show 2 * 0 + _ ≤ _; exact Nat.le_of_eq rfl) (hb hby at_15) (fun _ _ => ⟨rfl, e19, (by decide : 0 + 0 ≤ _), (by decide : 0 + 0 ≤ _)⟩)
      dsimp only [Pt.U, Pt.locs, Pt.cells, Pt.slots] at X20 l20 y20 z20 st20 hQ20
      subst l20 y20 z20
      obtain ⟨rfl, Nq20, e20⟩ := hQ20
      have N20 := Fr.app N19 Nq20
      refine Goes.to (T' := T20.setTop (mkF m 18 #[.val (.int p0), .val (.int p1), .val (.int (1 : Int32)), .val (.int (1 : Int32)), .val (.ref w_BloodType_A), .unset, .unset] [(.ref w_BloodType_A)])) st20 ?_
      refine Goes.to (T' := T20.setTop (mkF m 20 #[.val (.int p0), .val (.int p1), .val (.int (1 : Int32)), .val (.int (1 : Int32)), .val (.ref w_BloodType_A), .val (.ref w_BloodType_A), .unset] [])) (fun t k => XS.astore X20.here hx rfl (hb hby at_18) rfl rfl (l' := #[.val (.int p0), .val (.int p1), .val (.int (1 : Int32)), .val (.int (1 : Int32)), .val (.ref w_BloodType_A), .val (.ref w_BloodType_A), .unset]) rfl k) ?_
      refine Goes.to (T' := T20.setTop (mkF m 21 #[.val (.int p0), .val (.int p1), .val (.int (1 : Int32)), .val (.int (1 : Int32)), .val (.ref w_BloodType_A), .val (.ref w_BloodType_A), .unset] [(.int (1 : Int32))])) (fun t k => XS.iloadN X20.here hx rfl (hb hby at_20) rfl k) ?_
      refine Goes.to (T' := T20.setTop (mkF m 22 #[.val (.int p0), .val (.int p1), .val (.int (1 : Int32)), .val (.int (1 : Int32)), .val (.ref w_BloodType_A), .val (.ref w_BloodType_A), .unset] [(.int (1 : Int32)), (.int (1 : Int32))])) (fun t k => XS.iloadN X20.here hx rfl (hb hby at_21) rfl k) ?_
      refine Goes.to (T' := T20.setTop (mkF m 23 #[.val (.int p0), .val (.int p1), .val (.int (1 : Int32)), .val (.int (1 : Int32)), .val (.ref w_BloodType_A), .val (.ref w_BloodType_A), .unset] [(.int (-1 : Int32)), (.int (1 : Int32)), (.int (1 : Int32))])) (fun t k => XS.iconst X20.here hx rfl (hb hby at_22) k) ?_
      refine Goes.to (T' := T20.setTop (mkF m 24 #[.val (.int p0), .val (.int p1), .val (.int (1 : Int32)), .val (.int (1 : Int32)), .val (.ref w_BloodType_A), .val (.ref w_BloodType_A), .unset] [(.int ((1 : Int32) ^^^ (-1 : Int32))), (.int (1 : Int32))])) (fun t k => XS.ixor X20.here hx rfl (hb hby at_23) rfl k) ?_
      rw [show ((1 : Int32) ^^^ (-1 : Int32)) = (-2 : Int32) from by decide +kernel]
      refine Goes.to (T' := T20.setTop (mkF m 25 #[.val (.int p0), .val (.int p1), .val (.int (1 : Int32)), .val (.int (1 : Int32)), .val (.ref w_BloodType_A), .val (.ref w_BloodType_A), .unset] [(.int ((1 : Int32) &&& (-2 : Int32)))])) (fun t k => XS.iand X20.here hx rfl (hb hby at_24) rfl k) ?_
      rw [show ((1 : Int32) &&& (-2 : Int32)) = (0 : Int32) from by decide +kernel]
      refine Goes.to (T' := T20.setTop (mkF m 28 #[.val (.int p0), .val (.int p1), .val (.int (1 : Int32)), .val (.int (1 : Int32)), .val (.ref w_BloodType_A), .val (.ref w_BloodType_A), .unset] [])) (fun t k => XS.ifNo X20.here hx rfl (hb hby at_25) rfl ((if0 _ _).trans (teq (by decide)).2) k) ?_
      refine Goes.to (T' := T20.setTop (mkF m 29 #[.val (.int p0), .val (.int p1), .val (.int (1 : Int32)), .val (.int (1 : Int32)), .val (.ref w_BloodType_A), .val (.ref w_BloodType_A), .unset] [(.int (1 : Int32))])) (fun t k => XS.iconst X20.here hx rfl (hb hby at_28) k) ?_
      refine Goes.to (T' := T20.setTop (mkF m 33 #[.val (.int p0), .val (.int p1), .val (.int (1 : Int32)), .val (.int (1 : Int32)), .val (.ref w_BloodType_A), .val (.ref w_BloodType_A), .unset] [(.int (1 : Int32))])) (fun t k => XS.goto X20.here hx rfl (pc0 := 29) (pc' := 33) rfl (hb hby at_29) (by decide) (by decide) k) ?_
      refine Goes.to (T' := T20.setTop (mkF m 35 #[.val (.int p0), .val (.int p1), .val (.int (1 : Int32)), .val (.int (1 : Int32)), .val (.ref w_BloodType_A), .val (.ref w_BloodType_A), .val (.int (1 : Int32))] [])) (fun t k => XS.istore X20.here hx rfl (hb hby at_33) rfl (l' := #[.val (.int p0), .val (.int p1), .val (.int (1 : Int32)), .val (.int (1 : Int32)), .val (.ref w_BloodType_A), .val (.ref w_BloodType_A), .val (.int (1 : Int32))]) rfl k) ?_
      refine Goes.to (T' := T20.setTop (mkF m 37 #[.val (.int p0), .val (.int p1), .val (.int (1 : Int32)), .val (.int (1 : Int32)), .val (.ref w_BloodType_A), .val (.ref w_BloodType_A), .val (.int (1 : Int32))] [(.ref w_BloodType_A)])) (fun t k => XS.aload X20.here hx rfl (hb hby at_35) rfl rfl k) ?_
      refine Goes.to (T' := T20.setTop (mkF m 39 #[.val (.int p0), .val (.int p1), .val (.int (1 : Int32)), .val (.int (1 : Int32)), .val (.ref w_BloodType_A), .val (.ref w_BloodType_A), .val (.int (1 : Int32))] [(.ref w_BloodType_A), (.ref w_BloodType_A)])) (fun t k => XS.aload X20.here hx rfl (hb hby at_37) rfl rfl k) ?_
      obtain ⟨cq21, kq21, q21a, q21b, q21c⟩ := isOf hZ e20 (E_w_BloodType_A.ext O0.2)
      obtain ⟨_, _, ⟨T21, L21, k21, n21⟩, -, X21, ⟨Lc21, hQ21, l21, y21, z21⟩, st21⟩ := X20.virtualBack hx (y := (⟨"com/example/veilmatch/veilmatch/model/BloodType", "canGiveTo", "(Lcom/example/veilmatch/veilmatch/model/BloodType;)Z"⟩ : MethodName)) (z := (⟨"com/example/veilmatch/veilmatch/model/BloodType", "canGiveTo", "(Lcom/example/veilmatch/veilmatch/model/BloodType;)Z"⟩ : MethodName)) hown (mvT hZ (hw _ (List.mem_of_getElem? (i := 9) rfl))) (mvT hZ (hw _ (List.mem_of_getElem? (i := 10) rfl))) (notFace_of_selects (args := #[]) (mvT hZ (hw _ (List.mem_of_getElem? (i := 12) rfl)))) (mvT hZ (hw _ (List.mem_of_getElem? (i := 12) rfl))) (mvT hZ (hw _ (List.mem_of_getElem? (i := 11) rfl))) (by decide) (backOf (W := 0) (rmG l Z a0 hw [] w_BloodType_A w_BloodType_A w_BloodType_O w_BloodType_AB w_BloodType_B w_BloodType_A (1 : Int32) h0 n0 O0 NF (by simp)) hZ (hw _ (List.mem_of_getElem? (i := 13) rfl)) (hw _ (List.mem_of_getElem? (i := 5) rfl)) (by decide) (by decide)) q21a q21c (g := (mkF m 39 #[.val (.int p0), .val (.int p1), .val (.int (1 : Int32)), .val (.int (1 : Int32)), .val (.ref w_BloodType_A), .val (.ref w_BloodType_A), .val (.int (1 : Int32))] [(.ref w_BloodType_A), (.ref w_BloodType_A)])) rfl (by rw [hml]; rfl) (Steps.refl _) (argsL := [(.ref w_BloodType_A)]) (rest := []) (lenOf pd_32 rfl) rfl (by show 2 * 0 + _ ≤ _; exact Nat.le_of_eq rfl) (hb hby at_39) (fun _ _ => ⟨rfl, e20, (by decide : 0 + 0 ≤ _), (by decide : 0 + 0 ≤ _)⟩)
      dsimp only [Pt.U, Pt.locs, Pt.cells, Pt.slots] at X21 l21 y21 z21 st21 hQ21
      subst l21 y21 z21
      obtain ⟨rfl, Nq21, e21⟩ := hQ21
      have N21 := Fr.app N20 Nq21
      refine Goes.thru (T' := T21.setTop (mkF m 42 #[.val (.int p0), .val (.int p1), .val (.int (1 : Int32)), .val (.int (1 : Int32)), .val (.ref w_BloodType_A), .val (.ref w_BloodType_A), .val (.int (1 : Int32))] [(.int (1 : Int32))])) st21 ?_
      refine Goes.to (T' := T21.setTop (mkF m 44 #[.val (.int p0), .val (.int p1), .val (.int (1 : Int32)), .val (.int (1 : Int32)), .val (.ref w_BloodType_A), .val (.ref w_BloodType_A), .val (.int (1 : Int32))] [(.int (1 : Int32)), (.int (1 : Int32))])) (fun t k => XS.iload X21.here hx rfl (hb hby at_42) rfl k) ?_
      refine Goes.to (T' := T21.setTop (mkF m 47 #[.val (.int p0), .val (.int p1), .val (.int (1 : Int32)), .val (.int (1 : Int32)), .val (.ref w_BloodType_A), .val (.ref w_BloodType_A), .val (.int (1 : Int32))] [])) (fun t k => XS.icmpNo X21.here hx rfl (hb hby at_44) rfl (teq (by decide)).2 k) ?_
      refine Goes.to (T' := T21.setTop (mkF m 48 #[.val (.int p0), .val (.int p1), .val (.int (1 : Int32)), .val (.int (1 : Int32)), .val (.ref w_BloodType_A), .val (.ref w_BloodType_A), .val (.int (1 : Int32))] [(.int (1 : Int32))])) (fun t k => XS.iconst X21.here hx rfl (hb hby at_47) k) ?_
      refine Goes.to (T' := T21.setTop (mkF m 52 #[.val (.int p0), .val (.int p1), .val (.int (1 : Int32)), .val (.int (1 : Int32)), .val (.ref w_BloodType_A), .val (.ref w_BloodType_A), .val (.int (1 : Int32))] [(.int (1 : Int32))])) (fun t k => XS.goto X21.here hx rfl (pc0 := 48) (pc' := 52) rfl (hb hby at_48) (by decide) (by decide) k) ?_
      obtain ⟨fs, hrL, hrun, hended, hW, hsame⟩ := X21.leave (v := some (.int (1 : Int32))) (fun h => by rw [Bd.returns] at h; cases h)
      subst hQf
      refine ⟨_, _, retN X21 hx (t := .boolean) Bd.returns (by simp) (hb hby at_52) hrL, hrun, hended, _, _, rfl, ?_, ⟨_, rfl⟩, hW, hsame.mono (by decide) (by decide)⟩
      show (fun (v : Option Value) (h : Heap) (L : List Loc) => v = some (.int 1) ∧ Fr n0 L) (some (.int (1 : Int32))) T21.heap _
      rw [e21]
      exact ⟨rfl, N21⟩
    · rw [hv_15]
      refine Goes.to (T' := s₁.setTop (mkF m 8 #[.val (.int p0), .val (.int p1), .val (.int (1 : Int32)), .val (.int (2 : Int32)), .unset, .unset, .unset] [])) (fun t k => XS.istoreN X0.here hx rfl (hb hby at_7) rfl (l' := #[.val (.int p0), .val (.int p1), .val (.int (1 : Int32)), .val (.int (2 : Int32)), .unset, .unset, .unset]) rfl k) ?_
      refine Goes.to (T' := s₁.setTop (mkF m 9 #[.val (.int p0), .val (.int p1), .val (.int (1 : Int32)), .val (.int (2 : Int32)), .unset, .unset, .unset] [(.int (1 : Int32))])) (fun t k => XS.iloadN X0.here hx rfl (hb hby at_8) rfl k) ?_
      obtain ⟨_, _, ⟨T22, L22, k22, n22⟩, -, X22, ⟨Lc22, hQ22, l22, y22, z22⟩, st22⟩ := Jvm.LawKit.callS X0 hx (y := (⟨"com/example/veilmatch/veilmatch/model/BloodTypeCanGiveToPinLaw", "pick", "(I)Lcom/example/veilmatch/veilmatch/model/BloodType;"⟩ : MethodName)) hown (mvT hZ (hw _ (List.mem_of_getElem? (i := 0) rfl))) (mvT hZ (hw _ (List.mem_of_getElem? (i := 1) rfl))) (mvT hZ (hw _ (List.mem_of_getElem? (i := 2) rfl))) (mvT hZ (hw _ (List.mem_of_getElem? (i := 3) rfl))) (by decide) (backOf (W := 0) (rmP l Z a0 hw [] (1 : Int32) w_BloodType_O w_BloodType_AB w_BloodType_B w_BloodType_A w_BloodType_A h0 n0 O0 NF (by simp)) hZ (hw _ (List.mem_of_getElem? (i := 3) rfl)) (hw _ (List.mem_of_getElem? (i := 2) rfl)) (by decide) (by decide)) (g := (mkF m 9 #[.val (.int p0), .val (.int p1), .val (.int (1 : Int32)), .val (.int (2 : Int32)), .unset, .unset, .unset] [(.int (1 : Int32))])) rfl (by rw [hml]; rfl) (argsL := [(.int (1 : Int32))]) (rest := []) (lenOf pd_31 rfl) rfl (by show 2 * 0 + _ ≤ _; exact Nat.le_of_eq rfl) (hb hby at_9) (fun _ _ => ⟨rfl, e0, (by decide : 0 + 0 ≤ _), (by decide : 0 + 0 ≤ _)⟩)
      dsimp only [Pt.U, Pt.locs, Pt.cells, Pt.slots] at X22 l22 y22 z22 st22 hQ22
      subst l22 y22 z22
      obtain ⟨rfl, Nq22, e22⟩ := hQ22
      have N22 := Fr.app N0 Nq22
      refine Goes.to (T' := T22.setTop (mkF m 12 #[.val (.int p0), .val (.int p1), .val (.int (1 : Int32)), .val (.int (2 : Int32)), .unset, .unset, .unset] [(.ref w_BloodType_A)])) st22 ?_
      refine Goes.to (T' := T22.setTop (mkF m 14 #[.val (.int p0), .val (.int p1), .val (.int (1 : Int32)), .val (.int (2 : Int32)), .val (.ref w_BloodType_A), .unset, .unset] [])) (fun t k => XS.astore X22.here hx rfl (hb hby at_12) rfl rfl (l' := #[.val (.int p0), .val (.int p1), .val (.int (1 : Int32)), .val (.int (2 : Int32)), .val (.ref w_BloodType_A), .unset, .unset]) rfl k) ?_
      refine Goes.to (T' := T22.setTop (mkF m 15 #[.val (.int p0), .val (.int p1), .val (.int (1 : Int32)), .val (.int (2 : Int32)), .val (.ref w_BloodType_A), .unset, .unset] [(.int (2 : Int32))])) (fun t k => XS.iloadN X22.here hx rfl (hb hby at_14) rfl k) ?_
      obtain ⟨_, _, ⟨T23, L23, k23, n23⟩, -, X23, ⟨Lc23, hQ23, l23, y23, z23⟩, st23⟩ := Jvm.LawKit.callS X22 hx (y := (⟨"com/example/veilmatch/veilmatch/model/BloodTypeCanGiveToPinLaw", "pick", "(I)Lcom/example/veilmatch/veilmatch/model/BloodType;"⟩ : MethodName)) hown (mvT hZ (hw _ (List.mem_of_getElem? (i := 0) rfl))) (mvT hZ (hw _ (List.mem_of_getElem? (i := 1) rfl))) (mvT hZ (hw _ (List.mem_of_getElem? (i := 2) rfl))) (mvT hZ (hw _ (List.mem_of_getElem? (i := 3) rfl))) (by decide) (backOf (W := 0) (rmP l Z a0 hw [] (2 : Int32) w_BloodType_O w_BloodType_AB w_BloodType_B w_BloodType_A w_BloodType_B h0 n0 O0 NF (by simp)) hZ (hw _ (List.mem_of_getElem? (i := 3) rfl)) (hw _ (List.mem_of_getElem? (i := 2) rfl)) (by decide) (by decide)) (g := (mkF m 15 #[.val (.int p0), .val (.int p1), .val (.int (1 : Int32)), .val (.int (2 : Int32)), .val (.ref w_BloodType_A), .unset, .unset] [(.int (2 : Int32))])) rfl (by rw [hml]; rfl) (argsL := [(.int (2 : Int32))]) (rest := []) (lenOf pd_31 rfl) rfl (by show 2 * 0 + _ ≤ _; exact Nat.le_of_eq rfl) (hb hby at_15) (fun _ _ => ⟨rfl, e22, (by decide : 0 + 0 ≤ _), (by decide : 0 + 0 ≤ _)⟩)
      dsimp only [Pt.U, Pt.locs, Pt.cells, Pt.slots] at X23 l23 y23 z23 st23 hQ23
      subst l23 y23 z23
      obtain ⟨rfl, Nq23, e23⟩ := hQ23
      have N23 := Fr.app N22 Nq23
      refine Goes.to (T' := T23.setTop (mkF m 18 #[.val (.int p0), .val (.int p1), .val (.int (1 : Int32)), .val (.int (2 : Int32)), .val (.ref w_BloodType_A), .unset, .unset] [(.ref w_BloodType_B)])) st23 ?_
      refine Goes.to (T' := T23.setTop (mkF m 20 #[.val (.int p0), .val (.int p1), .val (.int (1 : Int32)), .val (.int (2 : Int32)), .val (.ref w_BloodType_A), .val (.ref w_BloodType_B), .unset] [])) (fun t k => XS.astore X23.here hx rfl (hb hby at_18) rfl rfl (l' := #[.val (.int p0), .val (.int p1), .val (.int (1 : Int32)), .val (.int (2 : Int32)), .val (.ref w_BloodType_A), .val (.ref w_BloodType_B), .unset]) rfl k) ?_
      refine Goes.to (T' := T23.setTop (mkF m 21 #[.val (.int p0), .val (.int p1), .val (.int (1 : Int32)), .val (.int (2 : Int32)), .val (.ref w_BloodType_A), .val (.ref w_BloodType_B), .unset] [(.int (1 : Int32))])) (fun t k => XS.iloadN X23.here hx rfl (hb hby at_20) rfl k) ?_
      refine Goes.to (T' := T23.setTop (mkF m 22 #[.val (.int p0), .val (.int p1), .val (.int (1 : Int32)), .val (.int (2 : Int32)), .val (.ref w_BloodType_A), .val (.ref w_BloodType_B), .unset] [(.int (2 : Int32)), (.int (1 : Int32))])) (fun t k => XS.iloadN X23.here hx rfl (hb hby at_21) rfl k) ?_
      refine Goes.to (T' := T23.setTop (mkF m 23 #[.val (.int p0), .val (.int p1), .val (.int (1 : Int32)), .val (.int (2 : Int32)), .val (.ref w_BloodType_A), .val (.ref w_BloodType_B), .unset] [(.int (-1 : Int32)), (.int (2 : Int32)), (.int (1 : Int32))])) (fun t k => XS.iconst X23.here hx rfl (hb hby at_22) k) ?_
      refine Goes.to (T' := T23.setTop (mkF m 24 #[.val (.int p0), .val (.int p1), .val (.int (1 : Int32)), .val (.int (2 : Int32)), .val (.ref w_BloodType_A), .val (.ref w_BloodType_B), .unset] [(.int ((2 : Int32) ^^^ (-1 : Int32))), (.int (1 : Int32))])) (fun t k => XS.ixor X23.here hx rfl (hb hby at_23) rfl k) ?_
      rw [show ((2 : Int32) ^^^ (-1 : Int32)) = (-3 : Int32) from by decide +kernel]
      refine Goes.to (T' := T23.setTop (mkF m 25 #[.val (.int p0), .val (.int p1), .val (.int (1 : Int32)), .val (.int (2 : Int32)), .val (.ref w_BloodType_A), .val (.ref w_BloodType_B), .unset] [(.int ((1 : Int32) &&& (-3 : Int32)))])) (fun t k => XS.iand X23.here hx rfl (hb hby at_24) rfl k) ?_
      rw [show ((1 : Int32) &&& (-3 : Int32)) = (1 : Int32) from by decide +kernel]
      refine Goes.to (T' := T23.setTop (mkF m 32 #[.val (.int p0), .val (.int p1), .val (.int (1 : Int32)), .val (.int (2 : Int32)), .val (.ref w_BloodType_A), .val (.ref w_BloodType_B), .unset] [])) (fun t k => XS.ifYes X23.here hx rfl (pc0 := 25) (pc' := 32) rfl (hb hby at_25) rfl ((if0 _ _).trans (feq (by decide)).2) (by decide) (by decide) k) ?_
      refine Goes.to (T' := T23.setTop (mkF m 33 #[.val (.int p0), .val (.int p1), .val (.int (1 : Int32)), .val (.int (2 : Int32)), .val (.ref w_BloodType_A), .val (.ref w_BloodType_B), .unset] [(.int (0 : Int32))])) (fun t k => XS.iconst X23.here hx rfl (hb hby at_32) k) ?_
      refine Goes.to (T' := T23.setTop (mkF m 35 #[.val (.int p0), .val (.int p1), .val (.int (1 : Int32)), .val (.int (2 : Int32)), .val (.ref w_BloodType_A), .val (.ref w_BloodType_B), .val (.int (0 : Int32))] [])) (fun t k => XS.istore X23.here hx rfl (hb hby at_33) rfl (l' := #[.val (.int p0), .val (.int p1), .val (.int (1 : Int32)), .val (.int (2 : Int32)), .val (.ref w_BloodType_A), .val (.ref w_BloodType_B), .val (.int (0 : Int32))]) rfl k) ?_
      refine Goes.to (T' := T23.setTop (mkF m 37 #[.val (.int p0), .val (.int p1), .val (.int (1 : Int32)), .val (.int (2 : Int32)), .val (.ref w_BloodType_A), .val (.ref w_BloodType_B), .val (.int (0 : Int32))] [(.ref w_BloodType_A)])) (fun t k => XS.aload X23.here hx rfl (hb hby at_35) rfl rfl k) ?_
      refine Goes.to (T' := T23.setTop (mkF m 39 #[.val (.int p0), .val (.int p1), .val (.int (1 : Int32)), .val (.int (2 : Int32)), .val (.ref w_BloodType_A), .val (.ref w_BloodType_B), .val (.int (0 : Int32))] [(.ref w_BloodType_B), (.ref w_BloodType_A)])) (fun t k => XS.aload X23.here hx rfl (hb hby at_37) rfl rfl k) ?_
      have hne1 := (Fld.ne F_ordinal_w_BloodType_A F_ordinal_w_BloodType_O (by simp))
      have hne2 := (Fld.ne F_ordinal_w_BloodType_A F_ordinal_w_BloodType_B (by simp))
      have hne3 := (Fld.ne F_ordinal_w_BloodType_B F_ordinal_w_BloodType_AB (by simp))
      obtain ⟨cq24, kq24, q24a, q24b, q24c⟩ := isOf hZ e23 (E_w_BloodType_A.ext O0.2)
      obtain ⟨_, _, ⟨T24, L24, k24, n24⟩, -, X24, ⟨Lc24, hQ24, l24, y24, z24⟩, st24⟩ := X23.virtualBack hx (y := (⟨"com/example/veilmatch/veilmatch/model/BloodType", "canGiveTo", "(Lcom/example/veilmatch/veilmatch/model/BloodType;)Z"⟩ : MethodName)) (z := (⟨"com/example/veilmatch/veilmatch/model/BloodType", "canGiveTo", "(Lcom/example/veilmatch/veilmatch/model/BloodType;)Z"⟩ : MethodName)) hown (mvT hZ (hw _ (List.mem_of_getElem? (i := 9) rfl))) (mvT hZ (hw _ (List.mem_of_getElem? (i := 10) rfl))) (notFace_of_selects (args := #[]) (mvT hZ (hw _ (List.mem_of_getElem? (i := 12) rfl)))) (mvT hZ (hw _ (List.mem_of_getElem? (i := 12) rfl))) (mvT hZ (hw _ (List.mem_of_getElem? (i := 11) rfl))) (by decide) (backOf (W := 0) (rmG l Z a0 hw [] w_BloodType_A w_BloodType_B w_BloodType_O w_BloodType_AB w_BloodType_B w_BloodType_A (0 : Int32) h0 n0 O0 NF (by simp [hne1, hne2, hne3])) hZ (hw _ (List.mem_of_getElem? (i := 13) rfl)) (hw _ (List.mem_of_getElem? (i := 5) rfl)) (by decide) (by decide)) q24a q24c (g := (mkF m 39 #[.val (.int p0), .val (.int p1), .val (.int (1 : Int32)), .val (.int (2 : Int32)), .val (.ref w_BloodType_A), .val (.ref w_BloodType_B), .val (.int (0 : Int32))] [(.ref w_BloodType_B), (.ref w_BloodType_A)])) rfl (by rw [hml]; rfl) (Steps.refl _) (argsL := [(.ref w_BloodType_B)]) (rest := []) (lenOf pd_32 rfl) rfl (by show 2 * 0 + _ ≤ _; exact Nat.le_of_eq rfl) (hb hby at_39) (fun _ _ => ⟨rfl, e23, (by decide : 0 + 0 ≤ _), (by decide : 0 + 0 ≤ _)⟩)
      dsimp only [Pt.U, Pt.locs, Pt.cells, Pt.slots] at X24 l24 y24 z24 st24 hQ24
      subst l24 y24 z24
      obtain ⟨rfl, Nq24, e24⟩ := hQ24
      have N24 := Fr.app N23 Nq24
      refine Goes.thru (T' := T24.setTop (mkF m 42 #[.val (.int p0), .val (.int p1), .val (.int (1 : Int32)), .val (.int (2 : Int32)), .val (.ref w_BloodType_A), .val (.ref w_BloodType_B), .val (.int (0 : Int32))] [(.int (0 : Int32))])) st24 ?_
      refine Goes.to (T' := T24.setTop (mkF m 44 #[.val (.int p0), .val (.int p1), .val (.int (1 : Int32)), .val (.int (2 : Int32)), .val (.ref w_BloodType_A), .val (.ref w_BloodType_B), .val (.int (0 : Int32))] [(.int (0 : Int32)), (.int (0 : Int32))])) (fun t k => XS.iload X24.here hx rfl (hb hby at_42) rfl k) ?_
      refine Goes.to (T' := T24.setTop (mkF m 47 #[.val (.int p0), .val (.int p1), .val (.int (1 : Int32)), .val (.int (2 : Int32)), .val (.ref w_BloodType_A), .val (.ref w_BloodType_B), .val (.int (0 : Int32))] [])) (fun t k => XS.icmpNo X24.here hx rfl (hb hby at_44) rfl (teq (by decide)).2 k) ?_
      refine Goes.to (T' := T24.setTop (mkF m 48 #[.val (.int p0), .val (.int p1), .val (.int (1 : Int32)), .val (.int (2 : Int32)), .val (.ref w_BloodType_A), .val (.ref w_BloodType_B), .val (.int (0 : Int32))] [(.int (1 : Int32))])) (fun t k => XS.iconst X24.here hx rfl (hb hby at_47) k) ?_
      refine Goes.to (T' := T24.setTop (mkF m 52 #[.val (.int p0), .val (.int p1), .val (.int (1 : Int32)), .val (.int (2 : Int32)), .val (.ref w_BloodType_A), .val (.ref w_BloodType_B), .val (.int (0 : Int32))] [(.int (1 : Int32))])) (fun t k => XS.goto X24.here hx rfl (pc0 := 48) (pc' := 52) rfl (hb hby at_48) (by decide) (by decide) k) ?_
      obtain ⟨fs, hrL, hrun, hended, hW, hsame⟩ := X24.leave (v := some (.int (1 : Int32))) (fun h => by rw [Bd.returns] at h; cases h)
      subst hQf
      refine ⟨_, _, retN X24 hx (t := .boolean) Bd.returns (by simp) (hb hby at_52) hrL, hrun, hended, _, _, rfl, ?_, ⟨_, rfl⟩, hW, hsame.mono (by decide) (by decide)⟩
      show (fun (v : Option Value) (h : Heap) (L : List Loc) => v = some (.int 1) ∧ Fr n0 L) (some (.int (1 : Int32))) T24.heap _
      rw [e24]
      exact ⟨rfl, N24⟩
    · rw [hv_15]
      refine Goes.to (T' := s₁.setTop (mkF m 8 #[.val (.int p0), .val (.int p1), .val (.int (1 : Int32)), .val (.int (3 : Int32)), .unset, .unset, .unset] [])) (fun t k => XS.istoreN X0.here hx rfl (hb hby at_7) rfl (l' := #[.val (.int p0), .val (.int p1), .val (.int (1 : Int32)), .val (.int (3 : Int32)), .unset, .unset, .unset]) rfl k) ?_
      refine Goes.to (T' := s₁.setTop (mkF m 9 #[.val (.int p0), .val (.int p1), .val (.int (1 : Int32)), .val (.int (3 : Int32)), .unset, .unset, .unset] [(.int (1 : Int32))])) (fun t k => XS.iloadN X0.here hx rfl (hb hby at_8) rfl k) ?_
      obtain ⟨_, _, ⟨T25, L25, k25, n25⟩, -, X25, ⟨Lc25, hQ25, l25, y25, z25⟩, st25⟩ := Jvm.LawKit.callS X0 hx (y := (⟨"com/example/veilmatch/veilmatch/model/BloodTypeCanGiveToPinLaw", "pick", "(I)Lcom/example/veilmatch/veilmatch/model/BloodType;"⟩ : MethodName)) hown (mvT hZ (hw _ (List.mem_of_getElem? (i := 0) rfl))) (mvT hZ (hw _ (List.mem_of_getElem? (i := 1) rfl))) (mvT hZ (hw _ (List.mem_of_getElem? (i := 2) rfl))) (mvT hZ (hw _ (List.mem_of_getElem? (i := 3) rfl))) (by decide) (backOf (W := 0) (rmP l Z a0 hw [] (1 : Int32) w_BloodType_O w_BloodType_AB w_BloodType_B w_BloodType_A w_BloodType_A h0 n0 O0 NF (by simp)) hZ (hw _ (List.mem_of_getElem? (i := 3) rfl)) (hw _ (List.mem_of_getElem? (i := 2) rfl)) (by decide) (by decide)) (g := (mkF m 9 #[.val (.int p0), .val (.int p1), .val (.int (1 : Int32)), .val (.int (3 : Int32)), .unset, .unset, .unset] [(.int (1 : Int32))])) rfl (by rw [hml]; rfl) (argsL := [(.int (1 : Int32))]) (rest := []) (lenOf pd_31 rfl) rfl (by show 2 * 0 + _ ≤ _; exact Nat.le_of_eq rfl) (hb hby at_9) (fun _ _ => ⟨rfl, e0, (by decide : 0 + 0 ≤ _), (by decide : 0 + 0 ≤ _)⟩)
      dsimp only [Pt.U, Pt.locs, Pt.cells, Pt.slots] at X25 l25 y25 z25 st25 hQ25
      subst l25 y25 z25
      obtain ⟨rfl, Nq25, e25⟩ := hQ25
      have N25 := Fr.app N0 Nq25
      refine Goes.to (T' := T25.setTop (mkF m 12 #[.val (.int p0), .val (.int p1), .val (.int (1 : Int32)), .val (.int (3 : Int32)), .unset, .unset, .unset] [(.ref w_BloodType_A)])) st25 ?_
      refine Goes.to (T' := T25.setTop (mkF m 14 #[.val (.int p0), .val (.int p1), .val (.int (1 : Int32)), .val (.int (3 : Int32)), .val (.ref w_BloodType_A), .unset, .unset] [])) (fun t k => XS.astore X25.here hx rfl (hb hby at_12) rfl rfl (l' := #[.val (.int p0), .val (.int p1), .val (.int (1 : Int32)), .val (.int (3 : Int32)), .val (.ref w_BloodType_A), .unset, .unset]) rfl k) ?_
      refine Goes.to (T' := T25.setTop (mkF m 15 #[.val (.int p0), .val (.int p1), .val (.int (1 : Int32)), .val (.int (3 : Int32)), .val (.ref w_BloodType_A), .unset, .unset] [(.int (3 : Int32))])) (fun t k => XS.iloadN X25.here hx rfl (hb hby at_14) rfl k) ?_
      obtain ⟨_, _, ⟨T26, L26, k26, n26⟩, -, X26, ⟨Lc26, hQ26, l26, y26, z26⟩, st26⟩ := Jvm.LawKit.callS X25 hx (y := (⟨"com/example/veilmatch/veilmatch/model/BloodTypeCanGiveToPinLaw", "pick", "(I)Lcom/example/veilmatch/veilmatch/model/BloodType;"⟩ : MethodName)) hown (mvT hZ (hw _ (List.mem_of_getElem? (i := 0) rfl))) (mvT hZ (hw _ (List.mem_of_getElem? (i := 1) rfl))) (mvT hZ (hw _ (List.mem_of_getElem? (i := 2) rfl))) (mvT hZ (hw _ (List.mem_of_getElem? (i := 3) rfl))) (by decide) (backOf (W := 0) (rmP l Z a0 hw [] (3 : Int32) w_BloodType_O w_BloodType_AB w_BloodType_B w_BloodType_A w_BloodType_AB h0 n0 O0 NF (by simp)) hZ (hw _ (List.mem_of_getElem? (i := 3) rfl)) (hw _ (List.mem_of_getElem? (i := 2) rfl)) (by decide) (by decide)) (g := (mkF m 15 #[.val (.int p0), .val (.int p1), .val (.int (1 : Int32)), .val (.int (3 : Int32)), .val (.ref w_BloodType_A), .unset, .unset] [(.int (3 : Int32))])) rfl (by rw [hml]; rfl) (argsL := [(.int (3 : Int32))]) (rest := []) (lenOf pd_31 rfl) rfl (by show 2 * 0 + _ ≤ _; exact Nat.le_of_eq rfl) (hb hby at_15) (fun _ _ => ⟨rfl, e25, (by decide : 0 + 0 ≤ _), (by decide : 0 + 0 ≤ _)⟩)
      dsimp only [Pt.U, Pt.locs, Pt.cells, Pt.slots] at X26 l26 y26 z26 st26 hQ26
      subst l26 y26 z26
      obtain ⟨rfl, Nq26, e26⟩ := hQ26
      have N26 := Fr.app N25 Nq26
      refine Goes.to (T' := T26.setTop (mkF m 18 #[.val (.int p0), .val (.int p1), .val (.int (1 : Int32)), .val (.int (3 : Int32)), .val (.ref w_BloodType_A), .unset, .unset] [(.ref w_BloodType_AB)])) st26 ?_
      refine Goes.to (T' := T26.setTop (mkF m 20 #[.val (.int p0), .val (.int p1), .val (.int (1 : Int32)), .val (.int (3 : Int32)), .val (.ref w_BloodType_A), .val (.ref w_BloodType_AB), .unset] [])) (fun t k => XS.astore X26.here hx rfl (hb hby at_18) rfl rfl (l' := #[.val (.int p0), .val (.int p1), .val (.int (1 : Int32)), .val (.int (3 : Int32)), .val (.ref w_BloodType_A), .val (.ref w_BloodType_AB), .unset]) rfl k) ?_
      refine Goes.to (T' := T26.setTop (mkF m 21 #[.val (.int p0), .val (.int p1), .val (.int (1 : Int32)), .val (.int (3 : Int32)), .val (.ref w_BloodType_A), .val (.ref w_BloodType_AB), .unset] [(.int (1 : Int32))])) (fun t k => XS.iloadN X26.here hx rfl (hb hby at_20) rfl k) ?_
      refine Goes.to (T' := T26.setTop (mkF m 22 #[.val (.int p0), .val (.int p1), .val (.int (1 : Int32)), .val (.int (3 : Int32)), .val (.ref w_BloodType_A), .val (.ref w_BloodType_AB), .unset] [(.int (3 : Int32)), (.int (1 : Int32))])) (fun t k => XS.iloadN X26.here hx rfl (hb hby at_21) rfl k) ?_
      refine Goes.to (T' := T26.setTop (mkF m 23 #[.val (.int p0), .val (.int p1), .val (.int (1 : Int32)), .val (.int (3 : Int32)), .val (.ref w_BloodType_A), .val (.ref w_BloodType_AB), .unset] [(.int (-1 : Int32)), (.int (3 : Int32)), (.int (1 : Int32))])) (fun t k => XS.iconst X26.here hx rfl (hb hby at_22) k) ?_
      refine Goes.to (T' := T26.setTop (mkF m 24 #[.val (.int p0), .val (.int p1), .val (.int (1 : Int32)), .val (.int (3 : Int32)), .val (.ref w_BloodType_A), .val (.ref w_BloodType_AB), .unset] [(.int ((3 : Int32) ^^^ (-1 : Int32))), (.int (1 : Int32))])) (fun t k => XS.ixor X26.here hx rfl (hb hby at_23) rfl k) ?_
      rw [show ((3 : Int32) ^^^ (-1 : Int32)) = (-4 : Int32) from by decide +kernel]
      refine Goes.to (T' := T26.setTop (mkF m 25 #[.val (.int p0), .val (.int p1), .val (.int (1 : Int32)), .val (.int (3 : Int32)), .val (.ref w_BloodType_A), .val (.ref w_BloodType_AB), .unset] [(.int ((1 : Int32) &&& (-4 : Int32)))])) (fun t k => XS.iand X26.here hx rfl (hb hby at_24) rfl k) ?_
      rw [show ((1 : Int32) &&& (-4 : Int32)) = (0 : Int32) from by decide +kernel]
      refine Goes.to (T' := T26.setTop (mkF m 28 #[.val (.int p0), .val (.int p1), .val (.int (1 : Int32)), .val (.int (3 : Int32)), .val (.ref w_BloodType_A), .val (.ref w_BloodType_AB), .unset] [])) (fun t k => XS.ifNo X26.here hx rfl (hb hby at_25) rfl ((if0 _ _).trans (teq (by decide)).2) k) ?_
      refine Goes.to (T' := T26.setTop (mkF m 29 #[.val (.int p0), .val (.int p1), .val (.int (1 : Int32)), .val (.int (3 : Int32)), .val (.ref w_BloodType_A), .val (.ref w_BloodType_AB), .unset] [(.int (1 : Int32))])) (fun t k => XS.iconst X26.here hx rfl (hb hby at_28) k) ?_
      refine Goes.to (T' := T26.setTop (mkF m 33 #[.val (.int p0), .val (.int p1), .val (.int (1 : Int32)), .val (.int (3 : Int32)), .val (.ref w_BloodType_A), .val (.ref w_BloodType_AB), .unset] [(.int (1 : Int32))])) (fun t k => XS.goto X26.here hx rfl (pc0 := 29) (pc' := 33) rfl (hb hby at_29) (by decide) (by decide) k) ?_
      refine Goes.to (T' := T26.setTop (mkF m 35 #[.val (.int p0), .val (.int p1), .val (.int (1 : Int32)), .val (.int (3 : Int32)), .val (.ref w_BloodType_A), .val (.ref w_BloodType_AB), .val (.int (1 : Int32))] [])) (fun t k => XS.istore X26.here hx rfl (hb hby at_33) rfl (l' := #[.val (.int p0), .val (.int p1), .val (.int (1 : Int32)), .val (.int (3 : Int32)), .val (.ref w_BloodType_A), .val (.ref w_BloodType_AB), .val (.int (1 : Int32))]) rfl k) ?_
      refine Goes.to (T' := T26.setTop (mkF m 37 #[.val (.int p0), .val (.int p1), .val (.int (1 : Int32)), .val (.int (3 : Int32)), .val (.ref w_BloodType_A), .val (.ref w_BloodType_AB), .val (.int (1 : Int32))] [(.ref w_BloodType_A)])) (fun t k => XS.aload X26.here hx rfl (hb hby at_35) rfl rfl k) ?_
      refine Goes.to (T' := T26.setTop (mkF m 39 #[.val (.int p0), .val (.int p1), .val (.int (1 : Int32)), .val (.int (3 : Int32)), .val (.ref w_BloodType_A), .val (.ref w_BloodType_AB), .val (.int (1 : Int32))] [(.ref w_BloodType_AB), (.ref w_BloodType_A)])) (fun t k => XS.aload X26.here hx rfl (hb hby at_37) rfl rfl k) ?_
      obtain ⟨cq27, kq27, q27a, q27b, q27c⟩ := isOf hZ e26 (E_w_BloodType_A.ext O0.2)
      obtain ⟨_, _, ⟨T27, L27, k27, n27⟩, -, X27, ⟨Lc27, hQ27, l27, y27, z27⟩, st27⟩ := X26.virtualBack hx (y := (⟨"com/example/veilmatch/veilmatch/model/BloodType", "canGiveTo", "(Lcom/example/veilmatch/veilmatch/model/BloodType;)Z"⟩ : MethodName)) (z := (⟨"com/example/veilmatch/veilmatch/model/BloodType", "canGiveTo", "(Lcom/example/veilmatch/veilmatch/model/BloodType;)Z"⟩ : MethodName)) hown (mvT hZ (hw _ (List.mem_of_getElem? (i := 9) rfl))) (mvT hZ (hw _ (List.mem_of_getElem? (i := 10) rfl))) (notFace_of_selects (args := #[]) (mvT hZ (hw _ (List.mem_of_getElem? (i := 12) rfl)))) (mvT hZ (hw _ (List.mem_of_getElem? (i := 12) rfl))) (mvT hZ (hw _ (List.mem_of_getElem? (i := 11) rfl))) (by decide) (backOf (W := 0) (rmG l Z a0 hw [] w_BloodType_A w_BloodType_AB w_BloodType_O w_BloodType_AB w_BloodType_B w_BloodType_A (1 : Int32) h0 n0 O0 NF (by simp)) hZ (hw _ (List.mem_of_getElem? (i := 13) rfl)) (hw _ (List.mem_of_getElem? (i := 5) rfl)) (by decide) (by decide)) q27a q27c (g := (mkF m 39 #[.val (.int p0), .val (.int p1), .val (.int (1 : Int32)), .val (.int (3 : Int32)), .val (.ref w_BloodType_A), .val (.ref w_BloodType_AB), .val (.int (1 : Int32))] [(.ref w_BloodType_AB), (.ref w_BloodType_A)])) rfl (by rw [hml]; rfl) (Steps.refl _) (argsL := [(.ref w_BloodType_AB)]) (rest := []) (lenOf pd_32 rfl) rfl (by show 2 * 0 + _ ≤ _; exact Nat.le_of_eq rfl) (hb hby at_39) (fun _ _ => ⟨rfl, e26, (by decide : 0 + 0 ≤ _), (by decide : 0 + 0 ≤ _)⟩)
      dsimp only [Pt.U, Pt.locs, Pt.cells, Pt.slots] at X27 l27 y27 z27 st27 hQ27
      subst l27 y27 z27
      obtain ⟨rfl, Nq27, e27⟩ := hQ27
      have N27 := Fr.app N26 Nq27
      refine Goes.thru (T' := T27.setTop (mkF m 42 #[.val (.int p0), .val (.int p1), .val (.int (1 : Int32)), .val (.int (3 : Int32)), .val (.ref w_BloodType_A), .val (.ref w_BloodType_AB), .val (.int (1 : Int32))] [(.int (1 : Int32))])) st27 ?_
      refine Goes.to (T' := T27.setTop (mkF m 44 #[.val (.int p0), .val (.int p1), .val (.int (1 : Int32)), .val (.int (3 : Int32)), .val (.ref w_BloodType_A), .val (.ref w_BloodType_AB), .val (.int (1 : Int32))] [(.int (1 : Int32)), (.int (1 : Int32))])) (fun t k => XS.iload X27.here hx rfl (hb hby at_42) rfl k) ?_
      refine Goes.to (T' := T27.setTop (mkF m 47 #[.val (.int p0), .val (.int p1), .val (.int (1 : Int32)), .val (.int (3 : Int32)), .val (.ref w_BloodType_A), .val (.ref w_BloodType_AB), .val (.int (1 : Int32))] [])) (fun t k => XS.icmpNo X27.here hx rfl (hb hby at_44) rfl (teq (by decide)).2 k) ?_
      refine Goes.to (T' := T27.setTop (mkF m 48 #[.val (.int p0), .val (.int p1), .val (.int (1 : Int32)), .val (.int (3 : Int32)), .val (.ref w_BloodType_A), .val (.ref w_BloodType_AB), .val (.int (1 : Int32))] [(.int (1 : Int32))])) (fun t k => XS.iconst X27.here hx rfl (hb hby at_47) k) ?_
      refine Goes.to (T' := T27.setTop (mkF m 52 #[.val (.int p0), .val (.int p1), .val (.int (1 : Int32)), .val (.int (3 : Int32)), .val (.ref w_BloodType_A), .val (.ref w_BloodType_AB), .val (.int (1 : Int32))] [(.int (1 : Int32))])) (fun t k => XS.goto X27.here hx rfl (pc0 := 48) (pc' := 52) rfl (hb hby at_48) (by decide) (by decide) k) ?_
      obtain ⟨fs, hrL, hrun, hended, hW, hsame⟩ := X27.leave (v := some (.int (1 : Int32))) (fun h => by rw [Bd.returns] at h; cases h)
      subst hQf
      refine ⟨_, _, retN X27 hx (t := .boolean) Bd.returns (by simp) (hb hby at_52) hrL, hrun, hended, _, _, rfl, ?_, ⟨_, rfl⟩, hW, hsame.mono (by decide) (by decide)⟩
      show (fun (v : Option Value) (h : Heap) (L : List Loc) => v = some (.int 1) ∧ Fr n0 L) (some (.int (1 : Int32))) T27.heap _
      rw [e27]
      exact ⟨rfl, N27⟩
  · rw [hv_1]
    refine Goes.to (T' := s₁.setTop (mkF m 4 #[.val (.int p0), .val (.int p1), .val (.int (2 : Int32)), .unset, .unset, .unset, .unset] [])) (fun t k => XS.istoreN X0.here hx rfl (hb hby at_3) rfl (l' := #[.val (.int p0), .val (.int p1), .val (.int (2 : Int32)), .unset, .unset, .unset, .unset]) rfl k) ?_
    refine Goes.to (T' := s₁.setTop (mkF m 5 #[.val (.int p0), .val (.int p1), .val (.int (2 : Int32)), .unset, .unset, .unset, .unset] [(.int p1)])) (fun t k => XS.iloadN X0.here hx rfl (hb hby at_4) rfl k) ?_
    refine Goes.to (T' := s₁.setTop (mkF m 6 #[.val (.int p0), .val (.int p1), .val (.int (2 : Int32)), .unset, .unset, .unset, .unset] [(.int (3 : Int32)), (.int p1)])) (fun t k => XS.iconst X0.here hx rfl (hb hby at_5) k) ?_
    refine Goes.to (T' := s₁.setTop (mkF m 7 #[.val (.int p0), .val (.int p1), .val (.int (2 : Int32)), .unset, .unset, .unset, .unset] [(.int (p1 &&& (3 : Int32)))])) (fun t k => XS.iand X0.here hx rfl (hb hby at_6) rfl k) ?_
    rcases own_and3 p1 with hv_28 | hv_28 | hv_28 | hv_28
    · rw [hv_28]
      refine Goes.to (T' := s₁.setTop (mkF m 8 #[.val (.int p0), .val (.int p1), .val (.int (2 : Int32)), .val (.int (0 : Int32)), .unset, .unset, .unset] [])) (fun t k => XS.istoreN X0.here hx rfl (hb hby at_7) rfl (l' := #[.val (.int p0), .val (.int p1), .val (.int (2 : Int32)), .val (.int (0 : Int32)), .unset, .unset, .unset]) rfl k) ?_
      refine Goes.to (T' := s₁.setTop (mkF m 9 #[.val (.int p0), .val (.int p1), .val (.int (2 : Int32)), .val (.int (0 : Int32)), .unset, .unset, .unset] [(.int (2 : Int32))])) (fun t k => XS.iloadN X0.here hx rfl (hb hby at_8) rfl k) ?_
      obtain ⟨_, _, ⟨T29, L29, k29, n29⟩, -, X29, ⟨Lc29, hQ29, l29, y29, z29⟩, st29⟩ := Jvm.LawKit.callS X0 hx (y := (⟨"com/example/veilmatch/veilmatch/model/BloodTypeCanGiveToPinLaw", "pick", "(I)Lcom/example/veilmatch/veilmatch/model/BloodType;"⟩ : MethodName)) hown (mvT hZ (hw _ (List.mem_of_getElem? (i := 0) rfl))) (mvT hZ (hw _ (List.mem_of_getElem? (i := 1) rfl))) (mvT hZ (hw _ (List.mem_of_getElem? (i := 2) rfl))) (mvT hZ (hw _ (List.mem_of_getElem? (i := 3) rfl))) (by decide) (backOf (W := 0) (rmP l Z a0 hw [] (2 : Int32) w_BloodType_O w_BloodType_AB w_BloodType_B w_BloodType_A w_BloodType_B h0 n0 O0 NF (by simp)) hZ (hw _ (List.mem_of_getElem? (i := 3) rfl)) (hw _ (List.mem_of_getElem? (i := 2) rfl)) (by decide) (by decide)) (g := (mkF m 9 #[.val (.int p0), .val (.int p1), .val (.int (2 : Int32)), .val (.int (0 : Int32)), .unset, .unset, .unset] [(.int (2 : Int32))])) rfl (by rw [hml]; rfl) (argsL := [(.int (2 : Int32))]) (rest := []) (lenOf pd_31 rfl) rfl (by show 2 * 0 + _ ≤ _; exact Nat.le_of_eq rfl) (hb hby at_9) (fun _ _ => ⟨rfl, e0, (by decide : 0 + 0 ≤ _), (by decide : 0 + 0 ≤ _)⟩)
      dsimp only [Pt.U, Pt.locs, Pt.cells, Pt.slots] at X29 l29 y29 z29 st29 hQ29
      subst l29 y29 z29
      obtain ⟨rfl, Nq29, e29⟩ := hQ29
      have N29 := Fr.app N0 Nq29
      refine Goes.to (T' := T29.setTop (mkF m 12 #[.val (.int p0), .val (.int p1), .val (.int (2 : Int32)), .val (.int (0 : Int32)), .unset, .unset, .unset] [(.ref w_BloodType_B)])) st29 ?_
      refine Goes.to (T' := T29.setTop (mkF m 14 #[.val (.int p0), .val (.int p1), .val (.int (2 : Int32)), .val (.int (0 : Int32)), .val (.ref w_BloodType_B), .unset, .unset] [])) (fun t k => XS.astore X29.here hx rfl (hb hby at_12) rfl rfl (l' := #[.val (.int p0), .val (.int p1), .val (.int (2 : Int32)), .val (.int (0 : Int32)), .val (.ref w_BloodType_B), .unset, .unset]) rfl k) ?_
      refine Goes.to (T' := T29.setTop (mkF m 15 #[.val (.int p0), .val (.int p1), .val (.int (2 : Int32)), .val (.int (0 : Int32)), .val (.ref w_BloodType_B), .unset, .unset] [(.int (0 : Int32))])) (fun t k => XS.iloadN X29.here hx rfl (hb hby at_14) rfl k) ?_
      obtain ⟨_, _, ⟨T30, L30, k30, n30⟩, -, X30, ⟨Lc30, hQ30, l30, y30, z30⟩, st30⟩ := Jvm.LawKit.callS X29 hx (y := (⟨"com/example/veilmatch/veilmatch/model/BloodTypeCanGiveToPinLaw", "pick", "(I)Lcom/example/veilmatch/veilmatch/model/BloodType;"⟩ : MethodName)) hown (mvT hZ (hw _ (List.mem_of_getElem? (i := 0) rfl))) (mvT hZ (hw _ (List.mem_of_getElem? (i := 1) rfl))) (mvT hZ (hw _ (List.mem_of_getElem? (i := 2) rfl))) (mvT hZ (hw _ (List.mem_of_getElem? (i := 3) rfl))) (by decide) (backOf (W := 0) (rmP l Z a0 hw [] (0 : Int32) w_BloodType_O w_BloodType_AB w_BloodType_B w_BloodType_A w_BloodType_O h0 n0 O0 NF (by simp)) hZ (hw _ (List.mem_of_getElem? (i := 3) rfl)) (hw _ (List.mem_of_getElem? (i := 2) rfl)) (by decide) (by decide)) (g := (mkF m 15 #[.val (.int p0), .val (.int p1), .val (.int (2 : Int32)), .val (.int (0 : Int32)), .val (.ref w_BloodType_B), .unset, .unset] [(.int (0 : Int32))])) rfl (by rw [hml]; rfl) (argsL := [(.int (0 : Int32))]) (rest := []) (lenOf pd_31 rfl) rfl (by show 2 * 0 + _ ≤ _; exact Nat.le_of_eq rfl) (hb hby at_15) (fun _ _ => ⟨rfl, e29, (by decide : 0 + 0 ≤ _), (by decide : 0 + 0 ≤ _)⟩)
      dsimp only [Pt.U, Pt.locs, Pt.cells, Pt.slots] at X30 l30 y30 z30 st30 hQ30
      subst l30 y30 z30
      obtain ⟨rfl, Nq30, e30⟩ := hQ30
      have N30 := Fr.app N29 Nq30
      refine Goes.to (T' := T30.setTop (mkF m 18 #[.val (.int p0), .val (.int p1), .val (.int (2 : Int32)), .val (.int (0 : Int32)), .val (.ref w_BloodType_B), .unset, .unset] [(.ref w_BloodType_O)])) st30 ?_
      refine Goes.to (T' := T30.setTop (mkF m 20 #[.val (.int p0), .val (.int p1), .val (.int (2 : Int32)), .val (.int (0 : Int32)), .val (.ref w_BloodType_B), .val (.ref w_BloodType_O), .unset] [])) (fun t k => XS.astore X30.here hx rfl (hb hby at_18) rfl rfl (l' := #[.val (.int p0), .val (.int p1), .val (.int (2 : Int32)), .val (.int (0 : Int32)), .val (.ref w_BloodType_B), .val (.ref w_BloodType_O), .unset]) rfl k) ?_
      refine Goes.to (T' := T30.setTop (mkF m 21 #[.val (.int p0), .val (.int p1), .val (.int (2 : Int32)), .val (.int (0 : Int32)), .val (.ref w_BloodType_B), .val (.ref w_BloodType_O), .unset] [(.int (2 : Int32))])) (fun t k => XS.iloadN X30.here hx rfl (hb hby at_20) rfl k) ?_
      refine Goes.to (T' := T30.setTop (mkF m 22 #[.val (.int p0), .val (.int p1), .val (.int (2 : Int32)), .val (.int (0 : Int32)), .val (.ref w_BloodType_B), .val (.ref w_BloodType_O), .unset] [(.int (0 : Int32)), (.int (2 : Int32))])) (fun t k => XS.iloadN X30.here hx rfl (hb hby at_21) rfl k) ?_
      refine Goes.to (T' := T30.setTop (mkF m 23 #[.val (.int p0), .val (.int p1), .val (.int (2 : Int32)), .val (.int (0 : Int32)), .val (.ref w_BloodType_B), .val (.ref w_BloodType_O), .unset] [(.int (-1 : Int32)), (.int (0 : Int32)), (.int (2 : Int32))])) (fun t k => XS.iconst X30.here hx rfl (hb hby at_22) k) ?_
      refine Goes.to (T' := T30.setTop (mkF m 24 #[.val (.int p0), .val (.int p1), .val (.int (2 : Int32)), .val (.int (0 : Int32)), .val (.ref w_BloodType_B), .val (.ref w_BloodType_O), .unset] [(.int ((0 : Int32) ^^^ (-1 : Int32))), (.int (2 : Int32))])) (fun t k => XS.ixor X30.here hx rfl (hb hby at_23) rfl k) ?_
      rw [show ((0 : Int32) ^^^ (-1 : Int32)) = (-1 : Int32) from by decide +kernel]
      refine Goes.to (T' := T30.setTop (mkF m 25 #[.val (.int p0), .val (.int p1), .val (.int (2 : Int32)), .val (.int (0 : Int32)), .val (.ref w_BloodType_B), .val (.ref w_BloodType_O), .unset] [(.int ((2 : Int32) &&& (-1 : Int32)))])) (fun t k => XS.iand X30.here hx rfl (hb hby at_24) rfl k) ?_
      rw [show ((2 : Int32) &&& (-1 : Int32)) = (2 : Int32) from by decide +kernel]
      refine Goes.to (T' := T30.setTop (mkF m 32 #[.val (.int p0), .val (.int p1), .val (.int (2 : Int32)), .val (.int (0 : Int32)), .val (.ref w_BloodType_B), .val (.ref w_BloodType_O), .unset] [])) (fun t k => XS.ifYes X30.here hx rfl (pc0 := 25) (pc' := 32) rfl (hb hby at_25) rfl ((if0 _ _).trans (feq (by decide)).2) (by decide) (by decide) k) ?_
      refine Goes.to (T' := T30.setTop (mkF m 33 #[.val (.int p0), .val (.int p1), .val (.int (2 : Int32)), .val (.int (0 : Int32)), .val (.ref w_BloodType_B), .val (.ref w_BloodType_O), .unset] [(.int (0 : Int32))])) (fun t k => XS.iconst X30.here hx rfl (hb hby at_32) k) ?_
      refine Goes.to (T' := T30.setTop (mkF m 35 #[.val (.int p0), .val (.int p1), .val (.int (2 : Int32)), .val (.int (0 : Int32)), .val (.ref w_BloodType_B), .val (.ref w_BloodType_O), .val (.int (0 : Int32))] [])) (fun t k => XS.istore X30.here hx rfl (hb hby at_33) rfl (l' := #[.val (.int p0), .val (.int p1), .val (.int (2 : Int32)), .val (.int (0 : Int32)), .val (.ref w_BloodType_B), .val (.ref w_BloodType_O), .val (.int (0 : Int32))]) rfl k) ?_
      refine Goes.to (T' := T30.setTop (mkF m 37 #[.val (.int p0), .val (.int p1), .val (.int (2 : Int32)), .val (.int (0 : Int32)), .val (.ref w_BloodType_B), .val (.ref w_BloodType_O), .val (.int (0 : Int32))] [(.ref w_BloodType_B)])) (fun t k => XS.aload X30.here hx rfl (hb hby at_35) rfl rfl k) ?_
      refine Goes.to (T' := T30.setTop (mkF m 39 #[.val (.int p0), .val (.int p1), .val (.int (2 : Int32)), .val (.int (0 : Int32)), .val (.ref w_BloodType_B), .val (.ref w_BloodType_O), .val (.int (0 : Int32))] [(.ref w_BloodType_O), (.ref w_BloodType_B)])) (fun t k => XS.aload X30.here hx rfl (hb hby at_37) rfl rfl k) ?_
      have hne1 := (Fld.ne F_ordinal_w_BloodType_B F_ordinal_w_BloodType_O (by simp))
      have hne2 := (Fld.ne F_ordinal_w_BloodType_B F_ordinal_w_BloodType_O (by simp))
      have hne3 := (Fld.ne F_ordinal_w_BloodType_O F_ordinal_w_BloodType_AB (by simp))
      obtain ⟨cq31, kq31, q31a, q31b, q31c⟩ := isOf hZ e30 (E_w_BloodType_B.ext O0.2)
      obtain ⟨_, _, ⟨T31, L31, k31, n31⟩, -, X31, ⟨Lc31, hQ31, l31, y31, z31⟩, st31⟩ := X30.virtualBack hx (y := (⟨"com/example/veilmatch/veilmatch/model/BloodType", "canGiveTo", "(Lcom/example/veilmatch/veilmatch/model/BloodType;)Z"⟩ : MethodName)) (z := (⟨"com/example/veilmatch/veilmatch/model/BloodType", "canGiveTo", "(Lcom/example/veilmatch/veilmatch/model/BloodType;)Z"⟩ : MethodName)) hown (mvT hZ (hw _ (List.mem_of_getElem? (i := 9) rfl))) (mvT hZ (hw _ (List.mem_of_getElem? (i := 10) rfl))) (notFace_of_selects (args := #[]) (mvT hZ (hw _ (List.mem_of_getElem? (i := 12) rfl)))) (mvT hZ (hw _ (List.mem_of_getElem? (i := 12) rfl))) (mvT hZ (hw _ (List.mem_of_getElem? (i := 11) rfl))) (by decide) (backOf (W := 0) (rmG l Z a0 hw [] w_BloodType_B w_BloodType_O w_BloodType_O w_BloodType_AB w_BloodType_B w_BloodType_A (0 : Int32) h0 n0 O0 NF (by simp [hne1, hne2, hne3])) hZ (hw _ (List.mem_of_getElem? (i := 13) rfl)) (hw _ (List.mem_of_getElem? (i := 5) rfl)) (by decide) (by decide)) q31a q31c (g := (mkF m 39 #[.val (.int p0), .val (.int p1), .val (.int (2 : Int32)), .val (.int (0 : Int32)), .val (.ref w_BloodType_B), .val (.ref w_BloodType_O), .val (.int (0 : Int32))] [(.ref w_BloodType_O), (.ref w_BloodType_B)])) rfl (by rw [hml]; rfl) (Steps.refl _) (argsL := [(.ref w_BloodType_O)]) (rest := []) (lenOf pd_32 rfl) rfl (by show 2 * 0 + _ ≤ _; exact Nat.le_of_eq rfl) (hb hby at_39) (fun _ _ => ⟨rfl, e30, (by decide : 0 + 0 ≤ _), (by decide : 0 + 0 ≤ _)⟩)
      dsimp only [Pt.U, Pt.locs, Pt.cells, Pt.slots] at X31 l31 y31 z31 st31 hQ31
      subst l31 y31 z31
      obtain ⟨rfl, Nq31, e31⟩ := hQ31
      have N31 := Fr.app N30 Nq31
      refine Goes.thru (T' := T31.setTop (mkF m 42 #[.val (.int p0), .val (.int p1), .val (.int (2 : Int32)), .val (.int (0 : Int32)), .val (.ref w_BloodType_B), .val (.ref w_BloodType_O), .val (.int (0 : Int32))] [(.int (0 : Int32))])) st31 ?_
      refine Goes.to (T' := T31.setTop (mkF m 44 #[.val (.int p0), .val (.int p1), .val (.int (2 : Int32)), .val (.int (0 : Int32)), .val (.ref w_BloodType_B), .val (.ref w_BloodType_O), .val (.int (0 : Int32))] [(.int (0 : Int32)), (.int (0 : Int32))])) (fun t k => XS.iload X31.here hx rfl (hb hby at_42) rfl k) ?_
      refine Goes.to (T' := T31.setTop (mkF m 47 #[.val (.int p0), .val (.int p1), .val (.int (2 : Int32)), .val (.int (0 : Int32)), .val (.ref w_BloodType_B), .val (.ref w_BloodType_O), .val (.int (0 : Int32))] [])) (fun t k => XS.icmpNo X31.here hx rfl (hb hby at_44) rfl (teq (by decide)).2 k) ?_
      refine Goes.to (T' := T31.setTop (mkF m 48 #[.val (.int p0), .val (.int p1), .val (.int (2 : Int32)), .val (.int (0 : Int32)), .val (.ref w_BloodType_B), .val (.ref w_BloodType_O), .val (.int (0 : Int32))] [(.int (1 : Int32))])) (fun t k => XS.iconst X31.here hx rfl (hb hby at_47) k) ?_
      refine Goes.to (T' := T31.setTop (mkF m 52 #[.val (.int p0), .val (.int p1), .val (.int (2 : Int32)), .val (.int (0 : Int32)), .val (.ref w_BloodType_B), .val (.ref w_BloodType_O), .val (.int (0 : Int32))] [(.int (1 : Int32))])) (fun t k => XS.goto X31.here hx rfl (pc0 := 48) (pc' := 52) rfl (hb hby at_48) (by decide) (by decide) k) ?_
      obtain ⟨fs, hrL, hrun, hended, hW, hsame⟩ := X31.leave (v := some (.int (1 : Int32))) (fun h => by rw [Bd.returns] at h; cases h)
      subst hQf
      refine ⟨_, _, retN X31 hx (t := .boolean) Bd.returns (by simp) (hb hby at_52) hrL, hrun, hended, _, _, rfl, ?_, ⟨_, rfl⟩, hW, hsame.mono (by decide) (by decide)⟩
      show (fun (v : Option Value) (h : Heap) (L : List Loc) => v = some (.int 1) ∧ Fr n0 L) (some (.int (1 : Int32))) T31.heap _
      rw [e31]
      exact ⟨rfl, N31⟩
    · rw [hv_28]
      refine Goes.to (T' := s₁.setTop (mkF m 8 #[.val (.int p0), .val (.int p1), .val (.int (2 : Int32)), .val (.int (1 : Int32)), .unset, .unset, .unset] [])) (fun t k => XS.istoreN X0.here hx rfl (hb hby at_7) rfl (l' := #[.val (.int p0), .val (.int p1), .val (.int (2 : Int32)), .val (.int (1 : Int32)), .unset, .unset, .unset]) rfl k) ?_
      refine Goes.to (T' := s₁.setTop (mkF m 9 #[.val (.int p0), .val (.int p1), .val (.int (2 : Int32)), .val (.int (1 : Int32)), .unset, .unset, .unset] [(.int (2 : Int32))])) (fun t k => XS.iloadN X0.here hx rfl (hb hby at_8) rfl k) ?_
      obtain ⟨_, _, ⟨T32, L32, k32, n32⟩, -, X32, ⟨Lc32, hQ32, l32, y32, z32⟩, st32⟩ := Jvm.LawKit.callS X0 hx (y := (⟨"com/example/veilmatch/veilmatch/model/BloodTypeCanGiveToPinLaw", "pick", "(I)Lcom/example/veilmatch/veilmatch/model/BloodType;"⟩ : MethodName)) hown (mvT hZ (hw _ (List.mem_of_getElem? (i := 0) rfl))) (mvT hZ (hw _ (List.mem_of_getElem? (i := 1) rfl))) (mvT hZ (hw _ (List.mem_of_getElem? (i := 2) rfl))) (mvT hZ (hw _ (List.mem_of_getElem? (i := 3) rfl))) (by decide) (backOf (W := 0) (rmP l Z a0 hw [] (2 : Int32) w_BloodType_O w_BloodType_AB w_BloodType_B w_BloodType_A w_BloodType_B h0 n0 O0 NF (by simp)) hZ (hw _ (List.mem_of_getElem? (i := 3) rfl)) (hw _ (List.mem_of_getElem? (i := 2) rfl)) (by decide) (by decide)) (g := (mkF m 9 #[.val (.int p0), .val (.int p1), .val (.int (2 : Int32)), .val (.int (1 : Int32)), .unset, .unset, .unset] [(.int (2 : Int32))])) rfl (by rw [hml]; rfl) (argsL := [(.int (2 : Int32))]) (rest := []) (lenOf pd_31 rfl) rfl (by show 2 * 0 + _ ≤ _; exact Nat.le_of_eq rfl) (hb hby at_9) (fun _ _ => ⟨rfl, e0, (by decide : 0 + 0 ≤ _), (by decide : 0 + 0 ≤ _)⟩)
      dsimp only [Pt.U, Pt.locs, Pt.cells, Pt.slots] at X32 l32 y32 z32 st32 hQ32
      subst l32 y32 z32
      obtain ⟨rfl, Nq32, e32⟩ := hQ32
      have N32 := Fr.app N0 Nq32
      refine Goes.to (T' := T32.setTop (mkF m 12 #[.val (.int p0), .val (.int p1), .val (.int (2 : Int32)), .val (.int (1 : Int32)), .unset, .unset, .unset] [(.ref w_BloodType_B)])) st32 ?_
      refine Goes.to (T' := T32.setTop (mkF m 14 #[.val (.int p0), .val (.int p1), .val (.int (2 : Int32)), .val (.int (1 : Int32)), .val (.ref w_BloodType_B), .unset, .unset] [])) (fun t k => XS.astore X32.here hx rfl (hb hby at_12) rfl rfl (l' := #[.val (.int p0), .val (.int p1), .val (.int (2 : Int32)), .val (.int (1 : Int32)), .val (.ref w_BloodType_B), .unset, .unset]) rfl k) ?_
      refine Goes.to (T' := T32.setTop (mkF m 15 #[.val (.int p0), .val (.int p1), .val (.int (2 : Int32)), .val (.int (1 : Int32)), .val (.ref w_BloodType_B), .unset, .unset] [(.int (1 : Int32))])) (fun t k => XS.iloadN X32.here hx rfl (hb hby at_14) rfl k) ?_
      obtain ⟨_, _, ⟨T33, L33, k33, n33⟩, -, X33, ⟨Lc33, hQ33, l33, y33, z33⟩, st33⟩ := Jvm.LawKit.callS X32 hx (y := (⟨"com/example/veilmatch/veilmatch/model/BloodTypeCanGiveToPinLaw", "pick", "(I)Lcom/example/veilmatch/veilmatch/model/BloodType;"⟩ : MethodName)) hown (mvT hZ (hw _ (List.mem_of_getElem? (i := 0) rfl))) (mvT hZ (hw _ (List.mem_of_getElem? (i := 1) rfl))) (mvT hZ (hw _ (List.mem_of_getElem? (i := 2) rfl))) (mvT hZ (hw _ (List.mem_of_getElem? (i := 3) rfl))) (by decide) (backOf (W := 0) (rmP l Z a0 hw [] (1 : Int32) w_BloodType_O w_BloodType_AB w_BloodType_B w_BloodType_A w_BloodType_A h0 n0 O0 NF (by simp)) hZ (hw _ (List.mem_of_getElem? (i := 3) rfl)) (hw _ (List.mem_of_getElem? (i := 2) rfl)) (by decide) (by decide)) (g := (mkF m 15 #[.val (.int p0), .val (.int p1), .val (.int (2 : Int32)), .val (.int (1 : Int32)), .val (.ref w_BloodType_B), .unset, .unset] [(.int (1 : Int32))])) rfl (by rw [hml]; rfl) (argsL := [(.int (1 : Int32))]) (rest := []) (lenOf pd_31 rfl) rfl (by show 2 * 0 + _ ≤ _; exact Nat.le_of_eq rfl) (hb hby at_15) (fun _ _ => ⟨rfl, e32, (by decide : 0 + 0 ≤ _), (by decide : 0 + 0 ≤ _)⟩)
      dsimp only [Pt.U, Pt.locs, Pt.cells, Pt.slots] at X33 l33 y33 z33 st33 hQ33
      subst l33 y33 z33
      obtain ⟨rfl, Nq33, e33⟩ := hQ33
      have N33 := Fr.app N32 Nq33
      refine Goes.to (T' := T33.setTop (mkF m 18 #[.val (.int p0), .val (.int p1), .val (.int (2 : Int32)), .val (.int (1 : Int32)), .val (.ref w_BloodType_B), .unset, .unset] [(.ref w_BloodType_A)])) st33 ?_
      refine Goes.to (T' := T33.setTop (mkF m 20 #[.val (.int p0), .val (.int p1), .val (.int (2 : Int32)), .val (.int (1 : Int32)), .val (.ref w_BloodType_B), .val (.ref w_BloodType_A), .unset] [])) (fun t k => XS.astore X33.here hx rfl (hb hby at_18) rfl rfl (l' := #[.val (.int p0), .val (.int p1), .val (.int (2 : Int32)), .val (.int (1 : Int32)), .val (.ref w_BloodType_B), .val (.ref w_BloodType_A), .unset]) rfl k) ?_
      refine Goes.to (T' := T33.setTop (mkF m 21 #[.val (.int p0), .val (.int p1), .val (.int (2 : Int32)), .val (.int (1 : Int32)), .val (.ref w_BloodType_B), .val (.ref w_BloodType_A), .unset] [(.int (2 : Int32))])) (fun t k => XS.iloadN X33.here hx rfl (hb hby at_20) rfl k) ?_
      refine Goes.to (T' := T33.setTop (mkF m 22 #[.val (.int p0), .val (.int p1), .val (.int (2 : Int32)), .val (.int (1 : Int32)), .val (.ref w_BloodType_B), .val (.ref w_BloodType_A), .unset] [(.int (1 : Int32)), (.int (2 : Int32))])) (fun t k => XS.iloadN X33.here hx rfl (hb hby at_21) rfl k) ?_
      refine Goes.to (T' := T33.setTop (mkF m 23 #[.val (.int p0), .val (.int p1), .val (.int (2 : Int32)), .val (.int (1 : Int32)), .val (.ref w_BloodType_B), .val (.ref w_BloodType_A), .unset] [(.int (-1 : Int32)), (.int (1 : Int32)), (.int (2 : Int32))])) (fun t k => XS.iconst X33.here hx rfl (hb hby at_22) k) ?_
      refine Goes.to (T' := T33.setTop (mkF m 24 #[.val (.int p0), .val (.int p1), .val (.int (2 : Int32)), .val (.int (1 : Int32)), .val (.ref w_BloodType_B), .val (.ref w_BloodType_A), .unset] [(.int ((1 : Int32) ^^^ (-1 : Int32))), (.int (2 : Int32))])) (fun t k => XS.ixor X33.here hx rfl (hb hby at_23) rfl k) ?_
      rw [show ((1 : Int32) ^^^ (-1 : Int32)) = (-2 : Int32) from by decide +kernel]
      refine Goes.to (T' := T33.setTop (mkF m 25 #[.val (.int p0), .val (.int p1), .val (.int (2 : Int32)), .val (.int (1 : Int32)), .val (.ref w_BloodType_B), .val (.ref w_BloodType_A), .unset] [(.int ((2 : Int32) &&& (-2 : Int32)))])) (fun t k => XS.iand X33.here hx rfl (hb hby at_24) rfl k) ?_
      rw [show ((2 : Int32) &&& (-2 : Int32)) = (2 : Int32) from by decide +kernel]
      refine Goes.to (T' := T33.setTop (mkF m 32 #[.val (.int p0), .val (.int p1), .val (.int (2 : Int32)), .val (.int (1 : Int32)), .val (.ref w_BloodType_B), .val (.ref w_BloodType_A), .unset] [])) (fun t k => XS.ifYes X33.here hx rfl (pc0 := 25) (pc' := 32) rfl (hb hby at_25) rfl ((if0 _ _).trans (feq (by decide)).2) (by decide) (by decide) k) ?_
      refine Goes.to (T' := T33.setTop (mkF m 33 #[.val (.int p0), .val (.int p1), .val (.int (2 : Int32)), .val (.int (1 : Int32)), .val (.ref w_BloodType_B), .val (.ref w_BloodType_A), .unset] [(.int (0 : Int32))])) (fun t k => XS.iconst X33.here hx rfl (hb hby at_32) k) ?_
      refine Goes.to (T' := T33.setTop (mkF m 35 #[.val (.int p0), .val (.int p1), .val (.int (2 : Int32)), .val (.int (1 : Int32)), .val (.ref w_BloodType_B), .val (.ref w_BloodType_A), .val (.int (0 : Int32))] [])) (fun t k => XS.istore X33.here hx rfl (hb hby at_33) rfl (l' := #[.val (.int p0), .val (.int p1), .val (.int (2 : Int32)), .val (.int (1 : Int32)), .val (.ref w_BloodType_B), .val (.ref w_BloodType_A), .val (.int (0 : Int32))]) rfl k) ?_
      refine Goes.to (T' := T33.setTop (mkF m 37 #[.val (.int p0), .val (.int p1), .val (.int (2 : Int32)), .val (.int (1 : Int32)), .val (.ref w_BloodType_B), .val (.ref w_BloodType_A), .val (.int (0 : Int32))] [(.ref w_BloodType_B)])) (fun t k => XS.aload X33.here hx rfl (hb hby at_35) rfl rfl k) ?_
      refine Goes.to (T' := T33.setTop (mkF m 39 #[.val (.int p0), .val (.int p1), .val (.int (2 : Int32)), .val (.int (1 : Int32)), .val (.ref w_BloodType_B), .val (.ref w_BloodType_A), .val (.int (0 : Int32))] [(.ref w_BloodType_A), (.ref w_BloodType_B)])) (fun t k => XS.aload X33.here hx rfl (hb hby at_37) rfl rfl k) ?_
      have hne1 := (Fld.ne F_ordinal_w_BloodType_B F_ordinal_w_BloodType_O (by simp))
      have hne2 := (Fld.ne F_ordinal_w_BloodType_B F_ordinal_w_BloodType_A (by simp))
      have hne3 := (Fld.ne F_ordinal_w_BloodType_A F_ordinal_w_BloodType_AB (by simp))
      obtain ⟨cq34, kq34, q34a, q34b, q34c⟩ := isOf hZ e33 (E_w_BloodType_B.ext O0.2)
      obtain ⟨_, _, ⟨T34, L34, k34, n34⟩, -, X34, ⟨Lc34, hQ34, l34, y34, z34⟩, st34⟩ := X33.virtualBack hx (y := (⟨"com/example/veilmatch/veilmatch/model/BloodType", "canGiveTo", "(Lcom/example/veilmatch/veilmatch/model/BloodType;)Z"⟩ : MethodName)) (z := (⟨"com/example/veilmatch/veilmatch/model/BloodType", "canGiveTo", "(Lcom/example/veilmatch/veilmatch/model/BloodType;)Z"⟩ : MethodName)) hown (mvT hZ (hw _ (List.mem_of_getElem? (i := 9) rfl))) (mvT hZ (hw _ (List.mem_of_getElem? (i := 10) rfl))) (notFace_of_selects (args := #[]) (mvT hZ (hw _ (List.mem_of_getElem? (i := 12) rfl)))) (mvT hZ (hw _ (List.mem_of_getElem? (i := 12) rfl))) (mvT hZ (hw _ (List.mem_of_getElem? (i := 11) rfl))) (by decide) (backOf (W := 0) (rmG l Z a0 hw [] w_BloodType_B w_BloodType_A w_BloodType_O w_BloodType_AB w_BloodType_B w_BloodType_A (0 : Int32) h0 n0 O0 NF (by simp [hne1, hne2, hne3])) hZ (hw _ (List.mem_of_getElem? (i := 13) rfl)) (hw _ (List.mem_of_getElem? (i := 5) rfl)) (by decide) (by decide)) q34a q34c (g := (mkF m 39 #[.val (.int p0), .val (.int p1), .val (.int (2 : Int32)), .val (.int (1 : Int32)), .val (.ref w_BloodType_B), .val (.ref w_BloodType_A), .val (.int (0 : Int32))] [(.ref w_BloodType_A), (.ref w_BloodType_B)])) rfl (by rw [hml]; rfl) (Steps.refl _) (argsL := [(.ref w_BloodType_A)]) (rest := []) (lenOf pd_32 rfl) rfl (by show 2 * 0 + _ ≤ _; exact Nat.le_of_eq rfl) (hb hby at_39) (fun _ _ => ⟨rfl, e33, (by decide : 0 + 0 ≤ _), (by decide : 0 + 0 ≤ _)⟩)
      dsimp only [Pt.U, Pt.locs, Pt.cells, Pt.slots] at X34 l34 y34 z34 st34 hQ34
      subst l34 y34 z34
      obtain ⟨rfl, Nq34, e34⟩ := hQ34
      have N34 := Fr.app N33 Nq34
      refine Goes.thru (T' := T34.setTop (mkF m 42 #[.val (.int p0), .val (.int p1), .val (.int (2 : Int32)), .val (.int (1 : Int32)), .val (.ref w_BloodType_B), .val (.ref w_BloodType_A), .val (.int (0 : Int32))] [(.int (0 : Int32))])) st34 ?_
      refine Goes.to (T' := T34.setTop (mkF m 44 #[.val (.int p0), .val (.int p1), .val (.int (2 : Int32)), .val (.int (1 : Int32)), .val (.ref w_BloodType_B), .val (.ref w_BloodType_A), .val (.int (0 : Int32))] [(.int (0 : Int32)), (.int (0 : Int32))])) (fun t k => XS.iload X34.here hx rfl (hb hby at_42) rfl k) ?_
      refine Goes.to (T' := T34.setTop (mkF m 47 #[.val (.int p0), .val (.int p1), .val (.int (2 : Int32)), .val (.int (1 : Int32)), .val (.ref w_BloodType_B), .val (.ref w_BloodType_A), .val (.int (0 : Int32))] [])) (fun t k => XS.icmpNo X34.here hx rfl (hb hby at_44) rfl (teq (by decide)).2 k) ?_
      refine Goes.to (T' := T34.setTop (mkF m 48 #[.val (.int p0), .val (.int p1), .val (.int (2 : Int32)), .val (.int (1 : Int32)), .val (.ref w_BloodType_B), .val (.ref w_BloodType_A), .val (.int (0 : Int32))] [(.int (1 : Int32))])) (fun t k => XS.iconst X34.here hx rfl (hb hby at_47) k) ?_
      refine Goes.to (T' := T34.setTop (mkF m 52 #[.val (.int p0), .val (.int p1), .val (.int (2 : Int32)), .val (.int (1 : Int32)), .val (.ref w_BloodType_B), .val (.ref w_BloodType_A), .val (.int (0 : Int32))] [(.int (1 : Int32))])) (fun t k => XS.goto X34.here hx rfl (pc0 := 48) (pc' := 52) rfl (hb hby at_48) (by decide) (by decide) k) ?_
      obtain ⟨fs, hrL, hrun, hended, hW, hsame⟩ := X34.leave (v := some (.int (1 : Int32))) (fun h => by rw [Bd.returns] at h; cases h)
      subst hQf
      refine ⟨_, _, retN X34 hx (t := .boolean) Bd.returns (by simp) (hb hby at_52) hrL, hrun, hended, _, _, rfl, ?_, ⟨_, rfl⟩, hW, hsame.mono (by decide) (by decide)⟩
      show (fun (v : Option Value) (h : Heap) (L : List Loc) => v = some (.int 1) ∧ Fr n0 L) (some (.int (1 : Int32))) T34.heap _
      rw [e34]
      exact ⟨rfl, N34⟩
    · rw [hv_28]
      refine Goes.to (T' := s₁.setTop (mkF m 8 #[.val (.int p0), .val (.int p1), .val (.int (2 : Int32)), .val (.int (2 : Int32)), .unset, .unset, .unset] [])) (fun t k => XS.istoreN X0.here hx rfl (hb hby at_7) rfl (l' := #[.val (.int p0), .val (.int p1), .val (.int (2 : Int32)), .val (.int (2 : Int32)), .unset, .unset, .unset]) rfl k) ?_
      refine Goes.to (T' := s₁.setTop (mkF m 9 #[.val (.int p0), .val (.int p1), .val (.int (2 : Int32)), .val (.int (2 : Int32)), .unset, .unset, .unset] [(.int (2 : Int32))])) (fun t k => XS.iloadN X0.here hx rfl (hb hby at_8) rfl k) ?_
      obtain ⟨_, _, ⟨T35, L35, k35, n35⟩, -, X35, ⟨Lc35, hQ35, l35, y35, z35⟩, st35⟩ := Jvm.LawKit.callS X0 hx (y := (⟨"com/example/veilmatch/veilmatch/model/BloodTypeCanGiveToPinLaw", "pick", "(I)Lcom/example/veilmatch/veilmatch/model/BloodType;"⟩ : MethodName)) hown (mvT hZ (hw _ (List.mem_of_getElem? (i := 0) rfl))) (mvT hZ (hw _ (List.mem_of_getElem? (i := 1) rfl))) (mvT hZ (hw _ (List.mem_of_getElem? (i := 2) rfl))) (mvT hZ (hw _ (List.mem_of_getElem? (i := 3) rfl))) (by decide) (backOf (W := 0) (rmP l Z a0 hw [] (2 : Int32) w_BloodType_O w_BloodType_AB w_BloodType_B w_BloodType_A w_BloodType_B h0 n0 O0 NF (by simp)) hZ (hw _ (List.mem_of_getElem? (i := 3) rfl)) (hw _ (List.mem_of_getElem? (i := 2) rfl)) (by decide) (by decide)) (g := (mkF m 9 #[.val (.int p0), .val (.int p1), .val (.int (2 : Int32)), .val (.int (2 : Int32)), .unset, .unset, .unset] [(.int (2 : Int32))])) rfl (by rw [hml]; rfl) (argsL := [(.int (2 : Int32))]) (rest := []) (lenOf pd_31 rfl) rfl (by show 2 * 0 + _ ≤ _; exact Nat.le_of_eq rfl) (hb hby at_9) (fun _ _ => ⟨rfl, e0, (by decide : 0 + 0 ≤ _), (by decide : 0 + 0 ≤ _)⟩)
      dsimp only [Pt.U, Pt.locs, Pt.cells, Pt.slots] at X35 l35 y35 z35 st35 hQ35
      subst l35 y35 z35
      obtain ⟨rfl, Nq35, e35⟩ := hQ35
      have N35 := Fr.app N0 Nq35
      refine Goes.to (T' := T35.setTop (mkF m 12 #[.val (.int p0), .val (.int p1), .val (.int (2 : Int32)), .val (.int (2 : Int32)), .unset, .unset, .unset] [(.ref w_BloodType_B)])) st35 ?_
      refine Goes.to (T' := T35.setTop (mkF m 14 #[.val (.int p0), .val (.int p1), .val (.int (2 : Int32)), .val (.int (2 : Int32)), .val (.ref w_BloodType_B), .unset, .unset] [])) (fun t k => XS.astore X35.here hx rfl (hb hby at_12) rfl rfl (l' := #[.val (.int p0), .val (.int p1), .val (.int (2 : Int32)), .val (.int (2 : Int32)), .val (.ref w_BloodType_B), .unset, .unset]) rfl k) ?_
      refine Goes.to (T' := T35.setTop (mkF m 15 #[.val (.int p0), .val (.int p1), .val (.int (2 : Int32)), .val (.int (2 : Int32)), .val (.ref w_BloodType_B), .unset, .unset] [(.int (2 : Int32))])) (fun t k => XS.iloadN X35.here hx rfl (hb hby at_14) rfl k) ?_
      obtain ⟨_, _, ⟨T36, L36, k36, n36⟩, -, X36, ⟨Lc36, hQ36, l36, y36, z36⟩, st36⟩ := Jvm.LawKit.callS X35 hx (y := (⟨"com/example/veilmatch/veilmatch/model/BloodTypeCanGiveToPinLaw", "pick", "(I)Lcom/example/veilmatch/veilmatch/model/BloodType;"⟩ : MethodName)) hown (mvT hZ (hw _ (List.mem_of_getElem? (i := 0) rfl))) (mvT hZ (hw _ (List.mem_of_getElem? (i := 1) rfl))) (mvT hZ (hw _ (List.mem_of_getElem? (i := 2) rfl))) (mvT hZ (hw _ (List.mem_of_getElem? (i := 3) rfl))) (by decide) (backOf (W := 0) (rmP l Z a0 hw [] (2 : Int32) w_BloodType_O w_BloodType_AB w_BloodType_B w_BloodType_A w_BloodType_B h0 n0 O0 NF (by simp)) hZ (hw _ (List.mem_of_getElem? (i := 3) rfl)) (hw _ (List.mem_of_getElem? (i := 2) rfl)) (by decide) (by decide)) (g := (mkF m 15 #[.val (.int p0), .val (.int p1), .val (.int (2 : Int32)), .val (.int (2 : Int32)), .val (.ref w_BloodType_B), .unset, .unset] [(.int (2 : Int32))])) rfl (by rw [hml]; rfl) (argsL := [(.int (2 : Int32))]) (rest := []) (lenOf pd_31 rfl) rfl (by show 2 * 0 + _ ≤ _; exact Nat.le_of_eq rfl) (hb hby at_15) (fun _ _ => ⟨rfl, e35, (by decide : 0 + 0 ≤ _), (by decide : 0 + 0 ≤ _)⟩)
      dsimp only [Pt.U, Pt.locs, Pt.cells, Pt.slots] at X36 l36 y36 z36 st36 hQ36
      subst l36 y36 z36
      obtain ⟨rfl, Nq36, e36⟩ := hQ36
      have N36 := Fr.app N35 Nq36
      refine Goes.to (T' := T36.setTop (mkF m 18 #[.val (.int p0), .val (.int p1), .val (.int (2 : Int32)), .val (.int (2 : Int32)), .val (.ref w_BloodType_B), .unset, .unset] [(.ref w_BloodType_B)])) st36 ?_
      refine Goes.to (T' := T36.setTop (mkF m 20 #[.val (.int p0), .val (.int p1), .val (.int (2 : Int32)), .val (.int (2 : Int32)), .val (.ref w_BloodType_B), .val (.ref w_BloodType_B), .unset] [])) (fun t k => XS.astore X36.here hx rfl (hb hby at_18) rfl rfl (l' := #[.val (.int p0), .val (.int p1), .val (.int (2 : Int32)), .val (.int (2 : Int32)), .val (.ref w_BloodType_B), .val (.ref w_BloodType_B), .unset]) rfl k) ?_
      refine Goes.to (T' := T36.setTop (mkF m 21 #[.val (.int p0), .val (.int p1), .val (.int (2 : Int32)), .val (.int (2 : Int32)), .val (.ref w_BloodType_B), .val (.ref w_BloodType_B), .unset] [(.int (2 : Int32))])) (fun t k => XS.iloadN X36.here hx rfl (hb hby at_20) rfl k) ?_
      refine Goes.to (T' := T36.setTop (mkF m 22 #[.val (.int p0), .val (.int p1), .val (.int (2 : Int32)), .val (.int (2 : Int32)), .val (.ref w_BloodType_B), .val (.ref w_BloodType_B), .unset] [(.int (2 : Int32)), (.int (2 : Int32))])) (fun t k => XS.iloadN X36.here hx rfl (hb hby at_21) rfl k) ?_
      refine Goes.to (T' := T36.setTop (mkF m 23 #[.val (.int p0), .val (.int p1), .val (.int (2 : Int32)), .val (.int (2 : Int32)), .val (.ref w_BloodType_B), .val (.ref w_BloodType_B), .unset] [(.int (-1 : Int32)), (.int (2 : Int32)), (.int (2 : Int32))])) (fun t k => XS.iconst X36.here hx rfl (hb hby at_22) k) ?_
      refine Goes.to (T' := T36.setTop (mkF m 24 #[.val (.int p0), .val (.int p1), .val (.int (2 : Int32)), .val (.int (2 : Int32)), .val (.ref w_BloodType_B), .val (.ref w_BloodType_B), .unset] [(.int ((2 : Int32) ^^^ (-1 : Int32))), (.int (2 : Int32))])) (fun t k => XS.ixor X36.here hx rfl (hb hby at_23) rfl k) ?_
      rw [show ((2 : Int32) ^^^ (-1 : Int32)) = (-3 : Int32) from by decide +kernel]
      refine Goes.to (T' := T36.setTop (mkF m 25 #[.val (.int p0), .val (.int p1), .val (.int (2 : Int32)), .val (.int (2 : Int32)), .val (.ref w_BloodType_B), .val (.ref w_BloodType_B), .unset] [(.int ((2 : Int32) &&& (-3 : Int32)))])) (fun t k => XS.iand X36.here hx rfl (hb hby at_24) rfl k) ?_
      rw [show ((2 : Int32) &&& (-3 : Int32)) = (0 : Int32) from by decide +kernel]
      refine Goes.to (T' := T36.setTop (mkF m 28 #[.val (.int p0), .val (.int p1), .val (.int (2 : Int32)), .val (.int (2 : Int32)), .val (.ref w_BloodType_B), .val (.ref w_BloodType_B), .unset] [])) (fun t k => XS.ifNo X36.here hx rfl (hb hby at_25) rfl ((if0 _ _).trans (teq (by decide)).2) k) ?_
      refine Goes.to (T' := T36.setTop (mkF m 29 #[.val (.int p0), .val (.int p1), .val (.int (2 : Int32)), .val (.int (2 : Int32)), .val (.ref w_BloodType_B), .val (.ref w_BloodType_B), .unset] [(.int (1 : Int32))])) (fun t k => XS.iconst X36.here hx rfl (hb hby at_28) k) ?_
      refine Goes.to (T' := T36.setTop (mkF m 33 #[.val (.int p0), .val (.int p1), .val (.int (2 : Int32)), .val (.int (2 : Int32)), .val (.ref w_BloodType_B), .val (.ref w_BloodType_B), .unset] [(.int (1 : Int32))])) (fun t k => XS.goto X36.here hx rfl (pc0 := 29) (pc' := 33) rfl (hb hby at_29) (by decide) (by decide) k) ?_
      refine Goes.to (T' := T36.setTop (mkF m 35 #[.val (.int p0), .val (.int p1), .val (.int (2 : Int32)), .val (.int (2 : Int32)), .val (.ref w_BloodType_B), .val (.ref w_BloodType_B), .val (.int (1 : Int32))] [])) (fun t k => XS.istore X36.here hx rfl (hb hby at_33) rfl (l' := #[.val (.int p0), .val (.int p1), .val (.int (2 : Int32)), .val (.int (2 : Int32)), .val (.ref w_BloodType_B), .val (.ref w_BloodType_B), .val (.int (1 : Int32))]) rfl k) ?_
      refine Goes.to (T' := T36.setTop (mkF m 37 #[.val (.int p0), .val (.int p1), .val (.int (2 : Int32)), .val (.int (2 : Int32)), .val (.ref w_BloodType_B), .val (.ref w_BloodType_B), .val (.int (1 : Int32))] [(.ref w_BloodType_B)])) (fun t k => XS.aload X36.here hx rfl (hb hby at_35) rfl rfl k) ?_
      refine Goes.to (T' := T36.setTop (mkF m 39 #[.val (.int p0), .val (.int p1), .val (.int (2 : Int32)), .val (.int (2 : Int32)), .val (.ref w_BloodType_B), .val (.ref w_BloodType_B), .val (.int (1 : Int32))] [(.ref w_BloodType_B), (.ref w_BloodType_B)])) (fun t k => XS.aload X36.here hx rfl (hb hby at_37) rfl rfl k) ?_
      obtain ⟨cq37, kq37, q37a, q37b, q37c⟩ := isOf hZ e36 (E_w_BloodType_B.ext O0.2)
      obtain ⟨_, _, ⟨T37, L37, k37, n37⟩, -, X37, ⟨Lc37, hQ37, l37, y37, z37⟩, st37⟩ := X36.virtualBack hx (y := (⟨"com/example/veilmatch/veilmatch/model/BloodType", "canGiveTo", "(Lcom/example/veilmatch/veilmatch/model/BloodType;)Z"⟩ : MethodName)) (z := (⟨"com/example/veilmatch/veilmatch/model/BloodType", "canGiveTo", "(Lcom/example/veilmatch/veilmatch/model/BloodType;)Z"⟩ : MethodName)) hown (mvT hZ (hw _ (List.mem_of_getElem? (i := 9) rfl))) (mvT hZ (hw _ (List.mem_of_getElem? (i := 10) rfl))) (notFace_of_selects (args := #[]) (mvT hZ (hw _ (List.mem_of_getElem? (i := 12) rfl)))) (mvT hZ (hw _ (List.mem_of_getElem? (i := 12) rfl))) (mvT hZ (hw _ (List.mem_of_getElem? (i := 11) rfl))) (by decide) (backOf (W := 0) (rmG l Z a0 hw [] w_BloodType_B w_BloodType_B w_BloodType_O w_BloodType_AB w_BloodType_B w_BloodType_A (1 : Int32) h0 n0 O0 NF (by simp)) hZ (hw _ (List.mem_of_getElem? (i := 13) rfl)) (hw _ (List.mem_of_getElem? (i := 5) rfl)) (by decide) (by decide)) q37a q37c (g := (mkF m 39 #[.val (.int p0), .val (.int p1), .val (.int (2 : Int32)), .val (.int (2 : Int32)), .val (.ref w_BloodType_B), .val (.ref w_BloodType_B), .val (.int (1 : Int32))] [(.ref w_BloodType_B), (.ref w_BloodType_B)])) rfl (by rw [hml]; rfl) (Steps.refl _) (argsL := [(.ref w_BloodType_B)]) (rest := []) (lenOf pd_32 rfl) rfl (by show 2 * 0 + _ ≤ _; exact Nat.le_of_eq rfl) (hb hby at_39) (fun _ _ => ⟨rfl, e36, (by decide : 0 + 0 ≤ _), (by decide : 0 + 0 ≤ _)⟩)
      dsimp only [Pt.U, Pt.locs, Pt.cells, Pt.slots] at X37 l37 y37 z37 st37 hQ37
      subst l37 y37 z37
      obtain ⟨rfl, Nq37, e37⟩ := hQ37
      have N37 := Fr.app N36 Nq37
      refine Goes.thru (T' := T37.setTop (mkF m 42 #[.val (.int p0), .val (.int p1), .val (.int (2 : Int32)), .val (.int (2 : Int32)), .val (.ref w_BloodType_B), .val (.ref w_BloodType_B), .val (.int (1 : Int32))] [(.int (1 : Int32))])) st37 ?_
      refine Goes.to (T' := T37.setTop (mkF m 44 #[.val (.int p0), .val (.int p1), .val (.int (2 : Int32)), .val (.int (2 : Int32)), .val (.ref w_BloodType_B), .val (.ref w_BloodType_B), .val (.int (1 : Int32))] [(.int (1 : Int32)), (.int (1 : Int32))])) (fun t k => XS.iload X37.here hx rfl (hb hby at_42) rfl k) ?_
      refine Goes.to (T' := T37.setTop (mkF m 47 #[.val (.int p0), .val (.int p1), .val (.int (2 : Int32)), .val (.int (2 : Int32)), .val (.ref w_BloodType_B), .val (.ref w_BloodType_B), .val (.int (1 : Int32))] [])) (fun t k => XS.icmpNo X37.here hx rfl (hb hby at_44) rfl (teq (by decide)).2 k) ?_
      refine Goes.to (T' := T37.setTop (mkF m 48 #[.val (.int p0), .val (.int p1), .val (.int (2 : Int32)), .val (.int (2 : Int32)), .val (.ref w_BloodType_B), .val (.ref w_BloodType_B), .val (.int (1 : Int32))] [(.int (1 : Int32))])) (fun t k => XS.iconst X37.here hx rfl (hb hby at_47) k) ?_
      refine Goes.to (T' := T37.setTop (mkF m 52 #[.val (.int p0), .val (.int p1), .val (.int (2 : Int32)), .val (.int (2 : Int32)), .val (.ref w_BloodType_B), .val (.ref w_BloodType_B), .val (.int (1 : Int32))] [(.int (1 : Int32))])) (fun t k => XS.goto X37.here hx rfl (pc0 := 48) (pc' := 52) rfl (hb hby at_48) (by decide) (by decide) k) ?_
      obtain ⟨fs, hrL, hrun, hended, hW, hsame⟩ := X37.leave (v := some (.int (1 : Int32))) (fun h => by rw [Bd.returns] at h; cases h)
      subst hQf
      refine ⟨_, _, retN X37 hx (t := .boolean) Bd.returns (by simp) (hb hby at_52) hrL, hrun, hended, _, _, rfl, ?_, ⟨_, rfl⟩, hW, hsame.mono (by decide) (by decide)⟩
      show (fun (v : Option Value) (h : Heap) (L : List Loc) => v = some (.int 1) ∧ Fr n0 L) (some (.int (1 : Int32))) T37.heap _
      rw [e37]
      exact ⟨rfl, N37⟩
    · rw [hv_28]
      refine Goes.to (T' := s₁.setTop (mkF m 8 #[.val (.int p0), .val (.int p1), .val (.int (2 : Int32)), .val (.int (3 : Int32)), .unset, .unset, .unset] [])) (fun t k => XS.istoreN X0.here hx rfl (hb hby at_7) rfl (l' := #[.val (.int p0), .val (.int p1), .val (.int (2 : Int32)), .val (.int (3 : Int32)), .unset, .unset, .unset]) rfl k) ?_
      refine Goes.to (T' := s₁.setTop (mkF m 9 #[.val (.int p0), .val (.int p1), .val (.int (2 : Int32)), .val (.int (3 : Int32)), .unset, .unset, .unset] [(.int (2 : Int32))])) (fun t k => XS.iloadN X0.here hx rfl (hb hby at_8) rfl k) ?_
      obtain ⟨_, _, ⟨T38, L38, k38, n38⟩, -, X38, ⟨Lc38, hQ38, l38, y38, z38⟩, st38⟩ := Jvm.LawKit.callS X0 hx (y := (⟨"com/example/veilmatch/veilmatch/model/BloodTypeCanGiveToPinLaw", "pick", "(I)Lcom/example/veilmatch/veilmatch/model/BloodType;"⟩ : MethodName)) hown (mvT hZ (hw _ (List.mem_of_getElem? (i := 0) rfl))) (mvT hZ (hw _ (List.mem_of_getElem? (i := 1) rfl))) (mvT hZ (hw _ (List.mem_of_getElem? (i := 2) rfl))) (mvT hZ (hw _ (List.mem_of_getElem? (i := 3) rfl))) (by decide) (backOf (W := 0) (rmP l Z a0 hw [] (2 : Int32) w_BloodType_O w_BloodType_AB w_BloodType_B w_BloodType_A w_BloodType_B h0 n0 O0 NF (by simp)) hZ (hw _ (List.mem_of_getElem? (i := 3) rfl)) (hw _ (List.mem_of_getElem? (i := 2) rfl)) (by decide) (by decide)) (g := (mkF m 9 #[.val (.int p0), .val (.int p1), .val (.int (2 : Int32)), .val (.int (3 : Int32)), .unset, .unset, .unset] [(.int (2 : Int32))])) rfl (by rw [hml]; rfl) (argsL := [(.int (2 : Int32))]) (rest := []) (lenOf pd_31 rfl) rfl (by show 2 * 0 + _ ≤ _; exact Nat.le_of_eq rfl) (hb hby at_9) (fun _ _ => ⟨rfl, e0, (by decide : 0 + 0 ≤ _), (by decide : 0 + 0 ≤ _)⟩)
      dsimp only [Pt.U, Pt.locs, Pt.cells, Pt.slots] at X38 l38 y38 z38 st38 hQ38
      subst l38 y38 z38
      obtain ⟨rfl, Nq38, e38⟩ := hQ38
      have N38 := Fr.app N0 Nq38
      refine Goes.to (T' := T38.setTop (mkF m 12 #[.val (.int p0), .val (.int p1), .val (.int (2 : Int32)), .val (.int (3 : Int32)), .unset, .unset, .unset] [(.ref w_BloodType_B)])) st38 ?_
      refine Goes.to (T' := T38.setTop (mkF m 14 #[.val (.int p0), .val (.int p1), .val (.int (2 : Int32)), .val (.int (3 : Int32)), .val (.ref w_BloodType_B), .unset, .unset] [])) (fun t k => XS.astore X38.here hx rfl (hb hby at_12) rfl rfl (l' := #[.val (.int p0), .val (.int p1), .val (.int (2 : Int32)), .val (.int (3 : Int32)), .val (.ref w_BloodType_B), .unset, .unset]) rfl k) ?_
      refine Goes.to (T' := T38.setTop (mkF m 15 #[.val (.int p0), .val (.int p1), .val (.int (2 : Int32)), .val (.int (3 : Int32)), .val (.ref w_BloodType_B), .unset, .unset] [(.int (3 : Int32))])) (fun t k => XS.iloadN X38.here hx rfl (hb hby at_14) rfl k) ?_
      obtain ⟨_, _, ⟨T39, L39, k39, n39⟩, -, X39, ⟨Lc39, hQ39, l39, y39, z39⟩, st39⟩ := Jvm.LawKit.callS X38 hx (y := (⟨"com/example/veilmatch/veilmatch/model/BloodTypeCanGiveToPinLaw", "pick", "(I)Lcom/example/veilmatch/veilmatch/model/BloodType;"⟩ : MethodName)) hown (mvT hZ (hw _ (List.mem_of_getElem? (i := 0) rfl))) (mvT hZ (hw _ (List.mem_of_getElem? (i := 1) rfl))) (mvT hZ (hw _ (List.mem_of_getElem? (i := 2) rfl))) (mvT hZ (hw _ (List.mem_of_getElem? (i := 3) rfl))) (by decide) (backOf (W := 0) (rmP l Z a0 hw [] (3 : Int32) w_BloodType_O w_BloodType_AB w_BloodType_B w_BloodType_A w_BloodType_AB h0 n0 O0 NF (by simp)) hZ (hw _ (List.mem_of_getElem? (i := 3) rfl)) (hw _ (List.mem_of_getElem? (i := 2) rfl)) (by decide) (by decide)) (g := (mkF m 15 #[.val (.int p0), .val (.int p1), .val (.int (2 : Int32)), .val (.int (3 : Int32)), .val (.ref w_BloodType_B), .unset, .unset] [(.int (3 : Int32))])) rfl (by rw [hml]; rfl) (argsL := [(.int (3 : Int32))]) (rest := []) (lenOf pd_31 rfl) rfl (by show 2 * 0 + _ ≤ _; exact Nat.le_of_eq rfl) (hb hby at_15) (fun _ _ => ⟨rfl, e38, (by decide : 0 + 0 ≤ _), (by decide : 0 + 0 ≤ _)⟩)
      dsimp only [Pt.U, Pt.locs, Pt.cells, Pt.slots] at X39 l39 y39 z39 st39 hQ39
      subst l39 y39 z39
      obtain ⟨rfl, Nq39, e39⟩ := hQ39
      have N39 := Fr.app N38 Nq39
      refine Goes.to (T' := T39.setTop (mkF m 18 #[.val (.int p0), .val (.int p1), .val (.int (2 : Int32)), .val (.int (3 : Int32)), .val (.ref w_BloodType_B), .unset, .unset] [(.ref w_BloodType_AB)])) st39 ?_
      refine Goes.to (T' := T39.setTop (mkF m 20 #[.val (.int p0), .val (.int p1), .val (.int (2 : Int32)), .val (.int (3 : Int32)), .val (.ref w_BloodType_B), .val (.ref w_BloodType_AB), .unset] [])) (fun t k => XS.astore X39.here hx rfl (hb hby at_18) rfl rfl (l' := #[.val (.int p0), .val (.int p1), .val (.int (2 : Int32)), .val (.int (3 : Int32)), .val (.ref w_BloodType_B), .val (.ref w_BloodType_AB), .unset]) rfl k) ?_
      refine Goes.to (T' := T39.setTop (mkF m 21 #[.val (.int p0), .val (.int p1), .val (.int (2 : Int32)), .val (.int (3 : Int32)), .val (.ref w_BloodType_B), .val (.ref w_BloodType_AB), .unset] [(.int (2 : Int32))])) (fun t k => XS.iloadN X39.here hx rfl (hb hby at_20) rfl k) ?_
      refine Goes.to (T' := T39.setTop (mkF m 22 #[.val (.int p0), .val (.int p1), .val (.int (2 : Int32)), .val (.int (3 : Int32)), .val (.ref w_BloodType_B), .val (.ref w_BloodType_AB), .unset] [(.int (3 : Int32)), (.int (2 : Int32))])) (fun t k => XS.iloadN X39.here hx rfl (hb hby at_21) rfl k) ?_
      refine Goes.to (T' := T39.setTop (mkF m 23 #[.val (.int p0), .val (.int p1), .val (.int (2 : Int32)), .val (.int (3 : Int32)), .val (.ref w_BloodType_B), .val (.ref w_BloodType_AB), .unset] [(.int (-1 : Int32)), (.int (3 : Int32)), (.int (2 : Int32))])) (fun t k => XS.iconst X39.here hx rfl (hb hby at_22) k) ?_
      refine Goes.to (T' := T39.setTop (mkF m 24 #[.val (.int p0), .val (.int p1), .val (.int (2 : Int32)), .val (.int (3 : Int32)), .val (.ref w_BloodType_B), .val (.ref w_BloodType_AB), .unset] [(.int ((3 : Int32) ^^^ (-1 : Int32))), (.int (2 : Int32))])) (fun t k => XS.ixor X39.here hx rfl (hb hby at_23) rfl k) ?_
      rw [show ((3 : Int32) ^^^ (-1 : Int32)) = (-4 : Int32) from by decide +kernel]
      refine Goes.to (T' := T39.setTop (mkF m 25 #[.val (.int p0), .val (.int p1), .val (.int (2 : Int32)), .val (.int (3 : Int32)), .val (.ref w_BloodType_B), .val (.ref w_BloodType_AB), .unset] [(.int ((2 : Int32) &&& (-4 : Int32)))])) (fun t k => XS.iand X39.here hx rfl (hb hby at_24) rfl k) ?_
      rw [show ((2 : Int32) &&& (-4 : Int32)) = (0 : Int32) from by decide +kernel]
      refine Goes.to (T' := T39.setTop (mkF m 28 #[.val (.int p0), .val (.int p1), .val (.int (2 : Int32)), .val (.int (3 : Int32)), .val (.ref w_BloodType_B), .val (.ref w_BloodType_AB), .unset] [])) (fun t k => XS.ifNo X39.here hx rfl (hb hby at_25) rfl ((if0 _ _).trans (teq (by decide)).2) k) ?_
      refine Goes.to (T' := T39.setTop (mkF m 29 #[.val (.int p0), .val (.int p1), .val (.int (2 : Int32)), .val (.int (3 : Int32)), .val (.ref w_BloodType_B), .val (.ref w_BloodType_AB), .unset] [(.int (1 : Int32))])) (fun t k => XS.iconst X39.here hx rfl (hb hby at_28) k) ?_
      refine Goes.to (T' := T39.setTop (mkF m 33 #[.val (.int p0), .val (.int p1), .val (.int (2 : Int32)), .val (.int (3 : Int32)), .val (.ref w_BloodType_B), .val (.ref w_BloodType_AB), .unset] [(.int (1 : Int32))])) (fun t k => XS.goto X39.here hx rfl (pc0 := 29) (pc' := 33) rfl (hb hby at_29) (by decide) (by decide) k) ?_
      refine Goes.to (T' := T39.setTop (mkF m 35 #[.val (.int p0), .val (.int p1), .val (.int (2 : Int32)), .val (.int (3 : Int32)), .val (.ref w_BloodType_B), .val (.ref w_BloodType_AB), .val (.int (1 : Int32))] [])) (fun t k => XS.istore X39.here hx rfl (hb hby at_33) rfl (l' := #[.val (.int p0), .val (.int p1), .val (.int (2 : Int32)), .val (.int (3 : Int32)), .val (.ref w_BloodType_B), .val (.ref w_BloodType_AB), .val (.int (1 : Int32))]) rfl k) ?_
      refine Goes.to (T' := T39.setTop (mkF m 37 #[.val (.int p0), .val (.int p1), .val (.int (2 : Int32)), .val (.int (3 : Int32)), .val (.ref w_BloodType_B), .val (.ref w_BloodType_AB), .val (.int (1 : Int32))] [(.ref w_BloodType_B)])) (fun t k => XS.aload X39.here hx rfl (hb hby at_35) rfl rfl k) ?_
      refine Goes.to (T' := T39.setTop (mkF m 39 #[.val (.int p0), .val (.int p1), .val (.int (2 : Int32)), .val (.int (3 : Int32)), .val (.ref w_BloodType_B), .val (.ref w_BloodType_AB), .val (.int (1 : Int32))] [(.ref w_BloodType_AB), (.ref w_BloodType_B)])) (fun t k => XS.aload X39.here hx rfl (hb hby at_37) rfl rfl k) ?_
      obtain ⟨cq40, kq40, q40a, q40b, q40c⟩ := isOf hZ e39 (E_w_BloodType_B.ext O0.2)
      obtain ⟨_, _, ⟨T40, L40, k40, n40⟩, -, X40, ⟨Lc40, hQ40, l40, y40, z40⟩, st40⟩ := X39.virtualBack hx (y := (⟨"com/example/veilmatch/veilmatch/model/BloodType", "canGiveTo", "(Lcom/example/veilmatch/veilmatch/model/BloodType;)Z"⟩ : MethodName)) (z := (⟨"com/example/veilmatch/veilmatch/model/BloodType", "canGiveTo", "(Lcom/example/veilmatch/veilmatch/model/BloodType;)Z"⟩ : MethodName)) hown (mvT hZ (hw _ (List.mem_of_getElem? (i := 9) rfl))) (mvT hZ (hw _ (List.mem_of_getElem? (i := 10) rfl))) (notFace_of_selects (args := #[]) (mvT hZ (hw _ (List.mem_of_getElem? (i := 12) rfl)))) (mvT hZ (hw _ (List.mem_of_getElem? (i := 12) rfl))) (mvT hZ (hw _ (List.mem_of_getElem? (i := 11) rfl))) (by decide) (backOf (W := 0) (rmG l Z a0 hw [] w_BloodType_B w_BloodType_AB w_BloodType_O w_BloodType_AB w_BloodType_B w_BloodType_A (1 : Int32) h0 n0 O0 NF (by simp)) hZ (hw _ (List.mem_of_getElem? (i := 13) rfl)) (hw _ (List.mem_of_getElem? (i := 5) rfl)) (by decide) (by decide)) q40a q40c (g := (mkF m 39 #[.val (.int p0), .val (.int p1), .val (.int (2 : Int32)), .val (.int (3 : Int32)), .val (.ref w_BloodType_B), .val (.ref w_BloodType_AB), .val (.int (1 : Int32))] [(.ref w_BloodType_AB), (.ref w_BloodType_B)])) rfl (by rw [hml]; rfl) (Steps.refl _) (argsL := [(.ref w_BloodType_AB)]) (rest := []) (lenOf pd_32 rfl) rfl (by show 2 * 0 + _ ≤ _; exact Nat.le_of_eq rfl) (hb hby at_39) (fun _ _ => ⟨rfl, e39, (by decide : 0 + 0 ≤ _), (by decide : 0 + 0 ≤ _)⟩)
      dsimp only [Pt.U, Pt.locs, Pt.cells, Pt.slots] at X40 l40 y40 z40 st40 hQ40
      subst l40 y40 z40
      obtain ⟨rfl, Nq40, e40⟩ := hQ40
      have N40 := Fr.app N39 Nq40
      refine Goes.thru (T' := T40.setTop (mkF m 42 #[.val (.int p0), .val (.int p1), .val (.int (2 : Int32)), .val (.int (3 : Int32)), .val (.ref w_BloodType_B), .val (.ref w_BloodType_AB), .val (.int (1 : Int32))] [(.int (1 : Int32))])) st40 ?_
      refine Goes.to (T' := T40.setTop (mkF m 44 #[.val (.int p0), .val (.int p1), .val (.int (2 : Int32)), .val (.int (3 : Int32)), .val (.ref w_BloodType_B), .val (.ref w_BloodType_AB), .val (.int (1 : Int32))] [(.int (1 : Int32)), (.int (1 : Int32))])) (fun t k => XS.iload X40.here hx rfl (hb hby at_42) rfl k) ?_
      refine Goes.to (T' := T40.setTop (mkF m 47 #[.val (.int p0), .val (.int p1), .val (.int (2 : Int32)), .val (.int (3 : Int32)), .val (.ref w_BloodType_B), .val (.ref w_BloodType_AB), .val (.int (1 : Int32))] [])) (fun t k => XS.icmpNo X40.here hx rfl (hb hby at_44) rfl (teq (by decide)).2 k) ?_
      refine Goes.to (T' := T40.setTop (mkF m 48 #[.val (.int p0), .val (.int p1), .val (.int (2 : Int32)), .val (.int (3 : Int32)), .val (.ref w_BloodType_B), .val (.ref w_BloodType_AB), .val (.int (1 : Int32))] [(.int (1 : Int32))])) (fun t k => XS.iconst X40.here hx rfl (hb hby at_47) k) ?_
      refine Goes.to (T' := T40.setTop (mkF m 52 #[.val (.int p0), .val (.int p1), .val (.int (2 : Int32)), .val (.int (3 : Int32)), .val (.ref w_BloodType_B), .val (.ref w_BloodType_AB), .val (.int (1 : Int32))] [(.int (1 : Int32))])) (fun t k => XS.goto X40.here hx rfl (pc0 := 48) (pc' := 52) rfl (hb hby at_48) (by decide) (by decide) k) ?_
      obtain ⟨fs, hrL, hrun, hended, hW, hsame⟩ := X40.leave (v := some (.int (1 : Int32))) (fun h => by rw [Bd.returns] at h; cases h)
      subst hQf
      refine ⟨_, _, retN X40 hx (t := .boolean) Bd.returns (by simp) (hb hby at_52) hrL, hrun, hended, _, _, rfl, ?_, ⟨_, rfl⟩, hW, hsame.mono (by decide) (by decide)⟩
      show (fun (v : Option Value) (h : Heap) (L : List Loc) => v = some (.int 1) ∧ Fr n0 L) (some (.int (1 : Int32))) T40.heap _
      rw [e40]
      exact ⟨rfl, N40⟩
  · rw [hv_1]
    refine Goes.to (T' := s₁.setTop (mkF m 4 #[.val (.int p0), .val (.int p1), .val (.int (3 : Int32)), .unset, .unset, .unset, .unset] [])) (fun t k => XS.istoreN X0.here hx rfl (hb hby at_3) rfl (l' := #[.val (.int p0), .val (.int p1), .val (.int (3 : Int32)), .unset, .unset, .unset, .unset]) rfl k) ?_
    refine Goes.to (T' := s₁.setTop (mkF m 5 #[.val (.int p0), .val (.int p1), .val (.int (3 : Int32)), .unset, .unset, .unset, .unset] [(.int p1)])) (fun t k => XS.iloadN X0.here hx rfl (hb hby at_4) rfl k) ?_
    refine Goes.to (T' := s₁.setTop (mkF m 6 #[.val (.int p0), .val (.int p1), .val (.int (3 : Int32)), .unset, .unset, .unset, .unset] [(.int (3 : Int32)), (.int p1)])) (fun t k => XS.iconst X0.here hx rfl (hb hby at_5) k) ?_
    refine Goes.to (T' := s₁.setTop (mkF m 7 #[.val (.int p0), .val (.int p1), .val (.int (3 : Int32)), .unset, .unset, .unset, .unset] [(.int (p1 &&& (3 : Int32)))])) (fun t k => XS.iand X0.here hx rfl (hb hby at_6) rfl k) ?_
    rcases own_and3 p1 with hv_41 | hv_41 | hv_41 | hv_41
    · rw [hv_41]
      refine Goes.to (T' := s₁.setTop (mkF m 8 #[.val (.int p0), .val (.int p1), .val (.int (3 : Int32)), .val (.int (0 : Int32)), .unset, .unset, .unset] [])) (fun t k => XS.istoreN X0.here hx rfl (hb hby at_7) rfl (l' := #[.val (.int p0), .val (.int p1), .val (.int (3 : Int32)), .val (.int (0 : Int32)), .unset, .unset, .unset]) rfl k) ?_
      refine Goes.to (T' := s₁.setTop (mkF m 9 #[.val (.int p0), .val (.int p1), .val (.int (3 : Int32)), .val (.int (0 : Int32)), .unset, .unset, .unset] [(.int (3 : Int32))])) (fun t k => XS.iloadN X0.here hx rfl (hb hby at_8) rfl k) ?_
      obtain ⟨_, _, ⟨T42, L42, k42, n42⟩, -, X42, ⟨Lc42, hQ42, l42, y42, z42⟩, st42⟩ := Jvm.LawKit.callS X0 hx (y := (⟨"com/example/veilmatch/veilmatch/model/BloodTypeCanGiveToPinLaw", "pick", "(I)Lcom/example/veilmatch/veilmatch/model/BloodType;"⟩ : MethodName)) hown (mvT hZ (hw _ (List.mem_of_getElem? (i := 0) rfl))) (mvT hZ (hw _ (List.mem_of_getElem? (i := 1) rfl))) (mvT hZ (hw _ (List.mem_of_getElem? (i := 2) rfl))) (mvT hZ (hw _ (List.mem_of_getElem? (i := 3) rfl))) (by decide) (backOf (W := 0) (rmP l Z a0 hw [] (3 : Int32) w_BloodType_O w_BloodType_AB w_BloodType_B w_BloodType_A w_BloodType_AB h0 n0 O0 NF (by simp)) hZ (hw _ (List.mem_of_getElem? (i := 3) rfl)) (hw _ (List.mem_of_getElem? (i := 2) rfl)) (by decide) (by decide)) (g := (mkF m 9 #[.val (.int p0), .val (.int p1), .val (.int (3 : Int32)), .val (.int (0 : Int32)), .unset, .unset, .unset] [(.int (3 : Int32))])) rfl (by rw [hml]; rfl) (argsL := [(.int (3 : Int32))]) (rest := []) (lenOf pd_31 rfl) rfl (by show 2 * 0 + _ ≤ _; exact Nat.le_of_eq rfl) (hb hby at_9) (fun _ _ => ⟨rfl, e0, (by decide : 0 + 0 ≤ _), (by decide : 0 + 0 ≤ _)⟩)
      dsimp only [Pt.U, Pt.locs, Pt.cells, Pt.slots] at X42 l42 y42 z42 st42 hQ42
      subst l42 y42 z42
      obtain ⟨rfl, Nq42, e42⟩ := hQ42
      have N42 := Fr.app N0 Nq42
      refine Goes.to (T' := T42.setTop (mkF m 12 #[.val (.int p0), .val (.int p1), .val (.int (3 : Int32)), .val (.int (0 : Int32)), .unset, .unset, .unset] [(.ref w_BloodType_AB)])) st42 ?_
      refine Goes.to (T' := T42.setTop (mkF m 14 #[.val (.int p0), .val (.int p1), .val (.int (3 : Int32)), .val (.int (0 : Int32)), .val (.ref w_BloodType_AB), .unset, .unset] [])) (fun t k => XS.astore X42.here hx rfl (hb hby at_12) rfl rfl (l' := #[.val (.int p0), .val (.int p1), .val (.int (3 : Int32)), .val (.int (0 : Int32)), .val (.ref w_BloodType_AB), .unset, .unset]) rfl k) ?_
      refine Goes.to (T' := T42.setTop (mkF m 15 #[.val (.int p0), .val (.int p1), .val (.int (3 : Int32)), .val (.int (0 : Int32)), .val (.ref w_BloodType_AB), .unset, .unset] [(.int (0 : Int32))])) (fun t k => XS.iloadN X42.here hx rfl (hb hby at_14) rfl k) ?_
      obtain ⟨_, _, ⟨T43, L43, k43, n43⟩, -, X43, ⟨Lc43, hQ43, l43, y43, z43⟩, st43⟩ := Jvm.LawKit.callS X42 hx (y := (⟨"com/example/veilmatch/veilmatch/model/BloodTypeCanGiveToPinLaw", "pick", "(I)Lcom/example/veilmatch/veilmatch/model/BloodType;"⟩ : MethodName)) hown (mvT hZ (hw _ (List.mem_of_getElem? (i := 0) rfl))) (mvT hZ (hw _ (List.mem_of_getElem? (i := 1) rfl))) (mvT hZ (hw _ (List.mem_of_getElem? (i := 2) rfl))) (mvT hZ (hw _ (List.mem_of_getElem? (i := 3) rfl))) (by decide) (backOf (W := 0) (rmP l Z a0 hw [] (0 : Int32) w_BloodType_O w_BloodType_AB w_BloodType_B w_BloodType_A w_BloodType_O h0 n0 O0 NF (by simp)) hZ (hw _ (List.mem_of_getElem? (i := 3) rfl)) (hw _ (List.mem_of_getElem? (i := 2) rfl)) (by decide) (by decide)) (g := (mkF m 15 #[.val (.int p0), .val (.int p1), .val (.int (3 : Int32)), .val (.int (0 : Int32)), .val (.ref w_BloodType_AB), .unset, .unset] [(.int (0 : Int32))])) rfl (by rw [hml]; rfl) (argsL := [(.int (0 : Int32))]) (rest := []) (lenOf pd_31 rfl) rfl (by show 2 * 0 + _ ≤ _; exact Nat.le_of_eq rfl) (hb hby at_15) (fun _ _ => ⟨rfl, e42, (by decide : 0 + 0 ≤ _), (by decide : 0 + 0 ≤ _)⟩)
      dsimp only [Pt.U, Pt.locs, Pt.cells, Pt.slots] at X43 l43 y43 z43 st43 hQ43
      subst l43 y43 z43
      obtain ⟨rfl, Nq43, e43⟩ := hQ43
      have N43 := Fr.app N42 Nq43
      refine Goes.to (T' := T43.setTop (mkF m 18 #[.val (.int p0), .val (.int p1), .val (.int (3 : Int32)), .val (.int (0 : Int32)), .val (.ref w_BloodType_AB), .unset, .unset] [(.ref w_BloodType_O)])) st43 ?_
      refine Goes.to (T' := T43.setTop (mkF m 20 #[.val (.int p0), .val (.int p1), .val (.int (3 : Int32)), .val (.int (0 : Int32)), .val (.ref w_BloodType_AB), .val (.ref w_BloodType_O), .unset] [])) (fun t k => XS.astore X43.here hx rfl (hb hby at_18) rfl rfl (l' := #[.val (.int p0), .val (.int p1), .val (.int (3 : Int32)), .val (.int (0 : Int32)), .val (.ref w_BloodType_AB), .val (.ref w_BloodType_O), .unset]) rfl k) ?_
      refine Goes.to (T' := T43.setTop (mkF m 21 #[.val (.int p0), .val (.int p1), .val (.int (3 : Int32)), .val (.int (0 : Int32)), .val (.ref w_BloodType_AB), .val (.ref w_BloodType_O), .unset] [(.int (3 : Int32))])) (fun t k => XS.iloadN X43.here hx rfl (hb hby at_20) rfl k) ?_
      refine Goes.to (T' := T43.setTop (mkF m 22 #[.val (.int p0), .val (.int p1), .val (.int (3 : Int32)), .val (.int (0 : Int32)), .val (.ref w_BloodType_AB), .val (.ref w_BloodType_O), .unset] [(.int (0 : Int32)), (.int (3 : Int32))])) (fun t k => XS.iloadN X43.here hx rfl (hb hby at_21) rfl k) ?_
      refine Goes.to (T' := T43.setTop (mkF m 23 #[.val (.int p0), .val (.int p1), .val (.int (3 : Int32)), .val (.int (0 : Int32)), .val (.ref w_BloodType_AB), .val (.ref w_BloodType_O), .unset] [(.int (-1 : Int32)), (.int (0 : Int32)), (.int (3 : Int32))])) (fun t k => XS.iconst X43.here hx rfl (hb hby at_22) k) ?_
      refine Goes.to (T' := T43.setTop (mkF m 24 #[.val (.int p0), .val (.int p1), .val (.int (3 : Int32)), .val (.int (0 : Int32)), .val (.ref w_BloodType_AB), .val (.ref w_BloodType_O), .unset] [(.int ((0 : Int32) ^^^ (-1 : Int32))), (.int (3 : Int32))])) (fun t k => XS.ixor X43.here hx rfl (hb hby at_23) rfl k) ?_
      rw [show ((0 : Int32) ^^^ (-1 : Int32)) = (-1 : Int32) from by decide +kernel]
      refine Goes.to (T' := T43.setTop (mkF m 25 #[.val (.int p0), .val (.int p1), .val (.int (3 : Int32)), .val (.int (0 : Int32)), .val (.ref w_BloodType_AB), .val (.ref w_BloodType_O), .unset] [(.int ((3 : Int32) &&& (-1 : Int32)))])) (fun t k => XS.iand X43.here hx rfl (hb hby at_24) rfl k) ?_
      rw [show ((3 : Int32) &&& (-1 : Int32)) = (3 : Int32) from by decide +kernel]
      refine Goes.to (T' := T43.setTop (mkF m 32 #[.val (.int p0), .val (.int p1), .val (.int (3 : Int32)), .val (.int (0 : Int32)), .val (.ref w_BloodType_AB), .val (.ref w_BloodType_O), .unset] [])) (fun t k => XS.ifYes X43.here hx rfl (pc0 := 25) (pc' := 32) rfl (hb hby at_25) rfl ((if0 _ _).trans (feq (by decide)).2) (by decide) (by decide) k) ?_
      refine Goes.to (T' := T43.setTop (mkF m 33 #[.val (.int p0), .val (.int p1), .val (.int (3 : Int32)), .val (.int (0 : Int32)), .val (.ref w_BloodType_AB), .val (.ref w_BloodType_O), .unset] [(.int (0 : Int32))])) (fun t k => XS.iconst X43.here hx rfl (hb hby at_32) k) ?_
      refine Goes.to (T' := T43.setTop (mkF m 35 #[.val (.int p0), .val (.int p1), .val (.int (3 : Int32)), .val (.int (0 : Int32)), .val (.ref w_BloodType_AB), .val (.ref w_BloodType_O), .val (.int (0 : Int32))] [])) (fun t k => XS.istore X43.here hx rfl (hb hby at_33) rfl (l' := #[.val (.int p0), .val (.int p1), .val (.int (3 : Int32)), .val (.int (0 : Int32)), .val (.ref w_BloodType_AB), .val (.ref w_BloodType_O), .val (.int (0 : Int32))]) rfl k) ?_
      refine Goes.to (T' := T43.setTop (mkF m 37 #[.val (.int p0), .val (.int p1), .val (.int (3 : Int32)), .val (.int (0 : Int32)), .val (.ref w_BloodType_AB), .val (.ref w_BloodType_O), .val (.int (0 : Int32))] [(.ref w_BloodType_AB)])) (fun t k => XS.aload X43.here hx rfl (hb hby at_35) rfl rfl k) ?_
      refine Goes.to (T' := T43.setTop (mkF m 39 #[.val (.int p0), .val (.int p1), .val (.int (3 : Int32)), .val (.int (0 : Int32)), .val (.ref w_BloodType_AB), .val (.ref w_BloodType_O), .val (.int (0 : Int32))] [(.ref w_BloodType_O), (.ref w_BloodType_AB)])) (fun t k => XS.aload X43.here hx rfl (hb hby at_37) rfl rfl k) ?_
      have hne1 := (Fld.ne F_ordinal_w_BloodType_AB F_ordinal_w_BloodType_O (by simp))
      have hne2 := (Fld.ne F_ordinal_w_BloodType_AB F_ordinal_w_BloodType_O (by simp))
      have hne3 := (Fld.ne F_ordinal_w_BloodType_O F_ordinal_w_BloodType_AB (by simp))
      obtain ⟨cq44, kq44, q44a, q44b, q44c⟩ := isOf hZ e43 (E_w_BloodType_AB.ext O0.2)
      obtain ⟨_, _, ⟨T44, L44, k44, n44⟩, -, X44, ⟨Lc44, hQ44, l44, y44, z44⟩, st44⟩ := X43.virtualBack hx (y := (⟨"com/example/veilmatch/veilmatch/model/BloodType", "canGiveTo", "(Lcom/example/veilmatch/veilmatch/model/BloodType;)Z"⟩ : MethodName)) (z := (⟨"com/example/veilmatch/veilmatch/model/BloodType", "canGiveTo", "(Lcom/example/veilmatch/veilmatch/model/BloodType;)Z"⟩ : MethodName)) hown (mvT hZ (hw _ (List.mem_of_getElem? (i := 9) rfl))) (mvT hZ (hw _ (List.mem_of_getElem? (i := 10) rfl))) (notFace_of_selects (args := #[]) (mvT hZ (hw _ (List.mem_of_getElem? (i := 12) rfl)))) (mvT hZ (hw _ (List.mem_of_getElem? (i := 12) rfl))) (mvT hZ (hw _ (List.mem_of_getElem? (i := 11) rfl))) (by decide) (backOf (W := 0) (rmG l Z a0 hw [] w_BloodType_AB w_BloodType_O w_BloodType_O w_BloodType_AB w_BloodType_B w_BloodType_A (0 : Int32) h0 n0 O0 NF (by simp [hne1, hne2, hne3])) hZ (hw _ (List.mem_of_getElem? (i := 13) rfl)) (hw _ (List.mem_of_getElem? (i := 5) rfl)) (by decide) (by decide)) q44a q44c (g := (mkF m 39 #[.val (.int p0), .val (.int p1), .val (.int (3 : Int32)), .val (.int (0 : Int32)), .val (.ref w_BloodType_AB), .val (.ref w_BloodType_O), .val (.int (0 : Int32))] [(.ref w_BloodType_O), (.ref w_BloodType_AB)])) rfl (by rw [hml]; rfl) (Steps.refl _) (argsL := [(.ref w_BloodType_O)]) (rest := []) (lenOf pd_32 rfl) rfl (by show 2 * 0 + _ ≤ _; exact Nat.le_of_eq rfl) (hb hby at_39) (fun _ _ => ⟨rfl, e43, (by decide : 0 + 0 ≤ _), (by decide : 0 + 0 ≤ _)⟩)
      dsimp only [Pt.U, Pt.locs, Pt.cells, Pt.slots] at X44 l44 y44 z44 st44 hQ44
      subst l44 y44 z44
      obtain ⟨rfl, Nq44, e44⟩ := hQ44
      have N44 := Fr.app N43 Nq44
      refine Goes.thru (T' := T44.setTop (mkF m 42 #[.val (.int p0), .val (.int p1), .val (.int (3 : Int32)), .val (.int (0 : Int32)), .val (.ref w_BloodType_AB), .val (.ref w_BloodType_O), .val (.int (0 : Int32))] [(.int (0 : Int32))])) st44 ?_
      refine Goes.to (T' := T44.setTop (mkF m 44 #[.val (.int p0), .val (.int p1), .val (.int (3 : Int32)), .val (.int (0 : Int32)), .val (.ref w_BloodType_AB), .val (.ref w_BloodType_O), .val (.int (0 : Int32))] [(.int (0 : Int32)), (.int (0 : Int32))])) (fun t k => XS.iload X44.here hx rfl (hb hby at_42) rfl k) ?_
      refine Goes.to (T' := T44.setTop (mkF m 47 #[.val (.int p0), .val (.int p1), .val (.int (3 : Int32)), .val (.int (0 : Int32)), .val (.ref w_BloodType_AB), .val (.ref w_BloodType_O), .val (.int (0 : Int32))] [])) (fun t k => XS.icmpNo X44.here hx rfl (hb hby at_44) rfl (teq (by decide)).2 k) ?_
      refine Goes.to (T' := T44.setTop (mkF m 48 #[.val (.int p0), .val (.int p1), .val (.int (3 : Int32)), .val (.int (0 : Int32)), .val (.ref w_BloodType_AB), .val (.ref w_BloodType_O), .val (.int (0 : Int32))] [(.int (1 : Int32))])) (fun t k => XS.iconst X44.here hx rfl (hb hby at_47) k) ?_
      refine Goes.to (T' := T44.setTop (mkF m 52 #[.val (.int p0), .val (.int p1), .val (.int (3 : Int32)), .val (.int (0 : Int32)), .val (.ref w_BloodType_AB), .val (.ref w_BloodType_O), .val (.int (0 : Int32))] [(.int (1 : Int32))])) (fun t k => XS.goto X44.here hx rfl (pc0 := 48) (pc' := 52) rfl (hb hby at_48) (by decide) (by decide) k) ?_
      obtain ⟨fs, hrL, hrun, hended, hW, hsame⟩ := X44.leave (v := some (.int (1 : Int32))) (fun h => by rw [Bd.returns] at h; cases h)
      subst hQf
      refine ⟨_, _, retN X44 hx (t := .boolean) Bd.returns (by simp) (hb hby at_52) hrL, hrun, hended, _, _, rfl, ?_, ⟨_, rfl⟩, hW, hsame.mono (by decide) (by decide)⟩
      show (fun (v : Option Value) (h : Heap) (L : List Loc) => v = some (.int 1) ∧ Fr n0 L) (some (.int (1 : Int32))) T44.heap _
      rw [e44]
      exact ⟨rfl, N44⟩
    · rw [hv_41]
      refine Goes.to (T' := s₁.setTop (mkF m 8 #[.val (.int p0), .val (.int p1), .val (.int (3 : Int32)), .val (.int (1 : Int32)), .unset, .unset, .unset] [])) (fun t k => XS.istoreN X0.here hx rfl (hb hby at_7) rfl (l' := #[.val (.int p0), .val (.int p1), .val (.int (3 : Int32)), .val (.int (1 : Int32)), .unset, .unset, .unset]) rfl k) ?_
      refine Goes.to (T' := s₁.setTop (mkF m 9 #[.val (.int p0), .val (.int p1), .val (.int (3 : Int32)), .val (.int (1 : Int32)), .unset, .unset, .unset] [(.int (3 : Int32))])) (fun t k => XS.iloadN X0.here hx rfl (hb hby at_8) rfl k) ?_
      obtain ⟨_, _, ⟨T45, L45, k45, n45⟩, -, X45, ⟨Lc45, hQ45, l45, y45, z45⟩, st45⟩ := Jvm.LawKit.callS X0 hx (y := (⟨"com/example/veilmatch/veilmatch/model/BloodTypeCanGiveToPinLaw", "pick", "(I)Lcom/example/veilmatch/veilmatch/model/BloodType;"⟩ : MethodName)) hown (mvT hZ (hw _ (List.mem_of_getElem? (i := 0) rfl))) (mvT hZ (hw _ (List.mem_of_getElem? (i := 1) rfl))) (mvT hZ (hw _ (List.mem_of_getElem? (i := 2) rfl))) (mvT hZ (hw _ (List.mem_of_getElem? (i := 3) rfl))) (by decide) (backOf (W := 0) (rmP l Z a0 hw [] (3 : Int32) w_BloodType_O w_BloodType_AB w_BloodType_B w_BloodType_A w_BloodType_AB h0 n0 O0 NF (by simp)) hZ (hw _ (List.mem_of_getElem? (i := 3) rfl)) (hw _ (List.mem_of_getElem? (i := 2) rfl)) (by decide) (by decide)) (g := (mkF m 9 #[.val (.int p0), .val (.int p1), .val (.int (3 : Int32)), .val (.int (1 : Int32)), .unset, .unset, .unset] [(.int (3 : Int32))])) rfl (by rw [hml]; rfl) (argsL := [(.int (3 : Int32))]) (rest := []) (lenOf pd_31 rfl) rfl (by show 2 * 0 + _ ≤ _; exact Nat.le_of_eq rfl) (hb hby at_9) (fun _ _ => ⟨rfl, e0, (by decide : 0 + 0 ≤ _), (by decide : 0 + 0 ≤ _)⟩)
      dsimp only [Pt.U, Pt.locs, Pt.cells, Pt.slots] at X45 l45 y45 z45 st45 hQ45
      subst l45 y45 z45
      obtain ⟨rfl, Nq45, e45⟩ := hQ45
      have N45 := Fr.app N0 Nq45
      refine Goes.to (T' := T45.setTop (mkF m 12 #[.val (.int p0), .val (.int p1), .val (.int (3 : Int32)), .val (.int (1 : Int32)), .unset, .unset, .unset] [(.ref w_BloodType_AB)])) st45 ?_
      refine Goes.to (T' := T45.setTop (mkF m 14 #[.val (.int p0), .val (.int p1), .val (.int (3 : Int32)), .val (.int (1 : Int32)), .val (.ref w_BloodType_AB), .unset, .unset] [])) (fun t k => XS.astore X45.here hx rfl (hb hby at_12) rfl rfl (l' := #[.val (.int p0), .val (.int p1), .val (.int (3 : Int32)), .val (.int (1 : Int32)), .val (.ref w_BloodType_AB), .unset, .unset]) rfl k) ?_
      refine Goes.to (T' := T45.setTop (mkF m 15 #[.val (.int p0), .val (.int p1), .val (.int (3 : Int32)), .val (.int (1 : Int32)), .val (.ref w_BloodType_AB), .unset, .unset] [(.int (1 : Int32))])) (fun t k => XS.iloadN X45.here hx rfl (hb hby at_14) rfl k) ?_
      obtain ⟨_, _, ⟨T46, L46, k46, n46⟩, -, X46, ⟨Lc46, hQ46, l46, y46, z46⟩, st46⟩ := Jvm.LawKit.callS X45 hx (y := (⟨"com/example/veilmatch/veilmatch/model/BloodTypeCanGiveToPinLaw", "pick", "(I)Lcom/example/veilmatch/veilmatch/model/BloodType;"⟩ : MethodName)) hown (mvT hZ (hw _ (List.mem_of_getElem? (i := 0) rfl))) (mvT hZ (hw _ (List.mem_of_getElem? (i := 1) rfl))) (mvT hZ (hw _ (List.mem_of_getElem? (i := 2) rfl))) (mvT hZ (hw _ (List.mem_of_getElem? (i := 3) rfl))) (by decide) (backOf (W := 0) (rmP l Z a0 hw [] (1 : Int32) w_BloodType_O w_BloodType_AB w_BloodType_B w_BloodType_A w_BloodType_A h0 n0 O0 NF (by simp)) hZ (hw _ (List.mem_of_getElem? (i := 3) rfl)) (hw _ (List.mem_of_getElem? (i := 2) rfl)) (by decide) (by decide)) (g := (mkF m 15 #[.val (.int p0), .val (.int p1), .val (.int (3 : Int32)), .val (.int (1 : Int32)), .val (.ref w_BloodType_AB), .unset, .unset] [(.int (1 : Int32))])) rfl (by rw [hml]; rfl) (argsL := [(.int (1 : Int32))]) (rest := []) (lenOf pd_31 rfl) rfl (by show 2 * 0 + _ ≤ _; exact Nat.le_of_eq rfl) (hb hby at_15) (fun _ _ => ⟨rfl, e45, (by decide : 0 + 0 ≤ _), (by decide : 0 + 0 ≤ _)⟩)
      dsimp only [Pt.U, Pt.locs, Pt.cells, Pt.slots] at X46 l46 y46 z46 st46 hQ46
      subst l46 y46 z46
      obtain ⟨rfl, Nq46, e46⟩ := hQ46
      have N46 := Fr.app N45 Nq46
      refine Goes.to (T' := T46.setTop (mkF m 18 #[.val (.int p0), .val (.int p1), .val (.int (3 : Int32)), .val (.int (1 : Int32)), .val (.ref w_BloodType_AB), .unset, .unset] [(.ref w_BloodType_A)])) st46 ?_
      refine Goes.to (T' := T46.setTop (mkF m 20 #[.val (.int p0), .val (.int p1), .val (.int (3 : Int32)), .val (.int (1 : Int32)), .val (.ref w_BloodType_AB), .val (.ref w_BloodType_A), .unset] [])) (fun t k => XS.astore X46.here hx rfl (hb hby at_18) rfl rfl (l' := #[.val (.int p0), .val (.int p1), .val (.int (3 : Int32)), .val (.int (1 : Int32)), .val (.ref w_BloodType_AB), .val (.ref w_BloodType_A), .unset]) rfl k) ?_
      refine Goes.to (T' := T46.setTop (mkF m 21 #[.val (.int p0), .val (.int p1), .val (.int (3 : Int32)), .val (.int (1 : Int32)), .val (.ref w_BloodType_AB), .val (.ref w_BloodType_A), .unset] [(.int (3 : Int32))])) (fun t k => XS.iloadN X46.here hx rfl (hb hby at_20) rfl k) ?_
      refine Goes.to (T' := T46.setTop (mkF m 22 #[.val (.int p0), .val (.int p1), .val (.int (3 : Int32)), .val (.int (1 : Int32)), .val (.ref w_BloodType_AB), .val (.ref w_BloodType_A), .unset] [(.int (1 : Int32)), (.int (3 : Int32))])) (fun t k => XS.iloadN X46.here hx rfl (hb hby at_21) rfl k) ?_
      refine Goes.to (T' := T46.setTop (mkF m 23 #[.val (.int p0), .val (.int p1), .val (.int (3 : Int32)), .val (.int (1 : Int32)), .val (.ref w_BloodType_AB), .val (.ref w_BloodType_A), .unset] [(.int (-1 : Int32)), (.int (1 : Int32)), (.int (3 : Int32))])) (fun t k => XS.iconst X46.here hx rfl (hb hby at_22) k) ?_
      refine Goes.to (T' := T46.setTop (mkF m 24 #[.val (.int p0), .val (.int p1), .val (.int (3 : Int32)), .val (.int (1 : Int32)), .val (.ref w_BloodType_AB), .val (.ref w_BloodType_A), .unset] [(.int ((1 : Int32) ^^^ (-1 : Int32))), (.int (3 : Int32))])) (fun t k => XS.ixor X46.here hx rfl (hb hby at_23) rfl k) ?_
      rw [show ((1 : Int32) ^^^ (-1 : Int32)) = (-2 : Int32) from by decide +kernel]
      refine Goes.to (T' := T46.setTop (mkF m 25 #[.val (.int p0), .val (.int p1), .val (.int (3 : Int32)), .val (.int (1 : Int32)), .val (.ref w_BloodType_AB), .val (.ref w_BloodType_A), .unset] [(.int ((3 : Int32) &&& (-2 : Int32)))])) (fun t k => XS.iand X46.here hx rfl (hb hby at_24) rfl k) ?_
      rw [show ((3 : Int32) &&& (-2 : Int32)) = (2 : Int32) from by decide +kernel]
      refine Goes.to (T' := T46.setTop (mkF m 32 #[.val (.int p0), .val (.int p1), .val (.int (3 : Int32)), .val (.int (1 : Int32)), .val (.ref w_BloodType_AB), .val (.ref w_BloodType_A), .unset] [])) (fun t k => XS.ifYes X46.here hx rfl (pc0 := 25) (pc' := 32) rfl (hb hby at_25) rfl ((if0 _ _).trans (feq (by decide)).2) (by decide) (by decide) k) ?_
      refine Goes.to (T' := T46.setTop (mkF m 33 #[.val (.int p0), .val (.int p1), .val (.int (3 : Int32)), .val (.int (1 : Int32)), .val (.ref w_BloodType_AB), .val (.ref w_BloodType_A), .unset] [(.int (0 : Int32))])) (fun t k => XS.iconst X46.here hx rfl (hb hby at_32) k) ?_
      refine Goes.to (T' := T46.setTop (mkF m 35 #[.val (.int p0), .val (.int p1), .val (.int (3 : Int32)), .val (.int (1 : Int32)), .val (.ref w_BloodType_AB), .val (.ref w_BloodType_A), .val (.int (0 : Int32))] [])) (fun t k => XS.istore X46.here hx rfl (hb hby at_33) rfl (l' := #[.val (.int p0), .val (.int p1), .val (.int (3 : Int32)), .val (.int (1 : Int32)), .val (.ref w_BloodType_AB), .val (.ref w_BloodType_A), .val (.int (0 : Int32))]) rfl k) ?_
      refine Goes.to (T' := T46.setTop (mkF m 37 #[.val (.int p0), .val (.int p1), .val (.int (3 : Int32)), .val (.int (1 : Int32)), .val (.ref w_BloodType_AB), .val (.ref w_BloodType_A), .val (.int (0 : Int32))] [(.ref w_BloodType_AB)])) (fun t k => XS.aload X46.here hx rfl (hb hby at_35) rfl rfl k) ?_
      refine Goes.to (T' := T46.setTop (mkF m 39 #[.val (.int p0), .val (.int p1), .val (.int (3 : Int32)), .val (.int (1 : Int32)), .val (.ref w_BloodType_AB), .val (.ref w_BloodType_A), .val (.int (0 : Int32))] [(.ref w_BloodType_A), (.ref w_BloodType_AB)])) (fun t k => XS.aload X46.here hx rfl (hb hby at_37) rfl rfl k) ?_
      have hne1 := (Fld.ne F_ordinal_w_BloodType_AB F_ordinal_w_BloodType_O (by simp))
      have hne2 := (Fld.ne F_ordinal_w_BloodType_AB F_ordinal_w_BloodType_A (by simp))
      have hne3 := (Fld.ne F_ordinal_w_BloodType_A F_ordinal_w_BloodType_AB (by simp))
      obtain ⟨cq47, kq47, q47a, q47b, q47c⟩ := isOf hZ e46 (E_w_BloodType_AB.ext O0.2)
      obtain ⟨_, _, ⟨T47, L47, k47, n47⟩, -, X47, ⟨Lc47, hQ47, l47, y47, z47⟩, st47⟩ := X46.virtualBack hx (y := (⟨"com/example/veilmatch/veilmatch/model/BloodType", "canGiveTo", "(Lcom/example/veilmatch/veilmatch/model/BloodType;)Z"⟩ : MethodName)) (z := (⟨"com/example/veilmatch/veilmatch/model/BloodType", "canGiveTo", "(Lcom/example/veilmatch/veilmatch/model/BloodType;)Z"⟩ : MethodName)) hown (mvT hZ (hw _ (List.mem_of_getElem? (i := 9) rfl))) (mvT hZ (hw _ (List.mem_of_getElem? (i := 10) rfl))) (notFace_of_selects (args := #[]) (mvT hZ (hw _ (List.mem_of_getElem? (i := 12) rfl)))) (mvT hZ (hw _ (List.mem_of_getElem? (i := 12) rfl))) (mvT hZ (hw _ (List.mem_of_getElem? (i := 11) rfl))) (by decide) (backOf (W := 0) (rmG l Z a0 hw [] w_BloodType_AB w_BloodType_A w_BloodType_O w_BloodType_AB w_BloodType_B w_BloodType_A (0 : Int32) h0 n0 O0 NF (by simp [hne1, hne2, hne3])) hZ (hw _ (List.mem_of_getElem? (i := 13) rfl)) (hw _ (List.mem_of_getElem? (i := 5) rfl)) (by decide) (by decide)) q47a q47c (g := (mkF m 39 #[.val (.int p0), .val (.int p1), .val (.int (3 : Int32)), .val (.int (1 : Int32)), .val (.ref w_BloodType_AB), .val (.ref w_BloodType_A), .val (.int (0 : Int32))] [(.ref w_BloodType_A), (.ref w_BloodType_AB)])) rfl (by rw [hml]; rfl) (Steps.refl _) (argsL := [(.ref w_BloodType_A)]) (rest := []) (lenOf pd_32 rfl) rfl (by show 2 * 0 + _ ≤ _; exact Nat.le_of_eq rfl) (hb hby at_39) (fun _ _ => ⟨rfl, e46, (by decide : 0 + 0 ≤ _), (by decide : 0 + 0 ≤ _)⟩)
      dsimp only [Pt.U, Pt.locs, Pt.cells, Pt.slots] at X47 l47 y47 z47 st47 hQ47
      subst l47 y47 z47
      obtain ⟨rfl, Nq47, e47⟩ := hQ47
      have N47 := Fr.app N46 Nq47
      refine Goes.thru (T' := T47.setTop (mkF m 42 #[.val (.int p0), .val (.int p1), .val (.int (3 : Int32)), .val (.int (1 : Int32)), .val (.ref w_BloodType_AB), .val (.ref w_BloodType_A), .val (.int (0 : Int32))] [(.int (0 : Int32))])) st47 ?_
      refine Goes.to (T' := T47.setTop (mkF m 44 #[.val (.int p0), .val (.int p1), .val (.int (3 : Int32)), .val (.int (1 : Int32)), .val (.ref w_BloodType_AB), .val (.ref w_BloodType_A), .val (.int (0 : Int32))] [(.int (0 : Int32)), (.int (0 : Int32))])) (fun t k => XS.iload X47.here hx rfl (hb hby at_42) rfl k) ?_
      refine Goes.to (T' := T47.setTop (mkF m 47 #[.val (.int p0), .val (.int p1), .val (.int (3 : Int32)), .val (.int (1 : Int32)), .val (.ref w_BloodType_AB), .val (.ref w_BloodType_A), .val (.int (0 : Int32))] [])) (fun t k => XS.icmpNo X47.here hx rfl (hb hby at_44) rfl (teq (by decide)).2 k) ?_
      refine Goes.to (T' := T47.setTop (mkF m 48 #[.val (.int p0), .val (.int p1), .val (.int (3 : Int32)), .val (.int (1 : Int32)), .val (.ref w_BloodType_AB), .val (.ref w_BloodType_A), .val (.int (0 : Int32))] [(.int (1 : Int32))])) (fun t k => XS.iconst X47.here hx rfl (hb hby at_47) k) ?_
      refine Goes.to (T' := T47.setTop (mkF m 52 #[.val (.int p0), .val (.int p1), .val (.int (3 : Int32)), .val (.int (1 : Int32)), .val (.ref w_BloodType_AB), .val (.ref w_BloodType_A), .val (.int (0 : Int32))] [(.int (1 : Int32))])) (fun t k => XS.goto X47.here hx rfl (pc0 := 48) (pc' := 52) rfl (hb hby at_48) (by decide) (by decide) k) ?_
      obtain ⟨fs, hrL, hrun, hended, hW, hsame⟩ := X47.leave (v := some (.int (1 : Int32))) (fun h => by rw [Bd.returns] at h; cases h)
      subst hQf
      refine ⟨_, _, retN X47 hx (t := .boolean) Bd.returns (by simp) (hb hby at_52) hrL, hrun, hended, _, _, rfl, ?_, ⟨_, rfl⟩, hW, hsame.mono (by decide) (by decide)⟩
      show (fun (v : Option Value) (h : Heap) (L : List Loc) => v = some (.int 1) ∧ Fr n0 L) (some (.int (1 : Int32))) T47.heap _
      rw [e47]
      exact ⟨rfl, N47⟩
    · rw [hv_41]
      refine Goes.to (T' := s₁.setTop (mkF m 8 #[.val (.int p0), .val (.int p1), .val (.int (3 : Int32)), .val (.int (2 : Int32)), .unset, .unset, .unset] [])) (fun t k => XS.istoreN X0.here hx rfl (hb hby at_7) rfl (l' := #[.val (.int p0), .val (.int p1), .val (.int (3 : Int32)), .val (.int (2 : Int32)), .unset, .unset, .unset]) rfl k) ?_
      refine Goes.to (T' := s₁.setTop (mkF m 9 #[.val (.int p0), .val (.int p1), .val (.int (3 : Int32)), .val (.int (2 : Int32)), .unset, .unset, .unset] [(.int (3 : Int32))])) (fun t k => XS.iloadN X0.here hx rfl (hb hby at_8) rfl k) ?_
      obtain ⟨_, _, ⟨T48, L48, k48, n48⟩, -, X48, ⟨Lc48, hQ48, l48, y48, z48⟩, st48⟩ := Jvm.LawKit.callS X0 hx (y := (⟨"com/example/veilmatch/veilmatch/model/BloodTypeCanGiveToPinLaw", "pick", "(I)Lcom/example/veilmatch/veilmatch/model/BloodType;"⟩ : MethodName)) hown (mvT hZ (hw _ (List.mem_of_getElem? (i := 0) rfl))) (mvT hZ (hw _ (List.mem_of_getElem? (i := 1) rfl))) (mvT hZ (hw _ (List.mem_of_getElem? (i := 2) rfl))) (mvT hZ (hw _ (List.mem_of_getElem? (i := 3) rfl))) (by decide) (backOf (W := 0) (rmP l Z a0 hw [] (3 : Int32) w_BloodType_O w_BloodType_AB w_BloodType_B w_BloodType_A w_BloodType_AB h0 n0 O0 NF (by simp)) hZ (hw _ (List.mem_of_getElem? (i := 3) rfl)) (hw _ (List.mem_of_getElem? (i := 2) rfl)) (by decide) (by decide)) (g := (mkF m 9 #[.val (.int p0), .val (.int p1), .val (.int (3 : Int32)), .val (.int (2 : Int32)), .unset, .unset, .unset] [(.int (3 : Int32))])) rfl (by rw [hml]; rfl) (argsL := [(.int (3 : Int32))]) (rest := []) (lenOf pd_31 rfl) rfl (by show 2 * 0 + _ ≤ _; exact Nat.le_of_eq rfl) (hb hby at_9) (fun _ _ => ⟨rfl, e0, (by decide : 0 + 0 ≤ _), (by decide : 0 + 0 ≤ _)⟩)
      dsimp only [Pt.U, Pt.locs, Pt.cells, Pt.slots] at X48 l48 y48 z48 st48 hQ48
      subst l48 y48 z48
      obtain ⟨rfl, Nq48, e48⟩ := hQ48
      have N48 := Fr.app N0 Nq48
      refine Goes.to (T' := T48.setTop (mkF m 12 #[.val (.int p0), .val (.int p1), .val (.int (3 : Int32)), .val (.int (2 : Int32)), .unset, .unset, .unset] [(.ref w_BloodType_AB)])) st48 ?_
      refine Goes.to (T' := T48.setTop (mkF m 14 #[.val (.int p0), .val (.int p1), .val (.int (3 : Int32)), .val (.int (2 : Int32)), .val (.ref w_BloodType_AB), .unset, .unset] [])) (fun t k => XS.astore X48.here hx rfl (hb hby at_12) rfl rfl (l' := #[.val (.int p0), .val (.int p1), .val (.int (3 : Int32)), .val (.int (2 : Int32)), .val (.ref w_BloodType_AB), .unset, .unset]) rfl k) ?_
      refine Goes.to (T' := T48.setTop (mkF m 15 #[.val (.int p0), .val (.int p1), .val (.int (3 : Int32)), .val (.int (2 : Int32)), .val (.ref w_BloodType_AB), .unset, .unset] [(.int (2 : Int32))])) (fun t k => XS.iloadN X48.here hx rfl (hb hby at_14) rfl k) ?_
      obtain ⟨_, _, ⟨T49, L49, k49, n49⟩, -, X49, ⟨Lc49, hQ49, l49, y49, z49⟩, st49⟩ := Jvm.LawKit.callS X48 hx (y := (⟨"com/example/veilmatch/veilmatch/model/BloodTypeCanGiveToPinLaw", "pick", "(I)Lcom/example/veilmatch/veilmatch/model/BloodType;"⟩ : MethodName)) hown (mvT hZ (hw _ (List.mem_of_getElem? (i := 0) rfl))) (mvT hZ (hw _ (List.mem_of_getElem? (i := 1) rfl))) (mvT hZ (hw _ (List.mem_of_getElem? (i := 2) rfl))) (mvT hZ (hw _ (List.mem_of_getElem? (i := 3) rfl))) (by decide) (backOf (W := 0) (rmP l Z a0 hw [] (2 : Int32) w_BloodType_O w_BloodType_AB w_BloodType_B w_BloodType_A w_BloodType_B h0 n0 O0 NF (by simp)) hZ (hw _ (List.mem_of_getElem? (i := 3) rfl)) (hw _ (List.mem_of_getElem? (i := 2) rfl)) (by decide) (by decide)) (g := (mkF m 15 #[.val (.int p0), .val (.int p1), .val (.int (3 : Int32)), .val (.int (2 : Int32)), .val (.ref w_BloodType_AB), .unset, .unset] [(.int (2 : Int32))])) rfl (by rw [hml]; rfl) (argsL := [(.int (2 : Int32))]) (rest := []) (lenOf pd_31 rfl) rfl (by show 2 * 0 + _ ≤ _; exact Nat.le_of_eq rfl) (hb hby at_15) (fun _ _ => ⟨rfl, e48, (by decide : 0 + 0 ≤ _), (by decide : 0 + 0 ≤ _)⟩)
      dsimp only [Pt.U, Pt.locs, Pt.cells, Pt.slots] at X49 l49 y49 z49 st49 hQ49
      subst l49 y49 z49
      obtain ⟨rfl, Nq49, e49⟩ := hQ49
      have N49 := Fr.app N48 Nq49
      refine Goes.to (T' := T49.setTop (mkF m 18 #[.val (.int p0), .val (.int p1), .val (.int (3 : Int32)), .val (.int (2 : Int32)), .val (.ref w_BloodType_AB), .unset, .unset] [(.ref w_BloodType_B)])) st49 ?_
      refine Goes.to (T' := T49.setTop (mkF m 20 #[.val (.int p0), .val (.int p1), .val (.int (3 : Int32)), .val (.int (2 : Int32)), .val (.ref w_BloodType_AB), .val (.ref w_BloodType_B), .unset] [])) (fun t k => XS.astore X49.here hx rfl (hb hby at_18) rfl rfl (l' := #[.val (.int p0), .val (.int p1), .val (.int (3 : Int32)), .val (.int (2 : Int32)), .val (.ref w_BloodType_AB), .val (.ref w_BloodType_B), .unset]) rfl k) ?_
      refine Goes.to (T' := T49.setTop (mkF m 21 #[.val (.int p0), .val (.int p1), .val (.int (3 : Int32)), .val (.int (2 : Int32)), .val (.ref w_BloodType_AB), .val (.ref w_BloodType_B), .unset] [(.int (3 : Int32))])) (fun t k => XS.iloadN X49.here hx rfl (hb hby at_20) rfl k) ?_
      refine Goes.to (T' := T49.setTop (mkF m 22 #[.val (.int p0), .val (.int p1), .val (.int (3 : Int32)), .val (.int (2 : Int32)), .val (.ref w_BloodType_AB), .val (.ref w_BloodType_B), .unset] [(.int (2 : Int32)), (.int (3 : Int32))])) (fun t k => XS.iloadN X49.here hx rfl (hb hby at_21) rfl k) ?_
      refine Goes.to (T' := T49.setTop (mkF m 23 #[.val (.int p0), .val (.int p1), .val (.int (3 : Int32)), .val (.int (2 : Int32)), .val (.ref w_BloodType_AB), .val (.ref w_BloodType_B), .unset] [(.int (-1 : Int32)), (.int (2 : Int32)), (.int (3 : Int32))])) (fun t k => XS.iconst X49.here hx rfl (hb hby at_22) k) ?_
      refine Goes.to (T' := T49.setTop (mkF m 24 #[.val (.int p0), .val (.int p1), .val (.int (3 : Int32)), .val (.int (2 : Int32)), .val (.ref w_BloodType_AB), .val (.ref w_BloodType_B), .unset] [(.int ((2 : Int32) ^^^ (-1 : Int32))), (.int (3 : Int32))])) (fun t k => XS.ixor X49.here hx rfl (hb hby at_23) rfl k) ?_
      rw [show ((2 : Int32) ^^^ (-1 : Int32)) = (-3 : Int32) from by decide +kernel]
      refine Goes.to (T' := T49.setTop (mkF m 25 #[.val (.int p0), .val (.int p1), .val (.int (3 : Int32)), .val (.int (2 : Int32)), .val (.ref w_BloodType_AB), .val (.ref w_BloodType_B), .unset] [(.int ((3 : Int32) &&& (-3 : Int32)))])) (fun t k => XS.iand X49.here hx rfl (hb hby at_24) rfl k) ?_
      rw [show ((3 : Int32) &&& (-3 : Int32)) = (1 : Int32) from by decide +kernel]
      refine Goes.to (T' := T49.setTop (mkF m 32 #[.val (.int p0), .val (.int p1), .val (.int (3 : Int32)), .val (.int (2 : Int32)), .val (.ref w_BloodType_AB), .val (.ref w_BloodType_B), .unset] [])) (fun t k => XS.ifYes X49.here hx rfl (pc0 := 25) (pc' := 32) rfl (hb hby at_25) rfl ((if0 _ _).trans (feq (by decide)).2) (by decide) (by decide) k) ?_
      refine Goes.to (T' := T49.setTop (mkF m 33 #[.val (.int p0), .val (.int p1), .val (.int (3 : Int32)), .val (.int (2 : Int32)), .val (.ref w_BloodType_AB), .val (.ref w_BloodType_B), .unset] [(.int (0 : Int32))])) (fun t k => XS.iconst X49.here hx rfl (hb hby at_32) k) ?_
      refine Goes.to (T' := T49.setTop (mkF m 35 #[.val (.int p0), .val (.int p1), .val (.int (3 : Int32)), .val (.int (2 : Int32)), .val (.ref w_BloodType_AB), .val (.ref w_BloodType_B), .val (.int (0 : Int32))] [])) (fun t k => XS.istore X49.here hx rfl (hb hby at_33) rfl (l' := #[.val (.int p0), .val (.int p1), .val (.int (3 : Int32)), .val (.int (2 : Int32)), .val (.ref w_BloodType_AB), .val (.ref w_BloodType_B), .val (.int (0 : Int32))]) rfl k) ?_
      refine Goes.to (T' := T49.setTop (mkF m 37 #[.val (.int p0), .val (.int p1), .val (.int (3 : Int32)), .val (.int (2 : Int32)), .val (.ref w_BloodType_AB), .val (.ref w_BloodType_B), .val (.int (0 : Int32))] [(.ref w_BloodType_AB)])) (fun t k => XS.aload X49.here hx rfl (hb hby at_35) rfl rfl k) ?_
      refine Goes.to (T' := T49.setTop (mkF m 39 #[.val (.int p0), .val (.int p1), .val (.int (3 : Int32)), .val (.int (2 : Int32)), .val (.ref w_BloodType_AB), .val (.ref w_BloodType_B), .val (.int (0 : Int32))] [(.ref w_BloodType_B), (.ref w_BloodType_AB)])) (fun t k => XS.aload X49.here hx rfl (hb hby at_37) rfl rfl k) ?_
      have hne1 := (Fld.ne F_ordinal_w_BloodType_AB F_ordinal_w_BloodType_O (by simp))
      have hne2 := (Fld.ne F_ordinal_w_BloodType_AB F_ordinal_w_BloodType_B (by simp))
      have hne3 := (Fld.ne F_ordinal_w_BloodType_B F_ordinal_w_BloodType_AB (by simp))
      obtain ⟨cq50, kq50, q50a, q50b, q50c⟩ := isOf hZ e49 (E_w_BloodType_AB.ext O0.2)
      obtain ⟨_, _, ⟨T50, L50, k50, n50⟩, -, X50, ⟨Lc50, hQ50, l50, y50, z50⟩, st50⟩ := X49.virtualBack hx (y := (⟨"com/example/veilmatch/veilmatch/model/BloodType", "canGiveTo", "(Lcom/example/veilmatch/veilmatch/model/BloodType;)Z"⟩ : MethodName)) (z := (⟨"com/example/veilmatch/veilmatch/model/BloodType", "canGiveTo", "(Lcom/example/veilmatch/veilmatch/model/BloodType;)Z"⟩ : MethodName)) hown (mvT hZ (hw _ (List.mem_of_getElem? (i := 9) rfl))) (mvT hZ (hw _ (List.mem_of_getElem? (i := 10) rfl))) (notFace_of_selects (args := #[]) (mvT hZ (hw _ (List.mem_of_getElem? (i := 12) rfl)))) (mvT hZ (hw _ (List.mem_of_getElem? (i := 12) rfl))) (mvT hZ (hw _ (List.mem_of_getElem? (i := 11) rfl))) (by decide) (backOf (W := 0) (rmG l Z a0 hw [] w_BloodType_AB w_BloodType_B w_BloodType_O w_BloodType_AB w_BloodType_B w_BloodType_A (0 : Int32) h0 n0 O0 NF (by simp [hne1, hne2, hne3])) hZ (hw _ (List.mem_of_getElem? (i := 13) rfl)) (hw _ (List.mem_of_getElem? (i := 5) rfl)) (by decide) (by decide)) q50a q50c (g := (mkF m 39 #[.val (.int p0), .val (.int p1), .val (.int (3 : Int32)), .val (.int (2 : Int32)), .val (.ref w_BloodType_AB), .val (.ref w_BloodType_B), .val (.int (0 : Int32))] [(.ref w_BloodType_B), (.ref w_BloodType_AB)])) rfl (by rw [hml]; rfl) (Steps.refl _) (argsL := [(.ref w_BloodType_B)]) (rest := []) (lenOf pd_32 rfl) rfl (by show 2 * 0 + _ ≤ _; exact Nat.le_of_eq rfl) (hb hby at_39) (fun _ _ => ⟨rfl, e49, (by decide : 0 + 0 ≤ _), (by decide : 0 + 0 ≤ _)⟩)
      dsimp only [Pt.U, Pt.locs, Pt.cells, Pt.slots] at X50 l50 y50 z50 st50 hQ50
      subst l50 y50 z50
      obtain ⟨rfl, Nq50, e50⟩ := hQ50
      have N50 := Fr.app N49 Nq50
      refine Goes.thru (T' := T50.setTop (mkF m 42 #[.val (.int p0), .val (.int p1), .val (.int (3 : Int32)), .val (.int (2 : Int32)), .val (.ref w_BloodType_AB), .val (.ref w_BloodType_B), .val (.int (0 : Int32))] [(.int (0 : Int32))])) st50 ?_
      refine Goes.to (T' := T50.setTop (mkF m 44 #[.val (.int p0), .val (.int p1), .val (.int (3 : Int32)), .val (.int (2 : Int32)), .val (.ref w_BloodType_AB), .val (.ref w_BloodType_B), .val (.int (0 : Int32))] [(.int (0 : Int32)), (.int (0 : Int32))])) (fun t k => XS.iload X50.here hx rfl (hb hby at_42) rfl k) ?_
      refine Goes.to (T' := T50.setTop (mkF m 47 #[.val (.int p0), .val (.int p1), .val (.int (3 : Int32)), .val (.int (2 : Int32)), .val (.ref w_BloodType_AB), .val (.ref w_BloodType_B), .val (.int (0 : Int32))] [])) (fun t k => XS.icmpNo X50.here hx rfl (hb hby at_44) rfl (teq (by decide)).2 k) ?_
      refine Goes.to (T' := T50.setTop (mkF m 48 #[.val (.int p0), .val (.int p1), .val (.int (3 : Int32)), .val (.int (2 : Int32)), .val (.ref w_BloodType_AB), .val (.ref w_BloodType_B), .val (.int (0 : Int32))] [(.int (1 : Int32))])) (fun t k => XS.iconst X50.here hx rfl (hb hby at_47) k) ?_
      refine Goes.to (T' := T50.setTop (mkF m 52 #[.val (.int p0), .val (.int p1), .val (.int (3 : Int32)), .val (.int (2 : Int32)), .val (.ref w_BloodType_AB), .val (.ref w_BloodType_B), .val (.int (0 : Int32))] [(.int (1 : Int32))])) (fun t k => XS.goto X50.here hx rfl (pc0 := 48) (pc' := 52) rfl (hb hby at_48) (by decide) (by decide) k) ?_
      obtain ⟨fs, hrL, hrun, hended, hW, hsame⟩ := X50.leave (v := some (.int (1 : Int32))) (fun h => by rw [Bd.returns] at h; cases h)
      subst hQf
      refine ⟨_, _, retN X50 hx (t := .boolean) Bd.returns (by simp) (hb hby at_52) hrL, hrun, hended, _, _, rfl, ?_, ⟨_, rfl⟩, hW, hsame.mono (by decide) (by decide)⟩
      show (fun (v : Option Value) (h : Heap) (L : List Loc) => v = some (.int 1) ∧ Fr n0 L) (some (.int (1 : Int32))) T50.heap _
      rw [e50]
      exact ⟨rfl, N50⟩
    · rw [hv_41]
      refine Goes.to (T' := s₁.setTop (mkF m 8 #[.val (.int p0), .val (.int p1), .val (.int (3 : Int32)), .val (.int (3 : Int32)), .unset, .unset, .unset] [])) (fun t k => XS.istoreN X0.here hx rfl (hb hby at_7) rfl (l' := #[.val (.int p0), .val (.int p1), .val (.int (3 : Int32)), .val (.int (3 : Int32)), .unset, .unset, .unset]) rfl k) ?_
      refine Goes.to (T' := s₁.setTop (mkF m 9 #[.val (.int p0), .val (.int p1), .val (.int (3 : Int32)), .val (.int (3 : Int32)), .unset, .unset, .unset] [(.int (3 : Int32))])) (fun t k => XS.iloadN X0.here hx rfl (hb hby at_8) rfl k) ?_
      obtain ⟨_, _, ⟨T51, L51, k51, n51⟩, -, X51, ⟨Lc51, hQ51, l51, y51, z51⟩, st51⟩ := Jvm.LawKit.callS X0 hx (y := (⟨"com/example/veilmatch/veilmatch/model/BloodTypeCanGiveToPinLaw", "pick", "(I)Lcom/example/veilmatch/veilmatch/model/BloodType;"⟩ : MethodName)) hown (mvT hZ (hw _ (List.mem_of_getElem? (i := 0) rfl))) (mvT hZ (hw _ (List.mem_of_getElem? (i := 1) rfl))) (mvT hZ (hw _ (List.mem_of_getElem? (i := 2) rfl))) (mvT hZ (hw _ (List.mem_of_getElem? (i := 3) rfl))) (by decide) (backOf (W := 0) (rmP l Z a0 hw [] (3 : Int32) w_BloodType_O w_BloodType_AB w_BloodType_B w_BloodType_A w_BloodType_AB h0 n0 O0 NF (by simp)) hZ (hw _ (List.mem_of_getElem? (i := 3) rfl)) (hw _ (List.mem_of_getElem? (i := 2) rfl)) (by decide) (by decide)) (g := (mkF m 9 #[.val (.int p0), .val (.int p1), .val (.int (3 : Int32)), .val (.int (3 : Int32)), .unset, .unset, .unset] [(.int (3 : Int32))])) rfl (by rw [hml]; rfl) (argsL := [(.int (3 : Int32))]) (rest := []) (lenOf pd_31 rfl) rfl (by show 2 * 0 + _ ≤ _; exact Nat.le_of_eq rfl) (hb hby at_9) (fun _ _ => ⟨rfl, e0, (by decide : 0 + 0 ≤ _), (by decide : 0 + 0 ≤ _)⟩)
      dsimp only [Pt.U, Pt.locs, Pt.cells, Pt.slots] at X51 l51 y51 z51 st51 hQ51
      subst l51 y51 z51
      obtain ⟨rfl, Nq51, e51⟩ := hQ51
      have N51 := Fr.app N0 Nq51
      refine Goes.to (T' := T51.setTop (mkF m 12 #[.val (.int p0), .val (.int p1), .val (.int (3 : Int32)), .val (.int (3 : Int32)), .unset, .unset, .unset] [(.ref w_BloodType_AB)])) st51 ?_
      refine Goes.to (T' := T51.setTop (mkF m 14 #[.val (.int p0), .val (.int p1), .val (.int (3 : Int32)), .val (.int (3 : Int32)), .val (.ref w_BloodType_AB), .unset, .unset] [])) (fun t k => XS.astore X51.here hx rfl (hb hby at_12) rfl rfl (l' := #[.val (.int p0), .val (.int p1), .val (.int (3 : Int32)), .val (.int (3 : Int32)), .val (.ref w_BloodType_AB), .unset, .unset]) rfl k) ?_
      refine Goes.to (T' := T51.setTop (mkF m 15 #[.val (.int p0), .val (.int p1), .val (.int (3 : Int32)), .val (.int (3 : Int32)), .val (.ref w_BloodType_AB), .unset, .unset] [(.int (3 : Int32))])) (fun t k => XS.iloadN X51.here hx rfl (hb hby at_14) rfl k) ?_
      obtain ⟨_, _, ⟨T52, L52, k52, n52⟩, -, X52, ⟨Lc52, hQ52, l52, y52, z52⟩, st52⟩ := Jvm.LawKit.callS X51 hx (y := (⟨"com/example/veilmatch/veilmatch/model/BloodTypeCanGiveToPinLaw", "pick", "(I)Lcom/example/veilmatch/veilmatch/model/BloodType;"⟩ : MethodName)) hown (mvT hZ (hw _ (List.mem_of_getElem? (i := 0) rfl))) (mvT hZ (hw _ (List.mem_of_getElem? (i := 1) rfl))) (mvT hZ (hw _ (List.mem_of_getElem? (i := 2) rfl))) (mvT hZ (hw _ (List.mem_of_getElem? (i := 3) rfl))) (by decide) (backOf (W := 0) (rmP l Z a0 hw [] (3 : Int32) w_BloodType_O w_BloodType_AB w_BloodType_B w_BloodType_A w_BloodType_AB h0 n0 O0 NF (by simp)) hZ (hw _ (List.mem_of_getElem? (i := 3) rfl)) (hw _ (List.mem_of_getElem? (i := 2) rfl)) (by decide) (by decide)) (g := (mkF m 15 #[.val (.int p0), .val (.int p1), .val (.int (3 : Int32)), .val (.int (3 : Int32)), .val (.ref w_BloodType_AB), .unset, .unset] [(.int (3 : Int32))])) rfl (by rw [hml]; rfl) (argsL := [(.int (3 : Int32))]) (rest := []) (lenOf pd_31 rfl) rfl (by show 2 * 0 + _ ≤ _; exact Nat.le_of_eq rfl) (hb hby at_15) (fun _ _ => ⟨rfl, e51, (by decide : 0 + 0 ≤ _), (by decide : 0 + 0 ≤ _)⟩)
      dsimp only [Pt.U, Pt.locs, Pt.cells, Pt.slots] at X52 l52 y52 z52 st52 hQ52
      subst l52 y52 z52
      obtain ⟨rfl, Nq52, e52⟩ := hQ52
      have N52 := Fr.app N51 Nq52
      refine Goes.to (T' := T52.setTop (mkF m 18 #[.val (.int p0), .val (.int p1), .val (.int (3 : Int32)), .val (.int (3 : Int32)), .val (.ref w_BloodType_AB), .unset, .unset] [(.ref w_BloodType_AB)])) st52 ?_
      refine Goes.to (T' := T52.setTop (mkF m 20 #[.val (.int p0), .val (.int p1), .val (.int (3 : Int32)), .val (.int (3 : Int32)), .val (.ref w_BloodType_AB), .val (.ref w_BloodType_AB), .unset] [])) (fun t k => XS.astore X52.here hx rfl (hb hby at_18) rfl rfl (l' := #[.val (.int p0), .val (.int p1), .val (.int (3 : Int32)), .val (.int (3 : Int32)), .val (.ref w_BloodType_AB), .val (.ref w_BloodType_AB), .unset]) rfl k) ?_
      refine Goes.to (T' := T52.setTop (mkF m 21 #[.val (.int p0), .val (.int p1), .val (.int (3 : Int32)), .val (.int (3 : Int32)), .val (.ref w_BloodType_AB), .val (.ref w_BloodType_AB), .unset] [(.int (3 : Int32))])) (fun t k => XS.iloadN X52.here hx rfl (hb hby at_20) rfl k) ?_
      refine Goes.to (T' := T52.setTop (mkF m 22 #[.val (.int p0), .val (.int p1), .val (.int (3 : Int32)), .val (.int (3 : Int32)), .val (.ref w_BloodType_AB), .val (.ref w_BloodType_AB), .unset] [(.int (3 : Int32)), (.int (3 : Int32))])) (fun t k => XS.iloadN X52.here hx rfl (hb hby at_21) rfl k) ?_
      refine Goes.to (T' := T52.setTop (mkF m 23 #[.val (.int p0), .val (.int p1), .val (.int (3 : Int32)), .val (.int (3 : Int32)), .val (.ref w_BloodType_AB), .val (.ref w_BloodType_AB), .unset] [(.int (-1 : Int32)), (.int (3 : Int32)), (.int (3 : Int32))])) (fun t k => XS.iconst X52.here hx rfl (hb hby at_22) k) ?_
      refine Goes.to (T' := T52.setTop (mkF m 24 #[.val (.int p0), .val (.int p1), .val (.int (3 : Int32)), .val (.int (3 : Int32)), .val (.ref w_BloodType_AB), .val (.ref w_BloodType_AB), .unset] [(.int ((3 : Int32) ^^^ (-1 : Int32))), (.int (3 : Int32))])) (fun t k => XS.ixor X52.here hx rfl (hb hby at_23) rfl k) ?_
      rw [show ((3 : Int32) ^^^ (-1 : Int32)) = (-4 : Int32) from by decide +kernel]
      refine Goes.to (T' := T52.setTop (mkF m 25 #[.val (.int p0), .val (.int p1), .val (.int (3 : Int32)), .val (.int (3 : Int32)), .val (.ref w_BloodType_AB), .val (.ref w_BloodType_AB), .unset] [(.int ((3 : Int32) &&& (-4 : Int32)))])) (fun t k => XS.iand X52.here hx rfl (hb hby at_24) rfl k) ?_
      rw [show ((3 : Int32) &&& (-4 : Int32)) = (0 : Int32) from by decide +kernel]
      refine Goes.to (T' := T52.setTop (mkF m 28 #[.val (.int p0), .val (.int p1), .val (.int (3 : Int32)), .val (.int (3 : Int32)), .val (.ref w_BloodType_AB), .val (.ref w_BloodType_AB), .unset] [])) (fun t k => XS.ifNo X52.here hx rfl (hb hby at_25) rfl ((if0 _ _).trans (teq (by decide)).2) k) ?_
      refine Goes.to (T' := T52.setTop (mkF m 29 #[.val (.int p0), .val (.int p1), .val (.int (3 : Int32)), .val (.int (3 : Int32)), .val (.ref w_BloodType_AB), .val (.ref w_BloodType_AB), .unset] [(.int (1 : Int32))])) (fun t k => XS.iconst X52.here hx rfl (hb hby at_28) k) ?_
      refine Goes.to (T' := T52.setTop (mkF m 33 #[.val (.int p0), .val (.int p1), .val (.int (3 : Int32)), .val (.int (3 : Int32)), .val (.ref w_BloodType_AB), .val (.ref w_BloodType_AB), .unset] [(.int (1 : Int32))])) (fun t k => XS.goto X52.here hx rfl (pc0 := 29) (pc' := 33) rfl (hb hby at_29) (by decide) (by decide) k) ?_
      refine Goes.to (T' := T52.setTop (mkF m 35 #[.val (.int p0), .val (.int p1), .val (.int (3 : Int32)), .val (.int (3 : Int32)), .val (.ref w_BloodType_AB), .val (.ref w_BloodType_AB), .val (.int (1 : Int32))] [])) (fun t k => XS.istore X52.here hx rfl (hb hby at_33) rfl (l' := #[.val (.int p0), .val (.int p1), .val (.int (3 : Int32)), .val (.int (3 : Int32)), .val (.ref w_BloodType_AB), .val (.ref w_BloodType_AB), .val (.int (1 : Int32))]) rfl k) ?_
      refine Goes.to (T' := T52.setTop (mkF m 37 #[.val (.int p0), .val (.int p1), .val (.int (3 : Int32)), .val (.int (3 : Int32)), .val (.ref w_BloodType_AB), .val (.ref w_BloodType_AB), .val (.int (1 : Int32))] [(.ref w_BloodType_AB)])) (fun t k => XS.aload X52.here hx rfl (hb hby at_35) rfl rfl k) ?_
      refine Goes.to (T' := T52.setTop (mkF m 39 #[.val (.int p0), .val (.int p1), .val (.int (3 : Int32)), .val (.int (3 : Int32)), .val (.ref w_BloodType_AB), .val (.ref w_BloodType_AB), .val (.int (1 : Int32))] [(.ref w_BloodType_AB), (.ref w_BloodType_AB)])) (fun t k => XS.aload X52.here hx rfl (hb hby at_37) rfl rfl k) ?_
      obtain ⟨cq53, kq53, q53a, q53b, q53c⟩ := isOf hZ e52 (E_w_BloodType_AB.ext O0.2)
      obtain ⟨_, _, ⟨T53, L53, k53, n53⟩, -, X53, ⟨Lc53, hQ53, l53, y53, z53⟩, st53⟩ := X52.virtualBack hx (y := (⟨"com/example/veilmatch/veilmatch/model/BloodType", "canGiveTo", "(Lcom/example/veilmatch/veilmatch/model/BloodType;)Z"⟩ : MethodName)) (z := (⟨"com/example/veilmatch/veilmatch/model/BloodType", "canGiveTo", "(Lcom/example/veilmatch/veilmatch/model/BloodType;)Z"⟩ : MethodName)) hown (mvT hZ (hw _ (List.mem_of_getElem? (i := 9) rfl))) (mvT hZ (hw _ (List.mem_of_getElem? (i := 10) rfl))) (notFace_of_selects (args := #[]) (mvT hZ (hw _ (List.mem_of_getElem? (i := 12) rfl)))) (mvT hZ (hw _ (List.mem_of_getElem? (i := 12) rfl))) (mvT hZ (hw _ (List.mem_of_getElem? (i := 11) rfl))) (by decide) (backOf (W := 0) (rmG l Z a0 hw [] w_BloodType_AB w_BloodType_AB w_BloodType_O w_BloodType_AB w_BloodType_B w_BloodType_A (1 : Int32) h0 n0 O0 NF (by simp)) hZ (hw _ (List.mem_of_getElem? (i := 13) rfl)) (hw _ (List.mem_of_getElem? (i := 5) rfl)) (by decide) (by decide)) q53a q53c (g := (mkF m 39 #[.val (.int p0), .val (.int p1), .val (.int (3 : Int32)), .val (.int (3 : Int32)), .val (.ref w_BloodType_AB), .val (.ref w_BloodType_AB), .val (.int (1 : Int32))] [(.ref w_BloodType_AB), (.ref w_BloodType_AB)])) rfl (by rw [hml]; rfl) (Steps.refl _) (argsL := [(.ref w_BloodType_AB)]) (rest := []) (lenOf pd_32 rfl) rfl (by show 2 * 0 + _ ≤ _; exact Nat.le_of_eq rfl) (hb hby at_39) (fun _ _ => ⟨rfl, e52, (by decide : 0 + 0 ≤ _), (by decide : 0 + 0 ≤ _)⟩)
      dsimp only [Pt.U, Pt.locs, Pt.cells, Pt.slots] at X53 l53 y53 z53 st53 hQ53
      subst l53 y53 z53
      obtain ⟨rfl, Nq53, e53⟩ := hQ53
      have N53 := Fr.app N52 Nq53
      refine Goes.thru (T' := T53.setTop (mkF m 42 #[.val (.int p0), .val (.int p1), .val (.int (3 : Int32)), .val (.int (3 : Int32)), .val (.ref w_BloodType_AB), .val (.ref w_BloodType_AB), .val (.int (1 : Int32))] [(.int (1 : Int32))])) st53 ?_
      refine Goes.to (T' := T53.setTop (mkF m 44 #[.val (.int p0), .val (.int p1), .val (.int (3 : Int32)), .val (.int (3 : Int32)), .val (.ref w_BloodType_AB), .val (.ref w_BloodType_AB), .val (.int (1 : Int32))] [(.int (1 : Int32)), (.int (1 : Int32))])) (fun t k => XS.iload X53.here hx rfl (hb hby at_42) rfl k) ?_
      refine Goes.to (T' := T53.setTop (mkF m 47 #[.val (.int p0), .val (.int p1), .val (.int (3 : Int32)), .val (.int (3 : Int32)), .val (.ref w_BloodType_AB), .val (.ref w_BloodType_AB), .val (.int (1 : Int32))] [])) (fun t k => XS.icmpNo X53.here hx rfl (hb hby at_44) rfl (teq (by decide)).2 k) ?_
      refine Goes.to (T' := T53.setTop (mkF m 48 #[.val (.int p0), .val (.int p1), .val (.int (3 : Int32)), .val (.int (3 : Int32)), .val (.ref w_BloodType_AB), .val (.ref w_BloodType_AB), .val (.int (1 : Int32))] [(.int (1 : Int32))])) (fun t k => XS.iconst X53.here hx rfl (hb hby at_47) k) ?_
      refine Goes.to (T' := T53.setTop (mkF m 52 #[.val (.int p0), .val (.int p1), .val (.int (3 : Int32)), .val (.int (3 : Int32)), .val (.ref w_BloodType_AB), .val (.ref w_BloodType_AB), .val (.int (1 : Int32))] [(.int (1 : Int32))])) (fun t k => XS.goto X53.here hx rfl (pc0 := 48) (pc' := 52) rfl (hb hby at_48) (by decide) (by decide) k) ?_
      obtain ⟨fs, hrL, hrun, hended, hW, hsame⟩ := X53.leave (v := some (.int (1 : Int32))) (fun h => by rw [Bd.returns] at h; cases h)
      subst hQf
      refine ⟨_, _, retN X53 hx (t := .boolean) Bd.returns (by simp) (hb hby at_52) hrL, hrun, hended, _, _, rfl, ?_, ⟨_, rfl⟩, hW, hsame.mono (by decide) (by decide)⟩
      show (fun (v : Option Value) (h : Heap) (L : List Loc) => v = some (.int 1) ∧ Fr n0 L) (some (.int (1 : Int32))) T53.heap _
      rw [e53]
      exact ⟨rfl, N53⟩
set_option maxRecDepth 65536 in
set_option maxHeartbeats 40000000 in
theorem comes_1 {Post : Tables → Env → Array Value → State → Outcome → State → Prop} (hpost : ∀ tb e args s v u, (limb_1_1.after args s (.returned v) u = true ∧ limb_1_2.after args s (.returned v) u = true ∧ True) → FrameEnd s (.returned v) u (Jvm.fieldLocs frame_1_writes args s ++ Jvm.arrayLocs frame_1_arrays args s ++ Jvm.staticLocs frame_1_statics s) 0 0 → Post tb e args s (.returned v) u) :
    ArmFor flags0 classFile x code maxLocals ret World_1 tables_1 room_1 Calls_1 rest_1 Pre_1 Post := by
  intro l hfl _ _ p e ha hc hk s m args below hf hA hF happ hP
  obtain ⟨hcalls, hrest, hpre⟩ := hP
  obtain ⟨-, -, -, hnamed, -, -, -, hat⟩ := (Spec.applies_iff hf).mp happ
  obtain ⟨hg, hn⟩ := and_e (Cond.before_iff.mp (show (Jvm.Cond.and given_1 narrow_1).before args s = true from hpre))
  obtain ⟨gc, gr0⟩ := and_e hg
  obtain ⟨w0, w1, rfl⟩ : ∃ w0 w1 : Value, args = #[w0, w1] := by
    have hs : args.size = 2 := by simpa [Cond.value, given_1] using gc
    obtain ⟨L⟩ := args
    match L, hs with
    | [w0, w1], _ => exact ⟨w0, w1, rfl⟩
  have hw := fun d (hd : d ∈ tables_1) => atoms_spec (ws := Jvm.Cond.code x code maxLocals ret :: tables_1) hat d (List.mem_cons_of_mem _ hd)
  have hfit : Fit s := fun {y c} hc i hi => by
    obtain ⟨ha, rfl⟩ := Array.getElem?_eq_some_iff.mp hc
    have q := List.all_eq_true.mp ((Array.all_eq_true_iff_forall_mem.mp hF) _ (Array.getElem_mem ha)) i (List.mem_range.mpr hi)
    simpa [Array.getElem?_eq_getElem hi] using q
  obtain ⟨gv0, gr1⟩ := and_e gr0
  obtain ⟨i0, ei0⟩ := is_v gv0
  obtain rfl : w0 = (.int i0) := Option.some.inj ei0
  obtain ⟨i1, ei1⟩ := is_v gr1
  obtain rfl : w1 = (.int i1) := Option.some.inj ei1
  obtain ⟨nl1, nr1⟩ := and_e hn
  obtain ⟨nl2, nr2⟩ := and_e nr1
  obtain ⟨nl3, nr3⟩ := and_e nr2
  obtain ⟨nl4, nr4⟩ := and_e nr3
  obtain ⟨nl5, nr5⟩ := and_e nr4
  obtain ⟨nl6, nr6⟩ := and_e nr5
  obtain ⟨nl7, nr7⟩ := and_e nr6
  obtain ⟨w_BloodType_O, ev_w_BloodType_O⟩ := exa_v nl1
  have S_w_BloodType_O : Sta s s.heap "com/example/veilmatch/veilmatch/model/BloodType" "O" "Lcom/example/veilmatch/veilmatch/model/BloodType;" (.ref w_BloodType_O) := Sta.start ev_w_BloodType_O (Or.inr ⟨(hw _ (List.mem_of_getElem? (i := 5) rfl)), (hw _ (List.mem_of_getElem? (i := 6) rfl))⟩)
  have E_w_BloodType_O : Exa s s.heap w_BloodType_O "com/example/veilmatch/veilmatch/model/BloodType" := Exa.start ev_w_BloodType_O nl1
  obtain ⟨w_BloodType_AB, ev_w_BloodType_AB⟩ := exa_v nl2
  have S_w_BloodType_AB : Sta s s.heap "com/example/veilmatch/veilmatch/model/BloodType" "AB" "Lcom/example/veilmatch/veilmatch/model/BloodType;" (.ref w_BloodType_AB) := Sta.start ev_w_BloodType_AB (Or.inr ⟨(hw _ (List.mem_of_getElem? (i := 5) rfl)), (hw _ (List.mem_of_getElem? (i := 8) rfl))⟩)
  have E_w_BloodType_AB : Exa s s.heap w_BloodType_AB "com/example/veilmatch/veilmatch/model/BloodType" := Exa.start ev_w_BloodType_AB nl2
  obtain ⟨w_BloodType_B, ev_w_BloodType_B⟩ := exa_v nl3
  have S_w_BloodType_B : Sta s s.heap "com/example/veilmatch/veilmatch/model/BloodType" "B" "Lcom/example/veilmatch/veilmatch/model/BloodType;" (.ref w_BloodType_B) := Sta.start ev_w_BloodType_B (Or.inr ⟨(hw _ (List.mem_of_getElem? (i := 5) rfl)), (hw _ (List.mem_of_getElem? (i := 16) rfl))⟩)
  have E_w_BloodType_B : Exa s s.heap w_BloodType_B "com/example/veilmatch/veilmatch/model/BloodType" := Exa.start ev_w_BloodType_B nl3
  obtain ⟨w_BloodType_A, ev_w_BloodType_A⟩ := exa_v nl4
  have S_w_BloodType_A : Sta s s.heap "com/example/veilmatch/veilmatch/model/BloodType" "A" "Lcom/example/veilmatch/veilmatch/model/BloodType;" (.ref w_BloodType_A) := Sta.start ev_w_BloodType_A (Or.inr ⟨(hw _ (List.mem_of_getElem? (i := 5) rfl)), (hw _ (List.mem_of_getElem? (i := 18) rfl))⟩)
  have E_w_BloodType_A : Exa s s.heap w_BloodType_A "com/example/veilmatch/veilmatch/model/BloodType" := Exa.start ev_w_BloodType_A nl4
  have F_ordinal_w_BloodType_B : Fld s s.heap w_BloodType_B "java/lang/Enum" "ordinal" "I" (.int (2 : Int32)) := own_fldI ev_w_BloodType_B nl5
  have F_ordinal_w_BloodType_O : Fld s s.heap w_BloodType_O "java/lang/Enum" "ordinal" "I" (.int (0 : Int32)) := own_fldI ev_w_BloodType_O nl6
  have F_ordinal_w_BloodType_A : Fld s s.heap w_BloodType_A "java/lang/Enum" "ordinal" "I" (.int (1 : Int32)) := own_fldI ev_w_BloodType_A nl7
  have F_ordinal_w_BloodType_AB : Fld s s.heap w_BloodType_AB "java/lang/Enum" "ordinal" "I" (.int (3 : Int32)) := own_fldI ev_w_BloodType_AB nr7
  obtain ⟨n, o, h1, h2, h3, _, L, rfl, ⟨rfl, N⟩, hq⟩ := rm0 l s _ hw tables_1 i0 i1 w_BloodType_O w_BloodType_AB w_BloodType_B w_BloodType_A s.heap s.heap.size (Old.start s) ⟨S_w_BloodType_O, E_w_BloodType_O, S_w_BloodType_AB, E_w_BloodType_AB, S_w_BloodType_B, E_w_BloodType_B, S_w_BloodType_A, E_w_BloodType_A, F_ordinal_w_BloodType_B, F_ordinal_w_BloodType_O, F_ordinal_w_BloodType_A, F_ordinal_w_BloodType_AB⟩ p e ha hc hk s m _ below hf ((Spec.applies_iff_loose hf).mp happ).1 ⟨rfl, State.Warmed39.refl s, rfl⟩ trivial
  refine ⟨n, _, h1, h2, h3, hpost _ _ _ _ _ _ ⟨Cond.after_iff.mpr rfl, Cond.after_iff.mpr (eq_i res_at (Term.int_eval (1)) rfl), trivial⟩ ⟨hq.1, hq.2.1, (hq.2.2.sift fun y hy => Or.inr (N y hy)).mono (by decide) (by decide)⟩⟩
theorem main_1_1 : Claimed_1_1 := comes_1 fun _ _ _ _ _ _ h hF => ⟨h.1, hF⟩
theorem main_1_2 : Claimed_1_2 := comes_1 fun _ _ _ _ _ _ h hF => ⟨h.2.1, hF⟩
end Jvm.Pilot.@@N@@
namespace Jvm.Pilot.@@N@@
open Jvm Jvm.ClassFile Sem Op Lib Jvm.Free Jvm.Stand Jvm.Pilot.@@N@@.Jvm.D
/-! MADE BY PROGRAM (witnessworld.py) out of the Statement's table words and the real class files: 12 classes; the members and pool entries that the words name. The judged class is class 1, her method 2. -/
namespace start1
open Jvm.ClassFile
def u (s : String) : CpInfo := .utf8 (stringToUtf16 s)
/-- a pool by its gaps: so many unusable entries, then the entry; so many at the end -/
def gap : Nat → List CpInfo → List CpInfo
  | 0, r => r
  | n + 1, r => .unusable :: gap n r
def poolList (es : List (Nat × CpInfo)) (last : Nat) : List CpInfo := es.foldr (fun e r => gap e.1 (e.2 :: r)) (gap last [])
def pool (es : List (Nat × CpInfo)) (last : Nat) : Array CpInfo := ⟨poolList es last⟩
def fileOf (pool : Array CpInfo) (this : Nat) (attrs : Array Attribute := #[]) (ms : Array MethodInfo := #[]) (fl : Nat := 33) (sup : Nat := 0) (ifs : Array Nat := #[]) (fds : Array FieldInfo := #[]) : ClassFile where
  minorVersion := 0
  majorVersion := 65
  constantPool := pool
  accessFlags := fl
  thisClass := this
  superClass := sup
  interfaces := ifs
  fields := fds
  methods := ms
  attributes := attrs
def plain (name : String) (sup : Option ClassId) : Class where
  name := name
  kind := .ordinary
  loader := none
  accessFlags := 33
  super := sup
  interfaces := #[]
  cf := none
  fields := #[]
  methods := #[]
  instanceTypes := #[]
  staticTypes := #[]
  resolved := #[]
  callSites := []
  init := .initialized
  statics := none
  mirror := none

def pool0 : Array CpInfo := pool [(5, u "<init>"), (0, u "()V"), (1, .class_ 10), (1, u "java/lang/Object")] 113

def k0m0 : Method := { name := "<init>", desc := "()V", sig := { parameters := [], returnType := none }, accessFlags := 1, code := none }
/-- java/lang/Object -/
def k0 : Class := { plain "java/lang/Object" none with
  accessFlags := 33
  interfaces := #[]
  cf := some (fileOf pool0 8 #[] #[{ accessFlags := 1, nameIndex := 5, descriptorIndex := 6, attributes := #[] }] 33 0 #[] #[])
  fields := #[]
  methods := #[k0m0]
  instanceTypes := #[]
  staticTypes := #[]
  resolved := Array.replicate 124 none
  statics := none }

def pool1 : Array CpInfo := pool [(2, .class_ 4), (1, u "java/lang/Object"), (0, u "<init>"), (0, u "()V"), (0, .fieldref 8 9), (0, .class_ 10), (0, .nameAndType 11 12), (0, u "com/example/veilmatch/veilmatch/model/BloodType"), (0, u "O"), (0, u "Lcom/example/veilmatch/veilmatch/model/BloodType;"), (0, .fieldref 8 14), (0, .nameAndType 15 12), (0, u "A"), (0, .fieldref 8 17), (0, .nameAndType 18 12), (0, u "B"), (0, .fieldref 8 20), (0, .nameAndType 21 12), (0, u "AB"), (0, .methodref 23 24), (0, .class_ 25), (0, .nameAndType 26 27), (0, u "com/example/veilmatch/veilmatch/model/BloodTypeCanGiveToPinLaw"), (0, u "pick"), (0, u "(I)Lcom/example/veilmatch/veilmatch/model/BloodType;"), (0, .methodref 8 29), (0, .nameAndType 30 31), (0, u "canGiveTo"), (0, u "(Lcom/example/veilmatch/veilmatch/model/BloodType;)Z"), (3, u "law"), (0, u "(II)Z")] 2

def k1m0 : Method := { name := "<init>", desc := "()V", sig := { parameters := [], returnType := none }, accessFlags := 2, code := none }
def k1c1 : Code := { maxStack := 2, maxLocals := 1, code := method_2_code, exceptionTable := #[], attributes := #[] }
def k1m1 : Method := { name := "pick", desc := "(I)Lcom/example/veilmatch/veilmatch/model/BloodType;", sig := { parameters := [.int], returnType := some (.object "com/example/veilmatch/veilmatch/model/BloodType") }, accessFlags := 10, code := some k1c1 }
def k1c2 : Code := { maxStack := 3, maxLocals := 7, code := code, exceptionTable := #[], attributes := #[] }
def k1m2 : Method := { name := "law", desc := "(II)Z", sig := { parameters := [.int, .int], returnType := some .boolean }, accessFlags := 9, code := some k1c2 }
/-- com/example/veilmatch/veilmatch/model/BloodTypeCanGiveToPinLaw -/
def k1 : Class := { plain "com/example/veilmatch/veilmatch/model/BloodTypeCanGiveToPinLaw" (some 0) with
  accessFlags := 49
  interfaces := #[]
  cf := some (fileOf pool1 23 #[] #[{ accessFlags := 2, nameIndex := 5, descriptorIndex := 6, attributes := #[] }, { accessFlags := 10, nameIndex := 26, descriptorIndex := 27, attributes := #[] }, { accessFlags := 9, nameIndex := 35, descriptorIndex := 36, attributes := #[] }] 49 2 #[] #[])
  fields := #[]
  methods := #[k1m0, k1m1, k1m2]
  instanceTypes := #[]
  staticTypes := #[]
  resolved := Array.replicate 39 none
  statics := none }

def pool2 : Array CpInfo := pool [(1, .class_ 2), (0, u "java/lang/constant/Constable"), (0, .class_ 4), (0, u "java/lang/Object")] 6

/-- java/lang/constant/Constable -/
def k2 : Class := { plain "java/lang/constant/Constable" (some 0) with
  accessFlags := 1537
  interfaces := #[]
  cf := some (fileOf pool2 1 #[] #[] 1537 3 #[] #[])
  fields := #[]
  methods := #[]
  instanceTypes := #[]
  staticTypes := #[]
  resolved := Array.replicate 11 none
  statics := none }

def pool3 : Array CpInfo := pool [(1, .class_ 2), (0, u "java/lang/Comparable"), (0, .class_ 4), (0, u "java/lang/Object")] 7

/-- java/lang/Comparable -/
def k3 : Class := { plain "java/lang/Comparable" (some 0) with
  accessFlags := 1537
  interfaces := #[]
  cf := some (fileOf pool3 1 #[] #[] 1537 3 #[] #[])
  fields := #[]
  methods := #[]
  instanceTypes := #[]
  staticTypes := #[]
  resolved := Array.replicate 12 none
  statics := none }

def pool4 : Array CpInfo := pool [(1, .class_ 2), (0, u "java/io/Serializable"), (0, .class_ 4), (0, u "java/lang/Object")] 2

/-- java/io/Serializable -/
def k4 : Class := { plain "java/io/Serializable" (some 0) with
  accessFlags := 1537
  interfaces := #[]
  cf := some (fileOf pool4 1 #[] #[] 1537 3 #[] #[])
  fields := #[]
  methods := #[]
  instanceTypes := #[]
  staticTypes := #[]
  resolved := Array.replicate 7 none
  statics := none }

def pool5 : Array CpInfo := pool [(2, .class_ 4), (1, u "java/lang/Enum"), (0, u "name"), (0, u "Ljava/lang/String;"), (2, u "ordinal"), (0, u "I"), (1, .class_ 14), (1, u "java/lang/Object"), (4, u "hash"), (86, .class_ 108), (1, u "java/lang/Enum$EnumDesc"), (2, .class_ 112), (0, u "java/lang/constant/Constable"), (0, .class_ 114), (0, u "java/lang/Comparable"), (0, .class_ 116), (0, u "java/io/Serializable")] 87

/-- java/lang/Enum -/
def k5 : Class := { plain "java/lang/Enum" (some 0) with
  accessFlags := 1057
  interfaces := #[2, 3, 4]
  cf := some (fileOf pool5 2 #[.nestMembers #[106]] #[] 1057 12 #[111, 113, 115] #[{ accessFlags := 18, nameIndex := 5, descriptorIndex := 6, attributes := #[] }, { accessFlags := 18, nameIndex := 9, descriptorIndex := 10, attributes := #[] }, { accessFlags := 2, nameIndex := 19, descriptorIndex := 10, attributes := #[] }])
  fields := #[{ name := "name", type := (.object "java/lang/String"), accessFlags := 18, slot := 0, constantValue := 0 }, { name := "ordinal", type := .int, accessFlags := 18, slot := 1, constantValue := 0 }, { name := "hash", type := .int, accessFlags := 2, slot := 2, constantValue := 0 }]
  methods := #[]
  instanceTypes := #[(.object "java/lang/String"), .int, .int]
  staticTypes := #[]
  resolved := Array.replicate 204 none
  statics := none }

def pool6 : Array CpInfo := pool [(1, .class_ 2), (0, u "com/example/veilmatch/veilmatch/model/BloodType"), (0, .fieldref 1 4), (0, .nameAndType 5 6), (0, u "O"), (0, u "Lcom/example/veilmatch/veilmatch/model/BloodType;"), (2, u "A"), (2, u "B"), (0, .fieldref 1 14), (0, .nameAndType 15 6), (0, u "AB"), (2, u "$VALUES"), (0, u "[Lcom/example/veilmatch/veilmatch/model/BloodType;"), (6, .class_ 28), (1, u "java/lang/Enum"), (22, u "canGiveTo"), (0, u "(Lcom/example/veilmatch/veilmatch/model/BloodType;)Z")] 5

def k6c0 : Code := { maxStack := 2, maxLocals := 2, code := prog_10_method_4_code, exceptionTable := #[], attributes := #[] }
def k6m0 : Method := { name := "canGiveTo", desc := "(Lcom/example/veilmatch/veilmatch/model/BloodType;)Z", sig := { parameters := [(.object "com/example/veilmatch/veilmatch/model/BloodType")], returnType := some .boolean }, accessFlags := 1, code := some k6c0 }
/-- com/example/veilmatch/veilmatch/model/BloodType -/
def k6 : Class := { plain "com/example/veilmatch/veilmatch/model/BloodType" (some 5) with
  accessFlags := 16433
  interfaces := #[]
  cf := some (fileOf pool6 1 #[] #[{ accessFlags := 1, nameIndex := 51, descriptorIndex := 52, attributes := #[] }] 16433 26 #[] #[{ accessFlags := 16409, nameIndex := 5, descriptorIndex := 6, attributes := #[] }, { accessFlags := 16409, nameIndex := 9, descriptorIndex := 6, attributes := #[] }, { accessFlags := 16409, nameIndex := 12, descriptorIndex := 6, attributes := #[] }, { accessFlags := 16409, nameIndex := 15, descriptorIndex := 6, attributes := #[] }, { accessFlags := 4122, nameIndex := 18, descriptorIndex := 19, attributes := #[] }])
  fields := #[{ name := "O", type := (.object "com/example/veilmatch/veilmatch/model/BloodType"), accessFlags := 16409, slot := 0, constantValue := 0 }, { name := "A", type := (.object "com/example/veilmatch/veilmatch/model/BloodType"), accessFlags := 16409, slot := 1, constantValue := 0 }, { name := "B", type := (.object "com/example/veilmatch/veilmatch/model/BloodType"), accessFlags := 16409, slot := 2, constantValue := 0 }, { name := "AB", type := (.object "com/example/veilmatch/veilmatch/model/BloodType"), accessFlags := 16409, slot := 3, constantValue := 0 }, { name := "$VALUES", type := (.array (.object "com/example/veilmatch/veilmatch/model/BloodType")), accessFlags := 4122, slot := 4, constantValue := 0 }]
  methods := #[k6m0]
  instanceTypes := #[(.object "java/lang/String"), .int, .int]
  staticTypes := #[(.object "com/example/veilmatch/veilmatch/model/BloodType"), (.object "com/example/veilmatch/veilmatch/model/BloodType"), (.object "com/example/veilmatch/veilmatch/model/BloodType"), (.object "com/example/veilmatch/veilmatch/model/BloodType"), (.array (.object "com/example/veilmatch/veilmatch/model/BloodType"))]
  resolved := Array.replicate 58 none
  statics := some 0 }

def pool7 : Array CpInfo := pool [(1, u "java/lang/Cloneable"), (0, .class_ 1), (0, u "java/lang/Object"), (0, .class_ 3)] 3

/-- java/lang/Cloneable -/
def k7 : Class := { plain "java/lang/Cloneable" (some 0) with
  accessFlags := 1537
  interfaces := #[]
  cf := some (fileOf pool7 2 #[] #[] 1537 4 #[] #[])
  fields := #[]
  methods := #[]
  instanceTypes := #[]
  staticTypes := #[]
  resolved := Array.replicate 8 none
  statics := none }

/-- the primitive byte -/
def k8 : Class := { plain "byte" none with kind := .primitive 'B', accessFlags := 0x411 }
/-- [B -/
def k9 : Class := { plain "[B" (some 0) with kind := .array 8 .byte, interfaces := #[7, 4], accessFlags := 1041 }

/-- the primitive int -/
def k10 : Class := { plain "int" none with kind := .primitive 'I', accessFlags := 0x411 }
/-- [I -/
def k11 : Class := { plain "[I" (some 0) with kind := .array 10 .int, interfaces := #[7, 4], accessFlags := 1041 }

def heap : Heap := #[{ cls := 6, slots := #[.ref 1, .ref 4, .ref 3, .ref 2, .null], vm := .statics 6 },
  { cls := 6, slots := #[.null, .int 0, .int 0], vm := .none },
  { cls := 6, slots := #[.null, .int 3, .int 0], vm := .none },
  { cls := 6, slots := #[.null, .int 2, .int 0], vm := .none },
  { cls := 6, slots := #[.null, .int 1, .int 0], vm := .none }]
def classes : Array Class := #[k0, k1, k2, k3, k4, k5, k6, k7, k8, k9, k10, k11]
def interned : List (Array UInt16 × Addr) := []
def slotsUsed : Nat := 17
def theMethod : MethodId := ⟨1, 2⟩
def args0 : Array Value := #[.int 5, .int 6]
def aboutOver (below : List Frame) : State where
  vm := { classes := classes, interned := interned.toArray }
  heap := heap
  slotsUsed := slotsUsed
  threads := #[{ frames := .invoking theMethod args0 :: below }]
def below0 : List Frame := [.native { method := ⟨0, 0⟩, args := #[] }]
def about1 : State := aboutOver below0
def p0 : Program := .bare "" "" ""
def e0 : Env := launch0.env 0 0 0
theorem w_frames : about1.frames = Frame.invoking theMethod args0 :: below0 := rfl
set_option maxRecDepth 65536 in
theorem w_args : argsFit about1.vm theMethod args0 = true := by decide +kernel
set_option maxRecDepth 65536 in
theorem w_heap : heapFits about1 = true := by decide +kernel
set_option maxRecDepth 65536 in
theorem w_runnable : about1.curStatus? = some .runnable := by decide +kernel
set_option maxRecDepth 65536 in
theorem w_alone : about1.alone = true := by decide +kernel
set_option maxRecDepth 65536 in
theorem w_named : about1.methodNamed? x = some theMethod := by decide +kernel
set_option maxRecDepth 65536 in
theorem w_hears : about1.hears theMethod below0 = true := by decide +kernel
set_option maxRecDepth 65536 in
theorem w_ripe : about1.ripe theMethod args0 below0 = true := by decide +kernel
theorem w_running : about1.status = .running := rfl
set_option maxRecDepth 65536 in
theorem w_room : about1.hasRoom e0.platform room_1 = true :=
  launch0.hasRoom_least _ room_1 (by decide +kernel) (by decide +kernel) (by decide +kernel) (by decide +kernel) (by decide +kernel) (by decide +kernel)
theorem allAtoms_all (ts : List Jvm.Cond) (a : Array Jvm.Value) (st : Jvm.State) : (allAtoms ts).before a st = ts.all (fun c => c.before a st) := by
  induction ts with
  | nil => rfl
  | cons c t ih =>
    show (Jvm.Cond.and c (allAtoms t)).before a st = _
    rw [Jvm.Cond.before_and, ih, List.all_cons]
def words1 : List Jvm.Cond := Jvm.Cond.code x code maxLocals ret :: tables_1
/-- a 'code' word, met by the world's own term for the bytes: nothing is compared byte by byte -/
theorem code_word {y : MethodName} {bytes : ByteArray} {mx : Nat} {rt : Option FieldType} {a : Array Value} {s : State} {m : MethodId} {meth : Method} {c : Code} (h1 : s.methodNamed? y = some m) (h2 : s.vm.method? m = some meth) (h3 : meth.code = some c) (h4 : c.code = bytes)
    (h5 : (c.maxLocals == mx && c.exceptionTable.isEmpty && decide (c.maxStack ≤ mostOperands) && decide (meth.sig.returnType = rt) && !meth.locks && decide (parseMethodDescriptor y.desc = some meth.sig)) = true) : (Jvm.Cond.code y bytes mx rt).before a s = true := by
  simp only [Bool.and_eq_true, beq_iff_eq, Bool.not_eq_true', decide_eq_true_eq] at h5
  obtain ⟨⟨⟨⟨⟨g1, g2⟩, g3⟩, g4⟩, g5⟩, g6⟩ := h5
  simp [Cond.before, Cond.holds, Cond.value, h1, h2, h3, h4, g1, g2, g3, g4, g5, g6]
def isCode : Jvm.Cond → Bool
  | .code _ _ _ _ => true
  | _ => false
theorem all_split {L : List Jvm.Cond} {P : Jvm.Cond → Bool} (h1 : L.all (fun c => isCode c || P c) = true) (h2 : ∀ c ∈ L.filter isCode, P c = true) : L.all P = true := by
  refine List.all_eq_true.mpr fun c hc => ?_
  have h := List.all_eq_true.mp h1 c hc
  rcases Bool.eq_false_or_eq_true (isCode c) with hi | hi
  · exact h2 c (List.mem_filter.mpr ⟨hc, hi⟩)
  · simpa [hi] using h
set_option maxRecDepth 65536 in
theorem w_c0 : (Jvm.Cond.code x code maxLocals ret).before args0 about1 = true := code_word (m := ⟨1, 2⟩) (meth := k1m2) (c := k1c2) (by decide +kernel) rfl rfl rfl (by decide +kernel)
set_option maxRecDepth 65536 in
theorem w_c1 : (Jvm.Cond.code ({ cls := "com/example/veilmatch/veilmatch/model/BloodTypeCanGiveToPinLaw", name := "pick", desc := "(I)Lcom/example/veilmatch/veilmatch/model/BloodType;" } : Jvm.MethodName) method_2_code (1 : Nat) (Option.some (Jvm.ClassFile.FieldType.object "com/example/veilmatch/veilmatch/model/BloodType"))).before args0 about1 = true := code_word (m := ⟨1, 1⟩) (meth := k1m1) (c := k1c1) (by decide +kernel) rfl rfl rfl (by decide +kernel)
set_option maxRecDepth 65536 in
theorem w_c2 : (Jvm.Cond.code ({ cls := "com/example/veilmatch/veilmatch/model/BloodType", name := "canGiveTo", desc := "(Lcom/example/veilmatch/veilmatch/model/BloodType;)Z" } : Jvm.MethodName) prog_10_method_4_code (2 : Nat) (Option.some Jvm.ClassFile.FieldType.boolean)).before args0 about1 = true := code_word (m := ⟨6, 0⟩) (meth := k6m0) (c := k6c0) (by decide +kernel) rfl rfl rfl (by decide +kernel)
def codes1 : List Jvm.Cond := [Jvm.Cond.code x code maxLocals ret, Jvm.Cond.code ({ cls := "com/example/veilmatch/veilmatch/model/BloodTypeCanGiveToPinLaw", name := "pick", desc := "(I)Lcom/example/veilmatch/veilmatch/model/BloodType;" } : Jvm.MethodName) method_2_code (1 : Nat) (Option.some (Jvm.ClassFile.FieldType.object "com/example/veilmatch/veilmatch/model/BloodType")), Jvm.Cond.code ({ cls := "com/example/veilmatch/veilmatch/model/BloodType", name := "canGiveTo", desc := "(Lcom/example/veilmatch/veilmatch/model/BloodType;)Z" } : Jvm.MethodName) prog_10_method_4_code (2 : Nat) (Option.some Jvm.ClassFile.FieldType.boolean)]
set_option maxRecDepth 65536 in
theorem codes_eq : words1.filter isCode = codes1 := rfl
theorem w_codes : ∀ c ∈ words1.filter isCode, c.before args0 about1 = true := by
  rw [codes_eq]
  intro c hc
  simp only [codes1, List.mem_cons, List.not_mem_nil, or_false] at hc
  rcases hc with rfl | rfl | rfl
  · exact w_c0
  · exact w_c1
  · exact w_c2
set_option maxRecDepth 65536 in
theorem w_t1 : words1.all (fun c => isCode c || c.before args0 about1) = true := by decide +kernel
theorem w_tables : (allAtoms (Jvm.Cond.code x code maxLocals ret :: tables_1)).before args0 about1 = true := by
  rw [allAtoms_all]
  show words1.all (fun c => c.before args0 about1) = true
  refine all_split ?_ w_codes
  rw [w_t1]
set_option maxRecDepth 65536 in
theorem w_case : (Jvm.Cond.and given_1 narrow_1).before args0 about1 = true := by decide +kernel
theorem w_applies : (headSpec (Jvm.Cond.code x code maxLocals ret :: tables_1) room_1).applies x e0.platform about1 = true :=
  (Spec.applies_iff w_frames).mpr ⟨w_running, w_runnable, w_alone, w_named, w_hears, w_ripe, w_room, w_tables⟩
theorem atStart : AtStart classFile x code maxLocals ret World_1 tables_1 room_1 Calls_1 rest_1 Pre_1 launch0 p0 e0 about1 theMethod args0 below0 :=
  ⟨lists_1, trivial, launch0.admits_env _ _ _, launch0.least_env, fairChoices_fair.cas, fairChoices_fair.clock, w_frames, w_args, w_heap, w_applies, trivial, trivial, w_case⟩
end start1
theorem witness_1 : WitnessClaimed_1 := ⟨start1.p0, start1.e0, start1.about1, start1.theMethod, start1.args0, start1.below0, start1.atStart⟩
end Jvm.Pilot.@@N@@
