import JvmDerived
import JvmDerived.Pilot.@@N@@Statement
import JvmDerived.Pilot.@@N@@Code
set_option linter.unusedVariables false
set_option linter.unusedSimpArgs false
namespace Jvm.Pilot.@@N@@
open Jvm Jvm.ClassFile Sem Op Lib Jvm.Free Jvm.Stand Jvm.LawKit Jvm.RoadKit Bundle Jvm.Pilot.@@N@@.Jvm.D
/-- from T the run goes on to an end of which Qf says what it is -/
def Goes (tb : Tables) (e : Env) (below : List Frame) (Qf : Outcome → State → Prop) (T : State) : Prop := ∃ s₂ o, Steps tb e below T s₂ ∧ s₂.status = .running ∧ Ended s₂ below o ∧ Qf o s₂
theorem Goes.to {tb : Tables} {e : Env} {below : List Frame} {Qf : Outcome → State → Prop} {T T' : State} (k : ∀ t, Steps tb e below T' t → Steps tb e below T t) (h : Goes tb e below Qf T') : Goes tb e below Qf T := by
  obtain ⟨s, o, h1, h2⟩ := h; exact ⟨s, o, k s h1, h2⟩
theorem Goes.thru {tb : Tables} {e : Env} {below : List Frame} {Qf : Outcome → State → Prop} {T T' : State} (k : Steps tb e below T T') (h : Goes tb e below Qf T') : Goes tb e below Qf T := by
  obtain ⟨s, o, h1, h2⟩ := h; exact ⟨s, o, k.trans h1, h2⟩
theorem own_old {Z : State} {n0 : Nat} {h : Heap} (O : Old Z n0 h) : n0 ≤ h.size := O.1 ▸ O.2.1
theorem own_ext_keep {h h' : Heap} (K : Keep h h' []) : Ext h h' := ⟨K.1, fun a c q => K.2.1 a c q nin0⟩
theorem own_nsroot {Z : State} {a0 : Array Value} {O K : String} {n : Nat} (w : (Jvm.Cond.noSuperclass O).before a0 Z = true) (wk : (Jvm.Cond.instantiable K n).before a0 Z = true) (hn : O ≠ K) : NS Z O K := by
  obtain ⟨c, k, h1, h2, h3, -, -⟩ := Cond.noSuperclass_spec w
  obtain ⟨t, k2, g1, -⟩ := Cond.instantiable_spec wk
  have ne := ids_ne h1 g1 hn
  refine ⟨c, t, h1, g1, fun fuel => ?_⟩
  cases fuel with
  | zero => rfl
  | succ f => simp [Vm.isSubclassAux, ne, h2, h3]
theorem own_nsno {Z : State} {a0 : Array Value} {C S K : String} {n : Nat} (w : (Jvm.Cond.superclass C S).before a0 Z = true) (wk : (Jvm.Cond.instantiable K n).before a0 Z = true) (ns : NS Z C K) (hn : C ≠ K) : ∃ c t, Z.vm.findClass C = some c ∧ Z.vm.findClass K = some t ∧ Z.vm.assignable c t = false := by
  obtain ⟨c, t, h0, g0, n3⟩ := ns
  obtain ⟨p, k, kp, h1, h2, h3, h4, h5, -, h7⟩ := Cond.superclass_spec h0 w
  obtain ⟨t', k', g1, g2, g5, g7, -⟩ := Cond.instantiable_spec wk
  cases g0.symm.trans g1
  have ne := ids_ne h0 g0 hn
  refine ⟨c, t, h0, g0, ?_⟩
  show Z.vm.assignableAux (255 + 1) c t = false
  simp [Vm.assignableAux, ne, h2, g2, h5, g5, (Bool.or_eq_false_iff.mp g7).1, Vm.isSubclass, n3]
theorem own_selp {s : State} {args : Array Value} {y : MethodName} {n : Nat} (wi : (Jvm.Cond.instantiable y.cls n).before args s = true) (hp : (Jvm.Cond.privateMethod y).before args s = true) (hinst : (Jvm.Cond.instanceMethod y).before args s = true) (hy : y.cls ≠ "java/lang/invoke/MethodHandle" ∧ y.cls ≠ "java/lang/invoke/VarHandle") : (Jvm.Cond.selects y.cls y y).before args s = true := by
  obtain ⟨c, k, h1, h2, -, h4, -⟩ := Cond.instantiable_spec wi
  exact selects_self_of_private h1 h2 (Bool.or_eq_false_iff.mp h4).1 (Cond.privateMethod_at hp) hinst hy
theorem own_keep_ext {h h' : Heap} (E : Ext h h') : Keep h h' [] := (Keep.refl h []).ext E
theorem own_len {s : State} {args : Array Value} {t : Term} {a : Addr} {cl : Cell} {ty : FieldType} {k : Int32} (ht : t.eval args s none [] s = some (.ref a)) (A : Arr s s.heap a cl ty) (h : (Cond.eq (.length t) (.int k)).value args s none s [] = some true) : cl.slots.size < 2 ^ 31 ∧ cl.slots.size.toInt32 = k := by
  obtain ⟨x, y, e1, e2, -, k2⟩ := cmp_v (Or.inl h)
  obtain rfl : Value.int k = y := Option.some.inj e2
  obtain ⟨z, rfl⟩ := k2
  have q : (z = k) := gotT (P := z = k) (by simp [Cond.value, e1, e2]) h
  subst q
  have hA := A.fin (Vm.Alike.refl _)
  by_cases hl : cl.slots.size < 2 ^ 31
  · rw [len_f ht hA hl] at e1
    exact ⟨hl, by simpa using e1⟩
  · simp [Term.eval, ht, hA, hl] at e1
theorem own_stR {s : State} {args : Array Value} {t u : Term} {b : Addr} (h : (Cond.eq t u).value args s none s [] = some true) (hu : u.eval args s none [] s = some (.ref b)) : t.eval args s none [] s = some (.ref b) := by
  obtain ⟨x, y, e1, e2, k1, k2⟩ := cmp_v (Or.inl h)
  obtain rfl : y = Value.ref b := Option.some.inj (e2.symm.trans hu)
  have hx : x.isRef = true := by cases x <;> simp [Kin, Value.isRef] at k1 k2 ⊢
  have q : x = Value.ref b := gotT (eq_R e1 e2 hx rfl) h
  subst q; exact e1
theorem own_fldI {s : State} {args : Array Value} {t : Term} {a : Addr} {C n d : String} {k : Int32} (ht : t.eval args s none [] s = some (.ref a)) (h : (Cond.eq (.field t C n d) (.int k)).value args s none s [] = some true) : Fld s s.heap a C n d (.int k) := by
  obtain ⟨x, y, e1, e2, -, k2⟩ := cmp_v (Or.inl h)
  obtain rfl : Value.int k = y := Option.some.inj e2
  obtain ⟨z, rfl⟩ := k2
  have q : (z = k) := gotT (P := z = k) (by simp [Cond.value, e1, e2]) h
  subst q
  exact Fld.start (by rw [← fld_at ht]; exact e1)
theorem own_fldL {s : State} {args : Array Value} {t : Term} {a : Addr} {C n d : String} {k : Int64} (ht : t.eval args s none [] s = some (.ref a)) (h : (Cond.eq (.field t C n d) (.long k)).value args s none s [] = some true) : Fld s s.heap a C n d (.long k) := by
  obtain ⟨x, y, e1, e2, -, k2⟩ := cmp_v (Or.inl h)
  obtain rfl : Value.long k = y := Option.some.inj e2
  obtain ⟨z, rfl⟩ := k2
  have q : (z = k) := gotT (P := z = k) (by simp [Cond.value, e1, e2]) h
  subst q
  exact Fld.start (by rw [← fld_at ht]; exact e1)
theorem own_fldN {s : State} {args : Array Value} {t : Term} {a : Addr} {C n d : String} (ht : t.eval args s none [] s = some (.ref a)) (h : (Cond.eq (.field t C n d) .null).value args s none s [] = some true) : Fld s s.heap a C n d .null :=
  Fld.start (by rw [← fld_at ht]; exact null_v h)
theorem own_fldR {s : State} {args : Array Value} {t : Term} {a b : Addr} {C n d : String} (ht : t.eval args s none [] s = some (.ref a)) (h : (Term.field t C n d).eval args s none [] s = some (.ref b)) : Fld s s.heap a C n d (.ref b) :=
  Fld.start (by rw [← fld_at ht]; exact h)
theorem own_stI {s : State} {args : Array Value} {t : Term} {k : Int32} (h : (Cond.eq t (.int k)).value args s none s [] = some true) : t.eval args s none [] s = some (.int k) := by
  obtain ⟨x, y, e1, e2, -, k2⟩ := cmp_v (Or.inl h)
  obtain rfl : Value.int k = y := Option.some.inj e2
  obtain ⟨z, rfl⟩ := k2
  have q : (z = k) := gotT (P := z = k) (by simp [Cond.value, e1, e2]) h
  subst q; exact e1
def Nar (Z : State) (w_LinkState_PROTECTION : Addr) (w_LinkState_WORKING : Addr) (w_LinkState_BOTH : Addr) (w_LinkState_IDLE : Addr) : Prop := (Sta Z Z.heap "com/example/carve_spectrum/carvespectrum/LinkState" "PROTECTION" "Lcom/example/carve_spectrum/carvespectrum/LinkState;" (.ref w_LinkState_PROTECTION)) ∧ (Exa Z Z.heap w_LinkState_PROTECTION "com/example/carve_spectrum/carvespectrum/LinkState") ∧ (Sta Z Z.heap "com/example/carve_spectrum/carvespectrum/LinkState" "WORKING" "Lcom/example/carve_spectrum/carvespectrum/LinkState;" (.ref w_LinkState_WORKING)) ∧ (Exa Z Z.heap w_LinkState_WORKING "com/example/carve_spectrum/carvespectrum/LinkState") ∧ (Sta Z Z.heap "com/example/carve_spectrum/carvespectrum/LinkState" "BOTH" "Lcom/example/carve_spectrum/carvespectrum/LinkState;" (.ref w_LinkState_BOTH)) ∧ (Exa Z Z.heap w_LinkState_BOTH "com/example/carve_spectrum/carvespectrum/LinkState") ∧ (Sta Z Z.heap "com/example/carve_spectrum/carvespectrum/LinkState" "IDLE" "Lcom/example/carve_spectrum/carvespectrum/LinkState;" (.ref w_LinkState_IDLE)) ∧ (Exa Z Z.heap w_LinkState_IDLE "com/example/carve_spectrum/carvespectrum/LinkState") ∧ (Fld Z Z.heap w_LinkState_PROTECTION "java/lang/Enum" "ordinal" "I" (.int (2 : Int32))) ∧ (Fld Z Z.heap w_LinkState_WORKING "java/lang/Enum" "ordinal" "I" (.int (0 : Int32))) ∧ (Fld Z Z.heap w_LinkState_BOTH "java/lang/Enum" "ordinal" "I" (.int (1 : Int32))) ∧ (Fld Z Z.heap w_LinkState_IDLE "java/lang/Enum" "ordinal" "I" (.int (3 : Int32)))
theorem d1_0 : decode prog_32_method_4_code 0 = .ok (.iload_n 0, 1) := by decide +kernel
theorem d1_1 : decode prog_32_method_4_code 1 = .ok (.ifCond .le 14, 3) := by decide +kernel
theorem d1_4 : decode prog_32_method_4_code 4 = .ok (.iload_n 1, 1) := by decide +kernel
theorem d1_5 : decode prog_32_method_4_code 5 = .ok (.ifCond .le 10, 3) := by decide +kernel
theorem d1_8 : decode prog_32_method_4_code 8 = .ok (.getstatic 7, 3) := by decide +kernel
theorem d1_11 : decode prog_32_method_4_code 11 = .ok (.astore_n 2, 1) := by decide +kernel
theorem d1_12 : decode prog_32_method_4_code 12 = .ok (.goto 29, 3) := by decide +kernel
theorem d1_15 : decode prog_32_method_4_code 15 = .ok (.iload_n 0, 1) := by decide +kernel
theorem d1_16 : decode prog_32_method_4_code 16 = .ok (.ifCond .le 10, 3) := by decide +kernel
theorem d1_19 : decode prog_32_method_4_code 19 = .ok (.getstatic 3, 3) := by decide +kernel
theorem d1_22 : decode prog_32_method_4_code 22 = .ok (.astore_n 2, 1) := by decide +kernel
theorem d1_23 : decode prog_32_method_4_code 23 = .ok (.goto 18, 3) := by decide +kernel
theorem d1_26 : decode prog_32_method_4_code 26 = .ok (.iload_n 1, 1) := by decide +kernel
theorem d1_27 : decode prog_32_method_4_code 27 = .ok (.ifCond .le 10, 3) := by decide +kernel
theorem d1_30 : decode prog_32_method_4_code 30 = .ok (.getstatic 10, 3) := by decide +kernel
theorem d1_33 : decode prog_32_method_4_code 33 = .ok (.astore_n 2, 1) := by decide +kernel
theorem d1_34 : decode prog_32_method_4_code 34 = .ok (.goto 7, 3) := by decide +kernel
theorem d1_37 : decode prog_32_method_4_code 37 = .ok (.getstatic 13, 3) := by decide +kernel
theorem d1_40 : decode prog_32_method_4_code 40 = .ok (.astore_n 2, 1) := by decide +kernel
theorem d1_41 : decode prog_32_method_4_code 41 = .ok (.aload_n 2, 1) := by decide +kernel
theorem d1_42 : decode prog_32_method_4_code 42 = .ok (.areturn, 1) := by decide +kernel
theorem pn_1 : plainName "com/example/carve_spectrum/carvespectrum/LinkState" = true := by first | (simp [plainName, overriddenIn]; done) | decide +kernel
theorem ef_rm1 (m : MethodId) (x0 : Int32) (x1 : Int32) : entryFrame m #[(.int x0), (.int x1)] 3 = mkF m 0 #[.val (.int x0), .val (.int x1), .unset] [] := by first | (simp [entryFrame, mkF, argsToLocals, Value.category]; done) | rfl
def Q_rm1 (Z : State) (p0 : Int32) (p1 : Int32) (w_LinkState_PROTECTION : Addr) (w_LinkState_WORKING : Addr) (w_LinkState_BOTH : Addr) (w_LinkState_IDLE : Addr) (r : Addr) (h0 : Heap) (n0 : Nat) (v : Option Value) (h : Heap) (L : List Loc) : Prop := v = some (.ref r) ∧ Fr n0 L ∧ h = h0
set_option maxRecDepth 65536 in
set_option maxHeartbeats 40000000 in
theorem rm1 (l : Launch) (Z : State) (a0 : Array Value) (hw : ∀ d ∈ tables_1, d.before a0 Z = true) (ws : List Jvm.Cond) (p0 : Int32) (p1 : Int32) (w_LinkState_PROTECTION : Addr) (w_LinkState_WORKING : Addr) (w_LinkState_BOTH : Addr) (w_LinkState_IDLE : Addr) (r : Addr) (h0 : Heap) (n0 : Nat) (O0 : Old Z n0 h0) (NF : Nar Z w_LinkState_PROTECTION w_LinkState_WORKING w_LinkState_BOTH w_LinkState_IDLE) (hr : r = if (0 : Int32) < p0 then (if (0 : Int32) < p1 then w_LinkState_BOTH else w_LinkState_WORKING) else (if (0 : Int32) < p1 then w_LinkState_PROTECTION else w_LinkState_IDLE)) :
    MetFree l (⟨"com/example/carve_spectrum/carvespectrum/LinkState", "of", "(II)Lcom/example/carve_spectrum/carvespectrum/LinkState;"⟩ : MethodName) (head1 (Jvm.Cond.code (⟨"com/example/carve_spectrum/carvespectrum/LinkState", "of", "(II)Lcom/example/carve_spectrum/carvespectrum/LinkState;"⟩ : MethodName) prog_32_method_4_code 3 (some (.object "com/example/carve_spectrum/carvespectrum/LinkState")) :: ws) ({ frames := 0, cells := 0, slots := 0, locals := 0 } : Room)) (fun a U => a = #[(.int p0), (.int p1)] ∧ Z.Warmed39 U.vm ∧ U.heap = h0) (fun _ _ _ _ _ => True) (fun _ U o U' => ∃ v L, o = .returned v ∧ Q_rm1 Z p0 p1 w_LinkState_PROTECTION w_LinkState_WORKING w_LinkState_BOTH w_LinkState_IDLE r h0 n0 v U'.heap L ∧ FrameEnd U o U' L ({ frames := 0, cells := 0, slots := 0, locals := 0 } : Room).cells ({ frames := 0, cells := 0, slots := 0, locals := 0 } : Room).slots) := by
  refine MetFree.of_bodySF (plainFor_of_name pn_1) hisR ?_
  intro p e s m args below meth c s₁ Bd hml0 hP hK
  obtain ⟨rfl, hZ, hh⟩ := hP
  have hx := Bd.exec
  have hby := Bd.bytes
  have hml : c.maxLocals = 3 := hml0
  have hown : s.vm.findClass "com/example/carve_spectrum/carvespectrum/LinkState" = some m.cls := findClass_of_methodNamed Bd.named
  have hnm := (name_of_methodNamed Bd.named Bd.method).1
  have X0 : Stand p l e ({ frames := 0, cells := 0, slots := 0, locals := 0 } : Room) s m #[(.int p0), (.int p1)] below meth c s₁ [] 0 0 := Stand.of_body Bd
  have e0 : s₁.heap = h0 := by rw [← hh, Bd.state]; rfl
  have N0 := Fr.nil n0
  suffices G : ∀ (Qf : Outcome → State → Prop), Qf = (fun (_ : Array Value) (U : State) (o : Outcome) (U' : State) => ∃ v L, o = .returned v ∧ Q_rm1 Z p0 p1 w_LinkState_PROTECTION w_LinkState_WORKING w_LinkState_BOTH w_LinkState_IDLE r h0 n0 v U'.heap L ∧ FrameEnd U o U' L ({ frames := 0, cells := 0, slots := 0, locals := 0 } : Room).cells ({ frames := 0, cells := 0, slots := 0, locals := 0 } : Room).slots) #[] s → Goes p.tables e below Qf (s₁.setTop (mkF m 0 #[.val (.int p0), .val (.int p1), .unset] [])) by
    obtain ⟨s₂, o, g1, g2, g3, g4⟩ := G _ rfl
    exact ⟨s₂, o, castTop (ef_rm1 m _ _) g1, g2, g3, g4⟩
  intro Qf hQf
  obtain ⟨S_w_LinkState_PROTECTION, E_w_LinkState_PROTECTION, S_w_LinkState_WORKING, E_w_LinkState_WORKING, S_w_LinkState_BOTH, E_w_LinkState_BOTH, S_w_LinkState_IDLE, E_w_LinkState_IDLE, F_ordinal_w_LinkState_PROTECTION, F_ordinal_w_LinkState_WORKING, F_ordinal_w_LinkState_BOTH, F_ordinal_w_LinkState_IDLE⟩ := id NF
  refine Goes.to (T' := s₁.setTop (mkF m 1 #[.val (.int p0), .val (.int p1), .unset] [(.int p0)])) (fun t k => XS.iloadN X0.here hx rfl (hb hby d1_0) rfl k) ?_
  rcases Decidable.em ((0 : Int32) < p0) with hc1_1 | hc1_1
  · skip
    refine Goes.to (T' := s₁.setTop (mkF m 4 #[.val (.int p0), .val (.int p1), .unset] [])) (fun t k => XS.ifNo X0.here hx rfl (hb hby d1_1) rfl ((if0 _ _).trans (tlt hc1_1).2.2.2) k) ?_
    refine Goes.to (T' := s₁.setTop (mkF m 5 #[.val (.int p0), .val (.int p1), .unset] [(.int p1)])) (fun t k => XS.iloadN X0.here hx rfl (hb hby d1_4) rfl k) ?_
    rcases Decidable.em ((0 : Int32) < p1) with hc5_2 | hc5_2
    · skip
      refine Goes.to (T' := s₁.setTop (mkF m 8 #[.val (.int p0), .val (.int p1), .unset] [])) (fun t k => XS.ifNo X0.here hx rfl (hb hby d1_5) rfl ((if0 _ _).trans (tlt hc5_2).2.2.2) k) ?_
      obtain ⟨T3, X3, e3, st3⟩ := getS2 X0 hx hZ hown (host := "") (Or.inl (hw _ (List.mem_of_getElem? (i := 11) rfl))) Via.refl e0 (S_w_LinkState_BOTH.ext O0.2) (g := (mkF m 8 #[.val (.int p0), .val (.int p1), .unset] [])) rfl (hb hby d1_8)
      refine Goes.to (T' := T3.setTop (mkF m 11 #[.val (.int p0), .val (.int p1), .unset] [(.ref w_LinkState_BOTH)])) st3 ?_
      refine Goes.to (T' := T3.setTop (mkF m 12 #[.val (.int p0), .val (.int p1), .val (.ref w_LinkState_BOTH)] [])) (fun t k => XS.astoreN X3.here hx rfl (hb hby d1_11) rfl rfl (l' := #[.val (.int p0), .val (.int p1), .val (.ref w_LinkState_BOTH)]) rfl k) ?_
      refine Goes.to (T' := T3.setTop (mkF m 41 #[.val (.int p0), .val (.int p1), .val (.ref w_LinkState_BOTH)] [])) (fun t k => XS.goto X3.here hx rfl (pc0 := 12) (pc' := 41) rfl (hb hby d1_12) (by decide) (by decide) k) ?_
      refine Goes.to (T' := T3.setTop (mkF m 42 #[.val (.int p0), .val (.int p1), .val (.ref w_LinkState_BOTH)] [(.ref w_LinkState_BOTH)])) (fun t k => XS.aloadN X3.here hx rfl (hb hby d1_41) rfl rfl k) ?_
      obtain ⟨fs, hrL, hrun, hended, hW, hsame⟩ := X3.leave (v := some (.ref w_LinkState_BOTH)) (fun h => by rw [Bd.returns] at h; cases h)
      subst hQf
      refine ⟨_, _, retOut X3 hx Bd.returns rfl (Or.inr (Or.inr (Or.inr (Or.inr ⟨rfl, rfl, rfl⟩)))) (hb hby d1_42) hrL, hrun, hended, _, _, rfl, ?_, ⟨_, rfl⟩, hW, hsame.mono (by decide) (by decide)⟩
      show (fun (v : Option Value) (h : Heap) (L : List Loc) => v = some (.ref r) ∧ Fr n0 L ∧ h = h0) (some (.ref w_LinkState_BOTH)) T3.heap _
      rw [e3]
      have hv : w_LinkState_BOTH = r := by rw [hr]; simp [hc1_1, hc5_2]
      exact ⟨by rw [hv], N0, rfl⟩
    · skip
      refine Goes.to (T' := s₁.setTop (mkF m 15 #[.val (.int p0), .val (.int p1), .unset] [])) (fun t k => XS.ifYes X0.here hx rfl (pc0 := 5) (pc' := 15) rfl (hb hby d1_5) rfl ((if0 _ _).trans (flt hc5_2).2.2.2) (by decide) (by decide) k) ?_
      refine Goes.to (T' := s₁.setTop (mkF m 16 #[.val (.int p0), .val (.int p1), .unset] [(.int p0)])) (fun t k => XS.iloadN X0.here hx rfl (hb hby d1_15) rfl k) ?_
      refine Goes.to (T' := s₁.setTop (mkF m 19 #[.val (.int p0), .val (.int p1), .unset] [])) (fun t k => XS.ifNo X0.here hx rfl (hb hby d1_16) rfl ((if0 _ _).trans (tlt hc1_1).2.2.2) k) ?_
      obtain ⟨T4, X4, e4, st4⟩ := getS2 X0 hx hZ hown (host := "") (Or.inl (hw _ (List.mem_of_getElem? (i := 14) rfl))) Via.refl e0 (S_w_LinkState_WORKING.ext O0.2) (g := (mkF m 19 #[.val (.int p0), .val (.int p1), .unset] [])) rfl (hb hby d1_19)
      refine Goes.to (T' := T4.setTop (mkF m 22 #[.val (.int p0), .val (.int p1), .unset] [(.ref w_LinkState_WORKING)])) st4 ?_
      refine Goes.to (T' := T4.setTop (mkF m 23 #[.val (.int p0), .val (.int p1), .val (.ref w_LinkState_WORKING)] [])) (fun t k => XS.astoreN X4.here hx rfl (hb hby d1_22) rfl rfl (l' := #[.val (.int p0), .val (.int p1), .val (.ref w_LinkState_WORKING)]) rfl k) ?_
      refine Goes.to (T' := T4.setTop (mkF m 41 #[.val (.int p0), .val (.int p1), .val (.ref w_LinkState_WORKING)] [])) (fun t k => XS.goto X4.here hx rfl (pc0 := 23) (pc' := 41) rfl (hb hby d1_23) (by decide) (by decide) k) ?_
      refine Goes.to (T' := T4.setTop (mkF m 42 #[.val (.int p0), .val (.int p1), .val (.ref w_LinkState_WORKING)] [(.ref w_LinkState_WORKING)])) (fun t k => XS.aloadN X4.here hx rfl (hb hby d1_41) rfl rfl k) ?_
      obtain ⟨fs, hrL, hrun, hended, hW, hsame⟩ := X4.leave (v := some (.ref w_LinkState_WORKING)) (fun h => by rw [Bd.returns] at h; cases h)
      subst hQf
      refine ⟨_, _, retOut X4 hx Bd.returns rfl (Or.inr (Or.inr (Or.inr (Or.inr ⟨rfl, rfl, rfl⟩)))) (hb hby d1_42) hrL, hrun, hended, _, _, rfl, ?_, ⟨_, rfl⟩, hW, hsame.mono (by decide) (by decide)⟩
      show (fun (v : Option Value) (h : Heap) (L : List Loc) => v = some (.ref r) ∧ Fr n0 L ∧ h = h0) (some (.ref w_LinkState_WORKING)) T4.heap _
      rw [e4]
      have hv : w_LinkState_WORKING = r := by rw [hr]; simp [hc1_1, hc5_2]
      exact ⟨by rw [hv], N0, rfl⟩
  · skip
    refine Goes.to (T' := s₁.setTop (mkF m 15 #[.val (.int p0), .val (.int p1), .unset] [])) (fun t k => XS.ifYes X0.here hx rfl (pc0 := 1) (pc' := 15) rfl (hb hby d1_1) rfl ((if0 _ _).trans (flt hc1_1).2.2.2) (by decide) (by decide) k) ?_
    refine Goes.to (T' := s₁.setTop (mkF m 16 #[.val (.int p0), .val (.int p1), .unset] [(.int p0)])) (fun t k => XS.iloadN X0.here hx rfl (hb hby d1_15) rfl k) ?_
    refine Goes.to (T' := s₁.setTop (mkF m 26 #[.val (.int p0), .val (.int p1), .unset] [])) (fun t k => XS.ifYes X0.here hx rfl (pc0 := 16) (pc' := 26) rfl (hb hby d1_16) rfl ((if0 _ _).trans (flt hc1_1).2.2.2) (by decide) (by decide) k) ?_
    refine Goes.to (T' := s₁.setTop (mkF m 27 #[.val (.int p0), .val (.int p1), .unset] [(.int p1)])) (fun t k => XS.iloadN X0.here hx rfl (hb hby d1_26) rfl k) ?_
    rcases Decidable.em ((0 : Int32) < p1) with hc27_5 | hc27_5
    · skip
      refine Goes.to (T' := s₁.setTop (mkF m 30 #[.val (.int p0), .val (.int p1), .unset] [])) (fun t k => XS.ifNo X0.here hx rfl (hb hby d1_27) rfl ((if0 _ _).trans (tlt hc27_5).2.2.2) k) ?_
      obtain ⟨T6, X6, e6, st6⟩ := getS2 X0 hx hZ hown (host := "") (Or.inl (hw _ (List.mem_of_getElem? (i := 4) rfl))) Via.refl e0 (S_w_LinkState_PROTECTION.ext O0.2) (g := (mkF m 30 #[.val (.int p0), .val (.int p1), .unset] [])) rfl (hb hby d1_30)
      refine Goes.to (T' := T6.setTop (mkF m 33 #[.val (.int p0), .val (.int p1), .unset] [(.ref w_LinkState_PROTECTION)])) st6 ?_
      refine Goes.to (T' := T6.setTop (mkF m 34 #[.val (.int p0), .val (.int p1), .val (.ref w_LinkState_PROTECTION)] [])) (fun t k => XS.astoreN X6.here hx rfl (hb hby d1_33) rfl rfl (l' := #[.val (.int p0), .val (.int p1), .val (.ref w_LinkState_PROTECTION)]) rfl k) ?_
      refine Goes.to (T' := T6.setTop (mkF m 41 #[.val (.int p0), .val (.int p1), .val (.ref w_LinkState_PROTECTION)] [])) (fun t k => XS.goto X6.here hx rfl (pc0 := 34) (pc' := 41) rfl (hb hby d1_34) (by decide) (by decide) k) ?_
      refine Goes.to (T' := T6.setTop (mkF m 42 #[.val (.int p0), .val (.int p1), .val (.ref w_LinkState_PROTECTION)] [(.ref w_LinkState_PROTECTION)])) (fun t k => XS.aloadN X6.here hx rfl (hb hby d1_41) rfl rfl k) ?_
      obtain ⟨fs, hrL, hrun, hended, hW, hsame⟩ := X6.leave (v := some (.ref w_LinkState_PROTECTION)) (fun h => by rw [Bd.returns] at h; cases h)
      subst hQf
      refine ⟨_, _, retOut X6 hx Bd.returns rfl (Or.inr (Or.inr (Or.inr (Or.inr ⟨rfl, rfl, rfl⟩)))) (hb hby d1_42) hrL, hrun, hended, _, _, rfl, ?_, ⟨_, rfl⟩, hW, hsame.mono (by decide) (by decide)⟩
      show (fun (v : Option Value) (h : Heap) (L : List Loc) => v = some (.ref r) ∧ Fr n0 L ∧ h = h0) (some (.ref w_LinkState_PROTECTION)) T6.heap _
      rw [e6]
      have hv : w_LinkState_PROTECTION = r := by rw [hr]; simp [hc1_1, hc27_5]
      exact ⟨by rw [hv], N0, rfl⟩
    · skip
      refine Goes.to (T' := s₁.setTop (mkF m 37 #[.val (.int p0), .val (.int p1), .unset] [])) (fun t k => XS.ifYes X0.here hx rfl (pc0 := 27) (pc' := 37) rfl (hb hby d1_27) rfl ((if0 _ _).trans (flt hc27_5).2.2.2) (by decide) (by decide) k) ?_
      obtain ⟨T7, X7, e7, st7⟩ := getS2 X0 hx hZ hown (host := "") (Or.inl (hw _ (List.mem_of_getElem? (i := 12) rfl))) Via.refl e0 (S_w_LinkState_IDLE.ext O0.2) (g := (mkF m 37 #[.val (.int p0), .val (.int p1), .unset] [])) rfl (hb hby d1_37)
      refine Goes.to (T' := T7.setTop (mkF m 40 #[.val (.int p0), .val (.int p1), .unset] [(.ref w_LinkState_IDLE)])) st7 ?_
      refine Goes.to (T' := T7.setTop (mkF m 41 #[.val (.int p0), .val (.int p1), .val (.ref w_LinkState_IDLE)] [])) (fun t k => XS.astoreN X7.here hx rfl (hb hby d1_40) rfl rfl (l' := #[.val (.int p0), .val (.int p1), .val (.ref w_LinkState_IDLE)]) rfl k) ?_
      refine Goes.to (T' := T7.setTop (mkF m 42 #[.val (.int p0), .val (.int p1), .val (.ref w_LinkState_IDLE)] [(.ref w_LinkState_IDLE)])) (fun t k => XS.aloadN X7.here hx rfl (hb hby d1_41) rfl rfl k) ?_
      obtain ⟨fs, hrL, hrun, hended, hW, hsame⟩ := X7.leave (v := some (.ref w_LinkState_IDLE)) (fun h => by rw [Bd.returns] at h; cases h)
      subst hQf
      refine ⟨_, _, retOut X7 hx Bd.returns rfl (Or.inr (Or.inr (Or.inr (Or.inr ⟨rfl, rfl, rfl⟩)))) (hb hby d1_42) hrL, hrun, hended, _, _, rfl, ?_, ⟨_, rfl⟩, hW, hsame.mono (by decide) (by decide)⟩
      show (fun (v : Option Value) (h : Heap) (L : List Loc) => v = some (.ref r) ∧ Fr n0 L ∧ h = h0) (some (.ref w_LinkState_IDLE)) T7.heap _
      rw [e7]
      have hv : w_LinkState_IDLE = r := by rw [hr]; simp [hc1_1, hc27_5]
      exact ⟨by rw [hv], N0, rfl⟩
theorem pd_22 : parseMethodDescriptor "(II)Lcom/example/carve_spectrum/carvespectrum/LinkState;" = some ⟨[.int, .int], some (.object "com/example/carve_spectrum/carvespectrum/LinkState")⟩ := by decide +kernel
theorem pn_0 : plainName "com/example/carve_spectrum/carvespectrum/LinkStateOfPinLaw" = true := by first | (simp [plainName, overriddenIn]; done) | decide +kernel
theorem ef_rm0 (m : MethodId) (x0 : Int32) (x1 : Int32) : entryFrame m #[(.int x0), (.int x1)] maxLocals = mkF m 0 #[.val (.int x0), .val (.int x1), .unset, .unset, .unset] [] := by first | (simp [entryFrame, mkF, argsToLocals, Value.category, maxLocals]; done) | rfl
def Q_rm0 (Z : State) (p0 : Int32) (p1 : Int32) (w_LinkState_PROTECTION : Addr) (w_LinkState_WORKING : Addr) (w_LinkState_BOTH : Addr) (w_LinkState_IDLE : Addr) (h0 : Heap) (n0 : Nat) (v : Option Value) (h : Heap) (L : List Loc) : Prop := v = some (.int 1) ∧ Fr n0 L
set_option maxRecDepth 65536 in
set_option maxHeartbeats 40000000 in
theorem rm0 (l : Launch) (Z : State) (a0 : Array Value) (hw : ∀ d ∈ tables_1, d.before a0 Z = true) (ws : List Jvm.Cond) (p0 : Int32) (p1 : Int32) (w_LinkState_PROTECTION : Addr) (w_LinkState_WORKING : Addr) (w_LinkState_BOTH : Addr) (w_LinkState_IDLE : Addr) (h0 : Heap) (n0 : Nat) (O0 : Old Z n0 h0) (NF : Nar Z w_LinkState_PROTECTION w_LinkState_WORKING w_LinkState_BOTH w_LinkState_IDLE) :
    MetFree l x (head1 (Jvm.Cond.code x code maxLocals ret :: ws) room_1) (fun a U => a = #[(.int p0), (.int p1)] ∧ Z.Warmed39 U.vm ∧ U.heap = h0) (fun _ _ _ _ _ => True) (fun _ U o U' => ∃ v L, o = .returned v ∧ Q_rm0 Z p0 p1 w_LinkState_PROTECTION w_LinkState_WORKING w_LinkState_BOTH w_LinkState_IDLE h0 n0 v U'.heap L ∧ FrameEnd U o U' L room_1.cells room_1.slots) := by
  refine MetFree.of_bodySF (plainFor_of_name pn_0) hisR ?_
  intro p e s m args below meth c s₁ Bd hml0 hP hK
  obtain ⟨rfl, hZ, hh⟩ := hP
  have hx := Bd.exec
  have hby := Bd.bytes
  have hml : c.maxLocals = 5 := hml0
  have hown : s.vm.findClass "com/example/carve_spectrum/carvespectrum/LinkStateOfPinLaw" = some m.cls := findClass_of_methodNamed Bd.named
  have hnm := (name_of_methodNamed Bd.named Bd.method).1
  have X0 : Stand p l e room_1 s m #[(.int p0), (.int p1)] below meth c s₁ [] 0 0 := Stand.of_body Bd
  have e0 : s₁.heap = h0 := by rw [← hh, Bd.state]; rfl
  have N0 := Fr.nil n0
  suffices G : ∀ (Qf : Outcome → State → Prop), Qf = (fun (_ : Array Value) (U : State) (o : Outcome) (U' : State) => ∃ v L, o = .returned v ∧ Q_rm0 Z p0 p1 w_LinkState_PROTECTION w_LinkState_WORKING w_LinkState_BOTH w_LinkState_IDLE h0 n0 v U'.heap L ∧ FrameEnd U o U' L room_1.cells room_1.slots) #[] s → Goes p.tables e below Qf (s₁.setTop (mkF m 0 #[.val (.int p0), .val (.int p1), .unset, .unset, .unset] [])) by
    obtain ⟨s₂, o, g1, g2, g3, g4⟩ := G _ rfl
    exact ⟨s₂, o, castTop (ef_rm0 m _ _) g1, g2, g3, g4⟩
  intro Qf hQf
  obtain ⟨S_w_LinkState_PROTECTION, E_w_LinkState_PROTECTION, S_w_LinkState_WORKING, E_w_LinkState_WORKING, S_w_LinkState_BOTH, E_w_LinkState_BOTH, S_w_LinkState_IDLE, E_w_LinkState_IDLE, F_ordinal_w_LinkState_PROTECTION, F_ordinal_w_LinkState_WORKING, F_ordinal_w_LinkState_BOTH, F_ordinal_w_LinkState_IDLE⟩ := id NF
  refine Goes.to (T' := s₁.setTop (mkF m 1 #[.val (.int p0), .val (.int p1), .unset, .unset, .unset] [(.int p0)])) (fun t k => XS.iloadN X0.here hx rfl (hb hby at_0) rfl k) ?_
  refine Goes.to (T' := s₁.setTop (mkF m 2 #[.val (.int p0), .val (.int p1), .unset, .unset, .unset] [(.int p1), (.int p0)])) (fun t k => XS.iloadN X0.here hx rfl (hb hby at_1) rfl k) ?_
  rcases Decidable.em ((0 : Int32) < p0) with hk1 | hk1
  · skip
    rcases Decidable.em ((0 : Int32) < p1) with hk2 | hk2
    · skip
      obtain ⟨_, _, ⟨T3, L3, k3, n3⟩, -, X3, ⟨Lc3, hQ3, l3, y3, z3⟩, st3⟩ := Jvm.LawKit.callS X0 hx (y := (⟨"com/example/carve_spectrum/carvespectrum/LinkState", "of", "(II)Lcom/example/carve_spectrum/carvespectrum/LinkState;"⟩ : MethodName)) hown (mvT hZ (hw _ (List.mem_of_getElem? (i := 0) rfl))) (mvT hZ (hw _ (List.mem_of_getElem? (i := 1) rfl))) (mvT hZ (hw _ (List.mem_of_getElem? (i := 2) rfl))) (mvT hZ (hw _ (List.mem_of_getElem? (i := 3) rfl))) (by decide) (backOf (W := 0) (rm1 l Z a0 hw [] p0 p1 w_LinkState_PROTECTION w_LinkState_WORKING w_LinkState_BOTH w_LinkState_IDLE w_LinkState_BOTH h0 n0 O0 NF (by simp [hk1, hk2])) hZ (hw _ (List.mem_of_getElem? (i := 3) rfl)) (hw _ (List.mem_of_getElem? (i := 2) rfl)) (by decide) (by decide)) (g := (mkF m 2 #[.val (.int p0), .val (.int p1), .unset, .unset, .unset] [(.int p1), (.int p0)])) rfl (by rw [hml]; rfl) (argsL := [(.int p0), (.int p1)]) (rest := []) (lenOf pd_22 rfl) rfl (by show 2 * 0 + _ ≤ _; exact Nat.le_of_eq rfl) (hb hby at_2) (fun _ _ => ⟨rfl, e0, (by decide : 0 + 0 ≤ _), (by decide : 0 + 0 ≤ _)⟩)
      dsimp only [Pt.U, Pt.locs, Pt.cells, Pt.slots] at X3 l3 y3 z3 st3 hQ3
      subst l3 y3 z3
      obtain ⟨rfl, Nq3, e3⟩ := hQ3
      have N3 := Fr.app N0 Nq3
      refine Goes.to (T' := T3.setTop (mkF m 5 #[.val (.int p0), .val (.int p1), .unset, .unset, .unset] [(.ref w_LinkState_BOTH)])) st3 ?_
      refine Goes.to (T' := T3.setTop (mkF m 6 #[.val (.int p0), .val (.int p1), .val (.ref w_LinkState_BOTH), .unset, .unset] [])) (fun t k => XS.astoreN X3.here hx rfl (hb hby at_5) rfl rfl (l' := #[.val (.int p0), .val (.int p1), .val (.ref w_LinkState_BOTH), .unset, .unset]) rfl k) ?_
      refine Goes.to (T' := T3.setTop (mkF m 7 #[.val (.int p0), .val (.int p1), .val (.ref w_LinkState_BOTH), .unset, .unset] [(.ref w_LinkState_BOTH)])) (fun t k => XS.aloadN X3.here hx rfl (hb hby at_6) rfl rfl k) ?_
      refine Goes.to (T' := T3.setTop (mkF m 12 #[.val (.int p0), .val (.int p1), .val (.ref w_LinkState_BOTH), .unset, .unset] [])) (fun t k => XS.ifnonnullYes X3.here hx rfl (pc0 := 7) (pc' := 12) rfl (hb hby at_7) rfl (by decide) (by decide) k) ?_
      refine Goes.to (T' := T3.setTop (mkF m 13 #[.val (.int p0), .val (.int p1), .val (.ref w_LinkState_BOTH), .unset, .unset] [(.ref w_LinkState_BOTH)])) (fun t k => XS.aloadN X3.here hx rfl (hb hby at_12) rfl rfl k) ?_
      obtain ⟨T4, X4, e4, st4⟩ := getS2 X3 hx hZ hown (host := "") (Or.inl (hw _ (List.mem_of_getElem? (i := 6) rfl))) Via.refl e3 (S_w_LinkState_WORKING.ext O0.2) (g := (mkF m 13 #[.val (.int p0), .val (.int p1), .val (.ref w_LinkState_BOTH), .unset, .unset] [(.ref w_LinkState_BOTH)])) rfl (hb hby at_13)
      refine Goes.to (T' := T4.setTop (mkF m 16 #[.val (.int p0), .val (.int p1), .val (.ref w_LinkState_BOTH), .unset, .unset] [(.ref w_LinkState_WORKING), (.ref w_LinkState_BOTH)])) st4 ?_
      have hc16_5 : ¬ (w_LinkState_BOTH = w_LinkState_WORKING) := (Fld.ne F_ordinal_w_LinkState_BOTH F_ordinal_w_LinkState_WORKING (by simp))
      refine Goes.to (T' := T4.setTop (mkF m 19 #[.val (.int p0), .val (.int p1), .val (.ref w_LinkState_BOTH), .unset, .unset] [])) (fun t k => Jvm.RoadKit.acmp (g := (mkF m 16 #[.val (.int p0), .val (.int p1), .val (.ref w_LinkState_BOTH), .unset, .unset] [(.ref w_LinkState_WORKING), (.ref w_LinkState_BOTH)])) X4 hx rfl rfl rfl (pc0 := 16) (pc' := 19) (same := false) rfl (hb hby at_16) rfl (decide_eq_false fun q => hc16_5 (Value.ref.inj q)) (by decide) (by decide) k) ?_
      refine Goes.to (T' := T4.setTop (mkF m 20 #[.val (.int p0), .val (.int p1), .val (.ref w_LinkState_BOTH), .unset, .unset] [(.ref w_LinkState_BOTH)])) (fun t k => XS.aloadN X4.here hx rfl (hb hby at_19) rfl rfl k) ?_
      obtain ⟨T6, X6, e6, st6⟩ := getS2 X4 hx hZ hown (host := "") (Or.inl (hw _ (List.mem_of_getElem? (i := 8) rfl))) Via.refl e4 (S_w_LinkState_BOTH.ext O0.2) (g := (mkF m 20 #[.val (.int p0), .val (.int p1), .val (.ref w_LinkState_BOTH), .unset, .unset] [(.ref w_LinkState_BOTH)])) rfl (hb hby at_20)
      refine Goes.to (T' := T6.setTop (mkF m 23 #[.val (.int p0), .val (.int p1), .val (.ref w_LinkState_BOTH), .unset, .unset] [(.ref w_LinkState_BOTH), (.ref w_LinkState_BOTH)])) st6 ?_
      refine Goes.to (T' := T6.setTop (mkF m 26 #[.val (.int p0), .val (.int p1), .val (.ref w_LinkState_BOTH), .unset, .unset] [])) (fun t k => Jvm.RoadKit.acmp (g := (mkF m 23 #[.val (.int p0), .val (.int p1), .val (.ref w_LinkState_BOTH), .unset, .unset] [(.ref w_LinkState_BOTH), (.ref w_LinkState_BOTH)])) X6 hx rfl rfl rfl (pc0 := 23) (pc' := 26) (same := true) rfl (hb hby at_23) rfl (decide_eq_true rfl) (by decide) (by decide) k) ?_
      refine Goes.to (T' := T6.setTop (mkF m 27 #[.val (.int p0), .val (.int p1), .val (.ref w_LinkState_BOTH), .unset, .unset] [(.int (1 : Int32))])) (fun t k => XS.iconst X6.here hx rfl (hb hby at_26) k) ?_
      refine Goes.to (T' := T6.setTop (mkF m 31 #[.val (.int p0), .val (.int p1), .val (.ref w_LinkState_BOTH), .unset, .unset] [(.int (1 : Int32))])) (fun t k => XS.goto X6.here hx rfl (pc0 := 27) (pc' := 31) rfl (hb hby at_27) (by decide) (by decide) k) ?_
      refine Goes.to (T' := T6.setTop (mkF m 32 #[.val (.int p0), .val (.int p1), .val (.ref w_LinkState_BOTH), .val (.int (1 : Int32)), .unset] [])) (fun t k => XS.istoreN X6.here hx rfl (hb hby at_31) rfl (l' := #[.val (.int p0), .val (.int p1), .val (.ref w_LinkState_BOTH), .val (.int (1 : Int32)), .unset]) rfl k) ?_
      refine Goes.to (T' := T6.setTop (mkF m 33 #[.val (.int p0), .val (.int p1), .val (.ref w_LinkState_BOTH), .val (.int (1 : Int32)), .unset] [(.ref w_LinkState_BOTH)])) (fun t k => XS.aloadN X6.here hx rfl (hb hby at_32) rfl rfl k) ?_
      obtain ⟨T7, X7, e7, st7⟩ := getS2 X6 hx hZ hown (host := "") (Or.inl (hw _ (List.mem_of_getElem? (i := 10) rfl))) Via.refl e6 (S_w_LinkState_PROTECTION.ext O0.2) (g := (mkF m 33 #[.val (.int p0), .val (.int p1), .val (.ref w_LinkState_BOTH), .val (.int (1 : Int32)), .unset] [(.ref w_LinkState_BOTH)])) rfl (hb hby at_33)
      refine Goes.to (T' := T7.setTop (mkF m 36 #[.val (.int p0), .val (.int p1), .val (.ref w_LinkState_BOTH), .val (.int (1 : Int32)), .unset] [(.ref w_LinkState_PROTECTION), (.ref w_LinkState_BOTH)])) st7 ?_
      have hc36_8 : ¬ (w_LinkState_BOTH = w_LinkState_PROTECTION) := (Fld.ne F_ordinal_w_LinkState_BOTH F_ordinal_w_LinkState_PROTECTION (by simp))
      refine Goes.to (T' := T7.setTop (mkF m 39 #[.val (.int p0), .val (.int p1), .val (.ref w_LinkState_BOTH), .val (.int (1 : Int32)), .unset] [])) (fun t k => Jvm.RoadKit.acmp (g := (mkF m 36 #[.val (.int p0), .val (.int p1), .val (.ref w_LinkState_BOTH), .val (.int (1 : Int32)), .unset] [(.ref w_LinkState_PROTECTION), (.ref w_LinkState_BOTH)])) X7 hx rfl rfl rfl (pc0 := 36) (pc' := 39) (same := false) rfl (hb hby at_36) rfl (decide_eq_false fun q => hc36_8 (Value.ref.inj q)) (by decide) (by decide) k) ?_
      refine Goes.to (T' := T7.setTop (mkF m 40 #[.val (.int p0), .val (.int p1), .val (.ref w_LinkState_BOTH), .val (.int (1 : Int32)), .unset] [(.ref w_LinkState_BOTH)])) (fun t k => XS.aloadN X7.here hx rfl (hb hby at_39) rfl rfl k) ?_
      obtain ⟨T9, X9, e9, st9⟩ := getS2 X7 hx hZ hown (host := "") (Or.inl (hw _ (List.mem_of_getElem? (i := 8) rfl))) Via.refl e7 (S_w_LinkState_BOTH.ext O0.2) (g := (mkF m 40 #[.val (.int p0), .val (.int p1), .val (.ref w_LinkState_BOTH), .val (.int (1 : Int32)), .unset] [(.ref w_LinkState_BOTH)])) rfl (hb hby at_40)
      refine Goes.to (T' := T9.setTop (mkF m 43 #[.val (.int p0), .val (.int p1), .val (.ref w_LinkState_BOTH), .val (.int (1 : Int32)), .unset] [(.ref w_LinkState_BOTH), (.ref w_LinkState_BOTH)])) st9 ?_
      refine Goes.to (T' := T9.setTop (mkF m 46 #[.val (.int p0), .val (.int p1), .val (.ref w_LinkState_BOTH), .val (.int (1 : Int32)), .unset] [])) (fun t k => Jvm.RoadKit.acmp (g := (mkF m 43 #[.val (.int p0), .val (.int p1), .val (.ref w_LinkState_BOTH), .val (.int (1 : Int32)), .unset] [(.ref w_LinkState_BOTH), (.ref w_LinkState_BOTH)])) X9 hx rfl rfl rfl (pc0 := 43) (pc' := 46) (same := true) rfl (hb hby at_43) rfl (decide_eq_true rfl) (by decide) (by decide) k) ?_
      refine Goes.to (T' := T9.setTop (mkF m 47 #[.val (.int p0), .val (.int p1), .val (.ref w_LinkState_BOTH), .val (.int (1 : Int32)), .unset] [(.int (1 : Int32))])) (fun t k => XS.iconst X9.here hx rfl (hb hby at_46) k) ?_
      refine Goes.to (T' := T9.setTop (mkF m 51 #[.val (.int p0), .val (.int p1), .val (.ref w_LinkState_BOTH), .val (.int (1 : Int32)), .unset] [(.int (1 : Int32))])) (fun t k => XS.goto X9.here hx rfl (pc0 := 47) (pc' := 51) rfl (hb hby at_47) (by decide) (by decide) k) ?_
      refine Goes.to (T' := T9.setTop (mkF m 53 #[.val (.int p0), .val (.int p1), .val (.ref w_LinkState_BOTH), .val (.int (1 : Int32)), .val (.int (1 : Int32))] [])) (fun t k => XS.istore X9.here hx rfl (hb hby at_51) rfl (l' := #[.val (.int p0), .val (.int p1), .val (.ref w_LinkState_BOTH), .val (.int (1 : Int32)), .val (.int (1 : Int32))]) rfl k) ?_
      refine Goes.to (T' := T9.setTop (mkF m 54 #[.val (.int p0), .val (.int p1), .val (.ref w_LinkState_BOTH), .val (.int (1 : Int32)), .val (.int (1 : Int32))] [(.int (1 : Int32))])) (fun t k => XS.iloadN X9.here hx rfl (hb hby at_53) rfl k) ?_
      refine Goes.to (T' := T9.setTop (mkF m 55 #[.val (.int p0), .val (.int p1), .val (.ref w_LinkState_BOTH), .val (.int (1 : Int32)), .val (.int (1 : Int32))] [(.int p0), (.int (1 : Int32))])) (fun t k => XS.iloadN X9.here hx rfl (hb hby at_54) rfl k) ?_
      refine Goes.to (T' := T9.setTop (mkF m 58 #[.val (.int p0), .val (.int p1), .val (.ref w_LinkState_BOTH), .val (.int (1 : Int32)), .val (.int (1 : Int32))] [(.int (1 : Int32))])) (fun t k => XS.ifNo X9.here hx rfl (hb hby at_55) rfl ((if0 _ _).trans (tlt hk1).2.2.2) k) ?_
      refine Goes.to (T' := T9.setTop (mkF m 59 #[.val (.int p0), .val (.int p1), .val (.ref w_LinkState_BOTH), .val (.int (1 : Int32)), .val (.int (1 : Int32))] [(.int (1 : Int32)), (.int (1 : Int32))])) (fun t k => XS.iconst X9.here hx rfl (hb hby at_58) k) ?_
      refine Goes.to (T' := T9.setTop (mkF m 63 #[.val (.int p0), .val (.int p1), .val (.ref w_LinkState_BOTH), .val (.int (1 : Int32)), .val (.int (1 : Int32))] [(.int (1 : Int32)), (.int (1 : Int32))])) (fun t k => XS.goto X9.here hx rfl (pc0 := 59) (pc' := 63) rfl (hb hby at_59) (by decide) (by decide) k) ?_
      refine Goes.to (T' := T9.setTop (mkF m 66 #[.val (.int p0), .val (.int p1), .val (.ref w_LinkState_BOTH), .val (.int (1 : Int32)), .val (.int (1 : Int32))] [])) (fun t k => XS.icmpNo X9.here hx rfl (hb hby at_63) rfl (teq (by decide)).2 k) ?_
      refine Goes.to (T' := T9.setTop (mkF m 68 #[.val (.int p0), .val (.int p1), .val (.ref w_LinkState_BOTH), .val (.int (1 : Int32)), .val (.int (1 : Int32))] [(.int (1 : Int32))])) (fun t k => XS.iload X9.here hx rfl (hb hby at_66) rfl k) ?_
      refine Goes.to (T' := T9.setTop (mkF m 69 #[.val (.int p0), .val (.int p1), .val (.ref w_LinkState_BOTH), .val (.int (1 : Int32)), .val (.int (1 : Int32))] [(.int p1), (.int (1 : Int32))])) (fun t k => XS.iloadN X9.here hx rfl (hb hby at_68) rfl k) ?_
      refine Goes.to (T' := T9.setTop (mkF m 72 #[.val (.int p0), .val (.int p1), .val (.ref w_LinkState_BOTH), .val (.int (1 : Int32)), .val (.int (1 : Int32))] [(.int (1 : Int32))])) (fun t k => XS.ifNo X9.here hx rfl (hb hby at_69) rfl ((if0 _ _).trans (tlt hk2).2.2.2) k) ?_
      refine Goes.to (T' := T9.setTop (mkF m 73 #[.val (.int p0), .val (.int p1), .val (.ref w_LinkState_BOTH), .val (.int (1 : Int32)), .val (.int (1 : Int32))] [(.int (1 : Int32)), (.int (1 : Int32))])) (fun t k => XS.iconst X9.here hx rfl (hb hby at_72) k) ?_
      refine Goes.to (T' := T9.setTop (mkF m 77 #[.val (.int p0), .val (.int p1), .val (.ref w_LinkState_BOTH), .val (.int (1 : Int32)), .val (.int (1 : Int32))] [(.int (1 : Int32)), (.int (1 : Int32))])) (fun t k => XS.goto X9.here hx rfl (pc0 := 73) (pc' := 77) rfl (hb hby at_73) (by decide) (by decide) k) ?_
      refine Goes.to (T' := T9.setTop (mkF m 80 #[.val (.int p0), .val (.int p1), .val (.ref w_LinkState_BOTH), .val (.int (1 : Int32)), .val (.int (1 : Int32))] [])) (fun t k => XS.icmpNo X9.here hx rfl (hb hby at_77) rfl (teq (by decide)).2 k) ?_
      refine Goes.to (T' := T9.setTop (mkF m 81 #[.val (.int p0), .val (.int p1), .val (.ref w_LinkState_BOTH), .val (.int (1 : Int32)), .val (.int (1 : Int32))] [(.int (1 : Int32))])) (fun t k => XS.iconst X9.here hx rfl (hb hby at_80) k) ?_
      refine Goes.to (T' := T9.setTop (mkF m 85 #[.val (.int p0), .val (.int p1), .val (.ref w_LinkState_BOTH), .val (.int (1 : Int32)), .val (.int (1 : Int32))] [(.int (1 : Int32))])) (fun t k => XS.goto X9.here hx rfl (pc0 := 81) (pc' := 85) rfl (hb hby at_81) (by decide) (by decide) k) ?_
      obtain ⟨fs, hrL, hrun, hended, hW, hsame⟩ := X9.leave (v := some (.int (1 : Int32))) (fun h => by rw [Bd.returns] at h; cases h)
      subst hQf
      refine ⟨_, _, retN X9 hx (t := .boolean) Bd.returns (by simp) (hb hby at_85) hrL, hrun, hended, _, _, rfl, ?_, ⟨_, rfl⟩, hW, hsame.mono (by decide) (by decide)⟩
      show (fun (v : Option Value) (h : Heap) (L : List Loc) => v = some (.int 1) ∧ Fr n0 L) (some (.int (1 : Int32))) T9.heap _
      rw [e9]
      exact ⟨rfl, N3⟩
    · skip
      obtain ⟨_, _, ⟨T10, L10, k10, n10⟩, -, X10, ⟨Lc10, hQ10, l10, y10, z10⟩, st10⟩ := Jvm.LawKit.callS X0 hx (y := (⟨"com/example/carve_spectrum/carvespectrum/LinkState", "of", "(II)Lcom/example/carve_spectrum/carvespectrum/LinkState;"⟩ : MethodName)) hown (mvT hZ (hw _ (List.mem_of_getElem? (i := 0) rfl))) (mvT hZ (hw _ (List.mem_of_getElem? (i := 1) rfl))) (mvT hZ (hw _ (List.mem_of_getElem? (i := 2) rfl))) (mvT hZ (hw _ (List.mem_of_getElem? (i := 3) rfl))) (by decide) (backOf (W := 0) (rm1 l Z a0 hw [] p0 p1 w_LinkState_PROTECTION w_LinkState_WORKING w_LinkState_BOTH w_LinkState_IDLE w_LinkState_WORKING h0 n0 O0 NF (by simp [hk1, hk2])) hZ (hw _ (List.mem_of_getElem? (i := 3) rfl)) (hw _ (List.mem_of_getElem? (i := 2) rfl)) (by decide) (by decide)) (g := (mkF m 2 #[.val (.int p0), .val (.int p1), .unset, .unset, .unset] [(.int p1), (.int p0)])) rfl (by rw [hml]; rfl) (argsL := [(.int p0), (.int p1)]) (rest := []) (lenOf pd_22 rfl) rfl (by show 2 * 0 + _ ≤ _; exact Nat.le_of_eq rfl) (hb hby at_2) (fun _ _ => ⟨rfl, e0, (by decide : 0 + 0 ≤ _), (by decide : 0 + 0 ≤ _)⟩)
      dsimp only [Pt.U, Pt.locs, Pt.cells, Pt.slots] at X10 l10 y10 z10 st10 hQ10
      subst l10 y10 z10
      obtain ⟨rfl, Nq10, e10⟩ := hQ10
      have N10 := Fr.app N0 Nq10
      refine Goes.to (T' := T10.setTop (mkF m 5 #[.val (.int p0), .val (.int p1), .unset, .unset, .unset] [(.ref w_LinkState_WORKING)])) st10 ?_
      refine Goes.to (T' := T10.setTop (mkF m 6 #[.val (.int p0), .val (.int p1), .val (.ref w_LinkState_WORKING), .unset, .unset] [])) (fun t k => XS.astoreN X10.here hx rfl (hb hby at_5) rfl rfl (l' := #[.val (.int p0), .val (.int p1), .val (.ref w_LinkState_WORKING), .unset, .unset]) rfl k) ?_
      refine Goes.to (T' := T10.setTop (mkF m 7 #[.val (.int p0), .val (.int p1), .val (.ref w_LinkState_WORKING), .unset, .unset] [(.ref w_LinkState_WORKING)])) (fun t k => XS.aloadN X10.here hx rfl (hb hby at_6) rfl rfl k) ?_
      refine Goes.to (T' := T10.setTop (mkF m 12 #[.val (.int p0), .val (.int p1), .val (.ref w_LinkState_WORKING), .unset, .unset] [])) (fun t k => XS.ifnonnullYes X10.here hx rfl (pc0 := 7) (pc' := 12) rfl (hb hby at_7) rfl (by decide) (by decide) k) ?_
      refine Goes.to (T' := T10.setTop (mkF m 13 #[.val (.int p0), .val (.int p1), .val (.ref w_LinkState_WORKING), .unset, .unset] [(.ref w_LinkState_WORKING)])) (fun t k => XS.aloadN X10.here hx rfl (hb hby at_12) rfl rfl k) ?_
      obtain ⟨T11, X11, e11, st11⟩ := getS2 X10 hx hZ hown (host := "") (Or.inl (hw _ (List.mem_of_getElem? (i := 6) rfl))) Via.refl e10 (S_w_LinkState_WORKING.ext O0.2) (g := (mkF m 13 #[.val (.int p0), .val (.int p1), .val (.ref w_LinkState_WORKING), .unset, .unset] [(.ref w_LinkState_WORKING)])) rfl (hb hby at_13)
      refine Goes.to (T' := T11.setTop (mkF m 16 #[.val (.int p0), .val (.int p1), .val (.ref w_LinkState_WORKING), .unset, .unset] [(.ref w_LinkState_WORKING), (.ref w_LinkState_WORKING)])) st11 ?_
      refine Goes.to (T' := T11.setTop (mkF m 26 #[.val (.int p0), .val (.int p1), .val (.ref w_LinkState_WORKING), .unset, .unset] [])) (fun t k => Jvm.RoadKit.acmp (g := (mkF m 16 #[.val (.int p0), .val (.int p1), .val (.ref w_LinkState_WORKING), .unset, .unset] [(.ref w_LinkState_WORKING), (.ref w_LinkState_WORKING)])) X11 hx rfl rfl rfl (pc0 := 16) (pc' := 26) (same := true) rfl (hb hby at_16) rfl (decide_eq_true rfl) (by decide) (by decide) k) ?_
      refine Goes.to (T' := T11.setTop (mkF m 27 #[.val (.int p0), .val (.int p1), .val (.ref w_LinkState_WORKING), .unset, .unset] [(.int (1 : Int32))])) (fun t k => XS.iconst X11.here hx rfl (hb hby at_26) k) ?_
      refine Goes.to (T' := T11.setTop (mkF m 31 #[.val (.int p0), .val (.int p1), .val (.ref w_LinkState_WORKING), .unset, .unset] [(.int (1 : Int32))])) (fun t k => XS.goto X11.here hx rfl (pc0 := 27) (pc' := 31) rfl (hb hby at_27) (by decide) (by decide) k) ?_
      refine Goes.to (T' := T11.setTop (mkF m 32 #[.val (.int p0), .val (.int p1), .val (.ref w_LinkState_WORKING), .val (.int (1 : Int32)), .unset] [])) (fun t k => XS.istoreN X11.here hx rfl (hb hby at_31) rfl (l' := #[.val (.int p0), .val (.int p1), .val (.ref w_LinkState_WORKING), .val (.int (1 : Int32)), .unset]) rfl k) ?_
      refine Goes.to (T' := T11.setTop (mkF m 33 #[.val (.int p0), .val (.int p1), .val (.ref w_LinkState_WORKING), .val (.int (1 : Int32)), .unset] [(.ref w_LinkState_WORKING)])) (fun t k => XS.aloadN X11.here hx rfl (hb hby at_32) rfl rfl k) ?_
      obtain ⟨T12, X12, e12, st12⟩ := getS2 X11 hx hZ hown (host := "") (Or.inl (hw _ (List.mem_of_getElem? (i := 10) rfl))) Via.refl e11 (S_w_LinkState_PROTECTION.ext O0.2) (g := (mkF m 33 #[.val (.int p0), .val (.int p1), .val (.ref w_LinkState_WORKING), .val (.int (1 : Int32)), .unset] [(.ref w_LinkState_WORKING)])) rfl (hb hby at_33)
      refine Goes.to (T' := T12.setTop (mkF m 36 #[.val (.int p0), .val (.int p1), .val (.ref w_LinkState_WORKING), .val (.int (1 : Int32)), .unset] [(.ref w_LinkState_PROTECTION), (.ref w_LinkState_WORKING)])) st12 ?_
      have hc36_13 : ¬ (w_LinkState_WORKING = w_LinkState_PROTECTION) := (Fld.ne F_ordinal_w_LinkState_WORKING F_ordinal_w_LinkState_PROTECTION (by simp))
      refine Goes.to (T' := T12.setTop (mkF m 39 #[.val (.int p0), .val (.int p1), .val (.ref w_LinkState_WORKING), .val (.int (1 : Int32)), .unset] [])) (fun t k => Jvm.RoadKit.acmp (g := (mkF m 36 #[.val (.int p0), .val (.int p1), .val (.ref w_LinkState_WORKING), .val (.int (1 : Int32)), .unset] [(.ref w_LinkState_PROTECTION), (.ref w_LinkState_WORKING)])) X12 hx rfl rfl rfl (pc0 := 36) (pc' := 39) (same := false) rfl (hb hby at_36) rfl (decide_eq_false fun q => hc36_13 (Value.ref.inj q)) (by decide) (by decide) k) ?_
      refine Goes.to (T' := T12.setTop (mkF m 40 #[.val (.int p0), .val (.int p1), .val (.ref w_LinkState_WORKING), .val (.int (1 : Int32)), .unset] [(.ref w_LinkState_WORKING)])) (fun t k => XS.aloadN X12.here hx rfl (hb hby at_39) rfl rfl k) ?_
      obtain ⟨T14, X14, e14, st14⟩ := getS2 X12 hx hZ hown (host := "") (Or.inl (hw _ (List.mem_of_getElem? (i := 8) rfl))) Via.refl e12 (S_w_LinkState_BOTH.ext O0.2) (g := (mkF m 40 #[.val (.int p0), .val (.int p1), .val (.ref w_LinkState_WORKING), .val (.int (1 : Int32)), .unset] [(.ref w_LinkState_WORKING)])) rfl (hb hby at_40)
      refine Goes.to (T' := T14.setTop (mkF m 43 #[.val (.int p0), .val (.int p1), .val (.ref w_LinkState_WORKING), .val (.int (1 : Int32)), .unset] [(.ref w_LinkState_BOTH), (.ref w_LinkState_WORKING)])) st14 ?_
      have hc43_15 : ¬ (w_LinkState_WORKING = w_LinkState_BOTH) := (Fld.ne F_ordinal_w_LinkState_WORKING F_ordinal_w_LinkState_BOTH (by simp))
      refine Goes.to (T' := T14.setTop (mkF m 50 #[.val (.int p0), .val (.int p1), .val (.ref w_LinkState_WORKING), .val (.int (1 : Int32)), .unset] [])) (fun t k => Jvm.RoadKit.acmp (g := (mkF m 43 #[.val (.int p0), .val (.int p1), .val (.ref w_LinkState_WORKING), .val (.int (1 : Int32)), .unset] [(.ref w_LinkState_BOTH), (.ref w_LinkState_WORKING)])) X14 hx rfl rfl rfl (pc0 := 43) (pc' := 50) (same := false) rfl (hb hby at_43) rfl (decide_eq_false fun q => hc43_15 (Value.ref.inj q)) (by decide) (by decide) k) ?_
      refine Goes.to (T' := T14.setTop (mkF m 51 #[.val (.int p0), .val (.int p1), .val (.ref w_LinkState_WORKING), .val (.int (1 : Int32)), .unset] [(.int (0 : Int32))])) (fun t k => XS.iconst X14.here hx rfl (hb hby at_50) k) ?_
      refine Goes.to (T' := T14.setTop (mkF m 53 #[.val (.int p0), .val (.int p1), .val (.ref w_LinkState_WORKING), .val (.int (1 : Int32)), .val (.int (0 : Int32))] [])) (fun t k => XS.istore X14.here hx rfl (hb hby at_51) rfl (l' := #[.val (.int p0), .val (.int p1), .val (.ref w_LinkState_WORKING), .val (.int (1 : Int32)), .val (.int (0 : Int32))]) rfl k) ?_
      refine Goes.to (T' := T14.setTop (mkF m 54 #[.val (.int p0), .val (.int p1), .val (.ref w_LinkState_WORKING), .val (.int (1 : Int32)), .val (.int (0 : Int32))] [(.int (1 : Int32))])) (fun t k => XS.iloadN X14.here hx rfl (hb hby at_53) rfl k) ?_
      refine Goes.to (T' := T14.setTop (mkF m 55 #[.val (.int p0), .val (.int p1), .val (.ref w_LinkState_WORKING), .val (.int (1 : Int32)), .val (.int (0 : Int32))] [(.int p0), (.int (1 : Int32))])) (fun t k => XS.iloadN X14.here hx rfl (hb hby at_54) rfl k) ?_
      refine Goes.to (T' := T14.setTop (mkF m 58 #[.val (.int p0), .val (.int p1), .val (.ref w_LinkState_WORKING), .val (.int (1 : Int32)), .val (.int (0 : Int32))] [(.int (1 : Int32))])) (fun t k => XS.ifNo X14.here hx rfl (hb hby at_55) rfl ((if0 _ _).trans (tlt hk1).2.2.2) k) ?_
      refine Goes.to (T' := T14.setTop (mkF m 59 #[.val (.int p0), .val (.int p1), .val (.ref w_LinkState_WORKING), .val (.int (1 : Int32)), .val (.int (0 : Int32))] [(.int (1 : Int32)), (.int (1 : Int32))])) (fun t k => XS.iconst X14.here hx rfl (hb hby at_58) k) ?_
      refine Goes.to (T' := T14.setTop (mkF m 63 #[.val (.int p0), .val (.int p1), .val (.ref w_LinkState_WORKING), .val (.int (1 : Int32)), .val (.int (0 : Int32))] [(.int (1 : Int32)), (.int (1 : Int32))])) (fun t k => XS.goto X14.here hx rfl (pc0 := 59) (pc' := 63) rfl (hb hby at_59) (by decide) (by decide) k) ?_
      refine Goes.to (T' := T14.setTop (mkF m 66 #[.val (.int p0), .val (.int p1), .val (.ref w_LinkState_WORKING), .val (.int (1 : Int32)), .val (.int (0 : Int32))] [])) (fun t k => XS.icmpNo X14.here hx rfl (hb hby at_63) rfl (teq (by decide)).2 k) ?_
      refine Goes.to (T' := T14.setTop (mkF m 68 #[.val (.int p0), .val (.int p1), .val (.ref w_LinkState_WORKING), .val (.int (1 : Int32)), .val (.int (0 : Int32))] [(.int (0 : Int32))])) (fun t k => XS.iload X14.here hx rfl (hb hby at_66) rfl k) ?_
      refine Goes.to (T' := T14.setTop (mkF m 69 #[.val (.int p0), .val (.int p1), .val (.ref w_LinkState_WORKING), .val (.int (1 : Int32)), .val (.int (0 : Int32))] [(.int p1), (.int (0 : Int32))])) (fun t k => XS.iloadN X14.here hx rfl (hb hby at_68) rfl k) ?_
      refine Goes.to (T' := T14.setTop (mkF m 76 #[.val (.int p0), .val (.int p1), .val (.ref w_LinkState_WORKING), .val (.int (1 : Int32)), .val (.int (0 : Int32))] [(.int (0 : Int32))])) (fun t k => XS.ifYes X14.here hx rfl (pc0 := 69) (pc' := 76) rfl (hb hby at_69) rfl ((if0 _ _).trans (flt hk2).2.2.2) (by decide) (by decide) k) ?_
      refine Goes.to (T' := T14.setTop (mkF m 77 #[.val (.int p0), .val (.int p1), .val (.ref w_LinkState_WORKING), .val (.int (1 : Int32)), .val (.int (0 : Int32))] [(.int (0 : Int32)), (.int (0 : Int32))])) (fun t k => XS.iconst X14.here hx rfl (hb hby at_76) k) ?_
      refine Goes.to (T' := T14.setTop (mkF m 80 #[.val (.int p0), .val (.int p1), .val (.ref w_LinkState_WORKING), .val (.int (1 : Int32)), .val (.int (0 : Int32))] [])) (fun t k => XS.icmpNo X14.here hx rfl (hb hby at_77) rfl (teq (by decide)).2 k) ?_
      refine Goes.to (T' := T14.setTop (mkF m 81 #[.val (.int p0), .val (.int p1), .val (.ref w_LinkState_WORKING), .val (.int (1 : Int32)), .val (.int (0 : Int32))] [(.int (1 : Int32))])) (fun t k => XS.iconst X14.here hx rfl (hb hby at_80) k) ?_
      refine Goes.to (T' := T14.setTop (mkF m 85 #[.val (.int p0), .val (.int p1), .val (.ref w_LinkState_WORKING), .val (.int (1 : Int32)), .val (.int (0 : Int32))] [(.int (1 : Int32))])) (fun t k => XS.goto X14.here hx rfl (pc0 := 81) (pc' := 85) rfl (hb hby at_81) (by decide) (by decide) k) ?_
      obtain ⟨fs, hrL, hrun, hended, hW, hsame⟩ := X14.leave (v := some (.int (1 : Int32))) (fun h => by rw [Bd.returns] at h; cases h)
      subst hQf
      refine ⟨_, _, retN X14 hx (t := .boolean) Bd.returns (by simp) (hb hby at_85) hrL, hrun, hended, _, _, rfl, ?_, ⟨_, rfl⟩, hW, hsame.mono (by decide) (by decide)⟩
      show (fun (v : Option Value) (h : Heap) (L : List Loc) => v = some (.int 1) ∧ Fr n0 L) (some (.int (1 : Int32))) T14.heap _
      rw [e14]
      exact ⟨rfl, N10⟩
  · skip
    rcases Decidable.em ((0 : Int32) < p1) with hk16 | hk16
    · skip
      obtain ⟨_, _, ⟨T17, L17, k17, n17⟩, -, X17, ⟨Lc17, hQ17, l17, y17, z17⟩, st17⟩ := Jvm.LawKit.callS X0 hx (y := (⟨"com/example/carve_spectrum/carvespectrum/LinkState", "of", "(II)Lcom/example/carve_spectrum/carvespectrum/LinkState;"⟩ : MethodName)) hown (mvT hZ (hw _ (List.mem_of_getElem? (i := 0) rfl))) (mvT hZ (hw _ (List.mem_of_getElem? (i := 1) rfl))) (mvT hZ (hw _ (List.mem_of_getElem? (i := 2) rfl))) (mvT hZ (hw _ (List.mem_of_getElem? (i := 3) rfl))) (by decide) (backOf (W := 0) (rm1 l Z a0 hw [] p0 p1 w_LinkState_PROTECTION w_LinkState_WORKING w_LinkState_BOTH w_LinkState_IDLE w_LinkState_PROTECTION h0 n0 O0 NF (by simp [hk1, hk16])) hZ (hw _ (List.mem_of_getElem? (i := 3) rfl)) (hw _ (List.mem_of_getElem? (i := 2) rfl)) (by decide) (by decide)) (g := (mkF m 2 #[.val (.int p0), .val (.int p1), .unset, .unset, .unset] [(.int p1), (.int p0)])) rfl (by rw [hml]; rfl) (argsL := [(.int p0), (.int p1)]) (rest := []) (lenOf pd_22 rfl) rfl (by show 2 * 0 + _ ≤ _; exact Nat.le_of_eq rfl) (hb hby at_2) (fun _ _ => ⟨rfl, e0, (by decide : 0 + 0 ≤ _), (by decide : 0 + 0 ≤ _)⟩)
      dsimp only [Pt.U, Pt.locs, Pt.cells, Pt.slots] at X17 l17 y17 z17 st17 hQ17
      subst l17 y17 z17
      obtain ⟨rfl, Nq17, e17⟩ := hQ17
      have N17 := Fr.app N0 Nq17
      refine Goes.to (T' := T17.setTop (mkF m 5 #[.val (.int p0), .val (.int p1), .unset, .unset, .unset] [(.ref w_LinkState_PROTECTION)])) st17 ?_
      refine Goes.to (T' := T17.setTop (mkF m 6 #[.val (.int p0), .val (.int p1), .val (.ref w_LinkState_PROTECTION), .unset, .unset] [])) (fun t k => XS.astoreN X17.here hx rfl (hb hby at_5) rfl rfl (l' := #[.val (.int p0), .val (.int p1), .val (.ref w_LinkState_PROTECTION), .unset, .unset]) rfl k) ?_
      refine Goes.to (T' := T17.setTop (mkF m 7 #[.val (.int p0), .val (.int p1), .val (.ref w_LinkState_PROTECTION), .unset, .unset] [(.ref w_LinkState_PROTECTION)])) (fun t k => XS.aloadN X17.here hx rfl (hb hby at_6) rfl rfl k) ?_
      refine Goes.to (T' := T17.setTop (mkF m 12 #[.val (.int p0), .val (.int p1), .val (.ref w_LinkState_PROTECTION), .unset, .unset] [])) (fun t k => XS.ifnonnullYes X17.here hx rfl (pc0 := 7) (pc' := 12) rfl (hb hby at_7) rfl (by decide) (by decide) k) ?_
      refine Goes.to (T' := T17.setTop (mkF m 13 #[.val (.int p0), .val (.int p1), .val (.ref w_LinkState_PROTECTION), .unset, .unset] [(.ref w_LinkState_PROTECTION)])) (fun t k => XS.aloadN X17.here hx rfl (hb hby at_12) rfl rfl k) ?_
      obtain ⟨T18, X18, e18, st18⟩ := getS2 X17 hx hZ hown (host := "") (Or.inl (hw _ (List.mem_of_getElem? (i := 6) rfl))) Via.refl e17 (S_w_LinkState_WORKING.ext O0.2) (g := (mkF m 13 #[.val (.int p0), .val (.int p1), .val (.ref w_LinkState_PROTECTION), .unset, .unset] [(.ref w_LinkState_PROTECTION)])) rfl (hb hby at_13)
      refine Goes.to (T' := T18.setTop (mkF m 16 #[.val (.int p0), .val (.int p1), .val (.ref w_LinkState_PROTECTION), .unset, .unset] [(.ref w_LinkState_WORKING), (.ref w_LinkState_PROTECTION)])) st18 ?_
      have hc16_19 : ¬ (w_LinkState_PROTECTION = w_LinkState_WORKING) := (Fld.ne F_ordinal_w_LinkState_PROTECTION F_ordinal_w_LinkState_WORKING (by simp))
      refine Goes.to (T' := T18.setTop (mkF m 19 #[.val (.int p0), .val (.int p1), .val (.ref w_LinkState_PROTECTION), .unset, .unset] [])) (fun t k => Jvm.RoadKit.acmp (g := (mkF m 16 #[.val (.int p0), .val (.int p1), .val (.ref w_LinkState_PROTECTION), .unset, .unset] [(.ref w_LinkState_WORKING), (.ref w_LinkState_PROTECTION)])) X18 hx rfl rfl rfl (pc0 := 16) (pc' := 19) (same := false) rfl (hb hby at_16) rfl (decide_eq_false fun q => hc16_19 (Value.ref.inj q)) (by decide) (by decide) k) ?_
      refine Goes.to (T' := T18.setTop (mkF m 20 #[.val (.int p0), .val (.int p1), .val (.ref w_LinkState_PROTECTION), .unset, .unset] [(.ref w_LinkState_PROTECTION)])) (fun t k => XS.aloadN X18.here hx rfl (hb hby at_19) rfl rfl k) ?_
      obtain ⟨T20, X20, e20, st20⟩ := getS2 X18 hx hZ hown (host := "") (Or.inl (hw _ (List.mem_of_getElem? (i := 8) rfl))) Via.refl e18 (S_w_LinkState_BOTH.ext O0.2) (g := (mkF m 20 #[.val (.int p0), .val (.int p1), .val (.ref w_LinkState_PROTECTION), .unset, .unset] [(.ref w_LinkState_PROTECTION)])) rfl (hb hby at_20)
      refine Goes.to (T' := T20.setTop (mkF m 23 #[.val (.int p0), .val (.int p1), .val (.ref w_LinkState_PROTECTION), .unset, .unset] [(.ref w_LinkState_BOTH), (.ref w_LinkState_PROTECTION)])) st20 ?_
      have hc23_21 : ¬ (w_LinkState_PROTECTION = w_LinkState_BOTH) := (Fld.ne F_ordinal_w_LinkState_PROTECTION F_ordinal_w_LinkState_BOTH (by simp))
      refine Goes.to (T' := T20.setTop (mkF m 30 #[.val (.int p0), .val (.int p1), .val (.ref w_LinkState_PROTECTION), .unset, .unset] [])) (fun t k => Jvm.RoadKit.acmp (g := (mkF m 23 #[.val (.int p0), .val (.int p1), .val (.ref w_LinkState_PROTECTION), .unset, .unset] [(.ref w_LinkState_BOTH), (.ref w_LinkState_PROTECTION)])) X20 hx rfl rfl rfl (pc0 := 23) (pc' := 30) (same := false) rfl (hb hby at_23) rfl (decide_eq_false fun q => hc23_21 (Value.ref.inj q)) (by decide) (by decide) k) ?_
      refine Goes.to (T' := T20.setTop (mkF m 31 #[.val (.int p0), .val (.int p1), .val (.ref w_LinkState_PROTECTION), .unset, .unset] [(.int (0 : Int32))])) (fun t k => XS.iconst X20.here hx rfl (hb hby at_30) k) ?_
      refine Goes.to (T' := T20.setTop (mkF m 32 #[.val (.int p0), .val (.int p1), .val (.ref w_LinkState_PROTECTION), .val (.int (0 : Int32)), .unset] [])) (fun t k => XS.istoreN X20.here hx rfl (hb hby at_31) rfl (l' := #[.val (.int p0), .val (.int p1), .val (.ref w_LinkState_PROTECTION), .val (.int (0 : Int32)), .unset]) rfl k) ?_
      refine Goes.to (T' := T20.setTop (mkF m 33 #[.val (.int p0), .val (.int p1), .val (.ref w_LinkState_PROTECTION), .val (.int (0 : Int32)), .unset] [(.ref w_LinkState_PROTECTION)])) (fun t k => XS.aloadN X20.here hx rfl (hb hby at_32) rfl rfl k) ?_
      obtain ⟨T22, X22, e22, st22⟩ := getS2 X20 hx hZ hown (host := "") (Or.inl (hw _ (List.mem_of_getElem? (i := 10) rfl))) Via.refl e20 (S_w_LinkState_PROTECTION.ext O0.2) (g := (mkF m 33 #[.val (.int p0), .val (.int p1), .val (.ref w_LinkState_PROTECTION), .val (.int (0 : Int32)), .unset] [(.ref w_LinkState_PROTECTION)])) rfl (hb hby at_33)
      refine Goes.to (T' := T22.setTop (mkF m 36 #[.val (.int p0), .val (.int p1), .val (.ref w_LinkState_PROTECTION), .val (.int (0 : Int32)), .unset] [(.ref w_LinkState_PROTECTION), (.ref w_LinkState_PROTECTION)])) st22 ?_
      refine Goes.to (T' := T22.setTop (mkF m 46 #[.val (.int p0), .val (.int p1), .val (.ref w_LinkState_PROTECTION), .val (.int (0 : Int32)), .unset] [])) (fun t k => Jvm.RoadKit.acmp (g := (mkF m 36 #[.val (.int p0), .val (.int p1), .val (.ref w_LinkState_PROTECTION), .val (.int (0 : Int32)), .unset] [(.ref w_LinkState_PROTECTION), (.ref w_LinkState_PROTECTION)])) X22 hx rfl rfl rfl (pc0 := 36) (pc' := 46) (same := true) rfl (hb hby at_36) rfl (decide_eq_true rfl) (by decide) (by decide) k) ?_
      refine Goes.to (T' := T22.setTop (mkF m 47 #[.val (.int p0), .val (.int p1), .val (.ref w_LinkState_PROTECTION), .val (.int (0 : Int32)), .unset] [(.int (1 : Int32))])) (fun t k => XS.iconst X22.here hx rfl (hb hby at_46) k) ?_
      refine Goes.to (T' := T22.setTop (mkF m 51 #[.val (.int p0), .val (.int p1), .val (.ref w_LinkState_PROTECTION), .val (.int (0 : Int32)), .unset] [(.int (1 : Int32))])) (fun t k => XS.goto X22.here hx rfl (pc0 := 47) (pc' := 51) rfl (hb hby at_47) (by decide) (by decide) k) ?_
      refine Goes.to (T' := T22.setTop (mkF m 53 #[.val (.int p0), .val (.int p1), .val (.ref w_LinkState_PROTECTION), .val (.int (0 : Int32)), .val (.int (1 : Int32))] [])) (fun t k => XS.istore X22.here hx rfl (hb hby at_51) rfl (l' := #[.val (.int p0), .val (.int p1), .val (.ref w_LinkState_PROTECTION), .val (.int (0 : Int32)), .val (.int (1 : Int32))]) rfl k) ?_
      refine Goes.to (T' := T22.setTop (mkF m 54 #[.val (.int p0), .val (.int p1), .val (.ref w_LinkState_PROTECTION), .val (.int (0 : Int32)), .val (.int (1 : Int32))] [(.int (0 : Int32))])) (fun t k => XS.iloadN X22.here hx rfl (hb hby at_53) rfl k) ?_
      refine Goes.to (T' := T22.setTop (mkF m 55 #[.val (.int p0), .val (.int p1), .val (.ref w_LinkState_PROTECTION), .val (.int (0 : Int32)), .val (.int (1 : Int32))] [(.int p0), (.int (0 : Int32))])) (fun t k => XS.iloadN X22.here hx rfl (hb hby at_54) rfl k) ?_
      refine Goes.to (T' := T22.setTop (mkF m 62 #[.val (.int p0), .val (.int p1), .val (.ref w_LinkState_PROTECTION), .val (.int (0 : Int32)), .val (.int (1 : Int32))] [(.int (0 : Int32))])) (fun t k => XS.ifYes X22.here hx rfl (pc0 := 55) (pc' := 62) rfl (hb hby at_55) rfl ((if0 _ _).trans (flt hk1).2.2.2) (by decide) (by decide) k) ?_
      refine Goes.to (T' := T22.setTop (mkF m 63 #[.val (.int p0), .val (.int p1), .val (.ref w_LinkState_PROTECTION), .val (.int (0 : Int32)), .val (.int (1 : Int32))] [(.int (0 : Int32)), (.int (0 : Int32))])) (fun t k => XS.iconst X22.here hx rfl (hb hby at_62) k) ?_
      refine Goes.to (T' := T22.setTop (mkF m 66 #[.val (.int p0), .val (.int p1), .val (.ref w_LinkState_PROTECTION), .val (.int (0 : Int32)), .val (.int (1 : Int32))] [])) (fun t k => XS.icmpNo X22.here hx rfl (hb hby at_63) rfl (teq (by decide)).2 k) ?_
      refine Goes.to (T' := T22.setTop (mkF m 68 #[.val (.int p0), .val (.int p1), .val (.ref w_LinkState_PROTECTION), .val (.int (0 : Int32)), .val (.int (1 : Int32))] [(.int (1 : Int32))])) (fun t k => XS.iload X22.here hx rfl (hb hby at_66) rfl k) ?_
      refine Goes.to (T' := T22.setTop (mkF m 69 #[.val (.int p0), .val (.int p1), .val (.ref w_LinkState_PROTECTION), .val (.int (0 : Int32)), .val (.int (1 : Int32))] [(.int p1), (.int (1 : Int32))])) (fun t k => XS.iloadN X22.here hx rfl (hb hby at_68) rfl k) ?_
      refine Goes.to (T' := T22.setTop (mkF m 72 #[.val (.int p0), .val (.int p1), .val (.ref w_LinkState_PROTECTION), .val (.int (0 : Int32)), .val (.int (1 : Int32))] [(.int (1 : Int32))])) (fun t k => XS.ifNo X22.here hx rfl (hb hby at_69) rfl ((if0 _ _).trans (tlt hk16).2.2.2) k) ?_
      refine Goes.to (T' := T22.setTop (mkF m 73 #[.val (.int p0), .val (.int p1), .val (.ref w_LinkState_PROTECTION), .val (.int (0 : Int32)), .val (.int (1 : Int32))] [(.int (1 : Int32)), (.int (1 : Int32))])) (fun t k => XS.iconst X22.here hx rfl (hb hby at_72) k) ?_
      refine Goes.to (T' := T22.setTop (mkF m 77 #[.val (.int p0), .val (.int p1), .val (.ref w_LinkState_PROTECTION), .val (.int (0 : Int32)), .val (.int (1 : Int32))] [(.int (1 : Int32)), (.int (1 : Int32))])) (fun t k => XS.goto X22.here hx rfl (pc0 := 73) (pc' := 77) rfl (hb hby at_73) (by decide) (by decide) k) ?_
      refine Goes.to (T' := T22.setTop (mkF m 80 #[.val (.int p0), .val (.int p1), .val (.ref w_LinkState_PROTECTION), .val (.int (0 : Int32)), .val (.int (1 : Int32))] [])) (fun t k => XS.icmpNo X22.here hx rfl (hb hby at_77) rfl (teq (by decide)).2 k) ?_
      refine Goes.to (T' := T22.setTop (mkF m 81 #[.val (.int p0), .val (.int p1), .val (.ref w_LinkState_PROTECTION), .val (.int (0 : Int32)), .val (.int (1 : Int32))] [(.int (1 : Int32))])) (fun t k => XS.iconst X22.here hx rfl (hb hby at_80) k) ?_
      refine Goes.to (T' := T22.setTop (mkF m 85 #[.val (.int p0), .val (.int p1), .val (.ref w_LinkState_PROTECTION), .val (.int (0 : Int32)), .val (.int (1 : Int32))] [(.int (1 : Int32))])) (fun t k => XS.goto X22.here hx rfl (pc0 := 81) (pc' := 85) rfl (hb hby at_81) (by decide) (by decide) k) ?_
      obtain ⟨fs, hrL, hrun, hended, hW, hsame⟩ := X22.leave (v := some (.int (1 : Int32))) (fun h => by rw [Bd.returns] at h; cases h)
      subst hQf
      refine ⟨_, _, retN X22 hx (t := .boolean) Bd.returns (by simp) (hb hby at_85) hrL, hrun, hended, _, _, rfl, ?_, ⟨_, rfl⟩, hW, hsame.mono (by decide) (by decide)⟩
      show (fun (v : Option Value) (h : Heap) (L : List Loc) => v = some (.int 1) ∧ Fr n0 L) (some (.int (1 : Int32))) T22.heap _
      rw [e22]
      exact ⟨rfl, N17⟩
    · skip
      obtain ⟨_, _, ⟨T23, L23, k23, n23⟩, -, X23, ⟨Lc23, hQ23, l23, y23, z23⟩, st23⟩ := Jvm.LawKit.callS X0 hx (y := (⟨"com/example/carve_spectrum/carvespectrum/LinkState", "of", "(II)Lcom/example/carve_spectrum/carvespectrum/LinkState;"⟩ : MethodName)) hown (mvT hZ (hw _ (List.mem_of_getElem? (i := 0) rfl))) (mvT hZ (hw _ (List.mem_of_getElem? (i := 1) rfl))) (mvT hZ (hw _ (List.mem_of_getElem? (i := 2) rfl))) (mvT hZ (hw _ (List.mem_of_getElem? (i := 3) rfl))) (by decide) (backOf (W := 0) (rm1 l Z a0 hw [] p0 p1 w_LinkState_PROTECTION w_LinkState_WORKING w_LinkState_BOTH w_LinkState_IDLE w_LinkState_IDLE h0 n0 O0 NF (by simp [hk1, hk16])) hZ (hw _ (List.mem_of_getElem? (i := 3) rfl)) (hw _ (List.mem_of_getElem? (i := 2) rfl)) (by decide) (by decide)) (g := (mkF m 2 #[.val (.int p0), .val (.int p1), .unset, .unset, .unset] [(.int p1), (.int p0)])) rfl (by rw [hml]; rfl) (argsL := [(.int p0), (.int p1)]) (rest := []) (lenOf pd_22 rfl) rfl (by show 2 * 0 + _ ≤ _; exact Nat.le_of_eq rfl) (hb hby at_2) (fun _ _ => ⟨rfl, e0, (by decide : 0 + 0 ≤ _), (by decide : 0 + 0 ≤ _)⟩)
      dsimp only [Pt.U, Pt.locs, Pt.cells, Pt.slots] at X23 l23 y23 z23 st23 hQ23
      subst l23 y23 z23
      obtain ⟨rfl, Nq23, e23⟩ := hQ23
      have N23 := Fr.app N0 Nq23
      refine Goes.to (T' := T23.setTop (mkF m 5 #[.val (.int p0), .val (.int p1), .unset, .unset, .unset] [(.ref w_LinkState_IDLE)])) st23 ?_
      refine Goes.to (T' := T23.setTop (mkF m 6 #[.val (.int p0), .val (.int p1), .val (.ref w_LinkState_IDLE), .unset, .unset] [])) (fun t k => XS.astoreN X23.here hx rfl (hb hby at_5) rfl rfl (l' := #[.val (.int p0), .val (.int p1), .val (.ref w_LinkState_IDLE), .unset, .unset]) rfl k) ?_
      refine Goes.to (T' := T23.setTop (mkF m 7 #[.val (.int p0), .val (.int p1), .val (.ref w_LinkState_IDLE), .unset, .unset] [(.ref w_LinkState_IDLE)])) (fun t k => XS.aloadN X23.here hx rfl (hb hby at_6) rfl rfl k) ?_
      refine Goes.to (T' := T23.setTop (mkF m 12 #[.val (.int p0), .val (.int p1), .val (.ref w_LinkState_IDLE), .unset, .unset] [])) (fun t k => XS.ifnonnullYes X23.here hx rfl (pc0 := 7) (pc' := 12) rfl (hb hby at_7) rfl (by decide) (by decide) k) ?_
      refine Goes.to (T' := T23.setTop (mkF m 13 #[.val (.int p0), .val (.int p1), .val (.ref w_LinkState_IDLE), .unset, .unset] [(.ref w_LinkState_IDLE)])) (fun t k => XS.aloadN X23.here hx rfl (hb hby at_12) rfl rfl k) ?_
      obtain ⟨T24, X24, e24, st24⟩ := getS2 X23 hx hZ hown (host := "") (Or.inl (hw _ (List.mem_of_getElem? (i := 6) rfl))) Via.refl e23 (S_w_LinkState_WORKING.ext O0.2) (g := (mkF m 13 #[.val (.int p0), .val (.int p1), .val (.ref w_LinkState_IDLE), .unset, .unset] [(.ref w_LinkState_IDLE)])) rfl (hb hby at_13)
      refine Goes.to (T' := T24.setTop (mkF m 16 #[.val (.int p0), .val (.int p1), .val (.ref w_LinkState_IDLE), .unset, .unset] [(.ref w_LinkState_WORKING), (.ref w_LinkState_IDLE)])) st24 ?_
      have hc16_25 : ¬ (w_LinkState_IDLE = w_LinkState_WORKING) := (Fld.ne F_ordinal_w_LinkState_IDLE F_ordinal_w_LinkState_WORKING (by simp))
      refine Goes.to (T' := T24.setTop (mkF m 19 #[.val (.int p0), .val (.int p1), .val (.ref w_LinkState_IDLE), .unset, .unset] [])) (fun t k => Jvm.RoadKit.acmp (g := (mkF m 16 #[.val (.int p0), .val (.int p1), .val (.ref w_LinkState_IDLE), .unset, .unset] [(.ref w_LinkState_WORKING), (.ref w_LinkState_IDLE)])) X24 hx rfl rfl rfl (pc0 := 16) (pc' := 19) (same := false) rfl (hb hby at_16) rfl (decide_eq_false fun q => hc16_25 (Value.ref.inj q)) (by decide) (by decide) k) ?_
      refine Goes.to (T' := T24.setTop (mkF m 20 #[.val (.int p0), .val (.int p1), .val (.ref w_LinkState_IDLE), .unset, .unset] [(.ref w_LinkState_IDLE)])) (fun t k => XS.aloadN X24.here hx rfl (hb hby at_19) rfl rfl k) ?_
      obtain ⟨T26, X26, e26, st26⟩ := getS2 X24 hx hZ hown (host := "") (Or.inl (hw _ (List.mem_of_getElem? (i := 8) rfl))) Via.refl e24 (S_w_LinkState_BOTH.ext O0.2) (g := (mkF m 20 #[.val (.int p0), .val (.int p1), .val (.ref w_LinkState_IDLE), .unset, .unset] [(.ref w_LinkState_IDLE)])) rfl (hb hby at_20)
      refine Goes.to (T' := T26.setTop (mkF m 23 #[.val (.int p0), .val (.int p1), .val (.ref w_LinkState_IDLE), .unset, .unset] [(.ref w_LinkState_BOTH), (.ref w_LinkState_IDLE)])) st26 ?_
      have hc23_27 : ¬ (w_LinkState_IDLE = w_LinkState_BOTH) := (Fld.ne F_ordinal_w_LinkState_IDLE F_ordinal_w_LinkState_BOTH (by simp))
      refine Goes.to (T' := T26.setTop (mkF m 30 #[.val (.int p0), .val (.int p1), .val (.ref w_LinkState_IDLE), .unset, .unset] [])) (fun t k => Jvm.RoadKit.acmp (g := (mkF m 23 #[.val (.int p0), .val (.int p1), .val (.ref w_LinkState_IDLE), .unset, .unset] [(.ref w_LinkState_BOTH), (.ref w_LinkState_IDLE)])) X26 hx rfl rfl rfl (pc0 := 23) (pc' := 30) (same := false) rfl (hb hby at_23) rfl (decide_eq_false fun q => hc23_27 (Value.ref.inj q)) (by decide) (by decide) k) ?_
      refine Goes.to (T' := T26.setTop (mkF m 31 #[.val (.int p0), .val (.int p1), .val (.ref w_LinkState_IDLE), .unset, .unset] [(.int (0 : Int32))])) (fun t k => XS.iconst X26.here hx rfl (hb hby at_30) k) ?_
      refine Goes.to (T' := T26.setTop (mkF m 32 #[.val (.int p0), .val (.int p1), .val (.ref w_LinkState_IDLE), .val (.int (0 : Int32)), .unset] [])) (fun t k => XS.istoreN X26.here hx rfl (hb hby at_31) rfl (l' := #[.val (.int p0), .val (.int p1), .val (.ref w_LinkState_IDLE), .val (.int (0 : Int32)), .unset]) rfl k) ?_
      refine Goes.to (T' := T26.setTop (mkF m 33 #[.val (.int p0), .val (.int p1), .val (.ref w_LinkState_IDLE), .val (.int (0 : Int32)), .unset] [(.ref w_LinkState_IDLE)])) (fun t k => XS.aloadN X26.here hx rfl (hb hby at_32) rfl rfl k) ?_
      obtain ⟨T28, X28, e28, st28⟩ := getS2 X26 hx hZ hown (host := "") (Or.inl (hw _ (List.mem_of_getElem? (i := 10) rfl))) Via.refl e26 (S_w_LinkState_PROTECTION.ext O0.2) (g := (mkF m 33 #[.val (.int p0), .val (.int p1), .val (.ref w_LinkState_IDLE), .val (.int (0 : Int32)), .unset] [(.ref w_LinkState_IDLE)])) rfl (hb hby at_33)
      refine Goes.to (T' := T28.setTop (mkF m 36 #[.val (.int p0), .val (.int p1), .val (.ref w_LinkState_IDLE), .val (.int (0 : Int32)), .unset] [(.ref w_LinkState_PROTECTION), (.ref w_LinkState_IDLE)])) st28 ?_
      have hc36_29 : ¬ (w_LinkState_IDLE = w_LinkState_PROTECTION) := (Fld.ne F_ordinal_w_LinkState_IDLE F_ordinal_w_LinkState_PROTECTION (by simp))
      refine Goes.to (T' := T28.setTop (mkF m 39 #[.val (.int p0), .val (.int p1), .val (.ref w_LinkState_IDLE), .val (.int (0 : Int32)), .unset] [])) (fun t k => Jvm.RoadKit.acmp (g := (mkF m 36 #[.val (.int p0), .val (.int p1), .val (.ref w_LinkState_IDLE), .val (.int (0 : Int32)), .unset] [(.ref w_LinkState_PROTECTION), (.ref w_LinkState_IDLE)])) X28 hx rfl rfl rfl (pc0 := 36) (pc' := 39) (same := false) rfl (hb hby at_36) rfl (decide_eq_false fun q => hc36_29 (Value.ref.inj q)) (by decide) (by decide) k) ?_
      refine Goes.to (T' := T28.setTop (mkF m 40 #[.val (.int p0), .val (.int p1), .val (.ref w_LinkState_IDLE), .val (.int (0 : Int32)), .unset] [(.ref w_LinkState_IDLE)])) (fun t k => XS.aloadN X28.here hx rfl (hb hby at_39) rfl rfl k) ?_
      obtain ⟨T30, X30, e30, st30⟩ := getS2 X28 hx hZ hown (host := "") (Or.inl (hw _ (List.mem_of_getElem? (i := 8) rfl))) Via.refl e28 (S_w_LinkState_BOTH.ext O0.2) (g := (mkF m 40 #[.val (.int p0), .val (.int p1), .val (.ref w_LinkState_IDLE), .val (.int (0 : Int32)), .unset] [(.ref w_LinkState_IDLE)])) rfl (hb hby at_40)
      refine Goes.to (T' := T30.setTop (mkF m 43 #[.val (.int p0), .val (.int p1), .val (.ref w_LinkState_IDLE), .val (.int (0 : Int32)), .unset] [(.ref w_LinkState_BOTH), (.ref w_LinkState_IDLE)])) st30 ?_
      refine Goes.to (T' := T30.setTop (mkF m 50 #[.val (.int p0), .val (.int p1), .val (.ref w_LinkState_IDLE), .val (.int (0 : Int32)), .unset] [])) (fun t k => Jvm.RoadKit.acmp (g := (mkF m 43 #[.val (.int p0), .val (.int p1), .val (.ref w_LinkState_IDLE), .val (.int (0 : Int32)), .unset] [(.ref w_LinkState_BOTH), (.ref w_LinkState_IDLE)])) X30 hx rfl rfl rfl (pc0 := 43) (pc' := 50) (same := false) rfl (hb hby at_43) rfl (decide_eq_false fun q => hc23_27 (Value.ref.inj q)) (by decide) (by decide) k) ?_
      refine Goes.to (T' := T30.setTop (mkF m 51 #[.val (.int p0), .val (.int p1), .val (.ref w_LinkState_IDLE), .val (.int (0 : Int32)), .unset] [(.int (0 : Int32))])) (fun t k => XS.iconst X30.here hx rfl (hb hby at_50) k) ?_
      refine Goes.to (T' := T30.setTop (mkF m 53 #[.val (.int p0), .val (.int p1), .val (.ref w_LinkState_IDLE), .val (.int (0 : Int32)), .val (.int (0 : Int32))] [])) (fun t k => XS.istore X30.here hx rfl (hb hby at_51) rfl (l' := #[.val (.int p0), .val (.int p1), .val (.ref w_LinkState_IDLE), .val (.int (0 : Int32)), .val (.int (0 : Int32))]) rfl k) ?_
      refine Goes.to (T' := T30.setTop (mkF m 54 #[.val (.int p0), .val (.int p1), .val (.ref w_LinkState_IDLE), .val (.int (0 : Int32)), .val (.int (0 : Int32))] [(.int (0 : Int32))])) (fun t k => XS.iloadN X30.here hx rfl (hb hby at_53) rfl k) ?_
      refine Goes.to (T' := T30.setTop (mkF m 55 #[.val (.int p0), .val (.int p1), .val (.ref w_LinkState_IDLE), .val (.int (0 : Int32)), .val (.int (0 : Int32))] [(.int p0), (.int (0 : Int32))])) (fun t k => XS.iloadN X30.here hx rfl (hb hby at_54) rfl k) ?_
      refine Goes.to (T' := T30.setTop (mkF m 62 #[.val (.int p0), .val (.int p1), .val (.ref w_LinkState_IDLE), .val (.int (0 : Int32)), .val (.int (0 : Int32))] [(.int (0 : Int32))])) (fun t k => XS.ifYes X30.here hx rfl (pc0 := 55) (pc' := 62) rfl (hb hby at_55) rfl ((if0 _ _).trans (flt hk1).2.2.2) (by decide) (by decide) k) ?_
      refine Goes.to (T' := T30.setTop (mkF m 63 #[.val (.int p0), .val (.int p1), .val (.ref w_LinkState_IDLE), .val (.int (0 : Int32)), .val (.int (0 : Int32))] [(.int (0 : Int32)), (.int (0 : Int32))])) (fun t k => XS.iconst X30.here hx rfl (hb hby at_62) k) ?_
      refine Goes.to (T' := T30.setTop (mkF m 66 #[.val (.int p0), .val (.int p1), .val (.ref w_LinkState_IDLE), .val (.int (0 : Int32)), .val (.int (0 : Int32))] [])) (fun t k => XS.icmpNo X30.here hx rfl (hb hby at_63) rfl (teq (by decide)).2 k) ?_
      refine Goes.to (T' := T30.setTop (mkF m 68 #[.val (.int p0), .val (.int p1), .val (.ref w_LinkState_IDLE), .val (.int (0 : Int32)), .val (.int (0 : Int32))] [(.int (0 : Int32))])) (fun t k => XS.iload X30.here hx rfl (hb hby at_66) rfl k) ?_
      refine Goes.to (T' := T30.setTop (mkF m 69 #[.val (.int p0), .val (.int p1), .val (.ref w_LinkState_IDLE), .val (.int (0 : Int32)), .val (.int (0 : Int32))] [(.int p1), (.int (0 : Int32))])) (fun t k => XS.iloadN X30.here hx rfl (hb hby at_68) rfl k) ?_
      refine Goes.to (T' := T30.setTop (mkF m 76 #[.val (.int p0), .val (.int p1), .val (.ref w_LinkState_IDLE), .val (.int (0 : Int32)), .val (.int (0 : Int32))] [(.int (0 : Int32))])) (fun t k => XS.ifYes X30.here hx rfl (pc0 := 69) (pc' := 76) rfl (hb hby at_69) rfl ((if0 _ _).trans (flt hk16).2.2.2) (by decide) (by decide) k) ?_
      refine Goes.to (T' := T30.setTop (mkF m 77 #[.val (.int p0), .val (.int p1), .val (.ref w_LinkState_IDLE), .val (.int (0 : Int32)), .val (.int (0 : Int32))] [(.int (0 : Int32)), (.int (0 : Int32))])) (fun t k => XS.iconst X30.here hx rfl (hb hby at_76) k) ?_
      refine Goes.to (T' := T30.setTop (mkF m 80 #[.val (.int p0), .val (.int p1), .val (.ref w_LinkState_IDLE), .val (.int (0 : Int32)), .val (.int (0 : Int32))] [])) (fun t k => XS.icmpNo X30.here hx rfl (hb hby at_77) rfl (teq (by decide)).2 k) ?_
      refine Goes.to (T' := T30.setTop (mkF m 81 #[.val (.int p0), .val (.int p1), .val (.ref w_LinkState_IDLE), .val (.int (0 : Int32)), .val (.int (0 : Int32))] [(.int (1 : Int32))])) (fun t k => XS.iconst X30.here hx rfl (hb hby at_80) k) ?_
      refine Goes.to (T' := T30.setTop (mkF m 85 #[.val (.int p0), .val (.int p1), .val (.ref w_LinkState_IDLE), .val (.int (0 : Int32)), .val (.int (0 : Int32))] [(.int (1 : Int32))])) (fun t k => XS.goto X30.here hx rfl (pc0 := 81) (pc' := 85) rfl (hb hby at_81) (by decide) (by decide) k) ?_
      obtain ⟨fs, hrL, hrun, hended, hW, hsame⟩ := X30.leave (v := some (.int (1 : Int32))) (fun h => by rw [Bd.returns] at h; cases h)
      subst hQf
      refine ⟨_, _, retN X30 hx (t := .boolean) Bd.returns (by simp) (hb hby at_85) hrL, hrun, hended, _, _, rfl, ?_, ⟨_, rfl⟩, hW, hsame.mono (by decide) (by decide)⟩
      show (fun (v : Option Value) (h : Heap) (L : List Loc) => v = some (.int 1) ∧ Fr n0 L) (some (.int (1 : Int32))) T30.heap _
      rw [e30]
      exact ⟨rfl, N23⟩
set_option maxRecDepth 65536 in
set_option maxHeartbeats 40000000 in
theorem comes_1 {Post : Tables → Env → Array Value → State → Outcome → State → Prop} (hpost : ∀ tb e args s v u, (limb_1_1.after args s (.returned v) u = true ∧ limb_1_2.after args s (.returned v) u = true ∧ True) → FrameEnd s (.returned v) u (Jvm.fieldLocs frame_1_writes args s ++ Jvm.arrayLocs frame_1_arrays args s ++ Jvm.staticLocs frame_1_statics s) 0 0 → Post tb e args s (.returned v) u) :
    ArmFor flags0 classFile x code maxLocals ret World_1 tables_1 room_1 Calls_1 rest_1 Pre_1 Post := by
  intro l hfl _ _ p e ha hc hk s m args below hf hA hF happ hP
  obtain ⟨hcalls, hrest, hpre⟩ := hP
  obtain ⟨-, -, -, hnamed, -, -, -, hat⟩ := (Spec.applies_iff hf).mp happ
  obtain ⟨hg, hn⟩ := and_e (Cond.before_iff.mp (show (Jvm.Cond.and given_1 narrow_1).before args s = true from hpre))
  obtain ⟨gc, gr0⟩ := and_e hg
  obtain ⟨w0, w1, rfl⟩ : ∃ w0 w1 : Value, args = #[w0, w1] := by
    have hs : args.size = 2 := by simpa [Cond.value, given_1] using gc
    obtain ⟨L⟩ := args
    match L, hs with
    | [w0, w1], _ => exact ⟨w0, w1, rfl⟩
  have hw := fun d (hd : d ∈ tables_1) => atoms_spec (ws := Jvm.Cond.code x code maxLocals ret :: tables_1) hat d (List.mem_cons_of_mem _ hd)
  have hfit : Fit s := fun {y c} hc i hi => by
    obtain ⟨ha, rfl⟩ := Array.getElem?_eq_some_iff.mp hc
    have q := List.all_eq_true.mp ((Array.all_eq_true_iff_forall_mem.mp hF) _ (Array.getElem_mem ha)) i (List.mem_range.mpr hi)
    simpa [Array.getElem?_eq_getElem hi] using q
  obtain ⟨gv0, gr1⟩ := and_e gr0
  obtain ⟨i0, ei0⟩ := is_v gv0
  obtain rfl : w0 = (.int i0) := Option.some.inj ei0
  obtain ⟨i1, ei1⟩ := is_v gr1
  obtain rfl : w1 = (.int i1) := Option.some.inj ei1
  obtain ⟨nl1, nr1⟩ := and_e hn
  obtain ⟨nl2, nr2⟩ := and_e nr1
  obtain ⟨nl3, nr3⟩ := and_e nr2
  obtain ⟨nl4, nr4⟩ := and_e nr3
  obtain ⟨nl5, nr5⟩ := and_e nr4
  obtain ⟨nl6, nr6⟩ := and_e nr5
  obtain ⟨nl7, nr7⟩ := and_e nr6
  obtain ⟨w_LinkState_PROTECTION, ev_w_LinkState_PROTECTION⟩ := exa_v nl1
  have S_w_LinkState_PROTECTION : Sta s s.heap "com/example/carve_spectrum/carvespectrum/LinkState" "PROTECTION" "Lcom/example/carve_spectrum/carvespectrum/LinkState;" (.ref w_LinkState_PROTECTION) := Sta.start ev_w_LinkState_PROTECTION (Or.inr ⟨(hw _ (List.mem_of_getElem? (i := 2) rfl)), (hw _ (List.mem_of_getElem? (i := 5) rfl))⟩)
  have E_w_LinkState_PROTECTION : Exa s s.heap w_LinkState_PROTECTION "com/example/carve_spectrum/carvespectrum/LinkState" := Exa.start ev_w_LinkState_PROTECTION nl1
  obtain ⟨w_LinkState_WORKING, ev_w_LinkState_WORKING⟩ := exa_v nl2
  have S_w_LinkState_WORKING : Sta s s.heap "com/example/carve_spectrum/carvespectrum/LinkState" "WORKING" "Lcom/example/carve_spectrum/carvespectrum/LinkState;" (.ref w_LinkState_WORKING) := Sta.start ev_w_LinkState_WORKING (Or.inr ⟨(hw _ (List.mem_of_getElem? (i := 2) rfl)), (hw _ (List.mem_of_getElem? (i := 7) rfl))⟩)
  have E_w_LinkState_WORKING : Exa s s.heap w_LinkState_WORKING "com/example/carve_spectrum/carvespectrum/LinkState" := Exa.start ev_w_LinkState_WORKING nl2
  obtain ⟨w_LinkState_BOTH, ev_w_LinkState_BOTH⟩ := exa_v nl5
  have S_w_LinkState_BOTH : Sta s s.heap "com/example/carve_spectrum/carvespectrum/LinkState" "BOTH" "Lcom/example/carve_spectrum/carvespectrum/LinkState;" (.ref w_LinkState_BOTH) := Sta.start ev_w_LinkState_BOTH (Or.inr ⟨(hw _ (List.mem_of_getElem? (i := 2) rfl)), (hw _ (List.mem_of_getElem? (i := 9) rfl))⟩)
  have E_w_LinkState_BOTH : Exa s s.heap w_LinkState_BOTH "com/example/carve_spectrum/carvespectrum/LinkState" := Exa.start ev_w_LinkState_BOTH nl5
  obtain ⟨w_LinkState_IDLE, ev_w_LinkState_IDLE⟩ := exa_v nl7
  have S_w_LinkState_IDLE : Sta s s.heap "com/example/carve_spectrum/carvespectrum/LinkState" "IDLE" "Lcom/example/carve_spectrum/carvespectrum/LinkState;" (.ref w_LinkState_IDLE) := Sta.start ev_w_LinkState_IDLE (Or.inr ⟨(hw _ (List.mem_of_getElem? (i := 2) rfl)), (hw _ (List.mem_of_getElem? (i := 13) rfl))⟩)
  have E_w_LinkState_IDLE : Exa s s.heap w_LinkState_IDLE "com/example/carve_spectrum/carvespectrum/LinkState" := Exa.start ev_w_LinkState_IDLE nl7
  have F_ordinal_w_LinkState_PROTECTION : Fld s s.heap w_LinkState_PROTECTION "java/lang/Enum" "ordinal" "I" (.int (2 : Int32)) := own_fldI ev_w_LinkState_PROTECTION nl3
  have F_ordinal_w_LinkState_WORKING : Fld s s.heap w_LinkState_WORKING "java/lang/Enum" "ordinal" "I" (.int (0 : Int32)) := own_fldI ev_w_LinkState_WORKING nl4
  have F_ordinal_w_LinkState_BOTH : Fld s s.heap w_LinkState_BOTH "java/lang/Enum" "ordinal" "I" (.int (1 : Int32)) := own_fldI ev_w_LinkState_BOTH nl6
  have F_ordinal_w_LinkState_IDLE : Fld s s.heap w_LinkState_IDLE "java/lang/Enum" "ordinal" "I" (.int (3 : Int32)) := own_fldI ev_w_LinkState_IDLE nr7
  obtain ⟨n, o, h1, h2, h3, _, L, rfl, ⟨rfl, N⟩, hq⟩ := rm0 l s _ hw tables_1 i0 i1 w_LinkState_PROTECTION w_LinkState_WORKING w_LinkState_BOTH w_LinkState_IDLE s.heap s.heap.size (Old.start s) ⟨S_w_LinkState_PROTECTION, E_w_LinkState_PROTECTION, S_w_LinkState_WORKING, E_w_LinkState_WORKING, S_w_LinkState_BOTH, E_w_LinkState_BOTH, S_w_LinkState_IDLE, E_w_LinkState_IDLE, F_ordinal_w_LinkState_PROTECTION, F_ordinal_w_LinkState_WORKING, F_ordinal_w_LinkState_BOTH, F_ordinal_w_LinkState_IDLE⟩ p e ha hc hk s m _ below hf ((Spec.applies_iff_loose hf).mp happ).1 ⟨rfl, State.Warmed39.refl s, rfl⟩ trivial
  refine ⟨n, _, h1, h2, h3, hpost _ _ _ _ _ _ ⟨Cond.after_iff.mpr rfl, Cond.after_iff.mpr (eq_i res_at (Term.int_eval (1)) rfl), trivial⟩ ⟨hq.1, hq.2.1, (hq.2.2.sift fun y hy => Or.inr (N y hy)).mono (by decide) (by decide)⟩⟩
theorem main_1_1 : Claimed_1_1 := comes_1 fun _ _ _ _ _ _ h hF => ⟨h.1, hF⟩
theorem main_1_2 : Claimed_1_2 := comes_1 fun _ _ _ _ _ _ h hF => ⟨h.2.1, hF⟩
end Jvm.Pilot.@@N@@
namespace Jvm.Pilot.@@N@@
open Jvm Jvm.ClassFile Sem Op Lib Jvm.Free Jvm.Stand Jvm.Pilot.@@N@@.Jvm.D
/-! MADE BY PROGRAM (witnessworld.py) out of the Statement's table words and the real class files: 12 classes; the members and pool entries that the words name. The judged class is class 1, her method 1. -/
namespace start1
open Jvm.ClassFile
def u (s : String) : CpInfo := .utf8 (stringToUtf16 s)
/-- a pool by its gaps: so many unusable entries, then the entry; so many at the end -/
def gap : Nat → List CpInfo → List CpInfo
  | 0, r => r
  | n + 1, r => .unusable :: gap n r
def poolList (es : List (Nat × CpInfo)) (last : Nat) : List CpInfo := es.foldr (fun e r => gap e.1 (e.2 :: r)) (gap last [])
def pool (es : List (Nat × CpInfo)) (last : Nat) : Array CpInfo := ⟨poolList es last⟩
def fileOf (pool : Array CpInfo) (this : Nat) (attrs : Array Attribute := #[]) (ms : Array MethodInfo := #[]) (fl : Nat := 33) (sup : Nat := 0) (ifs : Array Nat := #[]) (fds : Array FieldInfo := #[]) : ClassFile where
  minorVersion := 0
  majorVersion := 65
  constantPool := pool
  accessFlags := fl
  thisClass := this
  superClass := sup
  interfaces := ifs
  fields := fds
  methods := ms
  attributes := attrs
def plain (name : String) (sup : Option ClassId) : Class where
  name := name
  kind := .ordinary
  loader := none
  accessFlags := 33
  super := sup
  interfaces := #[]
  cf := none
  fields := #[]
  methods := #[]
  instanceTypes := #[]
  staticTypes := #[]
  resolved := #[]
  callSites := []
  init := .initialized
  statics := none
  mirror := none

def pool0 : Array CpInfo := pool [(5, u "<init>"), (0, u "()V"), (1, .class_ 10), (1, u "java/lang/Object")] 113

def k0m0 : Method := { name := "<init>", desc := "()V", sig := { parameters := [], returnType := none }, accessFlags := 1, code := none }
/-- java/lang/Object -/
def k0 : Class := { plain "java/lang/Object" none with
  accessFlags := 33
  interfaces := #[]
  cf := some (fileOf pool0 8 #[] #[{ accessFlags := 1, nameIndex := 5, descriptorIndex := 6, attributes := #[] }] 33 0 #[] #[])
  fields := #[]
  methods := #[k0m0]
  instanceTypes := #[]
  staticTypes := #[]
  resolved := Array.replicate 124 none
  statics := none }

def pool1 : Array CpInfo := pool [(2, .class_ 4), (1, u "java/lang/Object"), (0, u "<init>"), (0, u "()V"), (0, .methodref 8 9), (0, .class_ 10), (0, .nameAndType 11 12), (0, u "com/example/carve_spectrum/carvespectrum/LinkState"), (0, u "of"), (0, u "(II)Lcom/example/carve_spectrum/carvespectrum/LinkState;"), (0, .fieldref 8 14), (0, .nameAndType 15 16), (0, u "WORKING"), (0, u "Lcom/example/carve_spectrum/carvespectrum/LinkState;"), (0, .fieldref 8 18), (0, .nameAndType 19 16), (0, u "BOTH"), (0, .fieldref 8 21), (0, .nameAndType 22 16), (0, u "PROTECTION"), (0, .class_ 24), (0, u "com/example/carve_spectrum/carvespectrum/LinkStateOfPinLaw"), (2, u "law"), (0, u "(II)Z")] 3

def k1m0 : Method := { name := "<init>", desc := "()V", sig := { parameters := [], returnType := none }, accessFlags := 2, code := none }
def k1c1 : Code := { maxStack := 2, maxLocals := 5, code := code, exceptionTable := #[], attributes := #[] }
def k1m1 : Method := { name := "law", desc := "(II)Z", sig := { parameters := [.int, .int], returnType := some .boolean }, accessFlags := 9, code := some k1c1 }
/-- com/example/carve_spectrum/carvespectrum/LinkStateOfPinLaw -/
def k1 : Class := { plain "com/example/carve_spectrum/carvespectrum/LinkStateOfPinLaw" (some 0) with
  accessFlags := 49
  interfaces := #[]
  cf := some (fileOf pool1 23 #[] #[{ accessFlags := 2, nameIndex := 5, descriptorIndex := 6, attributes := #[] }, { accessFlags := 9, nameIndex := 27, descriptorIndex := 28, attributes := #[] }] 49 2 #[] #[])
  fields := #[]
  methods := #[k1m0, k1m1]
  instanceTypes := #[]
  staticTypes := #[]
  resolved := Array.replicate 32 none
  statics := none }

def pool2 : Array CpInfo := pool [(1, .class_ 2), (0, u "java/lang/constant/Constable"), (0, .class_ 4), (0, u "java/lang/Object")] 6

/-- java/lang/constant/Constable -/
def k2 : Class := { plain "java/lang/constant/Constable" (some 0) with
  accessFlags := 1537
  interfaces := #[]
  cf := some (fileOf pool2 1 #[] #[] 1537 3 #[] #[])
  fields := #[]
  methods := #[]
  instanceTypes := #[]
  staticTypes := #[]
  resolved := Array.replicate 11 none
  statics := none }

def pool3 : Array CpInfo := pool [(1, .class_ 2), (0, u "java/lang/Comparable"), (0, .class_ 4), (0, u "java/lang/Object")] 7

/-- java/lang/Comparable -/
def k3 : Class := { plain "java/lang/Comparable" (some 0) with
  accessFlags := 1537
  interfaces := #[]
  cf := some (fileOf pool3 1 #[] #[] 1537 3 #[] #[])
  fields := #[]
  methods := #[]
  instanceTypes := #[]
  staticTypes := #[]
  resolved := Array.replicate 12 none
  statics := none }

def pool4 : Array CpInfo := pool [(1, .class_ 2), (0, u "java/io/Serializable"), (0, .class_ 4), (0, u "java/lang/Object")] 2

/-- java/io/Serializable -/
def k4 : Class := { plain "java/io/Serializable" (some 0) with
  accessFlags := 1537
  interfaces := #[]
  cf := some (fileOf pool4 1 #[] #[] 1537 3 #[] #[])
  fields := #[]
  methods := #[]
  instanceTypes := #[]
  staticTypes := #[]
  resolved := Array.replicate 7 none
  statics := none }

def pool5 : Array CpInfo := pool [(2, .class_ 4), (1, u "java/lang/Enum"), (0, u "name"), (0, u "Ljava/lang/String;"), (2, u "ordinal"), (0, u "I"), (1, .class_ 14), (1, u "java/lang/Object"), (4, u "hash"), (86, .class_ 108), (1, u "java/lang/Enum$EnumDesc"), (2, .class_ 112), (0, u "java/lang/constant/Constable"), (0, .class_ 114), (0, u "java/lang/Comparable"), (0, .class_ 116), (0, u "java/io/Serializable")] 87

/-- java/lang/Enum -/
def k5 : Class := { plain "java/lang/Enum" (some 0) with
  accessFlags := 1057
  interfaces := #[2, 3, 4]
  cf := some (fileOf pool5 2 #[.nestMembers #[106]] #[] 1057 12 #[111, 113, 115] #[{ accessFlags := 18, nameIndex := 5, descriptorIndex := 6, attributes := #[] }, { accessFlags := 18, nameIndex := 9, descriptorIndex := 10, attributes := #[] }, { accessFlags := 2, nameIndex := 19, descriptorIndex := 10, attributes := #[] }])
  fields := #[{ name := "name", type := (.object "java/lang/String"), accessFlags := 18, slot := 0, constantValue := 0 }, { name := "ordinal", type := .int, accessFlags := 18, slot := 1, constantValue := 0 }, { name := "hash", type := .int, accessFlags := 2, slot := 2, constantValue := 0 }]
  methods := #[]
  instanceTypes := #[(.object "java/lang/String"), .int, .int]
  staticTypes := #[]
  resolved := Array.replicate 204 none
  statics := none }

def pool6 : Array CpInfo := pool [(1, .class_ 2), (0, u "com/example/carve_spectrum/carvespectrum/LinkState"), (0, .fieldref 1 4), (0, .nameAndType 5 6), (0, u "WORKING"), (0, u "Lcom/example/carve_spectrum/carvespectrum/LinkState;"), (0, .fieldref 1 8), (0, .nameAndType 9 6), (0, u "BOTH"), (0, .fieldref 1 11), (0, .nameAndType 12 6), (0, u "PROTECTION"), (0, .fieldref 1 14), (0, .nameAndType 15 6), (0, u "IDLE"), (2, u "$VALUES"), (0, u "[Lcom/example/carve_spectrum/carvespectrum/LinkState;"), (6, .class_ 28), (1, u "java/lang/Enum"), (8, u "word"), (0, u "Ljava/lang/String;"), (26, u "of"), (0, u "(II)Lcom/example/carve_spectrum/carvespectrum/LinkState;")] 7

def k6c0 : Code := { maxStack := 1, maxLocals := 3, code := prog_32_method_4_code, exceptionTable := #[], attributes := #[] }
def k6m0 : Method := { name := "of", desc := "(II)Lcom/example/carve_spectrum/carvespectrum/LinkState;", sig := { parameters := [.int, .int], returnType := some (.object "com/example/carve_spectrum/carvespectrum/LinkState") }, accessFlags := 8, code := some k6c0 }
/-- com/example/carve_spectrum/carvespectrum/LinkState -/
def k6 : Class := { plain "com/example/carve_spectrum/carvespectrum/LinkState" (some 5) with
  accessFlags := 16432
  interfaces := #[]
  cf := some (fileOf pool6 1 #[] #[{ accessFlags := 8, nameIndex := 65, descriptorIndex := 66, attributes := #[] }] 16432 26 #[] #[{ accessFlags := 16409, nameIndex := 5, descriptorIndex := 6, attributes := #[] }, { accessFlags := 16409, nameIndex := 9, descriptorIndex := 6, attributes := #[] }, { accessFlags := 16409, nameIndex := 12, descriptorIndex := 6, attributes := #[] }, { accessFlags := 16409, nameIndex := 15, descriptorIndex := 6, attributes := #[] }, { accessFlags := 18, nameIndex := 37, descriptorIndex := 38, attributes := #[] }, { accessFlags := 4122, nameIndex := 18, descriptorIndex := 19, attributes := #[] }])
  fields := #[{ name := "WORKING", type := (.object "com/example/carve_spectrum/carvespectrum/LinkState"), accessFlags := 16409, slot := 0, constantValue := 0 }, { name := "BOTH", type := (.object "com/example/carve_spectrum/carvespectrum/LinkState"), accessFlags := 16409, slot := 1, constantValue := 0 }, { name := "PROTECTION", type := (.object "com/example/carve_spectrum/carvespectrum/LinkState"), accessFlags := 16409, slot := 2, constantValue := 0 }, { name := "IDLE", type := (.object "com/example/carve_spectrum/carvespectrum/LinkState"), accessFlags := 16409, slot := 3, constantValue := 0 }, { name := "word", type := (.object "java/lang/String"), accessFlags := 18, slot := 3, constantValue := 0 }, { name := "$VALUES", type := (.array (.object "com/example/carve_spectrum/carvespectrum/LinkState")), accessFlags := 4122, slot := 4, constantValue := 0 }]
  methods := #[k6m0]
  instanceTypes := #[(.object "java/lang/String"), .int, .int, (.object "java/lang/String")]
  staticTypes := #[(.object "com/example/carve_spectrum/carvespectrum/LinkState"), (.object "com/example/carve_spectrum/carvespectrum/LinkState"), (.object "com/example/carve_spectrum/carvespectrum/LinkState"), (.object "com/example/carve_spectrum/carvespectrum/LinkState"), (.array (.object "com/example/carve_spectrum/carvespectrum/LinkState"))]
  resolved := Array.replicate 74 none
  statics := some 0 }

def pool7 : Array CpInfo := pool [(1, u "java/lang/Cloneable"), (0, .class_ 1), (0, u "java/lang/Object"), (0, .class_ 3)] 3

/-- java/lang/Cloneable -/
def k7 : Class := { plain "java/lang/Cloneable" (some 0) with
  accessFlags := 1537
  interfaces := #[]
  cf := some (fileOf pool7 2 #[] #[] 1537 4 #[] #[])
  fields := #[]
  methods := #[]
  instanceTypes := #[]
  staticTypes := #[]
  resolved := Array.replicate 8 none
  statics := none }

/-- the primitive byte -/
def k8 : Class := { plain "byte" none with kind := .primitive 'B', accessFlags := 0x411 }
/-- [B -/
def k9 : Class := { plain "[B" (some 0) with kind := .array 8 .byte, interfaces := #[7, 4], accessFlags := 1041 }

/-- the primitive int -/
def k10 : Class := { plain "int" none with kind := .primitive 'I', accessFlags := 0x411 }
/-- [I -/
def k11 : Class := { plain "[I" (some 0) with kind := .array 10 .int, interfaces := #[7, 4], accessFlags := 1041 }

def heap : Heap := #[{ cls := 6, slots := #[.ref 2, .ref 3, .ref 1, .ref 4, .null], vm := .statics 6 },
  { cls := 6, slots := #[.null, .int 2, .int 0, .null], vm := .none },
  { cls := 6, slots := #[.null, .int 0, .int 0, .null], vm := .none },
  { cls := 6, slots := #[.null, .int 1, .int 0, .null], vm := .none },
  { cls := 6, slots := #[.null, .int 3, .int 0, .null], vm := .none }]
def classes : Array Class := #[k0, k1, k2, k3, k4, k5, k6, k7, k8, k9, k10, k11]
def interned : List (Array UInt16 × Addr) := []
def slotsUsed : Nat := 21
def theMethod : MethodId := ⟨1, 1⟩
def args0 : Array Value := #[.int 5, .int 6]
def aboutOver (below : List Frame) : State where
  vm := { classes := classes, interned := interned.toArray }
  heap := heap
  slotsUsed := slotsUsed
  threads := #[{ frames := .invoking theMethod args0 :: below }]
def below0 : List Frame := [.native { method := ⟨0, 0⟩, args := #[] }]
def about1 : State := aboutOver below0
def p0 : Program := .bare "" "" ""
def e0 : Env := launch0.env 0 0 0
theorem w_frames : about1.frames = Frame.invoking theMethod args0 :: below0 := rfl
set_option maxRecDepth 65536 in
theorem w_args : argsFit about1.vm theMethod args0 = true := by decide +kernel
set_option maxRecDepth 65536 in
theorem w_heap : heapFits about1 = true := by decide +kernel
set_option maxRecDepth 65536 in
theorem w_runnable : about1.curStatus? = some .runnable := by decide +kernel
set_option maxRecDepth 65536 in
theorem w_alone : about1.alone = true := by decide +kernel
set_option maxRecDepth 65536 in
theorem w_named : about1.methodNamed? x = some theMethod := by decide +kernel
set_option maxRecDepth 65536 in
theorem w_hears : about1.hears theMethod below0 = true := by decide +kernel
set_option maxRecDepth 65536 in
theorem w_ripe : about1.ripe theMethod args0 below0 = true := by decide +kernel
theorem w_running : about1.status = .running := rfl
set_option maxRecDepth 65536 in
theorem w_room : about1.hasRoom e0.platform room_1 = true :=
  launch0.hasRoom_least _ room_1 (by decide +kernel) (by decide +kernel) (by decide +kernel) (by decide +kernel) (by decide +kernel) (by decide +kernel)
theorem allAtoms_all (ts : List Jvm.Cond) (a : Array Jvm.Value) (st : Jvm.State) : (allAtoms ts).before a st = ts.all (fun c => c.before a st) := by
  induction ts with
  | nil => rfl
  | cons c t ih =>
    show (Jvm.Cond.and c (allAtoms t)).before a st = _
    rw [Jvm.Cond.before_and, ih, List.all_cons]
def words1 : List Jvm.Cond := Jvm.Cond.code x code maxLocals ret :: tables_1
/-- a 'code' word, met by the world's own term for the bytes: nothing is compared byte by byte -/
theorem code_word {y : MethodName} {bytes : ByteArray} {mx : Nat} {rt : Option FieldType} {a : Array Value} {s : State} {m : MethodId} {meth : Method} {c : Code} (h1 : s.methodNamed? y = some m) (h2 : s.vm.method? m = some meth) (h3 : meth.code = some c) (h4 : c.code = bytes)
    (h5 : (c.maxLocals == mx && c.exceptionTable.isEmpty && decide (c.maxStack ≤ mostOperands) && decide (meth.sig.returnType = rt) && !meth.locks && decide (parseMethodDescriptor y.desc = some meth.sig)) = true) : (Jvm.Cond.code y bytes mx rt).before a s = true := by
  simp only [Bool.and_eq_true, beq_iff_eq, Bool.not_eq_true', decide_eq_true_eq] at h5
  obtain ⟨⟨⟨⟨⟨g1, g2⟩, g3⟩, g4⟩, g5⟩, g6⟩ := h5
  simp [Cond.before, Cond.holds, Cond.value, h1, h2, h3, h4, g1, g2, g3, g4, g5, g6]
def isCode : Jvm.Cond → Bool
  | .code _ _ _ _ => true
  | _ => false
theorem all_split {L : List Jvm.Cond} {P : Jvm.Cond → Bool} (h1 : L.all (fun c => isCode c || P c) = true) (h2 : ∀ c ∈ L.filter isCode, P c = true) : L.all P = true := by
  refine List.all_eq_true.mpr fun c hc => ?_
  have h := List.all_eq_true.mp h1 c hc
  rcases Bool.eq_false_or_eq_true (isCode c) with hi | hi
  · exact h2 c (List.mem_filter.mpr ⟨hc, hi⟩)
  · simpa [hi] using h
set_option maxRecDepth 65536 in
theorem w_c0 : (Jvm.Cond.code x code maxLocals ret).before args0 about1 = true := code_word (m := ⟨1, 1⟩) (meth := k1m1) (c := k1c1) (by decide +kernel) rfl rfl rfl (by decide +kernel)
set_option maxRecDepth 65536 in
theorem w_c1 : (Jvm.Cond.code ({ cls := "com/example/carve_spectrum/carvespectrum/LinkState", name := "of", desc := "(II)Lcom/example/carve_spectrum/carvespectrum/LinkState;" } : Jvm.MethodName) prog_32_method_4_code (3 : Nat) (Option.some (Jvm.ClassFile.FieldType.object "com/example/carve_spectrum/carvespectrum/LinkState"))).before args0 about1 = true := code_word (m := ⟨6, 0⟩) (meth := k6m0) (c := k6c0) (by decide +kernel) rfl rfl rfl (by decide +kernel)
def codes1 : List Jvm.Cond := [Jvm.Cond.code x code maxLocals ret, Jvm.Cond.code ({ cls := "com/example/carve_spectrum/carvespectrum/LinkState", name := "of", desc := "(II)Lcom/example/carve_spectrum/carvespectrum/LinkState;" } : Jvm.MethodName) prog_32_method_4_code (3 : Nat) (Option.some (Jvm.ClassFile.FieldType.object "com/example/carve_spectrum/carvespectrum/LinkState"))]
set_option maxRecDepth 65536 in
theorem codes_eq : words1.filter isCode = codes1 := rfl
theorem w_codes : ∀ c ∈ words1.filter isCode, c.before args0 about1 = true := by
  rw [codes_eq]
  intro c hc
  simp only [codes1, List.mem_cons, List.not_mem_nil, or_false] at hc
  rcases hc with rfl | rfl
  · exact w_c0
  · exact w_c1
set_option maxRecDepth 65536 in
theorem w_t1 : words1.all (fun c => isCode c || c.before args0 about1) = true := by decide +kernel
theorem w_tables : (allAtoms (Jvm.Cond.code x code maxLocals ret :: tables_1)).before args0 about1 = true := by
  rw [allAtoms_all]
  show words1.all (fun c => c.before args0 about1) = true
  refine all_split ?_ w_codes
  rw [w_t1]
set_option maxRecDepth 65536 in
theorem w_case : (Jvm.Cond.and given_1 narrow_1).before args0 about1 = true := by decide +kernel
theorem w_applies : (headSpec (Jvm.Cond.code x code maxLocals ret :: tables_1) room_1).applies x e0.platform about1 = true :=
  (Spec.applies_iff w_frames).mpr ⟨w_running, w_runnable, w_alone, w_named, w_hears, w_ripe, w_room, w_tables⟩
theorem atStart : AtStart classFile x code maxLocals ret World_1 tables_1 room_1 Calls_1 rest_1 Pre_1 launch0 p0 e0 about1 theMethod args0 below0 :=
  ⟨lists_1, trivial, launch0.admits_env _ _ _, launch0.least_env, fairChoices_fair.cas, fairChoices_fair.clock, w_frames, w_args, w_heap, w_applies, trivial, trivial, w_case⟩
end start1
theorem witness_1 : WitnessClaimed_1 := ⟨start1.p0, start1.e0, start1.about1, start1.theMethod, start1.args0, start1.below0, start1.atStart⟩
end Jvm.Pilot.@@N@@
