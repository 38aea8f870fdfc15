import JvmDerived
import JvmDerived.Pilot.@@N@@Statement
import JvmDerived.Pilot.@@N@@Code
set_option linter.unusedVariables false
set_option linter.unusedSimpArgs false
namespace Jvm.Pilot.@@N@@
open Jvm Jvm.ClassFile Sem Op Lib Jvm.Free Jvm.Stand Jvm.LawKit Jvm.RoadKit Bundle Jvm.Pilot.@@N@@.Jvm.D
/-- from T the run goes on to an end of which Qf says what it is -/
def Goes (tb : Tables) (e : Env) (below : List Frame) (Qf : Outcome → State → Prop) (T : State) : Prop := ∃ s₂ o, Steps tb e below T s₂ ∧ s₂.status = .running ∧ Ended s₂ below o ∧ Qf o s₂
theorem Goes.to {tb : Tables} {e : Env} {below : List Frame} {Qf : Outcome → State → Prop} {T T' : State} (k : ∀ t, Steps tb e below T' t → Steps tb e below T t) (h : Goes tb e below Qf T') : Goes tb e below Qf T := by
  obtain ⟨s, o, h1, h2⟩ := h; exact ⟨s, o, k s h1, h2⟩
theorem Goes.thru {tb : Tables} {e : Env} {below : List Frame} {Qf : Outcome → State → Prop} {T T' : State} (k : Steps tb e below T T') (h : Goes tb e below Qf T') : Goes tb e below Qf T := by
  obtain ⟨s, o, h1, h2⟩ := h; exact ⟨s, o, k.trans h1, h2⟩
theorem own_old {Z : State} {n0 : Nat} {h : Heap} (O : Old Z n0 h) : n0 ≤ h.size := O.1 ▸ O.2.1
theorem own_ext_keep {h h' : Heap} (K : Keep h h' []) : Ext h h' := ⟨K.1, fun a c q => K.2.1 a c q nin0⟩
theorem own_nsroot {Z : State} {a0 : Array Value} {O K : String} {n : Nat} (w : (Jvm.Cond.noSuperclass O).before a0 Z = true) (wk : (Jvm.Cond.instantiable K n).before a0 Z = true) (hn : O ≠ K) : NS Z O K := by
  obtain ⟨c, k, h1, h2, h3, -, -⟩ := Cond.noSuperclass_spec w
  obtain ⟨t, k2, g1, -⟩ := Cond.instantiable_spec wk
  have ne := ids_ne h1 g1 hn
  refine ⟨c, t, h1, g1, fun fuel => ?_⟩
  cases fuel with
  | zero => rfl
  | succ f => simp [Vm.isSubclassAux, ne, h2, h3]
theorem own_nsno {Z : State} {a0 : Array Value} {C S K : String} {n : Nat} (w : (Jvm.Cond.superclass C S).before a0 Z = true) (wk : (Jvm.Cond.instantiable K n).before a0 Z = true) (ns : NS Z C K) (hn : C ≠ K) : ∃ c t, Z.vm.findClass C = some c ∧ Z.vm.findClass K = some t ∧ Z.vm.assignable c t = false := by
  obtain ⟨c, t, h0, g0, n3⟩ := ns
  obtain ⟨p, k, kp, h1, h2, h3, h4, h5, -, h7⟩ := Cond.superclass_spec h0 w
  obtain ⟨t', k', g1, g2, g5, g7, -⟩ := Cond.instantiable_spec wk
  cases g0.symm.trans g1
  have ne := ids_ne h0 g0 hn
  refine ⟨c, t, h0, g0, ?_⟩
  show Z.vm.assignableAux (255 + 1) c t = false
  simp [Vm.assignableAux, ne, h2, g2, h5, g5, (Bool.or_eq_false_iff.mp g7).1, Vm.isSubclass, n3]
theorem own_selp {s : State} {args : Array Value} {y : MethodName} {n : Nat} (wi : (Jvm.Cond.instantiable y.cls n).before args s = true) (hp : (Jvm.Cond.privateMethod y).before args s = true) (hinst : (Jvm.Cond.instanceMethod y).before args s = true) (hy : y.cls ≠ "java/lang/invoke/MethodHandle" ∧ y.cls ≠ "java/lang/invoke/VarHandle") : (Jvm.Cond.selects y.cls y y).before args s = true := by
  obtain ⟨c, k, h1, h2, -, h4, -⟩ := Cond.instantiable_spec wi
  exact selects_self_of_private h1 h2 (Bool.or_eq_false_iff.mp h4).1 (Cond.privateMethod_at hp) hinst hy
theorem own_keep_ext {h h' : Heap} (E : Ext h h') : Keep h h' [] := (Keep.refl h []).ext E
theorem own_len {s : State} {args : Array Value} {t : Term} {a : Addr} {cl : Cell} {ty : FieldType} {k : Int32} (ht : t.eval args s none [] s = some (.ref a)) (A : Arr s s.heap a cl ty) (h : (Cond.eq (.length t) (.int k)).value args s none s [] = some true) : cl.slots.size < 2 ^ 31 ∧ cl.slots.size.toInt32 = k := by
  obtain ⟨x, y, e1, e2, -, k2⟩ := cmp_v (Or.inl h)
  obtain rfl : Value.int k = y := Option.some.inj e2
  obtain ⟨z, rfl⟩ := k2
  have q : (z = k) := gotT (P := z = k) (by simp [Cond.value, e1, e2]) h
  subst q
  have hA := A.fin (Vm.Alike.refl _)
  by_cases hl : cl.slots.size < 2 ^ 31
  · rw [len_f ht hA hl] at e1
    exact ⟨hl, by simpa using e1⟩
  · simp [Term.eval, ht, hA, hl] at e1
theorem own_stR {s : State} {args : Array Value} {t u : Term} {b : Addr} (h : (Cond.eq t u).value args s none s [] = some true) (hu : u.eval args s none [] s = some (.ref b)) : t.eval args s none [] s = some (.ref b) := by
  obtain ⟨x, y, e1, e2, k1, k2⟩ := cmp_v (Or.inl h)
  obtain rfl : y = Value.ref b := Option.some.inj (e2.symm.trans hu)
  have hx : x.isRef = true := by cases x <;> simp [Kin, Value.isRef] at k1 k2 ⊢
  have q : x = Value.ref b := gotT (eq_R e1 e2 hx rfl) h
  subst q; exact e1
theorem own_fldI {s : State} {args : Array Value} {t : Term} {a : Addr} {C n d : String} {k : Int32} (ht : t.eval args s none [] s = some (.ref a)) (h : (Cond.eq (.field t C n d) (.int k)).value args s none s [] = some true) : Fld s s.heap a C n d (.int k) := by
  obtain ⟨x, y, e1, e2, -, k2⟩ := cmp_v (Or.inl h)
  obtain rfl : Value.int k = y := Option.some.inj e2
  obtain ⟨z, rfl⟩ := k2
  have q : (z = k) := gotT (P := z = k) (by simp [Cond.value, e1, e2]) h
  subst q
  exact Fld.start (by rw [← fld_at ht]; exact e1)
theorem own_fldL {s : State} {args : Array Value} {t : Term} {a : Addr} {C n d : String} {k : Int64} (ht : t.eval args s none [] s = some (.ref a)) (h : (Cond.eq (.field t C n d) (.long k)).value args s none s [] = some true) : Fld s s.heap a C n d (.long k) := by
  obtain ⟨x, y, e1, e2, -, k2⟩ := cmp_v (Or.inl h)
  obtain rfl : Value.long k = y := Option.some.inj e2
  obtain ⟨z, rfl⟩ := k2
  have q : (z = k) := gotT (P := z = k) (by simp [Cond.value, e1, e2]) h
  subst q
  exact Fld.start (by rw [← fld_at ht]; exact e1)
theorem own_fldN {s : State} {args : Array Value} {t : Term} {a : Addr} {C n d : String} (ht : t.eval args s none [] s = some (.ref a)) (h : (Cond.eq (.field t C n d) .null).value args s none s [] = some true) : Fld s s.heap a C n d .null :=
  Fld.start (by rw [← fld_at ht]; exact null_v h)
theorem own_fldR {s : State} {args : Array Value} {t : Term} {a b : Addr} {C n d : String} (ht : t.eval args s none [] s = some (.ref a)) (h : (Term.field t C n d).eval args s none [] s = some (.ref b)) : Fld s s.heap a C n d (.ref b) :=
  Fld.start (by rw [← fld_at ht]; exact h)
theorem own_stI {s : State} {args : Array Value} {t : Term} {k : Int32} (h : (Cond.eq t (.int k)).value args s none s [] = some true) : t.eval args s none [] s = some (.int k) := by
  obtain ⟨x, y, e1, e2, -, k2⟩ := cmp_v (Or.inl h)
  obtain rfl : Value.int k = y := Option.some.inj e2
  obtain ⟨z, rfl⟩ := k2
  have q : (z = k) := gotT (P := z = k) (by simp [Cond.value, e1, e2]) h
  subst q; exact e1
theorem own_and3 (x : Int32) : (x &&& (3 : Int32)) = (0 : Int32) ∨ (x &&& (3 : Int32)) = (1 : Int32) ∨ (x &&& (3 : Int32)) = (2 : Int32) ∨ (x &&& (3 : Int32)) = (3 : Int32) := by
  have h := c_mask x 3 2 (by decide) (by decide)
  have e0 : (0 : Int32).toInt = 0 := rfl
  have e1 : (1 : Int32).toInt = 1 := rfl
  have e2 : (2 : Int32).toInt = 2 := rfl
  have e3 : (3 : Int32).toInt = 3 := rfl
  simp only [← Int32.toInt_inj, h, e0, e1, e2, e3]
  omega
def Nar (Z : State) (w_Status_DONE : Addr) (w_Exit_COMPLETED : Addr) (w_Status_FAILED : Addr) (w_Status_STOPPED : Addr) (w_Exit_STOPPED : Addr) (w_Exit_RULE_FAILED : Addr) (w_Status_DISABLED : Addr) : Prop := (Sta Z Z.heap "com/example/nightcrawler/nightcrawler/engine/Status" "DONE" "Lcom/example/nightcrawler/nightcrawler/engine/Status;" (.ref w_Status_DONE)) ∧ (Exa Z Z.heap w_Status_DONE "com/example/nightcrawler/nightcrawler/engine/Status") ∧ (Sta Z Z.heap "com/example/nightcrawler/nightcrawler/Exit" "COMPLETED" "Lcom/example/nightcrawler/nightcrawler/Exit;" (.ref w_Exit_COMPLETED)) ∧ (Exa Z Z.heap w_Exit_COMPLETED "com/example/nightcrawler/nightcrawler/Exit") ∧ (Sta Z Z.heap "com/example/nightcrawler/nightcrawler/engine/Status" "FAILED" "Lcom/example/nightcrawler/nightcrawler/engine/Status;" (.ref w_Status_FAILED)) ∧ (Exa Z Z.heap w_Status_FAILED "com/example/nightcrawler/nightcrawler/engine/Status") ∧ (Sta Z Z.heap "com/example/nightcrawler/nightcrawler/engine/Status" "STOPPED" "Lcom/example/nightcrawler/nightcrawler/engine/Status;" (.ref w_Status_STOPPED)) ∧ (Exa Z Z.heap w_Status_STOPPED "com/example/nightcrawler/nightcrawler/engine/Status") ∧ (Sta Z Z.heap "com/example/nightcrawler/nightcrawler/Exit" "STOPPED" "Lcom/example/nightcrawler/nightcrawler/Exit;" (.ref w_Exit_STOPPED)) ∧ (Exa Z Z.heap w_Exit_STOPPED "com/example/nightcrawler/nightcrawler/Exit") ∧ (Sta Z Z.heap "com/example/nightcrawler/nightcrawler/Exit" "RULE_FAILED" "Lcom/example/nightcrawler/nightcrawler/Exit;" (.ref w_Exit_RULE_FAILED)) ∧ (Exa Z Z.heap w_Exit_RULE_FAILED "com/example/nightcrawler/nightcrawler/Exit") ∧ (Sta Z Z.heap "com/example/nightcrawler/nightcrawler/engine/Status" "DISABLED" "Lcom/example/nightcrawler/nightcrawler/engine/Status;" (.ref w_Status_DISABLED)) ∧ (Exa Z Z.heap w_Status_DISABLED "com/example/nightcrawler/nightcrawler/engine/Status") ∧ (Fld Z Z.heap w_Status_DONE "java/lang/Enum" "ordinal" "I" (.int (0 : Int32))) ∧ (Fld Z Z.heap w_Status_FAILED "java/lang/Enum" "ordinal" "I" (.int (2 : Int32))) ∧ (Fld Z Z.heap w_Status_STOPPED "java/lang/Enum" "ordinal" "I" (.int (3 : Int32))) ∧ (Fld Z Z.heap w_Exit_COMPLETED "com/example/nightcrawler/nightcrawler/Exit" "status" "I" (.int (0 : Int32))) ∧ (Fld Z Z.heap w_Exit_STOPPED "com/example/nightcrawler/nightcrawler/Exit" "status" "I" (.int (3 : Int32))) ∧ (Fld Z Z.heap w_Exit_RULE_FAILED "com/example/nightcrawler/nightcrawler/Exit" "status" "I" (.int (1 : Int32))) ∧ (Fld Z Z.heap w_Status_DISABLED "java/lang/Enum" "ordinal" "I" (.int (1 : Int32)))
theorem d1_0 : decode prog_1_method_5_code 0 = .ok (.getstatic 3, 3) := by decide +kernel
theorem d1_3 : decode prog_1_method_5_code 3 = .ok (.astore_n 1, 1) := by decide +kernel
theorem d1_4 : decode prog_1_method_5_code 4 = .ok (.aload_n 0, 1) := by decide +kernel
theorem d1_5 : decode prog_1_method_5_code 5 = .ok (.getstatic 39, 3) := by decide +kernel
theorem d1_8 : decode prog_1_method_5_code 8 = .ok (.if_acmp .ne 10, 3) := by decide +kernel
theorem d1_11 : decode prog_1_method_5_code 11 = .ok (.getstatic 7, 3) := by decide +kernel
theorem d1_14 : decode prog_1_method_5_code 14 = .ok (.astore_n 1, 1) := by decide +kernel
theorem d1_15 : decode prog_1_method_5_code 15 = .ok (.goto 14, 3) := by decide +kernel
theorem d1_18 : decode prog_1_method_5_code 18 = .ok (.aload_n 0, 1) := by decide +kernel
theorem d1_19 : decode prog_1_method_5_code 19 = .ok (.getstatic 45, 3) := by decide +kernel
theorem d1_22 : decode prog_1_method_5_code 22 = .ok (.if_acmp .ne 7, 3) := by decide +kernel
theorem d1_25 : decode prog_1_method_5_code 25 = .ok (.getstatic 13, 3) := by decide +kernel
theorem d1_28 : decode prog_1_method_5_code 28 = .ok (.astore_n 1, 1) := by decide +kernel
theorem d1_29 : decode prog_1_method_5_code 29 = .ok (.aload_n 1, 1) := by decide +kernel
theorem d1_30 : decode prog_1_method_5_code 30 = .ok (.areturn, 1) := by decide +kernel
theorem pn_1 : plainName "com/example/nightcrawler/nightcrawler/Exit" = true := by first | (simp [plainName, overriddenIn]; done) | decide +kernel
theorem ef_rmO (m : MethodId) (x0 : Addr) : entryFrame m #[(.ref x0)] 2 = mkF m 0 #[.val (.ref x0), .unset] [] := by first | (simp [entryFrame, mkF, argsToLocals, Value.category]; done) | rfl
def Q_rmO (Z : State) (xa : Addr) (w_Status_DONE : Addr) (w_Exit_COMPLETED : Addr) (w_Status_FAILED : Addr) (w_Status_STOPPED : Addr) (w_Exit_STOPPED : Addr) (w_Exit_RULE_FAILED : Addr) (w_Status_DISABLED : Addr) (r : Addr) (h0 : Heap) (n0 : Nat) (v : Option Value) (h : Heap) (L : List Loc) : Prop := v = some (.ref r) ∧ Fr n0 L ∧ h = h0
set_option maxRecDepth 65536 in
set_option maxHeartbeats 40000000 in
theorem rmO (l : Launch) (Z : State) (a0 : Array Value) (hw : ∀ d ∈ tables_1, d.before a0 Z = true) (ws : List Jvm.Cond) (xa : Addr) (w_Status_DONE : Addr) (w_Exit_COMPLETED : Addr) (w_Status_FAILED : Addr) (w_Status_STOPPED : Addr) (w_Exit_STOPPED : Addr) (w_Exit_RULE_FAILED : Addr) (w_Status_DISABLED : Addr) (r : Addr) (h0 : Heap) (n0 : Nat) (O0 : Old Z n0 h0) (NF : Nar Z w_Status_DONE w_Exit_COMPLETED w_Status_FAILED w_Status_STOPPED w_Exit_STOPPED w_Exit_RULE_FAILED w_Status_DISABLED) (hr : r = if xa = w_Status_FAILED then w_Exit_RULE_FAILED else if xa = w_Status_STOPPED then w_Exit_STOPPED else w_Exit_COMPLETED) :
    MetFree l (⟨"com/example/nightcrawler/nightcrawler/Exit", "of", "(Lcom/example/nightcrawler/nightcrawler/engine/Status;)Lcom/example/nightcrawler/nightcrawler/Exit;"⟩ : MethodName) (head1 (Jvm.Cond.code (⟨"com/example/nightcrawler/nightcrawler/Exit", "of", "(Lcom/example/nightcrawler/nightcrawler/engine/Status;)Lcom/example/nightcrawler/nightcrawler/Exit;"⟩ : MethodName) prog_1_method_5_code 2 (some (.object "com/example/nightcrawler/nightcrawler/Exit")) :: ws) ({ frames := 0, cells := 0, slots := 0, locals := 0 } : Room)) (fun a U => a = #[(.ref xa)] ∧ Z.Warmed39 U.vm ∧ U.heap = h0) (fun _ _ _ _ _ => True) (fun _ U o U' => ∃ v L, o = .returned v ∧ Q_rmO Z xa w_Status_DONE w_Exit_COMPLETED w_Status_FAILED w_Status_STOPPED w_Exit_STOPPED w_Exit_RULE_FAILED w_Status_DISABLED r h0 n0 v U'.heap L ∧ FrameEnd U o U' L ({ frames := 0, cells := 0, slots := 0, locals := 0 } : Room).cells ({ frames := 0, cells := 0, slots := 0, locals := 0 } : Room).slots) := by
  refine MetFree.of_bodySF (plainFor_of_name pn_1) hisR ?_
  intro p e s m args below meth c s₁ Bd hml0 hP hK
  obtain ⟨rfl, hZ, hh⟩ := hP
  have hx := Bd.exec
  have hby := Bd.bytes
  have hml : c.maxLocals = 2 := hml0
  have hown : s.vm.findClass "com/example/nightcrawler/nightcrawler/Exit" = some m.cls := findClass_of_methodNamed Bd.named
  have hnm := (name_of_methodNamed Bd.named Bd.method).1
  have X0 : Stand p l e ({ frames := 0, cells := 0, slots := 0, locals := 0 } : Room) s m #[(.ref xa)] below meth c s₁ [] 0 0 := Stand.of_body Bd
  have e0 : s₁.heap = h0 := by rw [← hh, Bd.state]; rfl
  have N0 := Fr.nil n0
  suffices G : ∀ (Qf : Outcome → State → Prop), Qf = (fun (_ : Array Value) (U : State) (o : Outcome) (U' : State) => ∃ v L, o = .returned v ∧ Q_rmO Z xa w_Status_DONE w_Exit_COMPLETED w_Status_FAILED w_Status_STOPPED w_Exit_STOPPED w_Exit_RULE_FAILED w_Status_DISABLED r h0 n0 v U'.heap L ∧ FrameEnd U o U' L ({ frames := 0, cells := 0, slots := 0, locals := 0 } : Room).cells ({ frames := 0, cells := 0, slots := 0, locals := 0 } : Room).slots) #[] s → Goes p.tables e below Qf (s₁.setTop (mkF m 0 #[.val (.ref xa), .unset] [])) by
    obtain ⟨s₂, o, g1, g2, g3, g4⟩ := G _ rfl
    exact ⟨s₂, o, castTop (ef_rmO m _) g1, g2, g3, g4⟩
  intro Qf hQf
  obtain ⟨S_w_Status_DONE, E_w_Status_DONE, S_w_Exit_COMPLETED, E_w_Exit_COMPLETED, S_w_Status_FAILED, E_w_Status_FAILED, S_w_Status_STOPPED, E_w_Status_STOPPED, S_w_Exit_STOPPED, E_w_Exit_STOPPED, S_w_Exit_RULE_FAILED, E_w_Exit_RULE_FAILED, S_w_Status_DISABLED, E_w_Status_DISABLED, F_ordinal_w_Status_DONE, F_ordinal_w_Status_FAILED, F_ordinal_w_Status_STOPPED, F_status_w_Exit_COMPLETED, F_status_w_Exit_STOPPED, F_status_w_Exit_RULE_FAILED, F_ordinal_w_Status_DISABLED⟩ := id NF
  obtain ⟨T1, X1, e1, st1⟩ := getS2 X0 hx hZ hown (host := "") (Or.inl (hw _ (List.mem_of_getElem? (i := 9) rfl))) Via.refl e0 (S_w_Exit_COMPLETED.ext O0.2) (g := (mkF m 0 #[.val (.ref xa), .unset] [])) rfl (hb hby d1_0)
  refine Goes.to (T' := T1.setTop (mkF m 3 #[.val (.ref xa), .unset] [(.ref w_Exit_COMPLETED)])) st1 ?_
  refine Goes.to (T' := T1.setTop (mkF m 4 #[.val (.ref xa), .val (.ref w_Exit_COMPLETED)] [])) (fun t k => XS.astoreN X1.here hx rfl (hb hby d1_3) rfl rfl (l' := #[.val (.ref xa), .val (.ref w_Exit_COMPLETED)]) rfl k) ?_
  refine Goes.to (T' := T1.setTop (mkF m 5 #[.val (.ref xa), .val (.ref w_Exit_COMPLETED)] [(.ref xa)])) (fun t k => XS.aloadN X1.here hx rfl (hb hby d1_4) rfl rfl k) ?_
  obtain ⟨T2, X2, e2, st2⟩ := getS2 X1 hx hZ hown (host := "") (Or.inl (hw _ (List.mem_of_getElem? (i := 10) rfl))) Via.refl e1 (S_w_Status_FAILED.ext O0.2) (g := (mkF m 5 #[.val (.ref xa), .val (.ref w_Exit_COMPLETED)] [(.ref xa)])) rfl (hb hby d1_5)
  refine Goes.to (T' := T2.setTop (mkF m 8 #[.val (.ref xa), .val (.ref w_Exit_COMPLETED)] [(.ref w_Status_FAILED), (.ref xa)])) st2 ?_
  rcases Decidable.em (xa = w_Status_FAILED) with hc8_3 | hc8_3
  · skip
    refine Goes.to (T' := T2.setTop (mkF m 11 #[.val (.ref xa), .val (.ref w_Exit_COMPLETED)] [])) (fun t k => Jvm.RoadKit.acmp (g := (mkF m 8 #[.val (.ref xa), .val (.ref w_Exit_COMPLETED)] [(.ref w_Status_FAILED), (.ref xa)])) X2 hx rfl rfl rfl (pc0 := 8) (pc' := 11) (same := true) rfl (hb hby d1_8) rfl (decide_eq_true (congrArg Value.ref hc8_3)) (by decide) (by decide) k) ?_
    obtain ⟨T4, X4, e4, st4⟩ := getS2 X2 hx hZ hown (host := "") (Or.inl (hw _ (List.mem_of_getElem? (i := 28) rfl))) Via.refl e2 (S_w_Exit_RULE_FAILED.ext O0.2) (g := (mkF m 11 #[.val (.ref xa), .val (.ref w_Exit_COMPLETED)] [])) rfl (hb hby d1_11)
    refine Goes.to (T' := T4.setTop (mkF m 14 #[.val (.ref xa), .val (.ref w_Exit_COMPLETED)] [(.ref w_Exit_RULE_FAILED)])) st4 ?_
    refine Goes.to (T' := T4.setTop (mkF m 15 #[.val (.ref xa), .val (.ref w_Exit_RULE_FAILED)] [])) (fun t k => XS.astoreN X4.here hx rfl (hb hby d1_14) rfl rfl (l' := #[.val (.ref xa), .val (.ref w_Exit_RULE_FAILED)]) rfl k) ?_
    refine Goes.to (T' := T4.setTop (mkF m 29 #[.val (.ref xa), .val (.ref w_Exit_RULE_FAILED)] [])) (fun t k => XS.goto X4.here hx rfl (pc0 := 15) (pc' := 29) rfl (hb hby d1_15) (by decide) (by decide) k) ?_
    refine Goes.to (T' := T4.setTop (mkF m 30 #[.val (.ref xa), .val (.ref w_Exit_RULE_FAILED)] [(.ref w_Exit_RULE_FAILED)])) (fun t k => XS.aloadN X4.here hx rfl (hb hby d1_29) rfl rfl k) ?_
    obtain ⟨fs, hrL, hrun, hended, hW, hsame⟩ := X4.leave (v := some (.ref w_Exit_RULE_FAILED)) (fun h => by rw [Bd.returns] at h; cases h)
    subst hQf
    refine ⟨_, _, retOut X4 hx Bd.returns rfl (Or.inr (Or.inr (Or.inr (Or.inr ⟨rfl, rfl, rfl⟩)))) (hb hby d1_30) hrL, hrun, hended, _, _, rfl, ?_, ⟨_, rfl⟩, hW, hsame.mono (by decide) (by decide)⟩
    show (fun (v : Option Value) (h : Heap) (L : List Loc) => v = some (.ref r) ∧ Fr n0 L ∧ h = h0) (some (.ref w_Exit_RULE_FAILED)) T4.heap _
    rw [e4]
    have hv : w_Exit_RULE_FAILED = r := by rw [hr]; first | (simp [hc8_3]; done) | ((repeat' split) <;> first | rfl | contradiction | simp_all)
    exact ⟨by rw [hv], N0, rfl⟩
  · skip
    refine Goes.to (T' := T2.setTop (mkF m 18 #[.val (.ref xa), .val (.ref w_Exit_COMPLETED)] [])) (fun t k => Jvm.RoadKit.acmp (g := (mkF m 8 #[.val (.ref xa), .val (.ref w_Exit_COMPLETED)] [(.ref w_Status_FAILED), (.ref xa)])) X2 hx rfl rfl rfl (pc0 := 8) (pc' := 18) (same := false) rfl (hb hby d1_8) rfl (decide_eq_false fun q => hc8_3 (Value.ref.inj q)) (by decide) (by decide) k) ?_
    refine Goes.to (T' := T2.setTop (mkF m 19 #[.val (.ref xa), .val (.ref w_Exit_COMPLETED)] [(.ref xa)])) (fun t k => XS.aloadN X2.here hx rfl (hb hby d1_18) rfl rfl k) ?_
    obtain ⟨T5, X5, e5, st5⟩ := getS2 X2 hx hZ hown (host := "") (Or.inl (hw _ (List.mem_of_getElem? (i := 12) rfl))) Via.refl e2 (S_w_Status_STOPPED.ext O0.2) (g := (mkF m 19 #[.val (.ref xa), .val (.ref w_Exit_COMPLETED)] [(.ref xa)])) rfl (hb hby d1_19)
    refine Goes.to (T' := T5.setTop (mkF m 22 #[.val (.ref xa), .val (.ref w_Exit_COMPLETED)] [(.ref w_Status_STOPPED), (.ref xa)])) st5 ?_
    rcases Decidable.em (xa = w_Status_STOPPED) with hc22_6 | hc22_6
    · skip
      refine Goes.to (T' := T5.setTop (mkF m 25 #[.val (.ref xa), .val (.ref w_Exit_COMPLETED)] [])) (fun t k => Jvm.RoadKit.acmp (g := (mkF m 22 #[.val (.ref xa), .val (.ref w_Exit_COMPLETED)] [(.ref w_Status_STOPPED), (.ref xa)])) X5 hx rfl rfl rfl (pc0 := 22) (pc' := 25) (same := true) rfl (hb hby d1_22) rfl (decide_eq_true (congrArg Value.ref hc22_6)) (by decide) (by decide) k) ?_
      obtain ⟨T7, X7, e7, st7⟩ := getS2 X5 hx hZ hown (host := "") (Or.inl (hw _ (List.mem_of_getElem? (i := 24) rfl))) Via.refl e5 (S_w_Exit_STOPPED.ext O0.2) (g := (mkF m 25 #[.val (.ref xa), .val (.ref w_Exit_COMPLETED)] [])) rfl (hb hby d1_25)
      refine Goes.to (T' := T7.setTop (mkF m 28 #[.val (.ref xa), .val (.ref w_Exit_COMPLETED)] [(.ref w_Exit_STOPPED)])) st7 ?_
      refine Goes.to (T' := T7.setTop (mkF m 29 #[.val (.ref xa), .val (.ref w_Exit_STOPPED)] [])) (fun t k => XS.astoreN X7.here hx rfl (hb hby d1_28) rfl rfl (l' := #[.val (.ref xa), .val (.ref w_Exit_STOPPED)]) rfl k) ?_
      refine Goes.to (T' := T7.setTop (mkF m 30 #[.val (.ref xa), .val (.ref w_Exit_STOPPED)] [(.ref w_Exit_STOPPED)])) (fun t k => XS.aloadN X7.here hx rfl (hb hby d1_29) rfl rfl k) ?_
      obtain ⟨fs, hrL, hrun, hended, hW, hsame⟩ := X7.leave (v := some (.ref w_Exit_STOPPED)) (fun h => by rw [Bd.returns] at h; cases h)
      subst hQf
      refine ⟨_, _, retOut X7 hx Bd.returns rfl (Or.inr (Or.inr (Or.inr (Or.inr ⟨rfl, rfl, rfl⟩)))) (hb hby d1_30) hrL, hrun, hended, _, _, rfl, ?_, ⟨_, rfl⟩, hW, hsame.mono (by decide) (by decide)⟩
      show (fun (v : Option Value) (h : Heap) (L : List Loc) => v = some (.ref r) ∧ Fr n0 L ∧ h = h0) (some (.ref w_Exit_STOPPED)) T7.heap _
      rw [e7]
      have hv : w_Exit_STOPPED = r := by rw [hr]; first | (simp [hc8_3, hc22_6]; done) | ((repeat' split) <;> first | rfl | contradiction | simp_all)
      exact ⟨by rw [hv], N0, rfl⟩
    · skip
      refine Goes.to (T' := T5.setTop (mkF m 29 #[.val (.ref xa), .val (.ref w_Exit_COMPLETED)] [])) (fun t k => Jvm.RoadKit.acmp (g := (mkF m 22 #[.val (.ref xa), .val (.ref w_Exit_COMPLETED)] [(.ref w_Status_STOPPED), (.ref xa)])) X5 hx rfl rfl rfl (pc0 := 22) (pc' := 29) (same := false) rfl (hb hby d1_22) rfl (decide_eq_false fun q => hc22_6 (Value.ref.inj q)) (by decide) (by decide) k) ?_
      refine Goes.to (T' := T5.setTop (mkF m 30 #[.val (.ref xa), .val (.ref w_Exit_COMPLETED)] [(.ref w_Exit_COMPLETED)])) (fun t k => XS.aloadN X5.here hx rfl (hb hby d1_29) rfl rfl k) ?_
      obtain ⟨fs, hrL, hrun, hended, hW, hsame⟩ := X5.leave (v := some (.ref w_Exit_COMPLETED)) (fun h => by rw [Bd.returns] at h; cases h)
      subst hQf
      refine ⟨_, _, retOut X5 hx Bd.returns rfl (Or.inr (Or.inr (Or.inr (Or.inr ⟨rfl, rfl, rfl⟩)))) (hb hby d1_30) hrL, hrun, hended, _, _, rfl, ?_, ⟨_, rfl⟩, hW, hsame.mono (by decide) (by decide)⟩
      show (fun (v : Option Value) (h : Heap) (L : List Loc) => v = some (.ref r) ∧ Fr n0 L ∧ h = h0) (some (.ref w_Exit_COMPLETED)) T5.heap _
      rw [e5]
      have hv : w_Exit_COMPLETED = r := by rw [hr]; first | (simp [hc8_3, hc22_6]; done) | ((repeat' split) <;> first | rfl | contradiction | simp_all)
      exact ⟨by rw [hv], N0, rfl⟩
theorem d2_0 : decode prog_1_method_4_code 0 = .ok (.aload_n 0, 1) := by decide +kernel
theorem d2_1 : decode prog_1_method_4_code 1 = .ok (.getfield 35, 3) := by decide +kernel
theorem d2_4 : decode prog_1_method_4_code 4 = .ok (.ireturn, 1) := by decide +kernel
theorem pn_2 : plainName "com/example/nightcrawler/nightcrawler/Exit" = true := by first | (simp [plainName, overriddenIn]; done) | decide +kernel
theorem ef_rmS (m : MethodId) (x0 : Addr) : entryFrame m #[(.ref x0)] 1 = mkF m 0 #[.val (.ref x0)] [] := by first | (simp [entryFrame, mkF, argsToLocals, Value.category]; done) | rfl
def Q_rmS (Z : State) (xa : Addr) (w_Status_DONE : Addr) (w_Exit_COMPLETED : Addr) (w_Status_FAILED : Addr) (w_Status_STOPPED : Addr) (w_Exit_STOPPED : Addr) (w_Exit_RULE_FAILED : Addr) (w_Status_DISABLED : Addr) (r : Int32) (h0 : Heap) (n0 : Nat) (v : Option Value) (h : Heap) (L : List Loc) : Prop := v = some (.int r) ∧ Fr n0 L ∧ h = h0
set_option maxRecDepth 65536 in
set_option maxHeartbeats 40000000 in
theorem rmS (l : Launch) (Z : State) (a0 : Array Value) (hw : ∀ d ∈ tables_1, d.before a0 Z = true) (ws : List Jvm.Cond) (xa : Addr) (w_Status_DONE : Addr) (w_Exit_COMPLETED : Addr) (w_Status_FAILED : Addr) (w_Status_STOPPED : Addr) (w_Exit_STOPPED : Addr) (w_Exit_RULE_FAILED : Addr) (w_Status_DISABLED : Addr) (r : Int32) (h0 : Heap) (n0 : Nat) (O0 : Old Z n0 h0) (NF : Nar Z w_Status_DONE w_Exit_COMPLETED w_Status_FAILED w_Status_STOPPED w_Exit_STOPPED w_Exit_RULE_FAILED w_Status_DISABLED) (F_status_xa : Fld Z h0 xa "com/example/nightcrawler/nightcrawler/Exit" "status" "I" (.int r)) :
    MetFree l (⟨"com/example/nightcrawler/nightcrawler/Exit", "status", "()I"⟩ : MethodName) (head1 (Jvm.Cond.code (⟨"com/example/nightcrawler/nightcrawler/Exit", "status", "()I"⟩ : MethodName) prog_1_method_4_code 1 (some .int) :: ws) ({ frames := 0, cells := 0, slots := 0, locals := 0 } : Room)) (fun a U => a = #[(.ref xa)] ∧ Z.Warmed39 U.vm ∧ U.heap = h0) (fun _ _ _ _ _ => True) (fun _ U o U' => ∃ v L, o = .returned v ∧ Q_rmS Z xa w_Status_DONE w_Exit_COMPLETED w_Status_FAILED w_Status_STOPPED w_Exit_STOPPED w_Exit_RULE_FAILED w_Status_DISABLED r h0 n0 v U'.heap L ∧ FrameEnd U o U' L ({ frames := 0, cells := 0, slots := 0, locals := 0 } : Room).cells ({ frames := 0, cells := 0, slots := 0, locals := 0 } : Room).slots) := by
  refine MetFree.of_bodySF (plainFor_of_name pn_2) hisR ?_
  intro p e s m args below meth c s₁ Bd hml0 hP hK
  obtain ⟨rfl, hZ, hh⟩ := hP
  have hx := Bd.exec
  have hby := Bd.bytes
  have hml : c.maxLocals = 1 := hml0
  have hown : s.vm.findClass "com/example/nightcrawler/nightcrawler/Exit" = some m.cls := findClass_of_methodNamed Bd.named
  have hnm := (name_of_methodNamed Bd.named Bd.method).1
  have X0 : Stand p l e ({ frames := 0, cells := 0, slots := 0, locals := 0 } : Room) s m #[(.ref xa)] below meth c s₁ [] 0 0 := Stand.of_body Bd
  have e0 : s₁.heap = h0 := by rw [← hh, Bd.state]; rfl
  have N0 := Fr.nil n0
  suffices G : ∀ (Qf : Outcome → State → Prop), Qf = (fun (_ : Array Value) (U : State) (o : Outcome) (U' : State) => ∃ v L, o = .returned v ∧ Q_rmS Z xa w_Status_DONE w_Exit_COMPLETED w_Status_FAILED w_Status_STOPPED w_Exit_STOPPED w_Exit_RULE_FAILED w_Status_DISABLED r h0 n0 v U'.heap L ∧ FrameEnd U o U' L ({ frames := 0, cells := 0, slots := 0, locals := 0 } : Room).cells ({ frames := 0, cells := 0, slots := 0, locals := 0 } : Room).slots) #[] s → Goes p.tables e below Qf (s₁.setTop (mkF m 0 #[.val (.ref xa)] [])) by
    obtain ⟨s₂, o, g1, g2, g3, g4⟩ := G _ rfl
    exact ⟨s₂, o, castTop (ef_rmS m _) g1, g2, g3, g4⟩
  intro Qf hQf
  obtain ⟨S_w_Status_DONE, E_w_Status_DONE, S_w_Exit_COMPLETED, E_w_Exit_COMPLETED, S_w_Status_FAILED, E_w_Status_FAILED, S_w_Status_STOPPED, E_w_Status_STOPPED, S_w_Exit_STOPPED, E_w_Exit_STOPPED, S_w_Exit_RULE_FAILED, E_w_Exit_RULE_FAILED, S_w_Status_DISABLED, E_w_Status_DISABLED, F_ordinal_w_Status_DONE, F_ordinal_w_Status_FAILED, F_ordinal_w_Status_STOPPED, F_status_w_Exit_COMPLETED, F_status_w_Exit_STOPPED, F_status_w_Exit_RULE_FAILED, F_ordinal_w_Status_DISABLED⟩ := id NF
  refine Goes.to (T' := s₁.setTop (mkF m 1 #[.val (.ref xa)] [(.ref xa)])) (fun t k => XS.aloadN X0.here hx rfl (hb hby d2_0) rfl rfl k) ?_
  obtain ⟨T1, X1, e1, st1⟩ := getF X0 hx hZ hown (host := "") (Or.inl (hw _ (List.mem_of_getElem? (i := 19) rfl))) Via.refl e0 F_status_xa (g := (mkF m 1 #[.val (.ref xa)] [(.ref xa)])) rfl rfl (hb hby d2_1)
  refine Goes.to (T' := T1.setTop (mkF m 4 #[.val (.ref xa)] [(.int r)])) st1 ?_
  obtain ⟨fs, hrL, hrun, hended, hW, hsame⟩ := X1.leave (v := some (.int r)) (fun h => by rw [Bd.returns] at h; cases h)
  subst hQf
  refine ⟨_, _, retOut X1 hx Bd.returns rfl (Or.inl ⟨rfl, Or.inl rfl, _, rfl⟩) (hb hby d2_4) hrL, hrun, hended, _, _, rfl, ?_, ⟨_, rfl⟩, hW, hsame.mono (by decide) (by decide)⟩
  show (fun (v : Option Value) (h : Heap) (L : List Loc) => v = some (.int r) ∧ Fr n0 L ∧ h = h0) (some (.int r)) T1.heap _
  rw [e1]
  exact ⟨rfl, N0, rfl⟩
theorem pd_20 : parseMethodDescriptor "(Lcom/example/nightcrawler/nightcrawler/engine/Status;)Lcom/example/nightcrawler/nightcrawler/Exit;" = some ⟨[(.object "com/example/nightcrawler/nightcrawler/engine/Status")], some (.object "com/example/nightcrawler/nightcrawler/Exit")⟩ := by decide +kernel
theorem pd_21 : parseMethodDescriptor "()I" = some ⟨[], some .int⟩ := by decide +kernel
theorem pn_0 : plainName "com/example/nightcrawler/nightcrawler/ExitOfPinLaw" = true := by first | (simp [plainName, overriddenIn]; done) | decide +kernel
theorem ef_rm0 (m : MethodId) (x0 : Int32) : entryFrame m #[(.int x0)] maxLocals = mkF m 0 #[.val (.int x0), .unset, .unset, .unset, .unset, .unset] [] := by first | (simp [entryFrame, mkF, argsToLocals, Value.category, maxLocals]; done) | rfl
def Q_rm0 (Z : State) (p0 : Int32) (w_Status_DONE : Addr) (w_Exit_COMPLETED : Addr) (w_Status_FAILED : Addr) (w_Status_STOPPED : Addr) (w_Exit_STOPPED : Addr) (w_Exit_RULE_FAILED : Addr) (w_Status_DISABLED : Addr) (h0 : Heap) (n0 : Nat) (v : Option Value) (h : Heap) (L : List Loc) : Prop := v = some (.int 1) ∧ Fr n0 L
set_option maxRecDepth 65536 in
set_option maxHeartbeats 40000000 in
theorem rm0 (l : Launch) (Z : State) (a0 : Array Value) (hw : ∀ d ∈ tables_1, d.before a0 Z = true) (ws : List Jvm.Cond) (p0 : Int32) (w_Status_DONE : Addr) (w_Exit_COMPLETED : Addr) (w_Status_FAILED : Addr) (w_Status_STOPPED : Addr) (w_Exit_STOPPED : Addr) (w_Exit_RULE_FAILED : Addr) (w_Status_DISABLED : Addr) (h0 : Heap) (n0 : Nat) (O0 : Old Z n0 h0) (NF : Nar Z w_Status_DONE w_Exit_COMPLETED w_Status_FAILED w_Status_STOPPED w_Exit_STOPPED w_Exit_RULE_FAILED w_Status_DISABLED) :
    MetFree l x (head1 (Jvm.Cond.code x code maxLocals ret :: ws) room_1) (fun a U => a = #[(.int p0)] ∧ Z.Warmed39 U.vm ∧ U.heap = h0) (fun _ _ _ _ _ => True) (fun _ U o U' => ∃ v L, o = .returned v ∧ Q_rm0 Z p0 w_Status_DONE w_Exit_COMPLETED w_Status_FAILED w_Status_STOPPED w_Exit_STOPPED w_Exit_RULE_FAILED w_Status_DISABLED h0 n0 v U'.heap L ∧ FrameEnd U o U' L room_1.cells room_1.slots) := by
  refine MetFree.of_bodySF (plainFor_of_name pn_0) hisR ?_
  intro p e s m args below meth c s₁ Bd hml0 hP hK
  obtain ⟨rfl, hZ, hh⟩ := hP
  have hx := Bd.exec
  have hby := Bd.bytes
  have hml : c.maxLocals = 6 := hml0
  have hown : s.vm.findClass "com/example/nightcrawler/nightcrawler/ExitOfPinLaw" = some m.cls := findClass_of_methodNamed Bd.named
  have hnm := (name_of_methodNamed Bd.named Bd.method).1
  have X0 : Stand p l e room_1 s m #[(.int p0)] below meth c s₁ [] 0 0 := Stand.of_body Bd
  have e0 : s₁.heap = h0 := by rw [← hh, Bd.state]; rfl
  have N0 := Fr.nil n0
  suffices G : ∀ (Qf : Outcome → State → Prop), Qf = (fun (_ : Array Value) (U : State) (o : Outcome) (U' : State) => ∃ v L, o = .returned v ∧ Q_rm0 Z p0 w_Status_DONE w_Exit_COMPLETED w_Status_FAILED w_Status_STOPPED w_Exit_STOPPED w_Exit_RULE_FAILED w_Status_DISABLED h0 n0 v U'.heap L ∧ FrameEnd U o U' L room_1.cells room_1.slots) #[] s → Goes p.tables e below Qf (s₁.setTop (mkF m 0 #[.val (.int p0), .unset, .unset, .unset, .unset, .unset] [])) by
    obtain ⟨s₂, o, g1, g2, g3, g4⟩ := G _ rfl
    exact ⟨s₂, o, castTop (ef_rm0 m _) g1, g2, g3, g4⟩
  intro Qf hQf
  obtain ⟨S_w_Status_DONE, E_w_Status_DONE, S_w_Exit_COMPLETED, E_w_Exit_COMPLETED, S_w_Status_FAILED, E_w_Status_FAILED, S_w_Status_STOPPED, E_w_Status_STOPPED, S_w_Exit_STOPPED, E_w_Exit_STOPPED, S_w_Exit_RULE_FAILED, E_w_Exit_RULE_FAILED, S_w_Status_DISABLED, E_w_Status_DISABLED, F_ordinal_w_Status_DONE, F_ordinal_w_Status_FAILED, F_ordinal_w_Status_STOPPED, F_status_w_Exit_COMPLETED, F_status_w_Exit_STOPPED, F_status_w_Exit_RULE_FAILED, F_ordinal_w_Status_DISABLED⟩ := id NF
  refine Goes.to (T' := s₁.setTop (mkF m 1 #[.val (.int p0), .unset, .unset, .unset, .unset, .unset] [(.int p0)])) (fun t k => XS.iloadN X0.here hx rfl (hb hby at_0) rfl k) ?_
  refine Goes.to (T' := s₁.setTop (mkF m 2 #[.val (.int p0), .unset, .unset, .unset, .unset, .unset] [(.int (3 : Int32)), (.int p0)])) (fun t k => XS.iconst X0.here hx rfl (hb hby at_1) k) ?_
  refine Goes.to (T' := s₁.setTop (mkF m 3 #[.val (.int p0), .unset, .unset, .unset, .unset, .unset] [(.int (p0 &&& (3 : Int32)))])) (fun t k => XS.iand X0.here hx rfl (hb hby at_2) rfl k) ?_
  rcases own_and3 p0 with hv_1 | hv_1 | hv_1 | hv_1
  · rw [hv_1]
    refine Goes.to (T' := s₁.setTop (mkF m 4 #[.val (.int p0), .val (.int (0 : Int32)), .unset, .unset, .unset, .unset] [])) (fun t k => XS.istoreN X0.here hx rfl (hb hby at_3) rfl (l' := #[.val (.int p0), .val (.int (0 : Int32)), .unset, .unset, .unset, .unset]) rfl k) ?_
    refine Goes.to (T' := s₁.setTop (mkF m 5 #[.val (.int p0), .val (.int (0 : Int32)), .unset, .unset, .unset, .unset] [(.int (0 : Int32))])) (fun t k => XS.iloadN X0.here hx rfl (hb hby at_4) rfl k) ?_
    refine Goes.to (T' := s₁.setTop (mkF m 8 #[.val (.int p0), .val (.int (0 : Int32)), .unset, .unset, .unset, .unset] [])) (fun t k => XS.ifNo X0.here hx rfl (hb hby at_5) rfl ((if0 _ _).trans (teq (by decide)).2) k) ?_
    obtain ⟨T2, X2, e2, st2⟩ := getS2 X0 hx hZ hown (host := "") (Or.inl (hw _ (List.mem_of_getElem? (i := 0) rfl))) Via.refl e0 (S_w_Status_DONE.ext O0.2) (g := (mkF m 8 #[.val (.int p0), .val (.int (0 : Int32)), .unset, .unset, .unset, .unset] [])) rfl (hb hby at_8)
    refine Goes.to (T' := T2.setTop (mkF m 11 #[.val (.int p0), .val (.int (0 : Int32)), .unset, .unset, .unset, .unset] [(.ref w_Status_DONE)])) st2 ?_
    refine Goes.to (T' := T2.setTop (mkF m 12 #[.val (.int p0), .val (.int (0 : Int32)), .val (.ref w_Status_DONE), .unset, .unset, .unset] [])) (fun t k => XS.astoreN X2.here hx rfl (hb hby at_11) rfl rfl (l' := #[.val (.int p0), .val (.int (0 : Int32)), .val (.ref w_Status_DONE), .unset, .unset, .unset]) rfl k) ?_
    obtain ⟨T3, X3, e3, st3⟩ := getS2 X2 hx hZ hown (host := "") (Or.inl (hw _ (List.mem_of_getElem? (i := 3) rfl))) Via.refl e2 (S_w_Exit_COMPLETED.ext O0.2) (g := (mkF m 12 #[.val (.int p0), .val (.int (0 : Int32)), .val (.ref w_Status_DONE), .unset, .unset, .unset] [])) rfl (hb hby at_12)
    refine Goes.to (T' := T3.setTop (mkF m 15 #[.val (.int p0), .val (.int (0 : Int32)), .val (.ref w_Status_DONE), .unset, .unset, .unset] [(.ref w_Exit_COMPLETED)])) st3 ?_
    refine Goes.to (T' := T3.setTop (mkF m 16 #[.val (.int p0), .val (.int (0 : Int32)), .val (.ref w_Status_DONE), .val (.ref w_Exit_COMPLETED), .unset, .unset] [])) (fun t k => XS.astoreN X3.here hx rfl (hb hby at_15) rfl rfl (l' := #[.val (.int p0), .val (.int (0 : Int32)), .val (.ref w_Status_DONE), .val (.ref w_Exit_COMPLETED), .unset, .unset]) rfl k) ?_
    refine Goes.to (T' := T3.setTop (mkF m 17 #[.val (.int p0), .val (.int (0 : Int32)), .val (.ref w_Status_DONE), .val (.ref w_Exit_COMPLETED), .unset, .unset] [(.int (0 : Int32))])) (fun t k => XS.iconst X3.here hx rfl (hb hby at_16) k) ?_
    refine Goes.to (T' := T3.setTop (mkF m 19 #[.val (.int p0), .val (.int (0 : Int32)), .val (.ref w_Status_DONE), .val (.ref w_Exit_COMPLETED), .val (.int (0 : Int32)), .unset] [])) (fun t k => XS.istore X3.here hx rfl (hb hby at_17) rfl (l' := #[.val (.int p0), .val (.int (0 : Int32)), .val (.ref w_Status_DONE), .val (.ref w_Exit_COMPLETED), .val (.int (0 : Int32)), .unset]) rfl k) ?_
    refine Goes.to (T' := T3.setTop (mkF m 71 #[.val (.int p0), .val (.int (0 : Int32)), .val (.ref w_Status_DONE), .val (.ref w_Exit_COMPLETED), .val (.int (0 : Int32)), .unset] [])) (fun t k => XS.goto X3.here hx rfl (pc0 := 19) (pc' := 71) rfl (hb hby at_19) (by decide) (by decide) k) ?_
    refine Goes.to (T' := T3.setTop (mkF m 72 #[.val (.int p0), .val (.int (0 : Int32)), .val (.ref w_Status_DONE), .val (.ref w_Exit_COMPLETED), .val (.int (0 : Int32)), .unset] [(.ref w_Status_DONE)])) (fun t k => XS.aloadN X3.here hx rfl (hb hby at_71) rfl rfl k) ?_
    have hne0 := (Fld.ne F_ordinal_w_Status_DONE F_ordinal_w_Status_FAILED (by simp))
    have hne1 := (Fld.ne F_ordinal_w_Status_DONE F_ordinal_w_Status_STOPPED (by simp))
    obtain ⟨_, _, ⟨T4, L4, k4, n4⟩, -, X4, ⟨Lc4, hQ4, l4, y4, z4⟩, st4⟩ := Jvm.LawKit.callS X3 hx (y := (⟨"com/example/nightcrawler/nightcrawler/Exit", "of", "(Lcom/example/nightcrawler/nightcrawler/engine/Status;)Lcom/example/nightcrawler/nightcrawler/Exit;"⟩ : MethodName)) hown (mvT hZ (hw _ (List.mem_of_getElem? (i := 6) rfl))) (mvT hZ (hw _ (List.mem_of_getElem? (i := 7) rfl))) (mvT hZ (hw _ (List.mem_of_getElem? (i := 4) rfl))) (mvT hZ (hw _ (List.mem_of_getElem? (i := 8) rfl))) (by decide) (backOf (W := 0) (rmO l Z a0 hw [] w_Status_DONE w_Status_DONE w_Exit_COMPLETED w_Status_FAILED w_Status_STOPPED w_Exit_STOPPED w_Exit_RULE_FAILED w_Status_DISABLED w_Exit_COMPLETED h0 n0 O0 NF (by first | (simp [hne0, hne1]; done) | ((repeat' split) <;> first | rfl | contradiction | simp_all))) hZ (hw _ (List.mem_of_getElem? (i := 8) rfl)) (hw _ (List.mem_of_getElem? (i := 4) rfl)) (by decide) (by decide)) (g := (mkF m 72 #[.val (.int p0), .val (.int (0 : Int32)), .val (.ref w_Status_DONE), .val (.ref w_Exit_COMPLETED), .val (.int (0 : Int32)), .unset] [(.ref w_Status_DONE)])) rfl (by rw [hml]; rfl) (argsL := [(.ref w_Status_DONE)]) (rest := []) (lenOf pd_20 rfl) rfl (by show 2 * 0 + _ ≤ _; exact Nat.le_of_eq rfl) (hb hby at_72) (fun _ _ => ⟨rfl, e3, (by decide : 0 + 0 ≤ _), (by decide : 0 + 0 ≤ _)⟩)
    dsimp only [Pt.U, Pt.locs, Pt.cells, Pt.slots] at X4 l4 y4 z4 st4 hQ4
    subst l4 y4 z4
    obtain ⟨rfl, Nq4, e4⟩ := hQ4
    have N4 := Fr.app N0 Nq4
    refine Goes.to (T' := T4.setTop (mkF m 75 #[.val (.int p0), .val (.int (0 : Int32)), .val (.ref w_Status_DONE), .val (.ref w_Exit_COMPLETED), .val (.int (0 : Int32)), .unset] [(.ref w_Exit_COMPLETED)])) st4 ?_
    refine Goes.to (T' := T4.setTop (mkF m 77 #[.val (.int p0), .val (.int (0 : Int32)), .val (.ref w_Status_DONE), .val (.ref w_Exit_COMPLETED), .val (.int (0 : Int32)), .val (.ref w_Exit_COMPLETED)] [])) (fun t k => XS.astore X4.here hx rfl (hb hby at_75) rfl rfl (l' := #[.val (.int p0), .val (.int (0 : Int32)), .val (.ref w_Status_DONE), .val (.ref w_Exit_COMPLETED), .val (.int (0 : Int32)), .val (.ref w_Exit_COMPLETED)]) rfl k) ?_
    refine Goes.to (T' := T4.setTop (mkF m 79 #[.val (.int p0), .val (.int (0 : Int32)), .val (.ref w_Status_DONE), .val (.ref w_Exit_COMPLETED), .val (.int (0 : Int32)), .val (.ref w_Exit_COMPLETED)] [(.ref w_Exit_COMPLETED)])) (fun t k => XS.aload X4.here hx rfl (hb hby at_77) rfl rfl k) ?_
    refine Goes.to (T' := T4.setTop (mkF m 80 #[.val (.int p0), .val (.int (0 : Int32)), .val (.ref w_Status_DONE), .val (.ref w_Exit_COMPLETED), .val (.int (0 : Int32)), .val (.ref w_Exit_COMPLETED)] [(.ref w_Exit_COMPLETED), (.ref w_Exit_COMPLETED)])) (fun t k => XS.aloadN X4.here hx rfl (hb hby at_79) rfl rfl k) ?_
    refine Goes.to (T' := T4.setTop (mkF m 83 #[.val (.int p0), .val (.int (0 : Int32)), .val (.ref w_Status_DONE), .val (.ref w_Exit_COMPLETED), .val (.int (0 : Int32)), .val (.ref w_Exit_COMPLETED)] [])) (fun t k => Jvm.RoadKit.acmp (g := (mkF m 80 #[.val (.int p0), .val (.int (0 : Int32)), .val (.ref w_Status_DONE), .val (.ref w_Exit_COMPLETED), .val (.int (0 : Int32)), .val (.ref w_Exit_COMPLETED)] [(.ref w_Exit_COMPLETED), (.ref w_Exit_COMPLETED)])) X4 hx rfl rfl rfl (pc0 := 80) (pc' := 83) (same := true) rfl (hb hby at_80) rfl (decide_eq_true rfl) (by decide) (by decide) k) ?_
    refine Goes.to (T' := T4.setTop (mkF m 85 #[.val (.int p0), .val (.int (0 : Int32)), .val (.ref w_Status_DONE), .val (.ref w_Exit_COMPLETED), .val (.int (0 : Int32)), .val (.ref w_Exit_COMPLETED)] [(.ref w_Exit_COMPLETED)])) (fun t k => XS.aload X4.here hx rfl (hb hby at_83) rfl rfl k) ?_
    obtain ⟨cq5, kq5, q5a, q5b, q5c⟩ := isOf hZ e4 (E_w_Exit_COMPLETED.ext O0.2)
    obtain ⟨_, _, ⟨T5, L5, k5, n5⟩, -, X5, ⟨Lc5, hQ5, l5, y5, z5⟩, st5⟩ := X4.virtualBack hx (y := (⟨"com/example/nightcrawler/nightcrawler/Exit", "status", "()I"⟩ : MethodName)) (z := (⟨"com/example/nightcrawler/nightcrawler/Exit", "status", "()I"⟩ : MethodName)) hown (mvT hZ (hw _ (List.mem_of_getElem? (i := 14) rfl))) (mvT hZ (hw _ (List.mem_of_getElem? (i := 15) rfl))) (notFace_of_selects (args := #[]) (mvT hZ (hw _ (List.mem_of_getElem? (i := 17) rfl)))) (mvT hZ (hw _ (List.mem_of_getElem? (i := 17) rfl))) (mvT hZ (hw _ (List.mem_of_getElem? (i := 16) rfl))) (by decide) (backOf (W := 0) (rmS l Z a0 hw [] w_Exit_COMPLETED w_Status_DONE w_Exit_COMPLETED w_Status_FAILED w_Status_STOPPED w_Exit_STOPPED w_Exit_RULE_FAILED w_Status_DISABLED (0 : Int32) h0 n0 O0 NF (F_status_w_Exit_COMPLETED.ext O0.2)) hZ (hw _ (List.mem_of_getElem? (i := 18) rfl)) (hw _ (List.mem_of_getElem? (i := 4) rfl)) (by decide) (by decide)) q5a q5c (g := (mkF m 85 #[.val (.int p0), .val (.int (0 : Int32)), .val (.ref w_Status_DONE), .val (.ref w_Exit_COMPLETED), .val (.int (0 : Int32)), .val (.ref w_Exit_COMPLETED)] [(.ref w_Exit_COMPLETED)])) rfl (by rw [hml]; rfl) (Steps.refl _) (argsL := []) (rest := []) (lenOf pd_21 rfl) rfl (by show 2 * 0 + _ ≤ _; exact Nat.le_of_eq rfl) (hb hby at_85) (fun _ _ => ⟨rfl, e4, (by decide : 0 + 0 ≤ _), (by decide : 0 + 0 ≤ _)⟩)
    dsimp only [Pt.U, Pt.locs, Pt.cells, Pt.slots] at X5 l5 y5 z5 st5 hQ5
    subst l5 y5 z5
    obtain ⟨rfl, Nq5, e5⟩ := hQ5
    have N5 := Fr.app N4 Nq5
    refine Goes.thru (T' := T5.setTop (mkF m 88 #[.val (.int p0), .val (.int (0 : Int32)), .val (.ref w_Status_DONE), .val (.ref w_Exit_COMPLETED), .val (.int (0 : Int32)), .val (.ref w_Exit_COMPLETED)] [(.int (0 : Int32))])) st5 ?_
    refine Goes.to (T' := T5.setTop (mkF m 90 #[.val (.int p0), .val (.int (0 : Int32)), .val (.ref w_Status_DONE), .val (.ref w_Exit_COMPLETED), .val (.int (0 : Int32)), .val (.ref w_Exit_COMPLETED)] [(.int (0 : Int32)), (.int (0 : Int32))])) (fun t k => XS.iload X5.here hx rfl (hb hby at_88) rfl k) ?_
    refine Goes.to (T' := T5.setTop (mkF m 93 #[.val (.int p0), .val (.int (0 : Int32)), .val (.ref w_Status_DONE), .val (.ref w_Exit_COMPLETED), .val (.int (0 : Int32)), .val (.ref w_Exit_COMPLETED)] [])) (fun t k => XS.icmpNo X5.here hx rfl (hb hby at_90) rfl (teq (by decide)).2 k) ?_
    refine Goes.to (T' := T5.setTop (mkF m 94 #[.val (.int p0), .val (.int (0 : Int32)), .val (.ref w_Status_DONE), .val (.ref w_Exit_COMPLETED), .val (.int (0 : Int32)), .val (.ref w_Exit_COMPLETED)] [(.int (1 : Int32))])) (fun t k => XS.iconst X5.here hx rfl (hb hby at_93) k) ?_
    refine Goes.to (T' := T5.setTop (mkF m 98 #[.val (.int p0), .val (.int (0 : Int32)), .val (.ref w_Status_DONE), .val (.ref w_Exit_COMPLETED), .val (.int (0 : Int32)), .val (.ref w_Exit_COMPLETED)] [(.int (1 : Int32))])) (fun t k => XS.goto X5.here hx rfl (pc0 := 94) (pc' := 98) rfl (hb hby at_94) (by decide) (by decide) k) ?_
    obtain ⟨fs, hrL, hrun, hended, hW, hsame⟩ := X5.leave (v := some (.int (1 : Int32))) (fun h => by rw [Bd.returns] at h; cases h)
    subst hQf
    refine ⟨_, _, retN X5 hx (t := .boolean) Bd.returns (by simp) (hb hby at_98) hrL, hrun, hended, _, _, rfl, ?_, ⟨_, rfl⟩, hW, hsame.mono (by decide) (by decide)⟩
    show (fun (v : Option Value) (h : Heap) (L : List Loc) => v = some (.int 1) ∧ Fr n0 L) (some (.int (1 : Int32))) T5.heap _
    rw [e5]
    exact ⟨rfl, N5⟩
  · rw [hv_1]
    refine Goes.to (T' := s₁.setTop (mkF m 4 #[.val (.int p0), .val (.int (1 : Int32)), .unset, .unset, .unset, .unset] [])) (fun t k => XS.istoreN X0.here hx rfl (hb hby at_3) rfl (l' := #[.val (.int p0), .val (.int (1 : Int32)), .unset, .unset, .unset, .unset]) rfl k) ?_
    refine Goes.to (T' := s₁.setTop (mkF m 5 #[.val (.int p0), .val (.int (1 : Int32)), .unset, .unset, .unset, .unset] [(.int (1 : Int32))])) (fun t k => XS.iloadN X0.here hx rfl (hb hby at_4) rfl k) ?_
    refine Goes.to (T' := s₁.setTop (mkF m 22 #[.val (.int p0), .val (.int (1 : Int32)), .unset, .unset, .unset, .unset] [])) (fun t k => XS.ifYes X0.here hx rfl (pc0 := 5) (pc' := 22) rfl (hb hby at_5) rfl ((if0 _ _).trans (feq (by decide)).2) (by decide) (by decide) k) ?_
    refine Goes.to (T' := s₁.setTop (mkF m 23 #[.val (.int p0), .val (.int (1 : Int32)), .unset, .unset, .unset, .unset] [(.int (1 : Int32))])) (fun t k => XS.iloadN X0.here hx rfl (hb hby at_22) rfl k) ?_
    refine Goes.to (T' := s₁.setTop (mkF m 24 #[.val (.int p0), .val (.int (1 : Int32)), .unset, .unset, .unset, .unset] [(.int (1 : Int32)), (.int (1 : Int32))])) (fun t k => XS.iconst X0.here hx rfl (hb hby at_23) k) ?_
    refine Goes.to (T' := s₁.setTop (mkF m 27 #[.val (.int p0), .val (.int (1 : Int32)), .unset, .unset, .unset, .unset] [])) (fun t k => XS.icmpNo X0.here hx rfl (hb hby at_24) rfl (teq (by decide)).2 k) ?_
    obtain ⟨T6, X6, e6, st6⟩ := getS2 X0 hx hZ hown (host := "") (Or.inl (hw _ (List.mem_of_getElem? (i := 29) rfl))) Via.refl e0 (S_w_Status_DISABLED.ext O0.2) (g := (mkF m 27 #[.val (.int p0), .val (.int (1 : Int32)), .unset, .unset, .unset, .unset] [])) rfl (hb hby at_27)
    refine Goes.to (T' := T6.setTop (mkF m 30 #[.val (.int p0), .val (.int (1 : Int32)), .unset, .unset, .unset, .unset] [(.ref w_Status_DISABLED)])) st6 ?_
    refine Goes.to (T' := T6.setTop (mkF m 31 #[.val (.int p0), .val (.int (1 : Int32)), .val (.ref w_Status_DISABLED), .unset, .unset, .unset] [])) (fun t k => XS.astoreN X6.here hx rfl (hb hby at_30) rfl rfl (l' := #[.val (.int p0), .val (.int (1 : Int32)), .val (.ref w_Status_DISABLED), .unset, .unset, .unset]) rfl k) ?_
    obtain ⟨T7, X7, e7, st7⟩ := getS2 X6 hx hZ hown (host := "") (Or.inl (hw _ (List.mem_of_getElem? (i := 3) rfl))) Via.refl e6 (S_w_Exit_COMPLETED.ext O0.2) (g := (mkF m 31 #[.val (.int p0), .val (.int (1 : Int32)), .val (.ref w_Status_DISABLED), .unset, .unset, .unset] [])) rfl (hb hby at_31)
    refine Goes.to (T' := T7.setTop (mkF m 34 #[.val (.int p0), .val (.int (1 : Int32)), .val (.ref w_Status_DISABLED), .unset, .unset, .unset] [(.ref w_Exit_COMPLETED)])) st7 ?_
    refine Goes.to (T' := T7.setTop (mkF m 35 #[.val (.int p0), .val (.int (1 : Int32)), .val (.ref w_Status_DISABLED), .val (.ref w_Exit_COMPLETED), .unset, .unset] [])) (fun t k => XS.astoreN X7.here hx rfl (hb hby at_34) rfl rfl (l' := #[.val (.int p0), .val (.int (1 : Int32)), .val (.ref w_Status_DISABLED), .val (.ref w_Exit_COMPLETED), .unset, .unset]) rfl k) ?_
    refine Goes.to (T' := T7.setTop (mkF m 36 #[.val (.int p0), .val (.int (1 : Int32)), .val (.ref w_Status_DISABLED), .val (.ref w_Exit_COMPLETED), .unset, .unset] [(.int (0 : Int32))])) (fun t k => XS.iconst X7.here hx rfl (hb hby at_35) k) ?_
    refine Goes.to (T' := T7.setTop (mkF m 38 #[.val (.int p0), .val (.int (1 : Int32)), .val (.ref w_Status_DISABLED), .val (.ref w_Exit_COMPLETED), .val (.int (0 : Int32)), .unset] [])) (fun t k => XS.istore X7.here hx rfl (hb hby at_36) rfl (l' := #[.val (.int p0), .val (.int (1 : Int32)), .val (.ref w_Status_DISABLED), .val (.ref w_Exit_COMPLETED), .val (.int (0 : Int32)), .unset]) rfl k) ?_
    refine Goes.to (T' := T7.setTop (mkF m 71 #[.val (.int p0), .val (.int (1 : Int32)), .val (.ref w_Status_DISABLED), .val (.ref w_Exit_COMPLETED), .val (.int (0 : Int32)), .unset] [])) (fun t k => XS.goto X7.here hx rfl (pc0 := 38) (pc' := 71) rfl (hb hby at_38) (by decide) (by decide) k) ?_
    refine Goes.to (T' := T7.setTop (mkF m 72 #[.val (.int p0), .val (.int (1 : Int32)), .val (.ref w_Status_DISABLED), .val (.ref w_Exit_COMPLETED), .val (.int (0 : Int32)), .unset] [(.ref w_Status_DISABLED)])) (fun t k => XS.aloadN X7.here hx rfl (hb hby at_71) rfl rfl k) ?_
    have hne0 := (Fld.ne F_ordinal_w_Status_DISABLED F_ordinal_w_Status_FAILED (by simp))
    have hne1 := (Fld.ne F_ordinal_w_Status_DISABLED F_ordinal_w_Status_STOPPED (by simp))
    obtain ⟨_, _, ⟨T8, L8, k8, n8⟩, -, X8, ⟨Lc8, hQ8, l8, y8, z8⟩, st8⟩ := Jvm.LawKit.callS X7 hx (y := (⟨"com/example/nightcrawler/nightcrawler/Exit", "of", "(Lcom/example/nightcrawler/nightcrawler/engine/Status;)Lcom/example/nightcrawler/nightcrawler/Exit;"⟩ : MethodName)) hown (mvT hZ (hw _ (List.mem_of_getElem? (i := 6) rfl))) (mvT hZ (hw _ (List.mem_of_getElem? (i := 7) rfl))) (mvT hZ (hw _ (List.mem_of_getElem? (i := 4) rfl))) (mvT hZ (hw _ (List.mem_of_getElem? (i := 8) rfl))) (by decide) (backOf (W := 0) (rmO l Z a0 hw [] w_Status_DISABLED w_Status_DONE w_Exit_COMPLETED w_Status_FAILED w_Status_STOPPED w_Exit_STOPPED w_Exit_RULE_FAILED w_Status_DISABLED w_Exit_COMPLETED h0 n0 O0 NF (by first | (simp [hne0, hne1]; done) | ((repeat' split) <;> first | rfl | contradiction | simp_all))) hZ (hw _ (List.mem_of_getElem? (i := 8) rfl)) (hw _ (List.mem_of_getElem? (i := 4) rfl)) (by decide) (by decide)) (g := (mkF m 72 #[.val (.int p0), .val (.int (1 : Int32)), .val (.ref w_Status_DISABLED), .val (.ref w_Exit_COMPLETED), .val (.int (0 : Int32)), .unset] [(.ref w_Status_DISABLED)])) rfl (by rw [hml]; rfl) (argsL := [(.ref w_Status_DISABLED)]) (rest := []) (lenOf pd_20 rfl) rfl (by show 2 * 0 + _ ≤ _; exact Nat.le_of_eq rfl) (hb hby at_72) (fun _ _ => ⟨rfl, e7, (by decide : 0 + 0 ≤ _), (by decide : 0 + 0 ≤ _)⟩)
    dsimp only [Pt.U, Pt.locs, Pt.cells, Pt.slots] at X8 l8 y8 z8 st8 hQ8
    subst l8 y8 z8
    obtain ⟨rfl, Nq8, e8⟩ := hQ8
    have N8 := Fr.app N0 Nq8
    refine Goes.to (T' := T8.setTop (mkF m 75 #[.val (.int p0), .val (.int (1 : Int32)), .val (.ref w_Status_DISABLED), .val (.ref w_Exit_COMPLETED), .val (.int (0 : Int32)), .unset] [(.ref w_Exit_COMPLETED)])) st8 ?_
    refine Goes.to (T' := T8.setTop (mkF m 77 #[.val (.int p0), .val (.int (1 : Int32)), .val (.ref w_Status_DISABLED), .val (.ref w_Exit_COMPLETED), .val (.int (0 : Int32)), .val (.ref w_Exit_COMPLETED)] [])) (fun t k => XS.astore X8.here hx rfl (hb hby at_75) rfl rfl (l' := #[.val (.int p0), .val (.int (1 : Int32)), .val (.ref w_Status_DISABLED), .val (.ref w_Exit_COMPLETED), .val (.int (0 : Int32)), .val (.ref w_Exit_COMPLETED)]) rfl k) ?_
    refine Goes.to (T' := T8.setTop (mkF m 79 #[.val (.int p0), .val (.int (1 : Int32)), .val (.ref w_Status_DISABLED), .val (.ref w_Exit_COMPLETED), .val (.int (0 : Int32)), .val (.ref w_Exit_COMPLETED)] [(.ref w_Exit_COMPLETED)])) (fun t k => XS.aload X8.here hx rfl (hb hby at_77) rfl rfl k) ?_
    refine Goes.to (T' := T8.setTop (mkF m 80 #[.val (.int p0), .val (.int (1 : Int32)), .val (.ref w_Status_DISABLED), .val (.ref w_Exit_COMPLETED), .val (.int (0 : Int32)), .val (.ref w_Exit_COMPLETED)] [(.ref w_Exit_COMPLETED), (.ref w_Exit_COMPLETED)])) (fun t k => XS.aloadN X8.here hx rfl (hb hby at_79) rfl rfl k) ?_
    refine Goes.to (T' := T8.setTop (mkF m 83 #[.val (.int p0), .val (.int (1 : Int32)), .val (.ref w_Status_DISABLED), .val (.ref w_Exit_COMPLETED), .val (.int (0 : Int32)), .val (.ref w_Exit_COMPLETED)] [])) (fun t k => Jvm.RoadKit.acmp (g := (mkF m 80 #[.val (.int p0), .val (.int (1 : Int32)), .val (.ref w_Status_DISABLED), .val (.ref w_Exit_COMPLETED), .val (.int (0 : Int32)), .val (.ref w_Exit_COMPLETED)] [(.ref w_Exit_COMPLETED), (.ref w_Exit_COMPLETED)])) X8 hx rfl rfl rfl (pc0 := 80) (pc' := 83) (same := true) rfl (hb hby at_80) rfl (decide_eq_true rfl) (by decide) (by decide) k) ?_
    refine Goes.to (T' := T8.setTop (mkF m 85 #[.val (.int p0), .val (.int (1 : Int32)), .val (.ref w_Status_DISABLED), .val (.ref w_Exit_COMPLETED), .val (.int (0 : Int32)), .val (.ref w_Exit_COMPLETED)] [(.ref w_Exit_COMPLETED)])) (fun t k => XS.aload X8.here hx rfl (hb hby at_83) rfl rfl k) ?_
    obtain ⟨cq9, kq9, q9a, q9b, q9c⟩ := isOf hZ e8 (E_w_Exit_COMPLETED.ext O0.2)
    obtain ⟨_, _, ⟨T9, L9, k9, n9⟩, -, X9, ⟨Lc9, hQ9, l9, y9, z9⟩, st9⟩ := X8.virtualBack hx (y := (⟨"com/example/nightcrawler/nightcrawler/Exit", "status", "()I"⟩ : MethodName)) (z := (⟨"com/example/nightcrawler/nightcrawler/Exit", "status", "()I"⟩ : MethodName)) hown (mvT hZ (hw _ (List.mem_of_getElem? (i := 14) rfl))) (mvT hZ (hw _ (List.mem_of_getElem? (i := 15) rfl))) (notFace_of_selects (args := #[]) (mvT hZ (hw _ (List.mem_of_getElem? (i := 17) rfl)))) (mvT hZ (hw _ (List.mem_of_getElem? (i := 17) rfl))) (mvT hZ (hw _ (List.mem_of_getElem? (i := 16) rfl))) (by decide) (backOf (W := 0) (rmS l Z a0 hw [] w_Exit_COMPLETED w_Status_DONE w_Exit_COMPLETED w_Status_FAILED w_Status_STOPPED w_Exit_STOPPED w_Exit_RULE_FAILED w_Status_DISABLED (0 : Int32) h0 n0 O0 NF (F_status_w_Exit_COMPLETED.ext O0.2)) hZ (hw _ (List.mem_of_getElem? (i := 18) rfl)) (hw _ (List.mem_of_getElem? (i := 4) rfl)) (by decide) (by decide)) q9a q9c (g := (mkF m 85 #[.val (.int p0), .val (.int (1 : Int32)), .val (.ref w_Status_DISABLED), .val (.ref w_Exit_COMPLETED), .val (.int (0 : Int32)), .val (.ref w_Exit_COMPLETED)] [(.ref w_Exit_COMPLETED)])) rfl (by rw [hml]; rfl) (Steps.refl _) (argsL := []) (rest := []) (lenOf pd_21 rfl) rfl (by show 2 * 0 + _ ≤ _; exact Nat.le_of_eq rfl) (hb hby at_85) (fun _ _ => ⟨rfl, e8, (by decide : 0 + 0 ≤ _), (by decide : 0 + 0 ≤ _)⟩)
    dsimp only [Pt.U, Pt.locs, Pt.cells, Pt.slots] at X9 l9 y9 z9 st9 hQ9
    subst l9 y9 z9
    obtain ⟨rfl, Nq9, e9⟩ := hQ9
    have N9 := Fr.app N8 Nq9
    refine Goes.thru (T' := T9.setTop (mkF m 88 #[.val (.int p0), .val (.int (1 : Int32)), .val (.ref w_Status_DISABLED), .val (.ref w_Exit_COMPLETED), .val (.int (0 : Int32)), .val (.ref w_Exit_COMPLETED)] [(.int (0 : Int32))])) st9 ?_
    refine Goes.to (T' := T9.setTop (mkF m 90 #[.val (.int p0), .val (.int (1 : Int32)), .val (.ref w_Status_DISABLED), .val (.ref w_Exit_COMPLETED), .val (.int (0 : Int32)), .val (.ref w_Exit_COMPLETED)] [(.int (0 : Int32)), (.int (0 : Int32))])) (fun t k => XS.iload X9.here hx rfl (hb hby at_88) rfl k) ?_
    refine Goes.to (T' := T9.setTop (mkF m 93 #[.val (.int p0), .val (.int (1 : Int32)), .val (.ref w_Status_DISABLED), .val (.ref w_Exit_COMPLETED), .val (.int (0 : Int32)), .val (.ref w_Exit_COMPLETED)] [])) (fun t k => XS.icmpNo X9.here hx rfl (hb hby at_90) rfl (teq (by decide)).2 k) ?_
    refine Goes.to (T' := T9.setTop (mkF m 94 #[.val (.int p0), .val (.int (1 : Int32)), .val (.ref w_Status_DISABLED), .val (.ref w_Exit_COMPLETED), .val (.int (0 : Int32)), .val (.ref w_Exit_COMPLETED)] [(.int (1 : Int32))])) (fun t k => XS.iconst X9.here hx rfl (hb hby at_93) k) ?_
    refine Goes.to (T' := T9.setTop (mkF m 98 #[.val (.int p0), .val (.int (1 : Int32)), .val (.ref w_Status_DISABLED), .val (.ref w_Exit_COMPLETED), .val (.int (0 : Int32)), .val (.ref w_Exit_COMPLETED)] [(.int (1 : Int32))])) (fun t k => XS.goto X9.here hx rfl (pc0 := 94) (pc' := 98) rfl (hb hby at_94) (by decide) (by decide) k) ?_
    obtain ⟨fs, hrL, hrun, hended, hW, hsame⟩ := X9.leave (v := some (.int (1 : Int32))) (fun h => by rw [Bd.returns] at h; cases h)
    subst hQf
    refine ⟨_, _, retN X9 hx (t := .boolean) Bd.returns (by simp) (hb hby at_98) hrL, hrun, hended, _, _, rfl, ?_, ⟨_, rfl⟩, hW, hsame.mono (by decide) (by decide)⟩
    show (fun (v : Option Value) (h : Heap) (L : List Loc) => v = some (.int 1) ∧ Fr n0 L) (some (.int (1 : Int32))) T9.heap _
    rw [e9]
    exact ⟨rfl, N9⟩
  · rw [hv_1]
    refine Goes.to (T' := s₁.setTop (mkF m 4 #[.val (.int p0), .val (.int (2 : Int32)), .unset, .unset, .unset, .unset] [])) (fun t k => XS.istoreN X0.here hx rfl (hb hby at_3) rfl (l' := #[.val (.int p0), .val (.int (2 : Int32)), .unset, .unset, .unset, .unset]) rfl k) ?_
    refine Goes.to (T' := s₁.setTop (mkF m 5 #[.val (.int p0), .val (.int (2 : Int32)), .unset, .unset, .unset, .unset] [(.int (2 : Int32))])) (fun t k => XS.iloadN X0.here hx rfl (hb hby at_4) rfl k) ?_
    refine Goes.to (T' := s₁.setTop (mkF m 22 #[.val (.int p0), .val (.int (2 : Int32)), .unset, .unset, .unset, .unset] [])) (fun t k => XS.ifYes X0.here hx rfl (pc0 := 5) (pc' := 22) rfl (hb hby at_5) rfl ((if0 _ _).trans (feq (by decide)).2) (by decide) (by decide) k) ?_
    refine Goes.to (T' := s₁.setTop (mkF m 23 #[.val (.int p0), .val (.int (2 : Int32)), .unset, .unset, .unset, .unset] [(.int (2 : Int32))])) (fun t k => XS.iloadN X0.here hx rfl (hb hby at_22) rfl k) ?_
    refine Goes.to (T' := s₁.setTop (mkF m 24 #[.val (.int p0), .val (.int (2 : Int32)), .unset, .unset, .unset, .unset] [(.int (1 : Int32)), (.int (2 : Int32))])) (fun t k => XS.iconst X0.here hx rfl (hb hby at_23) k) ?_
    refine Goes.to (T' := s₁.setTop (mkF m 41 #[.val (.int p0), .val (.int (2 : Int32)), .unset, .unset, .unset, .unset] [])) (fun t k => XS.icmpYes X0.here hx rfl (pc0 := 24) (pc' := 41) rfl (hb hby at_24) rfl (feq (by decide)).2 (by decide) (by decide) k) ?_
    refine Goes.to (T' := s₁.setTop (mkF m 42 #[.val (.int p0), .val (.int (2 : Int32)), .unset, .unset, .unset, .unset] [(.int (2 : Int32))])) (fun t k => XS.iloadN X0.here hx rfl (hb hby at_41) rfl k) ?_
    refine Goes.to (T' := s₁.setTop (mkF m 43 #[.val (.int p0), .val (.int (2 : Int32)), .unset, .unset, .unset, .unset] [(.int (2 : Int32)), (.int (2 : Int32))])) (fun t k => XS.iconst X0.here hx rfl (hb hby at_42) k) ?_
    refine Goes.to (T' := s₁.setTop (mkF m 46 #[.val (.int p0), .val (.int (2 : Int32)), .unset, .unset, .unset, .unset] [])) (fun t k => XS.icmpNo X0.here hx rfl (hb hby at_43) rfl (teq (by decide)).2 k) ?_
    obtain ⟨T10, X10, e10, st10⟩ := getS2 X0 hx hZ hown (host := "") (Or.inl (hw _ (List.mem_of_getElem? (i := 25) rfl))) Via.refl e0 (S_w_Status_FAILED.ext O0.2) (g := (mkF m 46 #[.val (.int p0), .val (.int (2 : Int32)), .unset, .unset, .unset, .unset] [])) rfl (hb hby at_46)
    refine Goes.to (T' := T10.setTop (mkF m 49 #[.val (.int p0), .val (.int (2 : Int32)), .unset, .unset, .unset, .unset] [(.ref w_Status_FAILED)])) st10 ?_
    refine Goes.to (T' := T10.setTop (mkF m 50 #[.val (.int p0), .val (.int (2 : Int32)), .val (.ref w_Status_FAILED), .unset, .unset, .unset] [])) (fun t k => XS.astoreN X10.here hx rfl (hb hby at_49) rfl rfl (l' := #[.val (.int p0), .val (.int (2 : Int32)), .val (.ref w_Status_FAILED), .unset, .unset, .unset]) rfl k) ?_
    obtain ⟨T11, X11, e11, st11⟩ := getS2 X10 hx hZ hown (host := "") (Or.inl (hw _ (List.mem_of_getElem? (i := 26) rfl))) Via.refl e10 (S_w_Exit_RULE_FAILED.ext O0.2) (g := (mkF m 50 #[.val (.int p0), .val (.int (2 : Int32)), .val (.ref w_Status_FAILED), .unset, .unset, .unset] [])) rfl (hb hby at_50)
    refine Goes.to (T' := T11.setTop (mkF m 53 #[.val (.int p0), .val (.int (2 : Int32)), .val (.ref w_Status_FAILED), .unset, .unset, .unset] [(.ref w_Exit_RULE_FAILED)])) st11 ?_
    refine Goes.to (T' := T11.setTop (mkF m 54 #[.val (.int p0), .val (.int (2 : Int32)), .val (.ref w_Status_FAILED), .val (.ref w_Exit_RULE_FAILED), .unset, .unset] [])) (fun t k => XS.astoreN X11.here hx rfl (hb hby at_53) rfl rfl (l' := #[.val (.int p0), .val (.int (2 : Int32)), .val (.ref w_Status_FAILED), .val (.ref w_Exit_RULE_FAILED), .unset, .unset]) rfl k) ?_
    refine Goes.to (T' := T11.setTop (mkF m 55 #[.val (.int p0), .val (.int (2 : Int32)), .val (.ref w_Status_FAILED), .val (.ref w_Exit_RULE_FAILED), .unset, .unset] [(.int (1 : Int32))])) (fun t k => XS.iconst X11.here hx rfl (hb hby at_54) k) ?_
    refine Goes.to (T' := T11.setTop (mkF m 57 #[.val (.int p0), .val (.int (2 : Int32)), .val (.ref w_Status_FAILED), .val (.ref w_Exit_RULE_FAILED), .val (.int (1 : Int32)), .unset] [])) (fun t k => XS.istore X11.here hx rfl (hb hby at_55) rfl (l' := #[.val (.int p0), .val (.int (2 : Int32)), .val (.ref w_Status_FAILED), .val (.ref w_Exit_RULE_FAILED), .val (.int (1 : Int32)), .unset]) rfl k) ?_
    refine Goes.to (T' := T11.setTop (mkF m 71 #[.val (.int p0), .val (.int (2 : Int32)), .val (.ref w_Status_FAILED), .val (.ref w_Exit_RULE_FAILED), .val (.int (1 : Int32)), .unset] [])) (fun t k => XS.goto X11.here hx rfl (pc0 := 57) (pc' := 71) rfl (hb hby at_57) (by decide) (by decide) k) ?_
    refine Goes.to (T' := T11.setTop (mkF m 72 #[.val (.int p0), .val (.int (2 : Int32)), .val (.ref w_Status_FAILED), .val (.ref w_Exit_RULE_FAILED), .val (.int (1 : Int32)), .unset] [(.ref w_Status_FAILED)])) (fun t k => XS.aloadN X11.here hx rfl (hb hby at_71) rfl rfl k) ?_
    have hne0 := (Fld.ne F_ordinal_w_Status_FAILED F_ordinal_w_Status_STOPPED (by simp))
    obtain ⟨_, _, ⟨T12, L12, k12, n12⟩, -, X12, ⟨Lc12, hQ12, l12, y12, z12⟩, st12⟩ := Jvm.LawKit.callS X11 hx (y := (⟨"com/example/nightcrawler/nightcrawler/Exit", "of", "(Lcom/example/nightcrawler/nightcrawler/engine/Status;)Lcom/example/nightcrawler/nightcrawler/Exit;"⟩ : MethodName)) hown (mvT hZ (hw _ (List.mem_of_getElem? (i := 6) rfl))) (mvT hZ (hw _ (List.mem_of_getElem? (i := 7) rfl))) (mvT hZ (hw _ (List.mem_of_getElem? (i := 4) rfl))) (mvT hZ (hw _ (List.mem_of_getElem? (i := 8) rfl))) (by decide) (backOf (W := 0) (rmO l Z a0 hw [] w_Status_FAILED w_Status_DONE w_Exit_COMPLETED w_Status_FAILED w_Status_STOPPED w_Exit_STOPPED w_Exit_RULE_FAILED w_Status_DISABLED w_Exit_RULE_FAILED h0 n0 O0 NF (by first | (simp [hne0]; done) | ((repeat' split) <;> first | rfl | contradiction | simp_all))) hZ (hw _ (List.mem_of_getElem? (i := 8) rfl)) (hw _ (List.mem_of_getElem? (i := 4) rfl)) (by decide) (by decide)) (g := (mkF m 72 #[.val (.int p0), .val (.int (2 : Int32)), .val (.ref w_Status_FAILED), .val (.ref w_Exit_RULE_FAILED), .val (.int (1 : Int32)), .unset] [(.ref w_Status_FAILED)])) rfl (by rw [hml]; rfl) (argsL := [(.ref w_Status_FAILED)]) (rest := []) (lenOf pd_20 rfl) rfl (by show 2 * 0 + _ ≤ _; exact Nat.le_of_eq rfl) (hb hby at_72) (fun _ _ => ⟨rfl, e11, (by decide : 0 + 0 ≤ _), (by decide : 0 + 0 ≤ _)⟩)
    dsimp only [Pt.U, Pt.locs, Pt.cells, Pt.slots] at X12 l12 y12 z12 st12 hQ12
    subst l12 y12 z12
    obtain ⟨rfl, Nq12, e12⟩ := hQ12
    have N12 := Fr.app N0 Nq12
    refine Goes.to (T' := T12.setTop (mkF m 75 #[.val (.int p0), .val (.int (2 : Int32)), .val (.ref w_Status_FAILED), .val (.ref w_Exit_RULE_FAILED), .val (.int (1 : Int32)), .unset] [(.ref w_Exit_RULE_FAILED)])) st12 ?_
    refine Goes.to (T' := T12.setTop (mkF m 77 #[.val (.int p0), .val (.int (2 : Int32)), .val (.ref w_Status_FAILED), .val (.ref w_Exit_RULE_FAILED), .val (.int (1 : Int32)), .val (.ref w_Exit_RULE_FAILED)] [])) (fun t k => XS.astore X12.here hx rfl (hb hby at_75) rfl rfl (l' := #[.val (.int p0), .val (.int (2 : Int32)), .val (.ref w_Status_FAILED), .val (.ref w_Exit_RULE_FAILED), .val (.int (1 : Int32)), .val (.ref w_Exit_RULE_FAILED)]) rfl k) ?_
    refine Goes.to (T' := T12.setTop (mkF m 79 #[.val (.int p0), .val (.int (2 : Int32)), .val (.ref w_Status_FAILED), .val (.ref w_Exit_RULE_FAILED), .val (.int (1 : Int32)), .val (.ref w_Exit_RULE_FAILED)] [(.ref w_Exit_RULE_FAILED)])) (fun t k => XS.aload X12.here hx rfl (hb hby at_77) rfl rfl k) ?_
    refine Goes.to (T' := T12.setTop (mkF m 80 #[.val (.int p0), .val (.int (2 : Int32)), .val (.ref w_Status_FAILED), .val (.ref w_Exit_RULE_FAILED), .val (.int (1 : Int32)), .val (.ref w_Exit_RULE_FAILED)] [(.ref w_Exit_RULE_FAILED), (.ref w_Exit_RULE_FAILED)])) (fun t k => XS.aloadN X12.here hx rfl (hb hby at_79) rfl rfl k) ?_
    refine Goes.to (T' := T12.setTop (mkF m 83 #[.val (.int p0), .val (.int (2 : Int32)), .val (.ref w_Status_FAILED), .val (.ref w_Exit_RULE_FAILED), .val (.int (1 : Int32)), .val (.ref w_Exit_RULE_FAILED)] [])) (fun t k => Jvm.RoadKit.acmp (g := (mkF m 80 #[.val (.int p0), .val (.int (2 : Int32)), .val (.ref w_Status_FAILED), .val (.ref w_Exit_RULE_FAILED), .val (.int (1 : Int32)), .val (.ref w_Exit_RULE_FAILED)] [(.ref w_Exit_RULE_FAILED), (.ref w_Exit_RULE_FAILED)])) X12 hx rfl rfl rfl (pc0 := 80) (pc' := 83) (same := true) rfl (hb hby at_80) rfl (decide_eq_true rfl) (by decide) (by decide) k) ?_
    refine Goes.to (T' := T12.setTop (mkF m 85 #[.val (.int p0), .val (.int (2 : Int32)), .val (.ref w_Status_FAILED), .val (.ref w_Exit_RULE_FAILED), .val (.int (1 : Int32)), .val (.ref w_Exit_RULE_FAILED)] [(.ref w_Exit_RULE_FAILED)])) (fun t k => XS.aload X12.here hx rfl (hb hby at_83) rfl rfl k) ?_
    obtain ⟨cq13, kq13, q13a, q13b, q13c⟩ := isOf hZ e12 (E_w_Exit_RULE_FAILED.ext O0.2)
    obtain ⟨_, _, ⟨T13, L13, k13, n13⟩, -, X13, ⟨Lc13, hQ13, l13, y13, z13⟩, st13⟩ := X12.virtualBack hx (y := (⟨"com/example/nightcrawler/nightcrawler/Exit", "status", "()I"⟩ : MethodName)) (z := (⟨"com/example/nightcrawler/nightcrawler/Exit", "status", "()I"⟩ : MethodName)) hown (mvT hZ (hw _ (List.mem_of_getElem? (i := 14) rfl))) (mvT hZ (hw _ (List.mem_of_getElem? (i := 15) rfl))) (notFace_of_selects (args := #[]) (mvT hZ (hw _ (List.mem_of_getElem? (i := 17) rfl)))) (mvT hZ (hw _ (List.mem_of_getElem? (i := 17) rfl))) (mvT hZ (hw _ (List.mem_of_getElem? (i := 16) rfl))) (by decide) (backOf (W := 0) (rmS l Z a0 hw [] w_Exit_RULE_FAILED w_Status_DONE w_Exit_COMPLETED w_Status_FAILED w_Status_STOPPED w_Exit_STOPPED w_Exit_RULE_FAILED w_Status_DISABLED (1 : Int32) h0 n0 O0 NF (F_status_w_Exit_RULE_FAILED.ext O0.2)) hZ (hw _ (List.mem_of_getElem? (i := 18) rfl)) (hw _ (List.mem_of_getElem? (i := 4) rfl)) (by decide) (by decide)) q13a q13c (g := (mkF m 85 #[.val (.int p0), .val (.int (2 : Int32)), .val (.ref w_Status_FAILED), .val (.ref w_Exit_RULE_FAILED), .val (.int (1 : Int32)), .val (.ref w_Exit_RULE_FAILED)] [(.ref w_Exit_RULE_FAILED)])) rfl (by rw [hml]; rfl) (Steps.refl _) (argsL := []) (rest := []) (lenOf pd_21 rfl) rfl (by show 2 * 0 + _ ≤ _; exact Nat.le_of_eq rfl) (hb hby at_85) (fun _ _ => ⟨rfl, e12, (by decide : 0 + 0 ≤ _), (by decide : 0 + 0 ≤ _)⟩)
    dsimp only [Pt.U, Pt.locs, Pt.cells, Pt.slots] at X13 l13 y13 z13 st13 hQ13
    subst l13 y13 z13
    obtain ⟨rfl, Nq13, e13⟩ := hQ13
    have N13 := Fr.app N12 Nq13
    refine Goes.thru (T' := T13.setTop (mkF m 88 #[.val (.int p0), .val (.int (2 : Int32)), .val (.ref w_Status_FAILED), .val (.ref w_Exit_RULE_FAILED), .val (.int (1 : Int32)), .val (.ref w_Exit_RULE_FAILED)] [(.int (1 : Int32))])) st13 ?_
    refine Goes.to (T' := T13.setTop (mkF m 90 #[.val (.int p0), .val (.int (2 : Int32)), .val (.ref w_Status_FAILED), .val (.ref w_Exit_RULE_FAILED), .val (.int (1 : Int32)), .val (.ref w_Exit_RULE_FAILED)] [(.int (1 : Int32)), (.int (1 : Int32))])) (fun t k => XS.iload X13.here hx rfl (hb hby at_88) rfl k) ?_
    refine Goes.to (T' := T13.setTop (mkF m 93 #[.val (.int p0), .val (.int (2 : Int32)), .val (.ref w_Status_FAILED), .val (.ref w_Exit_RULE_FAILED), .val (.int (1 : Int32)), .val (.ref w_Exit_RULE_FAILED)] [])) (fun t k => XS.icmpNo X13.here hx rfl (hb hby at_90) rfl (teq (by decide)).2 k) ?_
    refine Goes.to (T' := T13.setTop (mkF m 94 #[.val (.int p0), .val (.int (2 : Int32)), .val (.ref w_Status_FAILED), .val (.ref w_Exit_RULE_FAILED), .val (.int (1 : Int32)), .val (.ref w_Exit_RULE_FAILED)] [(.int (1 : Int32))])) (fun t k => XS.iconst X13.here hx rfl (hb hby at_93) k) ?_
    refine Goes.to (T' := T13.setTop (mkF m 98 #[.val (.int p0), .val (.int (2 : Int32)), .val (.ref w_Status_FAILED), .val (.ref w_Exit_RULE_FAILED), .val (.int (1 : Int32)), .val (.ref w_Exit_RULE_FAILED)] [(.int (1 : Int32))])) (fun t k => XS.goto X13.here hx rfl (pc0 := 94) (pc' := 98) rfl (hb hby at_94) (by decide) (by decide) k) ?_
    obtain ⟨fs, hrL, hrun, hended, hW, hsame⟩ := X13.leave (v := some (.int (1 : Int32))) (fun h => by rw [Bd.returns] at h; cases h)
    subst hQf
    refine ⟨_, _, retN X13 hx (t := .boolean) Bd.returns (by simp) (hb hby at_98) hrL, hrun, hended, _, _, rfl, ?_, ⟨_, rfl⟩, hW, hsame.mono (by decide) (by decide)⟩
    show (fun (v : Option Value) (h : Heap) (L : List Loc) => v = some (.int 1) ∧ Fr n0 L) (some (.int (1 : Int32))) T13.heap _
    rw [e13]
    exact ⟨rfl, N13⟩
  · rw [hv_1]
    refine Goes.to (T' := s₁.setTop (mkF m 4 #[.val (.int p0), .val (.int (3 : Int32)), .unset, .unset, .unset, .unset] [])) (fun t k => XS.istoreN X0.here hx rfl (hb hby at_3) rfl (l' := #[.val (.int p0), .val (.int (3 : Int32)), .unset, .unset, .unset, .unset]) rfl k) ?_
    refine Goes.to (T' := s₁.setTop (mkF m 5 #[.val (.int p0), .val (.int (3 : Int32)), .unset, .unset, .unset, .unset] [(.int (3 : Int32))])) (fun t k => XS.iloadN X0.here hx rfl (hb hby at_4) rfl k) ?_
    refine Goes.to (T' := s₁.setTop (mkF m 22 #[.val (.int p0), .val (.int (3 : Int32)), .unset, .unset, .unset, .unset] [])) (fun t k => XS.ifYes X0.here hx rfl (pc0 := 5) (pc' := 22) rfl (hb hby at_5) rfl ((if0 _ _).trans (feq (by decide)).2) (by decide) (by decide) k) ?_
    refine Goes.to (T' := s₁.setTop (mkF m 23 #[.val (.int p0), .val (.int (3 : Int32)), .unset, .unset, .unset, .unset] [(.int (3 : Int32))])) (fun t k => XS.iloadN X0.here hx rfl (hb hby at_22) rfl k) ?_
    refine Goes.to (T' := s₁.setTop (mkF m 24 #[.val (.int p0), .val (.int (3 : Int32)), .unset, .unset, .unset, .unset] [(.int (1 : Int32)), (.int (3 : Int32))])) (fun t k => XS.iconst X0.here hx rfl (hb hby at_23) k) ?_
    refine Goes.to (T' := s₁.setTop (mkF m 41 #[.val (.int p0), .val (.int (3 : Int32)), .unset, .unset, .unset, .unset] [])) (fun t k => XS.icmpYes X0.here hx rfl (pc0 := 24) (pc' := 41) rfl (hb hby at_24) rfl (feq (by decide)).2 (by decide) (by decide) k) ?_
    refine Goes.to (T' := s₁.setTop (mkF m 42 #[.val (.int p0), .val (.int (3 : Int32)), .unset, .unset, .unset, .unset] [(.int (3 : Int32))])) (fun t k => XS.iloadN X0.here hx rfl (hb hby at_41) rfl k) ?_
    refine Goes.to (T' := s₁.setTop (mkF m 43 #[.val (.int p0), .val (.int (3 : Int32)), .unset, .unset, .unset, .unset] [(.int (2 : Int32)), (.int (3 : Int32))])) (fun t k => XS.iconst X0.here hx rfl (hb hby at_42) k) ?_
    refine Goes.to (T' := s₁.setTop (mkF m 60 #[.val (.int p0), .val (.int (3 : Int32)), .unset, .unset, .unset, .unset] [])) (fun t k => XS.icmpYes X0.here hx rfl (pc0 := 43) (pc' := 60) rfl (hb hby at_43) rfl (feq (by decide)).2 (by decide) (by decide) k) ?_
    obtain ⟨T14, X14, e14, st14⟩ := getS2 X0 hx hZ hown (host := "") (Or.inl (hw _ (List.mem_of_getElem? (i := 21) rfl))) Via.refl e0 (S_w_Status_STOPPED.ext O0.2) (g := (mkF m 60 #[.val (.int p0), .val (.int (3 : Int32)), .unset, .unset, .unset, .unset] [])) rfl (hb hby at_60)
    refine Goes.to (T' := T14.setTop (mkF m 63 #[.val (.int p0), .val (.int (3 : Int32)), .unset, .unset, .unset, .unset] [(.ref w_Status_STOPPED)])) st14 ?_
    refine Goes.to (T' := T14.setTop (mkF m 64 #[.val (.int p0), .val (.int (3 : Int32)), .val (.ref w_Status_STOPPED), .unset, .unset, .unset] [])) (fun t k => XS.astoreN X14.here hx rfl (hb hby at_63) rfl rfl (l' := #[.val (.int p0), .val (.int (3 : Int32)), .val (.ref w_Status_STOPPED), .unset, .unset, .unset]) rfl k) ?_
    obtain ⟨T15, X15, e15, st15⟩ := getS2 X14 hx hZ hown (host := "") (Or.inl (hw _ (List.mem_of_getElem? (i := 22) rfl))) Via.refl e14 (S_w_Exit_STOPPED.ext O0.2) (g := (mkF m 64 #[.val (.int p0), .val (.int (3 : Int32)), .val (.ref w_Status_STOPPED), .unset, .unset, .unset] [])) rfl (hb hby at_64)
    refine Goes.to (T' := T15.setTop (mkF m 67 #[.val (.int p0), .val (.int (3 : Int32)), .val (.ref w_Status_STOPPED), .unset, .unset, .unset] [(.ref w_Exit_STOPPED)])) st15 ?_
    refine Goes.to (T' := T15.setTop (mkF m 68 #[.val (.int p0), .val (.int (3 : Int32)), .val (.ref w_Status_STOPPED), .val (.ref w_Exit_STOPPED), .unset, .unset] [])) (fun t k => XS.astoreN X15.here hx rfl (hb hby at_67) rfl rfl (l' := #[.val (.int p0), .val (.int (3 : Int32)), .val (.ref w_Status_STOPPED), .val (.ref w_Exit_STOPPED), .unset, .unset]) rfl k) ?_
    refine Goes.to (T' := T15.setTop (mkF m 69 #[.val (.int p0), .val (.int (3 : Int32)), .val (.ref w_Status_STOPPED), .val (.ref w_Exit_STOPPED), .unset, .unset] [(.int (3 : Int32))])) (fun t k => XS.iconst X15.here hx rfl (hb hby at_68) k) ?_
    refine Goes.to (T' := T15.setTop (mkF m 71 #[.val (.int p0), .val (.int (3 : Int32)), .val (.ref w_Status_STOPPED), .val (.ref w_Exit_STOPPED), .val (.int (3 : Int32)), .unset] [])) (fun t k => XS.istore X15.here hx rfl (hb hby at_69) rfl (l' := #[.val (.int p0), .val (.int (3 : Int32)), .val (.ref w_Status_STOPPED), .val (.ref w_Exit_STOPPED), .val (.int (3 : Int32)), .unset]) rfl k) ?_
    refine Goes.to (T' := T15.setTop (mkF m 72 #[.val (.int p0), .val (.int (3 : Int32)), .val (.ref w_Status_STOPPED), .val (.ref w_Exit_STOPPED), .val (.int (3 : Int32)), .unset] [(.ref w_Status_STOPPED)])) (fun t k => XS.aloadN X15.here hx rfl (hb hby at_71) rfl rfl k) ?_
    have hne0 := (Fld.ne F_ordinal_w_Status_STOPPED F_ordinal_w_Status_FAILED (by simp))
    obtain ⟨_, _, ⟨T16, L16, k16, n16⟩, -, X16, ⟨Lc16, hQ16, l16, y16, z16⟩, st16⟩ := Jvm.LawKit.callS X15 hx (y := (⟨"com/example/nightcrawler/nightcrawler/Exit", "of", "(Lcom/example/nightcrawler/nightcrawler/engine/Status;)Lcom/example/nightcrawler/nightcrawler/Exit;"⟩ : MethodName)) hown (mvT hZ (hw _ (List.mem_of_getElem? (i := 6) rfl))) (mvT hZ (hw _ (List.mem_of_getElem? (i := 7) rfl))) (mvT hZ (hw _ (List.mem_of_getElem? (i := 4) rfl))) (mvT hZ (hw _ (List.mem_of_getElem? (i := 8) rfl))) (by decide) (backOf (W := 0) (rmO l Z a0 hw [] w_Status_STOPPED w_Status_DONE w_Exit_COMPLETED w_Status_FAILED w_Status_STOPPED w_Exit_STOPPED w_Exit_RULE_FAILED w_Status_DISABLED w_Exit_STOPPED h0 n0 O0 NF (by first | (simp [hne0]; done) | ((repeat' split) <;> first | rfl | contradiction | simp_all))) hZ (hw _ (List.mem_of_getElem? (i := 8) rfl)) (hw _ (List.mem_of_getElem? (i := 4) rfl)) (by decide) (by decide)) (g := (mkF m 72 #[.val (.int p0), .val (.int (3 : Int32)), .val (.ref w_Status_STOPPED), .val (.ref w_Exit_STOPPED), .val (.int (3 : Int32)), .unset] [(.ref w_Status_STOPPED)])) rfl (by rw [hml]; rfl) (argsL := [(.ref w_Status_STOPPED)]) (rest := []) (lenOf pd_20 rfl) rfl (by show 2 * 0 + _ ≤ _; exact Nat.le_of_eq rfl) (hb hby at_72) (fun _ _ => ⟨rfl, e15, (by decide : 0 + 0 ≤ _), (by decide : 0 + 0 ≤ _)⟩)
    dsimp only [Pt.U, Pt.locs, Pt.cells, Pt.slots] at X16 l16 y16 z16 st16 hQ16
    subst l16 y16 z16
    obtain ⟨rfl, Nq16, e16⟩ := hQ16
    have N16 := Fr.app N0 Nq16
    refine Goes.to (T' := T16.setTop (mkF m 75 #[.val (.int p0), .val (.int (3 : Int32)), .val (.ref w_Status_STOPPED), .val (.ref w_Exit_STOPPED), .val (.int (3 : Int32)), .unset] [(.ref w_Exit_STOPPED)])) st16 ?_
    refine Goes.to (T' := T16.setTop (mkF m 77 #[.val (.int p0), .val (.int (3 : Int32)), .val (.ref w_Status_STOPPED), .val (.ref w_Exit_STOPPED), .val (.int (3 : Int32)), .val (.ref w_Exit_STOPPED)] [])) (fun t k => XS.astore X16.here hx rfl (hb hby at_75) rfl rfl (l' := #[.val (.int p0), .val (.int (3 : Int32)), .val (.ref w_Status_STOPPED), .val (.ref w_Exit_STOPPED), .val (.int (3 : Int32)), .val (.ref w_Exit_STOPPED)]) rfl k) ?_
    refine Goes.to (T' := T16.setTop (mkF m 79 #[.val (.int p0), .val (.int (3 : Int32)), .val (.ref w_Status_STOPPED), .val (.ref w_Exit_STOPPED), .val (.int (3 : Int32)), .val (.ref w_Exit_STOPPED)] [(.ref w_Exit_STOPPED)])) (fun t k => XS.aload X16.here hx rfl (hb hby at_77) rfl rfl k) ?_
    refine Goes.to (T' := T16.setTop (mkF m 80 #[.val (.int p0), .val (.int (3 : Int32)), .val (.ref w_Status_STOPPED), .val (.ref w_Exit_STOPPED), .val (.int (3 : Int32)), .val (.ref w_Exit_STOPPED)] [(.ref w_Exit_STOPPED), (.ref w_Exit_STOPPED)])) (fun t k => XS.aloadN X16.here hx rfl (hb hby at_79) rfl rfl k) ?_
    refine Goes.to (T' := T16.setTop (mkF m 83 #[.val (.int p0), .val (.int (3 : Int32)), .val (.ref w_Status_STOPPED), .val (.ref w_Exit_STOPPED), .val (.int (3 : Int32)), .val (.ref w_Exit_STOPPED)] [])) (fun t k => Jvm.RoadKit.acmp (g := (mkF m 80 #[.val (.int p0), .val (.int (3 : Int32)), .val (.ref w_Status_STOPPED), .val (.ref w_Exit_STOPPED), .val (.int (3 : Int32)), .val (.ref w_Exit_STOPPED)] [(.ref w_Exit_STOPPED), (.ref w_Exit_STOPPED)])) X16 hx rfl rfl rfl (pc0 := 80) (pc' := 83) (same := true) rfl (hb hby at_80) rfl (decide_eq_true rfl) (by decide) (by decide) k) ?_
    refine Goes.to (T' := T16.setTop (mkF m 85 #[.val (.int p0), .val (.int (3 : Int32)), .val (.ref w_Status_STOPPED), .val (.ref w_Exit_STOPPED), .val (.int (3 : Int32)), .val (.ref w_Exit_STOPPED)] [(.ref w_Exit_STOPPED)])) (fun t k => XS.aload X16.here hx rfl (hb hby at_83) rfl rfl k) ?_
    obtain ⟨cq17, kq17, q17a, q17b, q17c⟩ := isOf hZ e16 (E_w_Exit_STOPPED.ext O0.2)
    obtain ⟨_, _, ⟨T17, L17, k17, n17⟩, -, X17, ⟨Lc17, hQ17, l17, y17, z17⟩, st17⟩ := X16.virtualBack hx (y := (⟨"com/example/nightcrawler/nightcrawler/Exit", "status", "()I"⟩ : MethodName)) (z := (⟨"com/example/nightcrawler/nightcrawler/Exit", "status", "()I"⟩ : MethodName)) hown (mvT hZ (hw _ (List.mem_of_getElem? (i := 14) rfl))) (mvT hZ (hw _ (List.mem_of_getElem? (i := 15) rfl))) (notFace_of_selects (args := #[]) (mvT hZ (hw _ (List.mem_of_getElem? (i := 17) rfl)))) (mvT hZ (hw _ (List.mem_of_getElem? (i := 17) rfl))) (mvT hZ (hw _ (List.mem_of_getElem? (i := 16) rfl))) (by decide) (backOf (W := 0) (rmS l Z a0 hw [] w_Exit_STOPPED w_Status_DONE w_Exit_COMPLETED w_Status_FAILED w_Status_STOPPED w_Exit_STOPPED w_Exit_RULE_FAILED w_Status_DISABLED (3 : Int32) h0 n0 O0 NF (F_status_w_Exit_STOPPED.ext O0.2)) hZ (hw _ (List.mem_of_getElem? (i := 18) rfl)) (hw _ (List.mem_of_getElem? (i := 4) rfl)) (by decide) (by decide)) q17a q17c (g := (mkF m 85 #[.val (.int p0), .val (.int (3 : Int32)), .val (.ref w_Status_STOPPED), .val (.ref w_Exit_STOPPED), .val (.int (3 : Int32)), .val (.ref w_Exit_STOPPED)] [(.ref w_Exit_STOPPED)])) rfl (by rw [hml]; rfl) (Steps.refl _) (argsL := []) (rest := []) (lenOf pd_21 rfl) rfl (by show 2 * 0 + _ ≤ _; exact Nat.le_of_eq rfl) (hb hby at_85) (fun _ _ => ⟨rfl, e16, (by decide : 0 + 0 ≤ _), (by decide : 0 + 0 ≤ _)⟩)
    dsimp only [Pt.U, Pt.locs, Pt.cells, Pt.slots] at X17 l17 y17 z17 st17 hQ17
    subst l17 y17 z17
    obtain ⟨rfl, Nq17, e17⟩ := hQ17
    have N17 := Fr.app N16 Nq17
    refine Goes.thru (T' := T17.setTop (mkF m 88 #[.val (.int p0), .val (.int (3 : Int32)), .val (.ref w_Status_STOPPED), .val (.ref w_Exit_STOPPED), .val (.int (3 : Int32)), .val (.ref w_Exit_STOPPED)] [(.int (3 : Int32))])) st17 ?_
    refine Goes.to (T' := T17.setTop (mkF m 90 #[.val (.int p0), .val (.int (3 : Int32)), .val (.ref w_Status_STOPPED), .val (.ref w_Exit_STOPPED), .val (.int (3 : Int32)), .val (.ref w_Exit_STOPPED)] [(.int (3 : Int32)), (.int (3 : Int32))])) (fun t k => XS.iload X17.here hx rfl (hb hby at_88) rfl k) ?_
    refine Goes.to (T' := T17.setTop (mkF m 93 #[.val (.int p0), .val (.int (3 : Int32)), .val (.ref w_Status_STOPPED), .val (.ref w_Exit_STOPPED), .val (.int (3 : Int32)), .val (.ref w_Exit_STOPPED)] [])) (fun t k => XS.icmpNo X17.here hx rfl (hb hby at_90) rfl (teq (by decide)).2 k) ?_
    refine Goes.to (T' := T17.setTop (mkF m 94 #[.val (.int p0), .val (.int (3 : Int32)), .val (.ref w_Status_STOPPED), .val (.ref w_Exit_STOPPED), .val (.int (3 : Int32)), .val (.ref w_Exit_STOPPED)] [(.int (1 : Int32))])) (fun t k => XS.iconst X17.here hx rfl (hb hby at_93) k) ?_
    refine Goes.to (T' := T17.setTop (mkF m 98 #[.val (.int p0), .val (.int (3 : Int32)), .val (.ref w_Status_STOPPED), .val (.ref w_Exit_STOPPED), .val (.int (3 : Int32)), .val (.ref w_Exit_STOPPED)] [(.int (1 : Int32))])) (fun t k => XS.goto X17.here hx rfl (pc0 := 94) (pc' := 98) rfl (hb hby at_94) (by decide) (by decide) k) ?_
    obtain ⟨fs, hrL, hrun, hended, hW, hsame⟩ := X17.leave (v := some (.int (1 : Int32))) (fun h => by rw [Bd.returns] at h; cases h)
    subst hQf
    refine ⟨_, _, retN X17 hx (t := .boolean) Bd.returns (by simp) (hb hby at_98) hrL, hrun, hended, _, _, rfl, ?_, ⟨_, rfl⟩, hW, hsame.mono (by decide) (by decide)⟩
    show (fun (v : Option Value) (h : Heap) (L : List Loc) => v = some (.int 1) ∧ Fr n0 L) (some (.int (1 : Int32))) T17.heap _
    rw [e17]
    exact ⟨rfl, N17⟩
set_option maxRecDepth 65536 in
set_option maxHeartbeats 40000000 in
theorem comes_1 {Post : Tables → Env → Array Value → State → Outcome → State → Prop} (hpost : ∀ tb e args s v u, (limb_1_1.after args s (.returned v) u = true ∧ limb_1_2.after args s (.returned v) u = true ∧ True) → FrameEnd s (.returned v) u (Jvm.fieldLocs frame_1_writes args s ++ Jvm.arrayLocs frame_1_arrays args s ++ Jvm.staticLocs frame_1_statics s) 0 0 → Post tb e args s (.returned v) u) :
    ArmFor flags0 classFile x code maxLocals ret World_1 tables_1 room_1 Calls_1 rest_1 Pre_1 Post := by
  intro l hfl _ _ p e ha hc hk s m args below hf hA hF happ hP
  obtain ⟨hcalls, hrest, hpre⟩ := hP
  obtain ⟨-, -, -, hnamed, -, -, -, hat⟩ := (Spec.applies_iff hf).mp happ
  obtain ⟨hg, hn⟩ := and_e (Cond.before_iff.mp (show (Jvm.Cond.and given_1 narrow_1).before args s = true from hpre))
  obtain ⟨gc, gr0⟩ := and_e hg
  obtain ⟨w0, rfl⟩ : ∃ w0 : Value, args = #[w0] := by
    have hs : args.size = 1 := by simpa [Cond.value, given_1] using gc
    obtain ⟨L⟩ := args
    match L, hs with
    | [w0], _ => exact ⟨w0, rfl⟩
  have hw := fun d (hd : d ∈ tables_1) => atoms_spec (ws := Jvm.Cond.code x code maxLocals ret :: tables_1) hat d (List.mem_cons_of_mem _ hd)
  have hfit : Fit s := fun {y c} hc i hi => by
    obtain ⟨ha, rfl⟩ := Array.getElem?_eq_some_iff.mp hc
    have q := List.all_eq_true.mp ((Array.all_eq_true_iff_forall_mem.mp hF) _ (Array.getElem_mem ha)) i (List.mem_range.mpr hi)
    simpa [Array.getElem?_eq_getElem hi] using q
  obtain ⟨i0, ei0⟩ := is_v gr0
  obtain rfl : w0 = (.int i0) := Option.some.inj ei0
  obtain ⟨nl1, nr1⟩ := and_e hn
  obtain ⟨nl2, nr2⟩ := and_e nr1
  obtain ⟨nl3, nr3⟩ := and_e nr2
  obtain ⟨nl4, nr4⟩ := and_e nr3
  obtain ⟨nl5, nr5⟩ := and_e nr4
  obtain ⟨nl6, nr6⟩ := and_e nr5
  obtain ⟨nl7, nr7⟩ := and_e nr6
  obtain ⟨nl8, nr8⟩ := and_e nr7
  obtain ⟨nl9, nr9⟩ := and_e nr8
  obtain ⟨nl10, nr10⟩ := and_e nr9
  obtain ⟨nl11, nr11⟩ := and_e nr10
  obtain ⟨nl12, nr12⟩ := and_e nr11
  obtain ⟨nl13, nr13⟩ := and_e nr12
  obtain ⟨w_Status_DONE, ev_w_Status_DONE⟩ := exa_v nl1
  have S_w_Status_DONE : Sta s s.heap "com/example/nightcrawler/nightcrawler/engine/Status" "DONE" "Lcom/example/nightcrawler/nightcrawler/engine/Status;" (.ref w_Status_DONE) := Sta.start ev_w_Status_DONE (Or.inr ⟨(hw _ (List.mem_of_getElem? (i := 1) rfl)), (hw _ (List.mem_of_getElem? (i := 2) rfl))⟩)
  have E_w_Status_DONE : Exa s s.heap w_Status_DONE "com/example/nightcrawler/nightcrawler/engine/Status" := Exa.start ev_w_Status_DONE nl1
  obtain ⟨w_Exit_COMPLETED, ev_w_Exit_COMPLETED⟩ := exa_v nl2
  have S_w_Exit_COMPLETED : Sta s s.heap "com/example/nightcrawler/nightcrawler/Exit" "COMPLETED" "Lcom/example/nightcrawler/nightcrawler/Exit;" (.ref w_Exit_COMPLETED) := Sta.start ev_w_Exit_COMPLETED (Or.inr ⟨(hw _ (List.mem_of_getElem? (i := 4) rfl)), (hw _ (List.mem_of_getElem? (i := 5) rfl))⟩)
  have E_w_Exit_COMPLETED : Exa s s.heap w_Exit_COMPLETED "com/example/nightcrawler/nightcrawler/Exit" := Exa.start ev_w_Exit_COMPLETED nl2
  obtain ⟨w_Status_FAILED, ev_w_Status_FAILED⟩ := exa_v nl3
  have S_w_Status_FAILED : Sta s s.heap "com/example/nightcrawler/nightcrawler/engine/Status" "FAILED" "Lcom/example/nightcrawler/nightcrawler/engine/Status;" (.ref w_Status_FAILED) := Sta.start ev_w_Status_FAILED (Or.inr ⟨(hw _ (List.mem_of_getElem? (i := 1) rfl)), (hw _ (List.mem_of_getElem? (i := 11) rfl))⟩)
  have E_w_Status_FAILED : Exa s s.heap w_Status_FAILED "com/example/nightcrawler/nightcrawler/engine/Status" := Exa.start ev_w_Status_FAILED nl3
  obtain ⟨w_Status_STOPPED, ev_w_Status_STOPPED⟩ := exa_v nl6
  have S_w_Status_STOPPED : Sta s s.heap "com/example/nightcrawler/nightcrawler/engine/Status" "STOPPED" "Lcom/example/nightcrawler/nightcrawler/engine/Status;" (.ref w_Status_STOPPED) := Sta.start ev_w_Status_STOPPED (Or.inr ⟨(hw _ (List.mem_of_getElem? (i := 1) rfl)), (hw _ (List.mem_of_getElem? (i := 13) rfl))⟩)
  have E_w_Status_STOPPED : Exa s s.heap w_Status_STOPPED "com/example/nightcrawler/nightcrawler/engine/Status" := Exa.start ev_w_Status_STOPPED nl6
  obtain ⟨w_Exit_STOPPED, ev_w_Exit_STOPPED⟩ := exa_v nl9
  have S_w_Exit_STOPPED : Sta s s.heap "com/example/nightcrawler/nightcrawler/Exit" "STOPPED" "Lcom/example/nightcrawler/nightcrawler/Exit;" (.ref w_Exit_STOPPED) := Sta.start ev_w_Exit_STOPPED (Or.inr ⟨(hw _ (List.mem_of_getElem? (i := 4) rfl)), (hw _ (List.mem_of_getElem? (i := 23) rfl))⟩)
  have E_w_Exit_STOPPED : Exa s s.heap w_Exit_STOPPED "com/example/nightcrawler/nightcrawler/Exit" := Exa.start ev_w_Exit_STOPPED nl9
  obtain ⟨w_Exit_RULE_FAILED, ev_w_Exit_RULE_FAILED⟩ := exa_v nl11
  have S_w_Exit_RULE_FAILED : Sta s s.heap "com/example/nightcrawler/nightcrawler/Exit" "RULE_FAILED" "Lcom/example/nightcrawler/nightcrawler/Exit;" (.ref w_Exit_RULE_FAILED) := Sta.start ev_w_Exit_RULE_FAILED (Or.inr ⟨(hw _ (List.mem_of_getElem? (i := 4) rfl)), (hw _ (List.mem_of_getElem? (i := 27) rfl))⟩)
  have E_w_Exit_RULE_FAILED : Exa s s.heap w_Exit_RULE_FAILED "com/example/nightcrawler/nightcrawler/Exit" := Exa.start ev_w_Exit_RULE_FAILED nl11
  obtain ⟨w_Status_DISABLED, ev_w_Status_DISABLED⟩ := exa_v nl13
  have S_w_Status_DISABLED : Sta s s.heap "com/example/nightcrawler/nightcrawler/engine/Status" "DISABLED" "Lcom/example/nightcrawler/nightcrawler/engine/Status;" (.ref w_Status_DISABLED) := Sta.start ev_w_Status_DISABLED (Or.inr ⟨(hw _ (List.mem_of_getElem? (i := 1) rfl)), (hw _ (List.mem_of_getElem? (i := 30) rfl))⟩)
  have E_w_Status_DISABLED : Exa s s.heap w_Status_DISABLED "com/example/nightcrawler/nightcrawler/engine/Status" := Exa.start ev_w_Status_DISABLED nl13
  have F_ordinal_w_Status_DONE : Fld s s.heap w_Status_DONE "java/lang/Enum" "ordinal" "I" (.int (0 : Int32)) := own_fldI ev_w_Status_DONE nl4
  have F_ordinal_w_Status_FAILED : Fld s s.heap w_Status_FAILED "java/lang/Enum" "ordinal" "I" (.int (2 : Int32)) := own_fldI ev_w_Status_FAILED nl5
  have F_ordinal_w_Status_STOPPED : Fld s s.heap w_Status_STOPPED "java/lang/Enum" "ordinal" "I" (.int (3 : Int32)) := own_fldI ev_w_Status_STOPPED nl7
  have F_status_w_Exit_COMPLETED : Fld s s.heap w_Exit_COMPLETED "com/example/nightcrawler/nightcrawler/Exit" "status" "I" (.int (0 : Int32)) := own_fldI ev_w_Exit_COMPLETED nl8
  have F_status_w_Exit_STOPPED : Fld s s.heap w_Exit_STOPPED "com/example/nightcrawler/nightcrawler/Exit" "status" "I" (.int (3 : Int32)) := own_fldI ev_w_Exit_STOPPED nl10
  have F_status_w_Exit_RULE_FAILED : Fld s s.heap w_Exit_RULE_FAILED "com/example/nightcrawler/nightcrawler/Exit" "status" "I" (.int (1 : Int32)) := own_fldI ev_w_Exit_RULE_FAILED nl12
  have F_ordinal_w_Status_DISABLED : Fld s s.heap w_Status_DISABLED "java/lang/Enum" "ordinal" "I" (.int (1 : Int32)) := own_fldI ev_w_Status_DISABLED nr13
  obtain ⟨n, o, h1, h2, h3, _, L, rfl, ⟨rfl, N⟩, hq⟩ := rm0 l s _ hw tables_1 i0 w_Status_DONE w_Exit_COMPLETED w_Status_FAILED w_Status_STOPPED w_Exit_STOPPED w_Exit_RULE_FAILED w_Status_DISABLED s.heap s.heap.size (Old.start s) ⟨S_w_Status_DONE, E_w_Status_DONE, S_w_Exit_COMPLETED, E_w_Exit_COMPLETED, S_w_Status_FAILED, E_w_Status_FAILED, S_w_Status_STOPPED, E_w_Status_STOPPED, S_w_Exit_STOPPED, E_w_Exit_STOPPED, S_w_Exit_RULE_FAILED, E_w_Exit_RULE_FAILED, S_w_Status_DISABLED, E_w_Status_DISABLED, F_ordinal_w_Status_DONE, F_ordinal_w_Status_FAILED, F_ordinal_w_Status_STOPPED, F_status_w_Exit_COMPLETED, F_status_w_Exit_STOPPED, F_status_w_Exit_RULE_FAILED, F_ordinal_w_Status_DISABLED⟩ p e ha hc hk s m _ below hf ((Spec.applies_iff_loose hf).mp happ).1 ⟨rfl, State.Warmed39.refl s, rfl⟩ trivial
  refine ⟨n, _, h1, h2, h3, hpost _ _ _ _ _ _ ⟨Cond.after_iff.mpr rfl, Cond.after_iff.mpr (eq_i res_at (Term.int_eval (1)) rfl), trivial⟩ ⟨hq.1, hq.2.1, (hq.2.2.sift fun y hy => Or.inr (N y hy)).mono (by decide) (by decide)⟩⟩
theorem main_1_1 : Claimed_1_1 := comes_1 fun _ _ _ _ _ _ h hF => ⟨h.1, hF⟩
theorem main_1_2 : Claimed_1_2 := comes_1 fun _ _ _ _ _ _ h hF => ⟨h.2.1, hF⟩
end Jvm.Pilot.@@N@@
namespace Jvm.Pilot.@@N@@
open Jvm Jvm.ClassFile Sem Op Lib Jvm.Free Jvm.Stand Jvm.Pilot.@@N@@.Jvm.D
/-! MADE BY PROGRAM (witnessworld.py) out of the Statement's table words and the real class files: 13 classes; the members and pool entries that the words name. The judged class is class 1, her method 1. -/
namespace start1
open Jvm.ClassFile
def u (s : String) : CpInfo := .utf8 (stringToUtf16 s)
/-- a pool by its gaps: so many unusable entries, then the entry; so many at the end -/
def gap : Nat → List CpInfo → List CpInfo
  | 0, r => r
  | n + 1, r => .unusable :: gap n r
def poolList (es : List (Nat × CpInfo)) (last : Nat) : List CpInfo := es.foldr (fun e r => gap e.1 (e.2 :: r)) (gap last [])
def pool (es : List (Nat × CpInfo)) (last : Nat) : Array CpInfo := ⟨poolList es last⟩
def fileOf (pool : Array CpInfo) (this : Nat) (attrs : Array Attribute := #[]) (ms : Array MethodInfo := #[]) (fl : Nat := 33) (sup : Nat := 0) (ifs : Array Nat := #[]) (fds : Array FieldInfo := #[]) : ClassFile where
  minorVersion := 0
  majorVersion := 65
  constantPool := pool
  accessFlags := fl
  thisClass := this
  superClass := sup
  interfaces := ifs
  fields := fds
  methods := ms
  attributes := attrs
def plain (name : String) (sup : Option ClassId) : Class where
  name := name
  kind := .ordinary
  loader := none
  accessFlags := 33
  super := sup
  interfaces := #[]
  cf := none
  fields := #[]
  methods := #[]
  instanceTypes := #[]
  staticTypes := #[]
  resolved := #[]
  callSites := []
  init := .initialized
  statics := none
  mirror := none

def pool0 : Array CpInfo := pool [(5, u "<init>"), (0, u "()V"), (1, .class_ 10), (1, u "java/lang/Object")] 113

def k0m0 : Method := { name := "<init>", desc := "()V", sig := { parameters := [], returnType := none }, accessFlags := 1, code := none }
/-- java/lang/Object -/
def k0 : Class := { plain "java/lang/Object" none with
  accessFlags := 33
  interfaces := #[]
  cf := some (fileOf pool0 8 #[] #[{ accessFlags := 1, nameIndex := 5, descriptorIndex := 6, attributes := #[] }] 33 0 #[] #[])
  fields := #[]
  methods := #[k0m0]
  instanceTypes := #[]
  staticTypes := #[]
  resolved := Array.replicate 124 none
  statics := none }

def pool1 : Array CpInfo := pool [(2, .class_ 4), (1, u "java/lang/Object"), (0, u "<init>"), (0, u "()V"), (0, .fieldref 8 9), (0, .class_ 10), (0, .nameAndType 11 12), (0, u "com/example/nightcrawler/nightcrawler/engine/Status"), (0, u "DONE"), (0, u "Lcom/example/nightcrawler/nightcrawler/engine/Status;"), (0, .fieldref 14 15), (0, .class_ 16), (0, .nameAndType 17 18), (0, u "com/example/nightcrawler/nightcrawler/Exit"), (0, u "COMPLETED"), (0, u "Lcom/example/nightcrawler/nightcrawler/Exit;"), (0, .fieldref 8 20), (0, .nameAndType 21 12), (0, u "DISABLED"), (0, .fieldref 8 23), (0, .nameAndType 24 12), (0, u "FAILED"), (0, .fieldref 14 26), (0, .nameAndType 27 18), (0, u "RULE_FAILED"), (0, .fieldref 8 29), (0, .nameAndType 30 12), (0, u "STOPPED"), (0, .fieldref 14 32), (0, .nameAndType 30 18), (0, .methodref 14 34), (0, .nameAndType 35 36), (0, u "of"), (0, u "(Lcom/example/nightcrawler/nightcrawler/engine/Status;)Lcom/example/nightcrawler/nightcrawler/Exit;"), (0, .methodref 14 38), (0, .nameAndType 39 40), (0, u "status"), (0, u "()I"), (0, .class_ 42), (0, u "com/example/nightcrawler/nightcrawler/ExitOfPinLaw"), (2, u "law"), (0, u "(I)Z")] 3

def k1m0 : Method := { name := "<init>", desc := "()V", sig := { parameters := [], returnType := none }, accessFlags := 1, code := none }
def k1c1 : Code := { maxStack := 2, maxLocals := 6, code := code, exceptionTable := #[], attributes := #[] }
def k1m1 : Method := { name := "law", desc := "(I)Z", sig := { parameters := [.int], returnType := some .boolean }, accessFlags := 9, code := some k1c1 }
/-- com/example/nightcrawler/nightcrawler/ExitOfPinLaw -/
def k1 : Class := { plain "com/example/nightcrawler/nightcrawler/ExitOfPinLaw" (some 0) with
  accessFlags := 49
  interfaces := #[]
  cf := some (fileOf pool1 41 #[] #[{ accessFlags := 1, nameIndex := 5, descriptorIndex := 6, attributes := #[] }, { accessFlags := 9, nameIndex := 45, descriptorIndex := 46, attributes := #[] }] 49 2 #[] #[])
  fields := #[]
  methods := #[k1m0, k1m1]
  instanceTypes := #[]
  staticTypes := #[]
  resolved := Array.replicate 50 none
  statics := none }

def pool2 : Array CpInfo := pool [(1, .class_ 2), (0, u "java/lang/constant/Constable"), (0, .class_ 4), (0, u "java/lang/Object")] 6

/-- java/lang/constant/Constable -/
def k2 : Class := { plain "java/lang/constant/Constable" (some 0) with
  accessFlags := 1537
  interfaces := #[]
  cf := some (fileOf pool2 1 #[] #[] 1537 3 #[] #[])
  fields := #[]
  methods := #[]
  instanceTypes := #[]
  staticTypes := #[]
  resolved := Array.replicate 11 none
  statics := none }

def pool3 : Array CpInfo := pool [(1, .class_ 2), (0, u "java/lang/Comparable"), (0, .class_ 4), (0, u "java/lang/Object")] 7

/-- java/lang/Comparable -/
def k3 : Class := { plain "java/lang/Comparable" (some 0) with
  accessFlags := 1537
  interfaces := #[]
  cf := some (fileOf pool3 1 #[] #[] 1537 3 #[] #[])
  fields := #[]
  methods := #[]
  instanceTypes := #[]
  staticTypes := #[]
  resolved := Array.replicate 12 none
  statics := none }

def pool4 : Array CpInfo := pool [(1, .class_ 2), (0, u "java/io/Serializable"), (0, .class_ 4), (0, u "java/lang/Object")] 2

/-- java/io/Serializable -/
def k4 : Class := { plain "java/io/Serializable" (some 0) with
  accessFlags := 1537
  interfaces := #[]
  cf := some (fileOf pool4 1 #[] #[] 1537 3 #[] #[])
  fields := #[]
  methods := #[]
  instanceTypes := #[]
  staticTypes := #[]
  resolved := Array.replicate 7 none
  statics := none }

def pool5 : Array CpInfo := pool [(2, .class_ 4), (1, u "java/lang/Enum"), (0, u "name"), (0, u "Ljava/lang/String;"), (2, u "ordinal"), (0, u "I"), (1, .class_ 14), (1, u "java/lang/Object"), (4, u "hash"), (86, .class_ 108), (1, u "java/lang/Enum$EnumDesc"), (2, .class_ 112), (0, u "java/lang/constant/Constable"), (0, .class_ 114), (0, u "java/lang/Comparable"), (0, .class_ 116), (0, u "java/io/Serializable")] 87

/-- java/lang/Enum -/
def k5 : Class := { plain "java/lang/Enum" (some 0) with
  accessFlags := 1057
  interfaces := #[2, 3, 4]
  cf := some (fileOf pool5 2 #[.nestMembers #[106]] #[] 1057 12 #[111, 113, 115] #[{ accessFlags := 18, nameIndex := 5, descriptorIndex := 6, attributes := #[] }, { accessFlags := 18, nameIndex := 9, descriptorIndex := 10, attributes := #[] }, { accessFlags := 2, nameIndex := 19, descriptorIndex := 10, attributes := #[] }])
  fields := #[{ name := "name", type := (.object "java/lang/String"), accessFlags := 18, slot := 0, constantValue := 0 }, { name := "ordinal", type := .int, accessFlags := 18, slot := 1, constantValue := 0 }, { name := "hash", type := .int, accessFlags := 2, slot := 2, constantValue := 0 }]
  methods := #[]
  instanceTypes := #[(.object "java/lang/String"), .int, .int]
  staticTypes := #[]
  resolved := Array.replicate 204 none
  statics := none }

def pool6 : Array CpInfo := pool [(1, .class_ 2), (0, u "com/example/nightcrawler/nightcrawler/engine/Status"), (2, u "DONE"), (0, u "Lcom/example/nightcrawler/nightcrawler/engine/Status;"), (2, u "DISABLED"), (2, u "FAILED"), (2, u "STOPPED"), (2, u "$VALUES"), (0, u "[Lcom/example/nightcrawler/nightcrawler/engine/Status;"), (6, .class_ 28), (1, u "java/lang/Enum")] 43

/-- com/example/nightcrawler/nightcrawler/engine/Status -/
def k6 : Class := { plain "com/example/nightcrawler/nightcrawler/engine/Status" (some 5) with
  accessFlags := 16433
  interfaces := #[]
  cf := some (fileOf pool6 1 #[] #[] 16433 26 #[] #[{ accessFlags := 16409, nameIndex := 5, descriptorIndex := 6, attributes := #[] }, { accessFlags := 16409, nameIndex := 9, descriptorIndex := 6, attributes := #[] }, { accessFlags := 16409, nameIndex := 12, descriptorIndex := 6, attributes := #[] }, { accessFlags := 16409, nameIndex := 15, descriptorIndex := 6, attributes := #[] }, { accessFlags := 4122, nameIndex := 18, descriptorIndex := 19, attributes := #[] }])
  fields := #[{ name := "DONE", type := (.object "com/example/nightcrawler/nightcrawler/engine/Status"), accessFlags := 16409, slot := 0, constantValue := 0 }, { name := "DISABLED", type := (.object "com/example/nightcrawler/nightcrawler/engine/Status"), accessFlags := 16409, slot := 1, constantValue := 0 }, { name := "FAILED", type := (.object "com/example/nightcrawler/nightcrawler/engine/Status"), accessFlags := 16409, slot := 2, constantValue := 0 }, { name := "STOPPED", type := (.object "com/example/nightcrawler/nightcrawler/engine/Status"), accessFlags := 16409, slot := 3, constantValue := 0 }, { name := "$VALUES", type := (.array (.object "com/example/nightcrawler/nightcrawler/engine/Status")), accessFlags := 4122, slot := 4, constantValue := 0 }]
  methods := #[]
  instanceTypes := #[(.object "java/lang/String"), .int, .int]
  staticTypes := #[(.object "com/example/nightcrawler/nightcrawler/engine/Status"), (.object "com/example/nightcrawler/nightcrawler/engine/Status"), (.object "com/example/nightcrawler/nightcrawler/engine/Status"), (.object "com/example/nightcrawler/nightcrawler/engine/Status"), (.array (.object "com/example/nightcrawler/nightcrawler/engine/Status"))]
  resolved := Array.replicate 72 none
  statics := some 0 }

def pool7 : Array CpInfo := pool [(1, .class_ 2), (0, u "com/example/nightcrawler/nightcrawler/Exit"), (0, .fieldref 1 4), (0, .nameAndType 5 6), (0, u "COMPLETED"), (0, u "Lcom/example/nightcrawler/nightcrawler/Exit;"), (0, .fieldref 1 8), (0, .nameAndType 9 6), (0, u "RULE_FAILED"), (2, u "REFUSED"), (0, .fieldref 1 14), (0, .nameAndType 15 6), (0, u "STOPPED"), (2, u "$VALUES"), (0, u "[Lcom/example/nightcrawler/nightcrawler/Exit;"), (6, .class_ 28), (1, u "java/lang/Enum"), (6, .fieldref 1 36), (0, .nameAndType 37 38), (0, u "status"), (0, u "I"), (0, .fieldref 40 41), (0, .class_ 42), (0, .nameAndType 43 44), (0, u "com/example/nightcrawler/nightcrawler/engine/Status"), (0, u "FAILED"), (0, u "Lcom/example/nightcrawler/nightcrawler/engine/Status;"), (0, .fieldref 40 46), (0, .nameAndType 15 44), (18, u "()I"), (0, u "of"), (0, u "(Lcom/example/nightcrawler/nightcrawler/engine/Status;)Lcom/example/nightcrawler/nightcrawler/Exit;")] 6

def k7c0 : Code := { maxStack := 1, maxLocals := 1, code := prog_1_method_4_code, exceptionTable := #[], attributes := #[] }
def k7m0 : Method := { name := "status", desc := "()I", sig := { parameters := [], returnType := some .int }, accessFlags := 0, code := some k7c0 }
def k7c1 : Code := { maxStack := 2, maxLocals := 2, code := prog_1_method_5_code, exceptionTable := #[], attributes := #[] }
def k7m1 : Method := { name := "of", desc := "(Lcom/example/nightcrawler/nightcrawler/engine/Status;)Lcom/example/nightcrawler/nightcrawler/Exit;", sig := { parameters := [(.object "com/example/nightcrawler/nightcrawler/engine/Status")], returnType := some (.object "com/example/nightcrawler/nightcrawler/Exit") }, accessFlags := 8, code := some k7c1 }
/-- com/example/nightcrawler/nightcrawler/Exit -/
def k7 : Class := { plain "com/example/nightcrawler/nightcrawler/Exit" (some 5) with
  accessFlags := 16432
  interfaces := #[]
  cf := some (fileOf pool7 1 #[] #[{ accessFlags := 0, nameIndex := 37, descriptorIndex := 65, attributes := #[] }, { accessFlags := 8, nameIndex := 66, descriptorIndex := 67, attributes := #[] }] 16432 26 #[] #[{ accessFlags := 16409, nameIndex := 5, descriptorIndex := 6, attributes := #[] }, { accessFlags := 16409, nameIndex := 9, descriptorIndex := 6, attributes := #[] }, { accessFlags := 16409, nameIndex := 12, descriptorIndex := 6, attributes := #[] }, { accessFlags := 16409, nameIndex := 15, descriptorIndex := 6, attributes := #[] }, { accessFlags := 18, nameIndex := 37, descriptorIndex := 38, attributes := #[] }, { accessFlags := 4122, nameIndex := 18, descriptorIndex := 19, attributes := #[] }])
  fields := #[{ name := "COMPLETED", type := (.object "com/example/nightcrawler/nightcrawler/Exit"), accessFlags := 16409, slot := 0, constantValue := 0 }, { name := "RULE_FAILED", type := (.object "com/example/nightcrawler/nightcrawler/Exit"), accessFlags := 16409, slot := 1, constantValue := 0 }, { name := "REFUSED", type := (.object "com/example/nightcrawler/nightcrawler/Exit"), accessFlags := 16409, slot := 2, constantValue := 0 }, { name := "STOPPED", type := (.object "com/example/nightcrawler/nightcrawler/Exit"), accessFlags := 16409, slot := 3, constantValue := 0 }, { name := "status", type := .int, accessFlags := 18, slot := 3, constantValue := 0 }, { name := "$VALUES", type := (.array (.object "com/example/nightcrawler/nightcrawler/Exit")), accessFlags := 4122, slot := 4, constantValue := 0 }]
  methods := #[k7m0, k7m1]
  instanceTypes := #[(.object "java/lang/String"), .int, .int, .int]
  staticTypes := #[(.object "com/example/nightcrawler/nightcrawler/Exit"), (.object "com/example/nightcrawler/nightcrawler/Exit"), (.object "com/example/nightcrawler/nightcrawler/Exit"), (.object "com/example/nightcrawler/nightcrawler/Exit"), (.array (.object "com/example/nightcrawler/nightcrawler/Exit"))]
  resolved := Array.replicate 74 none
  statics := some 1 }

def pool8 : Array CpInfo := pool [(1, u "java/lang/Cloneable"), (0, .class_ 1), (0, u "java/lang/Object"), (0, .class_ 3)] 3

/-- java/lang/Cloneable -/
def k8 : Class := { plain "java/lang/Cloneable" (some 0) with
  accessFlags := 1537
  interfaces := #[]
  cf := some (fileOf pool8 2 #[] #[] 1537 4 #[] #[])
  fields := #[]
  methods := #[]
  instanceTypes := #[]
  staticTypes := #[]
  resolved := Array.replicate 8 none
  statics := none }

/-- the primitive byte -/
def k9 : Class := { plain "byte" none with kind := .primitive 'B', accessFlags := 0x411 }
/-- [B -/
def k10 : Class := { plain "[B" (some 0) with kind := .array 9 .byte, interfaces := #[8, 4], accessFlags := 1041 }

/-- the primitive int -/
def k11 : Class := { plain "int" none with kind := .primitive 'I', accessFlags := 0x411 }
/-- [I -/
def k12 : Class := { plain "[I" (some 0) with kind := .array 11 .int, interfaces := #[8, 4], accessFlags := 1041 }

def heap : Heap := #[{ cls := 6, slots := #[.ref 2, .ref 8, .ref 4, .ref 5, .null], vm := .statics 6 },
  { cls := 7, slots := #[.ref 3, .ref 7, .null, .ref 6, .null], vm := .statics 7 },
  { cls := 6, slots := #[.null, .int 0, .int 0], vm := .none },
  { cls := 7, slots := #[.null, .int 0, .int 0, .int 0], vm := .none },
  { cls := 6, slots := #[.null, .int 2, .int 0], vm := .none },
  { cls := 6, slots := #[.null, .int 3, .int 0], vm := .none },
  { cls := 7, slots := #[.null, .int 0, .int 0, .int 3], vm := .none },
  { cls := 7, slots := #[.null, .int 0, .int 0, .int 1], vm := .none },
  { cls := 6, slots := #[.null, .int 1, .int 0], vm := .none }]
def classes : Array Class := #[k0, k1, k2, k3, k4, k5, k6, k7, k8, k9, k10, k11, k12]
def interned : List (Array UInt16 × Addr) := []
def slotsUsed : Nat := 34
def theMethod : MethodId := ⟨1, 1⟩
def args0 : Array Value := #[.int 5]
def aboutOver (below : List Frame) : State where
  vm := { classes := classes, interned := interned.toArray }
  heap := heap
  slotsUsed := slotsUsed
  threads := #[{ frames := .invoking theMethod args0 :: below }]
def below0 : List Frame := [.native { method := ⟨0, 0⟩, args := #[] }]
def about1 : State := aboutOver below0
def p0 : Program := .bare "" "" ""
def e0 : Env := launch0.env 0 0 0
theorem w_frames : about1.frames = Frame.invoking theMethod args0 :: below0 := rfl
set_option maxRecDepth 65536 in
theorem w_args : argsFit about1.vm theMethod args0 = true := by decide +kernel
set_option maxRecDepth 65536 in
theorem w_heap : heapFits about1 = true := by decide +kernel
set_option maxRecDepth 65536 in
theorem w_runnable : about1.curStatus? = some .runnable := by decide +kernel
set_option maxRecDepth 65536 in
theorem w_alone : about1.alone = true := by decide +kernel
set_option maxRecDepth 65536 in
theorem w_named : about1.methodNamed? x = some theMethod := by decide +kernel
set_option maxRecDepth 65536 in
theorem w_hears : about1.hears theMethod below0 = true := by decide +kernel
set_option maxRecDepth 65536 in
theorem w_ripe : about1.ripe theMethod args0 below0 = true := by decide +kernel
theorem w_running : about1.status = .running := rfl
set_option maxRecDepth 65536 in
theorem w_room : about1.hasRoom e0.platform room_1 = true :=
  launch0.hasRoom_least _ room_1 (by decide +kernel) (by decide +kernel) (by decide +kernel) (by decide +kernel) (by decide +kernel) (by decide +kernel)
theorem allAtoms_all (ts : List Jvm.Cond) (a : Array Jvm.Value) (st : Jvm.State) : (allAtoms ts).before a st = ts.all (fun c => c.before a st) := by
  induction ts with
  | nil => rfl
  | cons c t ih =>
    show (Jvm.Cond.and c (allAtoms t)).before a st = _
    rw [Jvm.Cond.before_and, ih, List.all_cons]
def words1 : List Jvm.Cond := Jvm.Cond.code x code maxLocals ret :: tables_1
/-- a 'code' word, met by the world's own term for the bytes: nothing is compared byte by byte -/
theorem code_word {y : MethodName} {bytes : ByteArray} {mx : Nat} {rt : Option FieldType} {a : Array Value} {s : State} {m : MethodId} {meth : Method} {c : Code} (h1 : s.methodNamed? y = some m) (h2 : s.vm.method? m = some meth) (h3 : meth.code = some c) (h4 : c.code = bytes)
    (h5 : (c.maxLocals == mx && c.exceptionTable.isEmpty && decide (c.maxStack ≤ mostOperands) && decide (meth.sig.returnType = rt) && !meth.locks && decide (parseMethodDescriptor y.desc = some meth.sig)) = true) : (Jvm.Cond.code y bytes mx rt).before a s = true := by
  simp only [Bool.and_eq_true, beq_iff_eq, Bool.not_eq_true', decide_eq_true_eq] at h5
  obtain ⟨⟨⟨⟨⟨g1, g2⟩, g3⟩, g4⟩, g5⟩, g6⟩ := h5
  simp [Cond.before, Cond.holds, Cond.value, h1, h2, h3, h4, g1, g2, g3, g4, g5, g6]
def isCode : Jvm.Cond → Bool
  | .code _ _ _ _ => true
  | _ => false
theorem all_split {L : List Jvm.Cond} {P : Jvm.Cond → Bool} (h1 : L.all (fun c => isCode c || P c) = true) (h2 : ∀ c ∈ L.filter isCode, P c = true) : L.all P = true := by
  refine List.all_eq_true.mpr fun c hc => ?_
  have h := List.all_eq_true.mp h1 c hc
  rcases Bool.eq_false_or_eq_true (isCode c) with hi | hi
  · exact h2 c (List.mem_filter.mpr ⟨hc, hi⟩)
  · simpa [hi] using h
set_option maxRecDepth 65536 in
theorem w_c0 : (Jvm.Cond.code x code maxLocals ret).before args0 about1 = true := code_word (m := ⟨1, 1⟩) (meth := k1m1) (c := k1c1) (by decide +kernel) rfl rfl rfl (by decide +kernel)
set_option maxRecDepth 65536 in
theorem w_c1 : (Jvm.Cond.code ({ cls := "com/example/nightcrawler/nightcrawler/Exit", name := "of", desc := "(Lcom/example/nightcrawler/nightcrawler/engine/Status;)Lcom/example/nightcrawler/nightcrawler/Exit;" } : Jvm.MethodName) prog_1_method_5_code (2 : Nat) (Option.some (Jvm.ClassFile.FieldType.object "com/example/nightcrawler/nightcrawler/Exit"))).before args0 about1 = true := code_word (m := ⟨7, 1⟩) (meth := k7m1) (c := k7c1) (by decide +kernel) rfl rfl rfl (by decide +kernel)
set_option maxRecDepth 65536 in
theorem w_c2 : (Jvm.Cond.code ({ cls := "com/example/nightcrawler/nightcrawler/Exit", name := "status", desc := "()I" } : Jvm.MethodName) prog_1_method_4_code (1 : Nat) (Option.some Jvm.ClassFile.FieldType.int)).before args0 about1 = true := code_word (m := ⟨7, 0⟩) (meth := k7m0) (c := k7c0) (by decide +kernel) rfl rfl rfl (by decide +kernel)
def codes1 : List Jvm.Cond := [Jvm.Cond.code x code maxLocals ret, Jvm.Cond.code ({ cls := "com/example/nightcrawler/nightcrawler/Exit", name := "of", desc := "(Lcom/example/nightcrawler/nightcrawler/engine/Status;)Lcom/example/nightcrawler/nightcrawler/Exit;" } : Jvm.MethodName) prog_1_method_5_code (2 : Nat) (Option.some (Jvm.ClassFile.FieldType.object "com/example/nightcrawler/nightcrawler/Exit")), Jvm.Cond.code ({ cls := "com/example/nightcrawler/nightcrawler/Exit", name := "status", desc := "()I" } : Jvm.MethodName) prog_1_method_4_code (1 : Nat) (Option.some Jvm.ClassFile.FieldType.int)]
set_option maxRecDepth 65536 in
theorem codes_eq : words1.filter isCode = codes1 := rfl
theorem w_codes : ∀ c ∈ words1.filter isCode, c.before args0 about1 = true := by
  rw [codes_eq]
  intro c hc
  simp only [codes1, List.mem_cons, List.not_mem_nil, or_false] at hc
  rcases hc with rfl | rfl | rfl
  · exact w_c0
  · exact w_c1
  · exact w_c2
set_option maxRecDepth 65536 in
theorem w_t1 : (words1.take 24).all (fun c => isCode c || c.before args0 about1) = true := by decide +kernel
set_option maxRecDepth 65536 in
theorem w_t2 : (words1.drop 24).all (fun c => isCode c || c.before args0 about1) = true := by decide +kernel
theorem w_tables : (allAtoms (Jvm.Cond.code x code maxLocals ret :: tables_1)).before args0 about1 = true := by
  rw [allAtoms_all]
  show words1.all (fun c => c.before args0 about1) = true
  refine all_split ?_ w_codes
  rw [← List.take_append_drop 24 words1, List.all_append, w_t1, w_t2]
  rfl
set_option maxRecDepth 65536 in
theorem w_case : (Jvm.Cond.and given_1 narrow_1).before args0 about1 = true := by decide +kernel
theorem w_applies : (headSpec (Jvm.Cond.code x code maxLocals ret :: tables_1) room_1).applies x e0.platform about1 = true :=
  (Spec.applies_iff w_frames).mpr ⟨w_running, w_runnable, w_alone, w_named, w_hears, w_ripe, w_room, w_tables⟩
theorem atStart : AtStart classFile x code maxLocals ret World_1 tables_1 room_1 Calls_1 rest_1 Pre_1 launch0 p0 e0 about1 theMethod args0 below0 :=
  ⟨lists_1, trivial, launch0.admits_env _ _ _, launch0.least_env, fairChoices_fair.cas, fairChoices_fair.clock, w_frames, w_args, w_heap, w_applies, trivial, trivial, w_case⟩
end start1
theorem witness_1 : WitnessClaimed_1 := ⟨start1.p0, start1.e0, start1.about1, start1.theMethod, start1.args0, start1.below0, start1.atStart⟩
end Jvm.Pilot.@@N@@
