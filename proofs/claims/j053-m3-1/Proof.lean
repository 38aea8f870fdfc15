import JvmDerived
import JvmDerived.Pilot.@@N@@Statement
import JvmDerived.Pilot.@@N@@Code
set_option linter.unusedVariables false
set_option linter.unusedSimpArgs false
namespace Jvm.Pilot.@@N@@
open Jvm Jvm.ClassFile Sem Op Lib Jvm.Free Jvm.Stand Jvm.LawKit Jvm.RoadKit Bundle Jvm.Pilot.@@N@@.Jvm.D
/-- from T the run goes on to an end of which Qf says what it is -/
def Goes (tb : Tables) (e : Env) (below : List Frame) (Qf : Outcome → State → Prop) (T : State) : Prop := ∃ s₂ o, Steps tb e below T s₂ ∧ s₂.status = .running ∧ Ended s₂ below o ∧ Qf o s₂
theorem Goes.to {tb : Tables} {e : Env} {below : List Frame} {Qf : Outcome → State → Prop} {T T' : State} (k : ∀ t, Steps tb e below T' t → Steps tb e below T t) (h : Goes tb e below Qf T') : Goes tb e below Qf T := by
  obtain ⟨s, o, h1, h2⟩ := h; exact ⟨s, o, k s h1, h2⟩
theorem Goes.thru {tb : Tables} {e : Env} {below : List Frame} {Qf : Outcome → State → Prop} {T T' : State} (k : Steps tb e below T T') (h : Goes tb e below Qf T') : Goes tb e below Qf T := by
  obtain ⟨s, o, h1, h2⟩ := h; exact ⟨s, o, k.trans h1, h2⟩
theorem own_old {Z : State} {n0 : Nat} {h : Heap} (O : Old Z n0 h) : n0 ≤ h.size := O.1 ▸ O.2.1
theorem own_ext_keep {h h' : Heap} (K : Keep h h' []) : Ext h h' := ⟨K.1, fun a c q => K.2.1 a c q nin0⟩
theorem own_nsroot {Z : State} {a0 : Array Value} {O K : String} {n : Nat} (w : (Jvm.Cond.noSuperclass O).before a0 Z = true) (wk : (Jvm.Cond.instantiable K n).before a0 Z = true) (hn : O ≠ K) : NS Z O K := by
  obtain ⟨c, k, h1, h2, h3, -, -⟩ := Cond.noSuperclass_spec w
  obtain ⟨t, k2, g1, -⟩ := Cond.instantiable_spec wk
  have ne := ids_ne h1 g1 hn
  refine ⟨c, t, h1, g1, fun fuel => ?_⟩
  cases fuel with
  | zero => rfl
  | succ f => simp [Vm.isSubclassAux, ne, h2, h3]
theorem own_nsno {Z : State} {a0 : Array Value} {C S K : String} {n : Nat} (w : (Jvm.Cond.superclass C S).before a0 Z = true) (wk : (Jvm.Cond.instantiable K n).before a0 Z = true) (ns : NS Z C K) (hn : C ≠ K) : ∃ c t, Z.vm.findClass C = some c ∧ Z.vm.findClass K = some t ∧ Z.vm.assignable c t = false := by
  obtain ⟨c, t, h0, g0, n3⟩ := ns
  obtain ⟨p, k, kp, h1, h2, h3, h4, h5, -, h7⟩ := Cond.superclass_spec h0 w
  obtain ⟨t', k', g1, g2, g5, g7, -⟩ := Cond.instantiable_spec wk
  cases g0.symm.trans g1
  have ne := ids_ne h0 g0 hn
  refine ⟨c, t, h0, g0, ?_⟩
  show Z.vm.assignableAux (255 + 1) c t = false
  simp [Vm.assignableAux, ne, h2, g2, h5, g5, (Bool.or_eq_false_iff.mp g7).1, Vm.isSubclass, n3]
theorem own_selp {s : State} {args : Array Value} {y : MethodName} {n : Nat} (wi : (Jvm.Cond.instantiable y.cls n).before args s = true) (hp : (Jvm.Cond.privateMethod y).before args s = true) (hinst : (Jvm.Cond.instanceMethod y).before args s = true) (hy : y.cls ≠ "java/lang/invoke/MethodHandle" ∧ y.cls ≠ "java/lang/invoke/VarHandle") : (Jvm.Cond.selects y.cls y y).before args s = true := by
  obtain ⟨c, k, h1, h2, -, h4, -⟩ := Cond.instantiable_spec wi
  exact selects_self_of_private h1 h2 (Bool.or_eq_false_iff.mp h4).1 (Cond.privateMethod_at hp) hinst hy
theorem own_keep_ext {h h' : Heap} (E : Ext h h') : Keep h h' [] := (Keep.refl h []).ext E
theorem own_len {s : State} {args : Array Value} {t : Term} {a : Addr} {cl : Cell} {ty : FieldType} {k : Int32} (ht : t.eval args s none [] s = some (.ref a)) (A : Arr s s.heap a cl ty) (h : (Cond.eq (.length t) (.int k)).value args s none s [] = some true) : cl.slots.size < 2 ^ 31 ∧ cl.slots.size.toInt32 = k := by
  obtain ⟨x, y, e1, e2, -, k2⟩ := cmp_v (Or.inl h)
  obtain rfl : Value.int k = y := Option.some.inj e2
  obtain ⟨z, rfl⟩ := k2
  have q : (z = k) := gotT (P := z = k) (by simp [Cond.value, e1, e2]) h
  subst q
  have hA := A.fin (Vm.Alike.refl _)
  by_cases hl : cl.slots.size < 2 ^ 31
  · rw [len_f ht hA hl] at e1
    exact ⟨hl, by simpa using e1⟩
  · simp [Term.eval, ht, hA, hl] at e1
theorem own_stR {s : State} {args : Array Value} {t u : Term} {b : Addr} (h : (Cond.eq t u).value args s none s [] = some true) (hu : u.eval args s none [] s = some (.ref b)) : t.eval args s none [] s = some (.ref b) := by
  obtain ⟨x, y, e1, e2, k1, k2⟩ := cmp_v (Or.inl h)
  obtain rfl : y = Value.ref b := Option.some.inj (e2.symm.trans hu)
  have hx : x.isRef = true := by cases x <;> simp [Kin, Value.isRef] at k1 k2 ⊢
  have q : x = Value.ref b := gotT (eq_R e1 e2 hx rfl) h
  subst q; exact e1
theorem own_fldI {s : State} {args : Array Value} {t : Term} {a : Addr} {C n d : String} {k : Int32} (ht : t.eval args s none [] s = some (.ref a)) (h : (Cond.eq (.field t C n d) (.int k)).value args s none s [] = some true) : Fld s s.heap a C n d (.int k) := by
  obtain ⟨x, y, e1, e2, -, k2⟩ := cmp_v (Or.inl h)
  obtain rfl : Value.int k = y := Option.some.inj e2
  obtain ⟨z, rfl⟩ := k2
  have q : (z = k) := gotT (P := z = k) (by simp [Cond.value, e1, e2]) h
  subst q
  exact Fld.start (by rw [← fld_at ht]; exact e1)
theorem own_fldL {s : State} {args : Array Value} {t : Term} {a : Addr} {C n d : String} {k : Int64} (ht : t.eval args s none [] s = some (.ref a)) (h : (Cond.eq (.field t C n d) (.long k)).value args s none s [] = some true) : Fld s s.heap a C n d (.long k) := by
  obtain ⟨x, y, e1, e2, -, k2⟩ := cmp_v (Or.inl h)
  obtain rfl : Value.long k = y := Option.some.inj e2
  obtain ⟨z, rfl⟩ := k2
  have q : (z = k) := gotT (P := z = k) (by simp [Cond.value, e1, e2]) h
  subst q
  exact Fld.start (by rw [← fld_at ht]; exact e1)
theorem own_fldN {s : State} {args : Array Value} {t : Term} {a : Addr} {C n d : String} (ht : t.eval args s none [] s = some (.ref a)) (h : (Cond.eq (.field t C n d) .null).value args s none s [] = some true) : Fld s s.heap a C n d .null :=
  Fld.start (by rw [← fld_at ht]; exact null_v h)
theorem own_fldR {s : State} {args : Array Value} {t : Term} {a b : Addr} {C n d : String} (ht : t.eval args s none [] s = some (.ref a)) (h : (Term.field t C n d).eval args s none [] s = some (.ref b)) : Fld s s.heap a C n d (.ref b) :=
  Fld.start (by rw [← fld_at ht]; exact h)
theorem own_stI {s : State} {args : Array Value} {t : Term} {k : Int32} (h : (Cond.eq t (.int k)).value args s none s [] = some true) : t.eval args s none [] s = some (.int k) := by
  obtain ⟨x, y, e1, e2, -, k2⟩ := cmp_v (Or.inl h)
  obtain rfl : Value.int k = y := Option.some.inj e2
  obtain ⟨z, rfl⟩ := k2
  have q : (z = k) := gotT (P := z = k) (by simp [Cond.value, e1, e2]) h
  subst q; exact e1
theorem own_mod3 (x : Int32) : ((x &&& (2147483647 : Int32)) % (3 : Int32)) = (0 : Int32) ∨ ((x &&& (2147483647 : Int32)) % (3 : Int32)) = (1 : Int32) ∨ ((x &&& (2147483647 : Int32)) % (3 : Int32)) = (2 : Int32) := by
  have h := c_mask x 2147483647 31 (by decide) (by decide)
  have h2 := (c_irem (x &&& (2147483647 : Int32)) 3 3 rfl).1 (by rw [h]; omega)
  have e0 : (0 : Int32).toInt = 0 := rfl
  have e1 : (1 : Int32).toInt = 1 := rfl
  have e2 : (2 : Int32).toInt = 2 := rfl
  simp only [← Int32.toInt_inj, h2, e0, e1, e2]
  omega
def Nar (Z : State) (w_PartyKind_SMALL_MICRO : Addr) (w_LiabilityWeight_1__SwitchMap_com_example_suretyline_suretyline_PartyKind : Addr) (w_LiabilityWeight_INCLUSIVE_LOAN : Addr) (w_PartyKind_OTHER : Addr) (w_LiabilityWeight_LOAN : Addr) (w_PartyKind_FARMER : Addr) (k_w_LiabilityWeight_1__SwitchMap_com_example_suretyline_suretyline_PartyKind : ClassId) : Prop := (Sta Z Z.heap "com/example/suretyline/suretyline/PartyKind" "SMALL_MICRO" "Lcom/example/suretyline/suretyline/PartyKind;" (.ref w_PartyKind_SMALL_MICRO)) ∧ (Exa Z Z.heap w_PartyKind_SMALL_MICRO "com/example/suretyline/suretyline/PartyKind") ∧ (Sta Z Z.heap "com/example/suretyline/suretyline/LiabilityWeight$1" "$SwitchMap$com$example$suretyline$suretyline$PartyKind" "[I" (.ref w_LiabilityWeight_1__SwitchMap_com_example_suretyline_suretyline_PartyKind)) ∧ (Sta Z Z.heap "com/example/suretyline/suretyline/LiabilityWeight" "INCLUSIVE_LOAN" "Lcom/example/suretyline/suretyline/LiabilityWeight;" (.ref w_LiabilityWeight_INCLUSIVE_LOAN)) ∧ (Exa Z Z.heap w_LiabilityWeight_INCLUSIVE_LOAN "com/example/suretyline/suretyline/LiabilityWeight") ∧ (Sta Z Z.heap "com/example/suretyline/suretyline/PartyKind" "OTHER" "Lcom/example/suretyline/suretyline/PartyKind;" (.ref w_PartyKind_OTHER)) ∧ (Exa Z Z.heap w_PartyKind_OTHER "com/example/suretyline/suretyline/PartyKind") ∧ (Sta Z Z.heap "com/example/suretyline/suretyline/LiabilityWeight" "LOAN" "Lcom/example/suretyline/suretyline/LiabilityWeight;" (.ref w_LiabilityWeight_LOAN)) ∧ (Exa Z Z.heap w_LiabilityWeight_LOAN "com/example/suretyline/suretyline/LiabilityWeight") ∧ (Sta Z Z.heap "com/example/suretyline/suretyline/PartyKind" "FARMER" "Lcom/example/suretyline/suretyline/PartyKind;" (.ref w_PartyKind_FARMER)) ∧ (Exa Z Z.heap w_PartyKind_FARMER "com/example/suretyline/suretyline/PartyKind") ∧ (Fld Z Z.heap w_PartyKind_SMALL_MICRO "java/lang/Enum" "ordinal" "I" (.int (0 : Int32))) ∧ (Fld Z Z.heap w_PartyKind_OTHER "java/lang/Enum" "ordinal" "I" (.int (2 : Int32))) ∧ (Fld Z Z.heap w_PartyKind_FARMER "java/lang/Enum" "ordinal" "I" (.int (1 : Int32))) ∧ (Arv Z Z.heap w_LiabilityWeight_1__SwitchMap_com_example_suretyline_suretyline_PartyKind k_w_LiabilityWeight_1__SwitchMap_com_example_suretyline_suretyline_PartyKind .int (3 : Int32) [(.int (1 : Int32)), (.int (2 : Int32)), (.int (3 : Int32))] (.int (0 : Int32)))
theorem d3_0 : decode jdk_37_method_2_code 0 = .ok (.aload_n 0, 1) := by decide +kernel
theorem d3_1 : decode jdk_37_method_2_code 1 = .ok (.getfield 7, 3) := by decide +kernel
theorem d3_4 : decode jdk_37_method_2_code 4 = .ok (.ireturn, 1) := by decide +kernel
theorem pn_3 : plainName "java/lang/Enum" = true := by first | (simp [plainName, overriddenIn]; done) | decide +kernel
theorem ef_rmO (m : MethodId) (x0 : Addr) : entryFrame m #[(.ref x0)] 1 = mkF m 0 #[.val (.ref x0)] [] := by first | (simp [entryFrame, mkF, argsToLocals, Value.category]; done) | rfl
def Q_rmO (Z : State) (xa : Addr) (w_PartyKind_SMALL_MICRO : Addr) (w_LiabilityWeight_1__SwitchMap_com_example_suretyline_suretyline_PartyKind : Addr) (w_LiabilityWeight_INCLUSIVE_LOAN : Addr) (w_PartyKind_OTHER : Addr) (w_LiabilityWeight_LOAN : Addr) (w_PartyKind_FARMER : Addr) (k_w_LiabilityWeight_1__SwitchMap_com_example_suretyline_suretyline_PartyKind : ClassId) (r : Int32) (h0 : Heap) (n0 : Nat) (v : Option Value) (h : Heap) (L : List Loc) : Prop := v = some (.int r) ∧ Fr n0 L ∧ h = h0
set_option maxRecDepth 65536 in
set_option maxHeartbeats 40000000 in
theorem rmO (l : Launch) (Z : State) (a0 : Array Value) (hw : ∀ d ∈ tables_1, d.before a0 Z = true) (ws : List Jvm.Cond) (xa : Addr) (w_PartyKind_SMALL_MICRO : Addr) (w_LiabilityWeight_1__SwitchMap_com_example_suretyline_suretyline_PartyKind : Addr) (w_LiabilityWeight_INCLUSIVE_LOAN : Addr) (w_PartyKind_OTHER : Addr) (w_LiabilityWeight_LOAN : Addr) (w_PartyKind_FARMER : Addr) (k_w_LiabilityWeight_1__SwitchMap_com_example_suretyline_suretyline_PartyKind : ClassId) (r : Int32) (h0 : Heap) (n0 : Nat) (O0 : Old Z n0 h0) (NF : Nar Z w_PartyKind_SMALL_MICRO w_LiabilityWeight_1__SwitchMap_com_example_suretyline_suretyline_PartyKind w_LiabilityWeight_INCLUSIVE_LOAN w_PartyKind_OTHER w_LiabilityWeight_LOAN w_PartyKind_FARMER k_w_LiabilityWeight_1__SwitchMap_com_example_suretyline_suretyline_PartyKind) (F_ordinal_xa : Fld Z h0 xa "java/lang/Enum" "ordinal" "I" (.int r)) :
    MetFree l (⟨"java/lang/Enum", "ordinal", "()I"⟩ : MethodName) (head1 (Jvm.Cond.code (⟨"java/lang/Enum", "ordinal", "()I"⟩ : MethodName) jdk_37_method_2_code 1 (some .int) :: ws) ({ frames := 0, cells := 0, slots := 0, locals := 0 } : Room)) (fun a U => a = #[(.ref xa)] ∧ Z.Warmed39 U.vm ∧ U.heap = h0) (fun _ _ _ _ _ => True) (fun _ U o U' => ∃ v L, o = .returned v ∧ Q_rmO Z xa w_PartyKind_SMALL_MICRO w_LiabilityWeight_1__SwitchMap_com_example_suretyline_suretyline_PartyKind w_LiabilityWeight_INCLUSIVE_LOAN w_PartyKind_OTHER w_LiabilityWeight_LOAN w_PartyKind_FARMER k_w_LiabilityWeight_1__SwitchMap_com_example_suretyline_suretyline_PartyKind r h0 n0 v U'.heap L ∧ FrameEnd U o U' L ({ frames := 0, cells := 0, slots := 0, locals := 0 } : Room).cells ({ frames := 0, cells := 0, slots := 0, locals := 0 } : Room).slots) := by
  refine MetFree.of_bodySF (plainFor_of_name pn_3) hisR ?_
  intro p e s m args below meth c s₁ Bd hml0 hP hK
  obtain ⟨rfl, hZ, hh⟩ := hP
  have hx := Bd.exec
  have hby := Bd.bytes
  have hml : c.maxLocals = 1 := hml0
  have hown : s.vm.findClass "java/lang/Enum" = some m.cls := findClass_of_methodNamed Bd.named
  have hnm := (name_of_methodNamed Bd.named Bd.method).1
  have X0 : Stand p l e ({ frames := 0, cells := 0, slots := 0, locals := 0 } : Room) s m #[(.ref xa)] below meth c s₁ [] 0 0 := Stand.of_body Bd
  have e0 : s₁.heap = h0 := by rw [← hh, Bd.state]; rfl
  have N0 := Fr.nil n0
  suffices G : ∀ (Qf : Outcome → State → Prop), Qf = (fun (_ : Array Value) (U : State) (o : Outcome) (U' : State) => ∃ v L, o = .returned v ∧ Q_rmO Z xa w_PartyKind_SMALL_MICRO w_LiabilityWeight_1__SwitchMap_com_example_suretyline_suretyline_PartyKind w_LiabilityWeight_INCLUSIVE_LOAN w_PartyKind_OTHER w_LiabilityWeight_LOAN w_PartyKind_FARMER k_w_LiabilityWeight_1__SwitchMap_com_example_suretyline_suretyline_PartyKind r h0 n0 v U'.heap L ∧ FrameEnd U o U' L ({ frames := 0, cells := 0, slots := 0, locals := 0 } : Room).cells ({ frames := 0, cells := 0, slots := 0, locals := 0 } : Room).slots) #[] s → Goes p.tables e below Qf (s₁.setTop (mkF m 0 #[.val (.ref xa)] [])) by
    obtain ⟨s₂, o, g1, g2, g3, g4⟩ := G _ rfl
    exact ⟨s₂, o, castTop (ef_rmO m _) g1, g2, g3, g4⟩
  intro Qf hQf
  obtain ⟨S_w_PartyKind_SMALL_MICRO, E_w_PartyKind_SMALL_MICRO, S_w_LiabilityWeight_1__SwitchMap_com_example_suretyline_suretyline_PartyKind, S_w_LiabilityWeight_INCLUSIVE_LOAN, E_w_LiabilityWeight_INCLUSIVE_LOAN, S_w_PartyKind_OTHER, E_w_PartyKind_OTHER, S_w_LiabilityWeight_LOAN, E_w_LiabilityWeight_LOAN, S_w_PartyKind_FARMER, E_w_PartyKind_FARMER, F_ordinal_w_PartyKind_SMALL_MICRO, F_ordinal_w_PartyKind_OTHER, F_ordinal_w_PartyKind_FARMER, V_w_LiabilityWeight_1__SwitchMap_com_example_suretyline_suretyline_PartyKind⟩ := id NF
  refine Goes.to (T' := s₁.setTop (mkF m 1 #[.val (.ref xa)] [(.ref xa)])) (fun t k => XS.aloadN X0.here hx rfl (hb hby d3_0) rfl rfl k) ?_
  obtain ⟨T1, X1, e1, st1⟩ := getF X0 hx hZ hown (host := "") (Or.inl (hw _ (List.mem_of_getElem? (i := 22) rfl))) Via.refl e0 F_ordinal_xa (g := (mkF m 1 #[.val (.ref xa)] [(.ref xa)])) rfl rfl (hb hby d3_1)
  refine Goes.to (T' := T1.setTop (mkF m 4 #[.val (.ref xa)] [(.int r)])) st1 ?_
  obtain ⟨fs, hrL, hrun, hended, hW, hsame⟩ := X1.leave (v := some (.int r)) (fun h => by rw [Bd.returns] at h; cases h)
  subst hQf
  refine ⟨_, _, retOut X1 hx Bd.returns rfl (Or.inl ⟨rfl, Or.inl rfl, _, rfl⟩) (hb hby d3_4) hrL, hrun, hended, _, _, rfl, ?_, ⟨_, rfl⟩, hW, hsame.mono (by decide) (by decide)⟩
  show (fun (v : Option Value) (h : Heap) (L : List Loc) => v = some (.int r) ∧ Fr n0 L ∧ h = h0) (some (.int r)) T1.heap _
  rw [e1]
  exact ⟨rfl, N0, rfl⟩
theorem pd_4 : parseMethodDescriptor "()I" = some ⟨[], some .int⟩ := by decide +kernel
theorem d2_0 : decode prog_27_method_12_code 0 = .ok (.getstatic 113, 3) := by decide +kernel
theorem d2_3 : decode prog_27_method_12_code 3 = .ok (.aload_n 0, 1) := by decide +kernel
theorem d2_4 : decode prog_27_method_12_code 4 = .ok (.invokevirtual 119, 3) := by decide +kernel
theorem d2_7 : decode prog_27_method_12_code 7 = .ok (.iaload, 1) := by decide +kernel
theorem d2_8 : decode prog_27_method_12_code 8 = .ok (.tableswitch 28 1 3 #[38, 44, 50], 28) := by decide +kernel
theorem d2_46 : decode prog_27_method_12_code 46 = .ok (.ldc2_w 129, 3) := by decide +kernel
theorem d2_49 : decode prog_27_method_12_code 49 = .ok (.goto 12, 3) := by decide +kernel
theorem d2_61 : decode prog_27_method_12_code 61 = .ok (.lreturn, 1) := by decide +kernel
theorem pn_2 : plainName "com/example/suretyline/suretyline/LiabilityWeight" = true := by first | (simp [plainName, overriddenIn]; done) | decide +kernel
theorem ef_rmT0 (m : MethodId) (x0 : Addr) : entryFrame m #[(.ref x0)] 1 = mkF m 0 #[.val (.ref x0)] [] := by first | (simp [entryFrame, mkF, argsToLocals, Value.category]; done) | rfl
def Q_rmT0 (Z : State) (w_PartyKind_SMALL_MICRO : Addr) (w_LiabilityWeight_1__SwitchMap_com_example_suretyline_suretyline_PartyKind : Addr) (w_LiabilityWeight_INCLUSIVE_LOAN : Addr) (w_PartyKind_OTHER : Addr) (w_LiabilityWeight_LOAN : Addr) (w_PartyKind_FARMER : Addr) (k_w_LiabilityWeight_1__SwitchMap_com_example_suretyline_suretyline_PartyKind : ClassId) (h0 : Heap) (n0 : Nat) (v : Option Value) (h : Heap) (L : List Loc) : Prop := v = some (.long (500000000 : Int64)) ∧ Fr n0 L ∧ h = h0
set_option maxRecDepth 65536 in
set_option maxHeartbeats 40000000 in
theorem rmT0 (l : Launch) (Z : State) (a0 : Array Value) (hw : ∀ d ∈ tables_1, d.before a0 Z = true) (ws : List Jvm.Cond) (w_PartyKind_SMALL_MICRO : Addr) (w_LiabilityWeight_1__SwitchMap_com_example_suretyline_suretyline_PartyKind : Addr) (w_LiabilityWeight_INCLUSIVE_LOAN : Addr) (w_PartyKind_OTHER : Addr) (w_LiabilityWeight_LOAN : Addr) (w_PartyKind_FARMER : Addr) (k_w_LiabilityWeight_1__SwitchMap_com_example_suretyline_suretyline_PartyKind : ClassId) (h0 : Heap) (n0 : Nat) (O0 : Old Z n0 h0) (NF : Nar Z w_PartyKind_SMALL_MICRO w_LiabilityWeight_1__SwitchMap_com_example_suretyline_suretyline_PartyKind w_LiabilityWeight_INCLUSIVE_LOAN w_PartyKind_OTHER w_LiabilityWeight_LOAN w_PartyKind_FARMER k_w_LiabilityWeight_1__SwitchMap_com_example_suretyline_suretyline_PartyKind) :
    MetFree l (⟨"com/example/suretyline/suretyline/LiabilityWeight", "loanThreshold", "(Lcom/example/suretyline/suretyline/PartyKind;)J"⟩ : MethodName) (head1 (Jvm.Cond.code (⟨"com/example/suretyline/suretyline/LiabilityWeight", "loanThreshold", "(Lcom/example/suretyline/suretyline/PartyKind;)J"⟩ : MethodName) prog_27_method_12_code 1 (some .long) :: ws) ({ frames := 1, cells := 0, slots := 0, locals := 16 } : Room)) (fun a U => a = #[(.ref w_PartyKind_SMALL_MICRO)] ∧ Z.Warmed39 U.vm ∧ U.heap = h0) (fun _ _ _ _ _ => True) (fun _ U o U' => ∃ v L, o = .returned v ∧ Q_rmT0 Z w_PartyKind_SMALL_MICRO w_LiabilityWeight_1__SwitchMap_com_example_suretyline_suretyline_PartyKind w_LiabilityWeight_INCLUSIVE_LOAN w_PartyKind_OTHER w_LiabilityWeight_LOAN w_PartyKind_FARMER k_w_LiabilityWeight_1__SwitchMap_com_example_suretyline_suretyline_PartyKind h0 n0 v U'.heap L ∧ FrameEnd U o U' L ({ frames := 1, cells := 0, slots := 0, locals := 16 } : Room).cells ({ frames := 1, cells := 0, slots := 0, locals := 16 } : Room).slots) := by
  refine MetFree.of_bodySF (plainFor_of_name pn_2) hisR ?_
  intro p e s m args below meth c s₁ Bd hml0 hP hK
  obtain ⟨rfl, hZ, hh⟩ := hP
  have hx := Bd.exec
  have hby := Bd.bytes
  have hml : c.maxLocals = 1 := hml0
  have hown : s.vm.findClass "com/example/suretyline/suretyline/LiabilityWeight" = some m.cls := findClass_of_methodNamed Bd.named
  have hnm := (name_of_methodNamed Bd.named Bd.method).1
  have X0 : Stand p l e ({ frames := 1, cells := 0, slots := 0, locals := 16 } : Room) s m #[(.ref w_PartyKind_SMALL_MICRO)] below meth c s₁ [] 0 0 := Stand.of_body Bd
  have e0 : s₁.heap = h0 := by rw [← hh, Bd.state]; rfl
  have N0 := Fr.nil n0
  suffices G : ∀ (Qf : Outcome → State → Prop), Qf = (fun (_ : Array Value) (U : State) (o : Outcome) (U' : State) => ∃ v L, o = .returned v ∧ Q_rmT0 Z w_PartyKind_SMALL_MICRO w_LiabilityWeight_1__SwitchMap_com_example_suretyline_suretyline_PartyKind w_LiabilityWeight_INCLUSIVE_LOAN w_PartyKind_OTHER w_LiabilityWeight_LOAN w_PartyKind_FARMER k_w_LiabilityWeight_1__SwitchMap_com_example_suretyline_suretyline_PartyKind h0 n0 v U'.heap L ∧ FrameEnd U o U' L ({ frames := 1, cells := 0, slots := 0, locals := 16 } : Room).cells ({ frames := 1, cells := 0, slots := 0, locals := 16 } : Room).slots) #[] s → Goes p.tables e below Qf (s₁.setTop (mkF m 0 #[.val (.ref w_PartyKind_SMALL_MICRO)] [])) by
    obtain ⟨s₂, o, g1, g2, g3, g4⟩ := G _ rfl
    exact ⟨s₂, o, castTop (ef_rmT0 m _) g1, g2, g3, g4⟩
  intro Qf hQf
  obtain ⟨S_w_PartyKind_SMALL_MICRO, E_w_PartyKind_SMALL_MICRO, S_w_LiabilityWeight_1__SwitchMap_com_example_suretyline_suretyline_PartyKind, S_w_LiabilityWeight_INCLUSIVE_LOAN, E_w_LiabilityWeight_INCLUSIVE_LOAN, S_w_PartyKind_OTHER, E_w_PartyKind_OTHER, S_w_LiabilityWeight_LOAN, E_w_LiabilityWeight_LOAN, S_w_PartyKind_FARMER, E_w_PartyKind_FARMER, F_ordinal_w_PartyKind_SMALL_MICRO, F_ordinal_w_PartyKind_OTHER, F_ordinal_w_PartyKind_FARMER, V_w_LiabilityWeight_1__SwitchMap_com_example_suretyline_suretyline_PartyKind⟩ := id NF
  obtain ⟨T1, X1, e1, st1⟩ := getS2 X0 hx hZ hown (host := "") (Or.inl (hw _ (List.mem_of_getElem? (i := 12) rfl))) Via.refl e0 (S_w_LiabilityWeight_1__SwitchMap_com_example_suretyline_suretyline_PartyKind.ext O0.2) (g := (mkF m 0 #[.val (.ref w_PartyKind_SMALL_MICRO)] [])) rfl (hb hby d2_0)
  refine Goes.to (T' := T1.setTop (mkF m 3 #[.val (.ref w_PartyKind_SMALL_MICRO)] [(.ref w_LiabilityWeight_1__SwitchMap_com_example_suretyline_suretyline_PartyKind)])) st1 ?_
  refine Goes.to (T' := T1.setTop (mkF m 4 #[.val (.ref w_PartyKind_SMALL_MICRO)] [(.ref w_PartyKind_SMALL_MICRO), (.ref w_LiabilityWeight_1__SwitchMap_com_example_suretyline_suretyline_PartyKind)])) (fun t k => XS.aloadN X1.here hx rfl (hb hby d2_3) rfl rfl k) ?_
  obtain ⟨cq2, kq2, q2a, q2b, q2c⟩ := isOf hZ e1 (E_w_PartyKind_SMALL_MICRO.ext O0.2)
  obtain ⟨_, _, ⟨T2, L2, k2, n2⟩, -, X2, ⟨Lc2, hQ2, l2, y2, z2⟩, st2⟩ := X1.virtualBackUp hx (x := (⟨"com/example/suretyline/suretyline/PartyKind", "ordinal", "()I"⟩ : MethodName)) (y := (⟨"java/lang/Enum", "ordinal", "()I"⟩ : MethodName)) (owner := "java/lang/Enum") hown (mvT hZ (hw _ (List.mem_of_getElem? (i := 15) rfl))) (mvT hZ (hw _ (List.mem_of_getElem? (i := 16) rfl))) (mvT hZ (hw _ (List.mem_of_getElem? (i := 17) rfl))) (by decide) (mvT hZ (hw _ (List.mem_of_getElem? (i := 19) rfl))) (mvT hZ (hw _ (List.mem_of_getElem? (i := 18) rfl))) (backOf (W := 1) (rmO l Z a0 hw [] w_PartyKind_SMALL_MICRO w_PartyKind_SMALL_MICRO w_LiabilityWeight_1__SwitchMap_com_example_suretyline_suretyline_PartyKind w_LiabilityWeight_INCLUSIVE_LOAN w_PartyKind_OTHER w_LiabilityWeight_LOAN w_PartyKind_FARMER k_w_LiabilityWeight_1__SwitchMap_com_example_suretyline_suretyline_PartyKind (0 : Int32) h0 n0 O0 NF (F_ordinal_w_PartyKind_SMALL_MICRO.ext O0.2)) hZ (hw _ (List.mem_of_getElem? (i := 21) rfl)) (hw _ (List.mem_of_getElem? (i := 20) rfl)) (by decide) (by decide)) q2a q2c (g := (mkF m 4 #[.val (.ref w_PartyKind_SMALL_MICRO)] [(.ref w_PartyKind_SMALL_MICRO), (.ref w_LiabilityWeight_1__SwitchMap_com_example_suretyline_suretyline_PartyKind)])) rfl (by rw [hml]; rfl) (Steps.refl _) (argsL := []) (rest := [(.ref w_LiabilityWeight_1__SwitchMap_com_example_suretyline_suretyline_PartyKind)]) (lenOf pd_4 rfl) rfl (by show 2 * 0 + _ ≤ _; exact Nat.le_of_eq rfl) (hb hby d2_4) (fun _ _ => ⟨rfl, e1, (by decide : 0 + 0 ≤ _), (by decide : 0 + 0 ≤ _)⟩)
  dsimp only [Pt.U, Pt.locs, Pt.cells, Pt.slots] at X2 l2 y2 z2 st2 hQ2
  subst l2 y2 z2
  obtain ⟨rfl, Nq2, e2⟩ := hQ2
  have N2 := Fr.app N0 Nq2
  refine Goes.thru (T' := T2.setTop (mkF m 7 #[.val (.ref w_PartyKind_SMALL_MICRO)] [(.int (0 : Int32)), (.ref w_LiabilityWeight_1__SwitchMap_com_example_suretyline_suretyline_PartyKind)])) st2 ?_
  obtain ⟨cl3, Ar3, q3, S3, Ng3, H3, G3⟩ := id (V_w_LiabilityWeight_1__SwitchMap_com_example_suretyline_suretyline_PartyKind.ext O0.2)
  have hin3 : ¬ ((0 : Int32) < 0 ∨ cl3.slots.size ≤ ((0 : Int32)).toNatClampNeg) := inb_of S3 ⟨by decide, by decide⟩
  refine Goes.to (T' := T2.setTop (mkF m 8 #[.val (.ref w_PartyKind_SMALL_MICRO)] [(.int (1 : Int32))])) (X2.iaload hx (j := (0 : Int32)) (v := (.int (1 : Int32))) (by rw [e2]; exact Ar3.1) (State.isArrayOf_alike hZ.alike Ar3.2.1) Ar3.2.2 hin3 (H3.at hin3 rfl) (g := (mkF m 7 #[.val (.ref w_PartyKind_SMALL_MICRO)] [(.int (0 : Int32)), (.ref w_LiabilityWeight_1__SwitchMap_com_example_suretyline_suretyline_PartyKind)])) rfl rfl (hb hby d2_7)) ?_
  refine Goes.to (T' := T2.setTop (mkF m 46 #[.val (.ref w_PartyKind_SMALL_MICRO)] [])) (fun t k => XS.tswIn X2.here hx rfl (pc0 := 8) (pc' := 46) rfl (hb hby d2_8) rfl (by decide) (o := 38) rfl (by decide) (by decide) k) ?_
  refine Goes.to (T' := T2.setTop (mkF m 49 #[.val (.ref w_PartyKind_SMALL_MICRO)] [(.long (500000000 : Int64))])) (X2.ldc2Long hx hown (mvT hZ (hw _ (List.mem_of_getElem? (i := 24) rfl))) (g := (mkF m 46 #[.val (.ref w_PartyKind_SMALL_MICRO)] [])) rfl (hb hby d2_46)) ?_
  refine Goes.to (T' := T2.setTop (mkF m 61 #[.val (.ref w_PartyKind_SMALL_MICRO)] [(.long (500000000 : Int64))])) (fun t k => XS.goto X2.here hx rfl (pc0 := 49) (pc' := 61) rfl (hb hby d2_49) (by decide) (by decide) k) ?_
  obtain ⟨fs, hrL, hrun, hended, hW, hsame⟩ := X2.leave (v := some (.long (500000000 : Int64))) (fun h => by rw [Bd.returns] at h; cases h)
  subst hQf
  refine ⟨_, _, retOut X2 hx Bd.returns rfl (Or.inr (Or.inl ⟨rfl, rfl, _, rfl⟩)) (hb hby d2_61) hrL, hrun, hended, _, _, rfl, ?_, ⟨_, rfl⟩, hW, hsame.mono (by decide) (by decide)⟩
  show (fun (v : Option Value) (h : Heap) (L : List Loc) => v = some (.long (500000000 : Int64)) ∧ Fr n0 L ∧ h = h0) (some (.long (500000000 : Int64))) T2.heap _
  rw [e2]
  exact ⟨rfl, N2, rfl⟩
theorem pd_14 : parseMethodDescriptor "(Lcom/example/suretyline/suretyline/PartyKind;)J" = some ⟨[(.object "com/example/suretyline/suretyline/PartyKind")], some .long⟩ := by decide +kernel
theorem d1_0 : decode prog_27_method_11_code 0 = .ok (.aload_n 0, 1) := by decide +kernel
theorem d1_1 : decode prog_27_method_11_code 1 = .ok (.invokestatic 107, 3) := by decide +kernel
theorem d1_4 : decode prog_27_method_11_code 4 = .ok (.lstore_n 3, 1) := by decide +kernel
theorem d1_5 : decode prog_27_method_11_code 5 = .ok (.lload_n 3, 1) := by decide +kernel
theorem d1_6 : decode prog_27_method_11_code 6 = .ok (.ldc2_w 111, 3) := by decide +kernel
theorem d1_9 : decode prog_27_method_11_code 9 = .ok (.lcmp, 1) := by decide +kernel
theorem d1_10 : decode prog_27_method_11_code 10 = .ok (.ifCond .eq 15, 3) := by decide +kernel
theorem d1_13 : decode prog_27_method_11_code 13 = .ok (.lload_n 1, 1) := by decide +kernel
theorem d1_14 : decode prog_27_method_11_code 14 = .ok (.lload_n 3, 1) := by decide +kernel
theorem d1_15 : decode prog_27_method_11_code 15 = .ok (.lcmp, 1) := by decide +kernel
theorem d1_16 : decode prog_27_method_11_code 16 = .ok (.ifCond .gt 9, 3) := by decide +kernel
theorem d1_19 : decode prog_27_method_11_code 19 = .ok (.getstatic 3, 3) := by decide +kernel
theorem d1_22 : decode prog_27_method_11_code 22 = .ok (.goto 6, 3) := by decide +kernel
theorem d1_25 : decode prog_27_method_11_code 25 = .ok (.getstatic 7, 3) := by decide +kernel
theorem d1_28 : decode prog_27_method_11_code 28 = .ok (.areturn, 1) := by decide +kernel
theorem pn_1 : plainName "com/example/suretyline/suretyline/LiabilityWeight" = true := by first | (simp [plainName, overriddenIn]; done) | decide +kernel
theorem ef_rmF0 (m : MethodId) (x0 : Addr) (x1 : Int64) : entryFrame m #[(.ref x0), (.long x1)] 5 = mkF m 0 #[.val (.ref x0), .val (.long x1), .second, .unset, .unset] [] := by first | (simp [entryFrame, mkF, argsToLocals, Value.category]; done) | rfl
def Q_rmF0 (Z : State) (am : Int64) (w_PartyKind_SMALL_MICRO : Addr) (w_LiabilityWeight_1__SwitchMap_com_example_suretyline_suretyline_PartyKind : Addr) (w_LiabilityWeight_INCLUSIVE_LOAN : Addr) (w_PartyKind_OTHER : Addr) (w_LiabilityWeight_LOAN : Addr) (w_PartyKind_FARMER : Addr) (k_w_LiabilityWeight_1__SwitchMap_com_example_suretyline_suretyline_PartyKind : ClassId) (r : Addr) (h0 : Heap) (n0 : Nat) (v : Option Value) (h : Heap) (L : List Loc) : Prop := v = some (.ref r) ∧ Fr n0 L ∧ h = h0
set_option maxRecDepth 65536 in
set_option maxHeartbeats 40000000 in
theorem rmF0 (l : Launch) (Z : State) (a0 : Array Value) (hw : ∀ d ∈ tables_1, d.before a0 Z = true) (ws : List Jvm.Cond) (am : Int64) (w_PartyKind_SMALL_MICRO : Addr) (w_LiabilityWeight_1__SwitchMap_com_example_suretyline_suretyline_PartyKind : Addr) (w_LiabilityWeight_INCLUSIVE_LOAN : Addr) (w_PartyKind_OTHER : Addr) (w_LiabilityWeight_LOAN : Addr) (w_PartyKind_FARMER : Addr) (k_w_LiabilityWeight_1__SwitchMap_com_example_suretyline_suretyline_PartyKind : ClassId) (r : Addr) (h0 : Heap) (n0 : Nat) (O0 : Old Z n0 h0) (NF : Nar Z w_PartyKind_SMALL_MICRO w_LiabilityWeight_1__SwitchMap_com_example_suretyline_suretyline_PartyKind w_LiabilityWeight_INCLUSIVE_LOAN w_PartyKind_OTHER w_LiabilityWeight_LOAN w_PartyKind_FARMER k_w_LiabilityWeight_1__SwitchMap_com_example_suretyline_suretyline_PartyKind) (hr : r = if (500000000 : Int64) < am then w_LiabilityWeight_LOAN else w_LiabilityWeight_INCLUSIVE_LOAN) :
    MetFree l (⟨"com/example/suretyline/suretyline/LiabilityWeight", "ofLoanInFen", "(Lcom/example/suretyline/suretyline/PartyKind;J)Lcom/example/suretyline/suretyline/LiabilityWeight;"⟩ : MethodName) (head1 (Jvm.Cond.code (⟨"com/example/suretyline/suretyline/LiabilityWeight", "ofLoanInFen", "(Lcom/example/suretyline/suretyline/PartyKind;J)Lcom/example/suretyline/suretyline/LiabilityWeight;"⟩ : MethodName) prog_27_method_11_code 5 (some (.object "com/example/suretyline/suretyline/LiabilityWeight")) :: ws) ({ frames := 2, cells := 0, slots := 0, locals := 48 } : Room)) (fun a U => a = #[(.ref w_PartyKind_SMALL_MICRO), (.long am)] ∧ Z.Warmed39 U.vm ∧ U.heap = h0) (fun _ _ _ _ _ => True) (fun _ U o U' => ∃ v L, o = .returned v ∧ Q_rmF0 Z am w_PartyKind_SMALL_MICRO w_LiabilityWeight_1__SwitchMap_com_example_suretyline_suretyline_PartyKind w_LiabilityWeight_INCLUSIVE_LOAN w_PartyKind_OTHER w_LiabilityWeight_LOAN w_PartyKind_FARMER k_w_LiabilityWeight_1__SwitchMap_com_example_suretyline_suretyline_PartyKind r h0 n0 v U'.heap L ∧ FrameEnd U o U' L ({ frames := 2, cells := 0, slots := 0, locals := 48 } : Room).cells ({ frames := 2, cells := 0, slots := 0, locals := 48 } : Room).slots) := by
  refine MetFree.of_bodySF (plainFor_of_name pn_1) hisR ?_
  intro p e s m args below meth c s₁ Bd hml0 hP hK
  obtain ⟨rfl, hZ, hh⟩ := hP
  have hx := Bd.exec
  have hby := Bd.bytes
  have hml : c.maxLocals = 5 := hml0
  have hown : s.vm.findClass "com/example/suretyline/suretyline/LiabilityWeight" = some m.cls := findClass_of_methodNamed Bd.named
  have hnm := (name_of_methodNamed Bd.named Bd.method).1
  have X0 : Stand p l e ({ frames := 2, cells := 0, slots := 0, locals := 48 } : Room) s m #[(.ref w_PartyKind_SMALL_MICRO), (.long am)] below meth c s₁ [] 0 0 := Stand.of_body Bd
  have e0 : s₁.heap = h0 := by rw [← hh, Bd.state]; rfl
  have N0 := Fr.nil n0
  suffices G : ∀ (Qf : Outcome → State → Prop), Qf = (fun (_ : Array Value) (U : State) (o : Outcome) (U' : State) => ∃ v L, o = .returned v ∧ Q_rmF0 Z am w_PartyKind_SMALL_MICRO w_LiabilityWeight_1__SwitchMap_com_example_suretyline_suretyline_PartyKind w_LiabilityWeight_INCLUSIVE_LOAN w_PartyKind_OTHER w_LiabilityWeight_LOAN w_PartyKind_FARMER k_w_LiabilityWeight_1__SwitchMap_com_example_suretyline_suretyline_PartyKind r h0 n0 v U'.heap L ∧ FrameEnd U o U' L ({ frames := 2, cells := 0, slots := 0, locals := 48 } : Room).cells ({ frames := 2, cells := 0, slots := 0, locals := 48 } : Room).slots) #[] s → Goes p.tables e below Qf (s₁.setTop (mkF m 0 #[.val (.ref w_PartyKind_SMALL_MICRO), .val (.long am), .second, .unset, .unset] [])) by
    obtain ⟨s₂, o, g1, g2, g3, g4⟩ := G _ rfl
    exact ⟨s₂, o, castTop (ef_rmF0 m _ _) g1, g2, g3, g4⟩
  intro Qf hQf
  obtain ⟨S_w_PartyKind_SMALL_MICRO, E_w_PartyKind_SMALL_MICRO, S_w_LiabilityWeight_1__SwitchMap_com_example_suretyline_suretyline_PartyKind, S_w_LiabilityWeight_INCLUSIVE_LOAN, E_w_LiabilityWeight_INCLUSIVE_LOAN, S_w_PartyKind_OTHER, E_w_PartyKind_OTHER, S_w_LiabilityWeight_LOAN, E_w_LiabilityWeight_LOAN, S_w_PartyKind_FARMER, E_w_PartyKind_FARMER, F_ordinal_w_PartyKind_SMALL_MICRO, F_ordinal_w_PartyKind_OTHER, F_ordinal_w_PartyKind_FARMER, V_w_LiabilityWeight_1__SwitchMap_com_example_suretyline_suretyline_PartyKind⟩ := id NF
  refine Goes.to (T' := s₁.setTop (mkF m 1 #[.val (.ref w_PartyKind_SMALL_MICRO), .val (.long am), .second, .unset, .unset] [(.ref w_PartyKind_SMALL_MICRO)])) (fun t k => XS.aloadN X0.here hx rfl (hb hby d1_0) rfl rfl k) ?_
  obtain ⟨_, _, ⟨T1, L1, k1, n1⟩, -, X1, ⟨Lc1, hQ1, l1, y1, z1⟩, st1⟩ := Jvm.LawKit.callS X0 hx (y := (⟨"com/example/suretyline/suretyline/LiabilityWeight", "loanThreshold", "(Lcom/example/suretyline/suretyline/PartyKind;)J"⟩ : MethodName)) hown (mvT hZ (hw _ (List.mem_of_getElem? (i := 9) rfl))) (mvT hZ (hw _ (List.mem_of_getElem? (i := 10) rfl))) (mvT hZ (hw _ (List.mem_of_getElem? (i := 7) rfl))) (mvT hZ (hw _ (List.mem_of_getElem? (i := 11) rfl))) (by decide) (backOf (W := 0) (rmT0 l Z a0 hw []  w_PartyKind_SMALL_MICRO w_LiabilityWeight_1__SwitchMap_com_example_suretyline_suretyline_PartyKind w_LiabilityWeight_INCLUSIVE_LOAN w_PartyKind_OTHER w_LiabilityWeight_LOAN w_PartyKind_FARMER k_w_LiabilityWeight_1__SwitchMap_com_example_suretyline_suretyline_PartyKind  h0 n0 O0 NF ) hZ (hw _ (List.mem_of_getElem? (i := 11) rfl)) (hw _ (List.mem_of_getElem? (i := 7) rfl)) (by decide) (by decide)) (g := (mkF m 1 #[.val (.ref w_PartyKind_SMALL_MICRO), .val (.long am), .second, .unset, .unset] [(.ref w_PartyKind_SMALL_MICRO)])) rfl (by rw [hml]; rfl) (argsL := [(.ref w_PartyKind_SMALL_MICRO)]) (rest := []) (lenOf pd_14 rfl) rfl (by show 2 * 0 + _ ≤ _; exact Nat.le_of_eq rfl) (hb hby d1_1) (fun _ _ => ⟨rfl, e0, (by decide : 0 + 0 ≤ _), (by decide : 0 + 0 ≤ _)⟩)
  dsimp only [Pt.U, Pt.locs, Pt.cells, Pt.slots] at X1 l1 y1 z1 st1 hQ1
  subst l1 y1 z1
  obtain ⟨rfl, Nq1, e1⟩ := hQ1
  have N1 := Fr.app N0 Nq1
  refine Goes.to (T' := T1.setTop (mkF m 4 #[.val (.ref w_PartyKind_SMALL_MICRO), .val (.long am), .second, .unset, .unset] [(.long (500000000 : Int64))])) st1 ?_
  refine Goes.to (T' := T1.setTop (mkF m 5 #[.val (.ref w_PartyKind_SMALL_MICRO), .val (.long am), .second, .val (.long (500000000 : Int64)), .second] [])) (fun t k => XS.lstoreN X1.here hx rfl (hb hby d1_4) rfl (l' := #[.val (.ref w_PartyKind_SMALL_MICRO), .val (.long am), .second, .val (.long (500000000 : Int64)), .second]) rfl k) ?_
  refine Goes.to (T' := T1.setTop (mkF m 6 #[.val (.ref w_PartyKind_SMALL_MICRO), .val (.long am), .second, .val (.long (500000000 : Int64)), .second] [(.long (500000000 : Int64))])) (fun t k => XS.lloadN X1.here hx rfl (hb hby d1_5) rfl k) ?_
  refine Goes.to (T' := T1.setTop (mkF m 9 #[.val (.ref w_PartyKind_SMALL_MICRO), .val (.long am), .second, .val (.long (500000000 : Int64)), .second] [(.long (-1 : Int64)), (.long (500000000 : Int64))])) (X1.ldc2Long hx hown (mvT hZ (hw _ (List.mem_of_getElem? (i := 25) rfl))) (g := (mkF m 6 #[.val (.ref w_PartyKind_SMALL_MICRO), .val (.long am), .second, .val (.long (500000000 : Int64)), .second] [(.long (500000000 : Int64))])) rfl (hb hby d1_6)) ?_
  refine Goes.to (T' := T1.setTop (mkF m 10 #[.val (.ref w_PartyKind_SMALL_MICRO), .val (.long am), .second, .val (.long (500000000 : Int64)), .second] [(.int (lcmpW (500000000 : Int64) (-1 : Int64)))])) (fun t k => XS.lcmp X1.here hx rfl (hb hby d1_9) rfl k) ?_
  refine Goes.to (T' := T1.setTop (mkF m 13 #[.val (.ref w_PartyKind_SMALL_MICRO), .val (.long am), .second, .val (.long (500000000 : Int64)), .second] [])) (fun t k => XS.ifNo X1.here hx rfl (hb hby d1_10) rfl ((if0 _ _).trans (feq (by decide)).1) k) ?_
  refine Goes.to (T' := T1.setTop (mkF m 14 #[.val (.ref w_PartyKind_SMALL_MICRO), .val (.long am), .second, .val (.long (500000000 : Int64)), .second] [(.long am)])) (fun t k => XS.lloadN X1.here hx rfl (hb hby d1_13) rfl k) ?_
  refine Goes.to (T' := T1.setTop (mkF m 15 #[.val (.ref w_PartyKind_SMALL_MICRO), .val (.long am), .second, .val (.long (500000000 : Int64)), .second] [(.long (500000000 : Int64)), (.long am)])) (fun t k => XS.lloadN X1.here hx rfl (hb hby d1_14) rfl k) ?_
  refine Goes.to (T' := T1.setTop (mkF m 16 #[.val (.ref w_PartyKind_SMALL_MICRO), .val (.long am), .second, .val (.long (500000000 : Int64)), .second] [(.int (lcmpW am (500000000 : Int64)))])) (fun t k => XS.lcmp X1.here hx rfl (hb hby d1_15) rfl k) ?_
  rcases Decidable.em ((500000000 : Int64) < am) with hc16_2 | hc16_2
  · skip
    refine Goes.to (T' := T1.setTop (mkF m 25 #[.val (.ref w_PartyKind_SMALL_MICRO), .val (.long am), .second, .val (.long (500000000 : Int64)), .second] [])) (fun t k => XS.ifYes X1.here hx rfl (pc0 := 16) (pc' := 25) rfl (hb hby d1_16) rfl ((if0 _ _).trans (tlt ((lw_gt am (500000000 : Int64)).mpr hc16_2)).2.2.1) (by decide) (by decide) k) ?_
    obtain ⟨T3, X3, e3, st3⟩ := getS2 X1 hx hZ hown (host := "") (Or.inl (hw _ (List.mem_of_getElem? (i := 33) rfl))) Via.refl e1 (S_w_LiabilityWeight_LOAN.ext O0.2) (g := (mkF m 25 #[.val (.ref w_PartyKind_SMALL_MICRO), .val (.long am), .second, .val (.long (500000000 : Int64)), .second] [])) rfl (hb hby d1_25)
    refine Goes.to (T' := T3.setTop (mkF m 28 #[.val (.ref w_PartyKind_SMALL_MICRO), .val (.long am), .second, .val (.long (500000000 : Int64)), .second] [(.ref w_LiabilityWeight_LOAN)])) st3 ?_
    obtain ⟨fs, hrL, hrun, hended, hW, hsame⟩ := X3.leave (v := some (.ref w_LiabilityWeight_LOAN)) (fun h => by rw [Bd.returns] at h; cases h)
    subst hQf
    refine ⟨_, _, retOut X3 hx Bd.returns rfl (Or.inr (Or.inr (Or.inr (Or.inr ⟨rfl, rfl, rfl⟩)))) (hb hby d1_28) hrL, hrun, hended, _, _, rfl, ?_, ⟨_, rfl⟩, hW, hsame.mono (by decide) (by decide)⟩
    show (fun (v : Option Value) (h : Heap) (L : List Loc) => v = some (.ref r) ∧ Fr n0 L ∧ h = h0) (some (.ref w_LiabilityWeight_LOAN)) T3.heap _
    rw [e3]
    have hv : w_LiabilityWeight_LOAN = r := by rw [hr]; first | (simp [hc16_2]; done) | ((repeat' split) <;> first | rfl | contradiction | simp_all)
    exact ⟨by rw [hv], N1, rfl⟩
  · skip
    refine Goes.to (T' := T1.setTop (mkF m 19 #[.val (.ref w_PartyKind_SMALL_MICRO), .val (.long am), .second, .val (.long (500000000 : Int64)), .second] [])) (fun t k => XS.ifNo X1.here hx rfl (hb hby d1_16) rfl ((if0 _ _).trans (flt (fun q => hc16_2 ((lw_gt am (500000000 : Int64)).mp q))).2.2.1) k) ?_
    obtain ⟨T4, X4, e4, st4⟩ := getS2 X1 hx hZ hown (host := "") (Or.inl (hw _ (List.mem_of_getElem? (i := 26) rfl))) Via.refl e1 (S_w_LiabilityWeight_INCLUSIVE_LOAN.ext O0.2) (g := (mkF m 19 #[.val (.ref w_PartyKind_SMALL_MICRO), .val (.long am), .second, .val (.long (500000000 : Int64)), .second] [])) rfl (hb hby d1_19)
    refine Goes.to (T' := T4.setTop (mkF m 22 #[.val (.ref w_PartyKind_SMALL_MICRO), .val (.long am), .second, .val (.long (500000000 : Int64)), .second] [(.ref w_LiabilityWeight_INCLUSIVE_LOAN)])) st4 ?_
    refine Goes.to (T' := T4.setTop (mkF m 28 #[.val (.ref w_PartyKind_SMALL_MICRO), .val (.long am), .second, .val (.long (500000000 : Int64)), .second] [(.ref w_LiabilityWeight_INCLUSIVE_LOAN)])) (fun t k => XS.goto X4.here hx rfl (pc0 := 22) (pc' := 28) rfl (hb hby d1_22) (by decide) (by decide) k) ?_
    obtain ⟨fs, hrL, hrun, hended, hW, hsame⟩ := X4.leave (v := some (.ref w_LiabilityWeight_INCLUSIVE_LOAN)) (fun h => by rw [Bd.returns] at h; cases h)
    subst hQf
    refine ⟨_, _, retOut X4 hx Bd.returns rfl (Or.inr (Or.inr (Or.inr (Or.inr ⟨rfl, rfl, rfl⟩)))) (hb hby d1_28) hrL, hrun, hended, _, _, rfl, ?_, ⟨_, rfl⟩, hW, hsame.mono (by decide) (by decide)⟩
    show (fun (v : Option Value) (h : Heap) (L : List Loc) => v = some (.ref r) ∧ Fr n0 L ∧ h = h0) (some (.ref w_LiabilityWeight_INCLUSIVE_LOAN)) T4.heap _
    rw [e4]
    have hv : w_LiabilityWeight_INCLUSIVE_LOAN = r := by rw [hr]; first | (simp [hc16_2]; done) | ((repeat' split) <;> first | rfl | contradiction | simp_all)
    exact ⟨by rw [hv], N1, rfl⟩
theorem d2_52 : decode prog_27_method_12_code 52 = .ok (.ldc2_w 131, 3) := by decide +kernel
theorem d2_55 : decode prog_27_method_12_code 55 = .ok (.goto 6, 3) := by decide +kernel
theorem ef_rmT1 (m : MethodId) (x0 : Addr) : entryFrame m #[(.ref x0)] 1 = mkF m 0 #[.val (.ref x0)] [] := by first | (simp [entryFrame, mkF, argsToLocals, Value.category]; done) | rfl
def Q_rmT1 (Z : State) (w_PartyKind_SMALL_MICRO : Addr) (w_LiabilityWeight_1__SwitchMap_com_example_suretyline_suretyline_PartyKind : Addr) (w_LiabilityWeight_INCLUSIVE_LOAN : Addr) (w_PartyKind_OTHER : Addr) (w_LiabilityWeight_LOAN : Addr) (w_PartyKind_FARMER : Addr) (k_w_LiabilityWeight_1__SwitchMap_com_example_suretyline_suretyline_PartyKind : ClassId) (h0 : Heap) (n0 : Nat) (v : Option Value) (h : Heap) (L : List Loc) : Prop := v = some (.long (200000000 : Int64)) ∧ Fr n0 L ∧ h = h0
set_option maxRecDepth 65536 in
set_option maxHeartbeats 40000000 in
theorem rmT1 (l : Launch) (Z : State) (a0 : Array Value) (hw : ∀ d ∈ tables_1, d.before a0 Z = true) (ws : List Jvm.Cond) (w_PartyKind_SMALL_MICRO : Addr) (w_LiabilityWeight_1__SwitchMap_com_example_suretyline_suretyline_PartyKind : Addr) (w_LiabilityWeight_INCLUSIVE_LOAN : Addr) (w_PartyKind_OTHER : Addr) (w_LiabilityWeight_LOAN : Addr) (w_PartyKind_FARMER : Addr) (k_w_LiabilityWeight_1__SwitchMap_com_example_suretyline_suretyline_PartyKind : ClassId) (h0 : Heap) (n0 : Nat) (O0 : Old Z n0 h0) (NF : Nar Z w_PartyKind_SMALL_MICRO w_LiabilityWeight_1__SwitchMap_com_example_suretyline_suretyline_PartyKind w_LiabilityWeight_INCLUSIVE_LOAN w_PartyKind_OTHER w_LiabilityWeight_LOAN w_PartyKind_FARMER k_w_LiabilityWeight_1__SwitchMap_com_example_suretyline_suretyline_PartyKind) :
    MetFree l (⟨"com/example/suretyline/suretyline/LiabilityWeight", "loanThreshold", "(Lcom/example/suretyline/suretyline/PartyKind;)J"⟩ : MethodName) (head1 (Jvm.Cond.code (⟨"com/example/suretyline/suretyline/LiabilityWeight", "loanThreshold", "(Lcom/example/suretyline/suretyline/PartyKind;)J"⟩ : MethodName) prog_27_method_12_code 1 (some .long) :: ws) ({ frames := 1, cells := 0, slots := 0, locals := 16 } : Room)) (fun a U => a = #[(.ref w_PartyKind_FARMER)] ∧ Z.Warmed39 U.vm ∧ U.heap = h0) (fun _ _ _ _ _ => True) (fun _ U o U' => ∃ v L, o = .returned v ∧ Q_rmT1 Z w_PartyKind_SMALL_MICRO w_LiabilityWeight_1__SwitchMap_com_example_suretyline_suretyline_PartyKind w_LiabilityWeight_INCLUSIVE_LOAN w_PartyKind_OTHER w_LiabilityWeight_LOAN w_PartyKind_FARMER k_w_LiabilityWeight_1__SwitchMap_com_example_suretyline_suretyline_PartyKind h0 n0 v U'.heap L ∧ FrameEnd U o U' L ({ frames := 1, cells := 0, slots := 0, locals := 16 } : Room).cells ({ frames := 1, cells := 0, slots := 0, locals := 16 } : Room).slots) := by
  refine MetFree.of_bodySF (plainFor_of_name pn_2) hisR ?_
  intro p e s m args below meth c s₁ Bd hml0 hP hK
  obtain ⟨rfl, hZ, hh⟩ := hP
  have hx := Bd.exec
  have hby := Bd.bytes
  have hml : c.maxLocals = 1 := hml0
  have hown : s.vm.findClass "com/example/suretyline/suretyline/LiabilityWeight" = some m.cls := findClass_of_methodNamed Bd.named
  have hnm := (name_of_methodNamed Bd.named Bd.method).1
  have X0 : Stand p l e ({ frames := 1, cells := 0, slots := 0, locals := 16 } : Room) s m #[(.ref w_PartyKind_FARMER)] below meth c s₁ [] 0 0 := Stand.of_body Bd
  have e0 : s₁.heap = h0 := by rw [← hh, Bd.state]; rfl
  have N0 := Fr.nil n0
  suffices G : ∀ (Qf : Outcome → State → Prop), Qf = (fun (_ : Array Value) (U : State) (o : Outcome) (U' : State) => ∃ v L, o = .returned v ∧ Q_rmT1 Z w_PartyKind_SMALL_MICRO w_LiabilityWeight_1__SwitchMap_com_example_suretyline_suretyline_PartyKind w_LiabilityWeight_INCLUSIVE_LOAN w_PartyKind_OTHER w_LiabilityWeight_LOAN w_PartyKind_FARMER k_w_LiabilityWeight_1__SwitchMap_com_example_suretyline_suretyline_PartyKind h0 n0 v U'.heap L ∧ FrameEnd U o U' L ({ frames := 1, cells := 0, slots := 0, locals := 16 } : Room).cells ({ frames := 1, cells := 0, slots := 0, locals := 16 } : Room).slots) #[] s → Goes p.tables e below Qf (s₁.setTop (mkF m 0 #[.val (.ref w_PartyKind_FARMER)] [])) by
    obtain ⟨s₂, o, g1, g2, g3, g4⟩ := G _ rfl
    exact ⟨s₂, o, castTop (ef_rmT1 m _) g1, g2, g3, g4⟩
  intro Qf hQf
  obtain ⟨S_w_PartyKind_SMALL_MICRO, E_w_PartyKind_SMALL_MICRO, S_w_LiabilityWeight_1__SwitchMap_com_example_suretyline_suretyline_PartyKind, S_w_LiabilityWeight_INCLUSIVE_LOAN, E_w_LiabilityWeight_INCLUSIVE_LOAN, S_w_PartyKind_OTHER, E_w_PartyKind_OTHER, S_w_LiabilityWeight_LOAN, E_w_LiabilityWeight_LOAN, S_w_PartyKind_FARMER, E_w_PartyKind_FARMER, F_ordinal_w_PartyKind_SMALL_MICRO, F_ordinal_w_PartyKind_OTHER, F_ordinal_w_PartyKind_FARMER, V_w_LiabilityWeight_1__SwitchMap_com_example_suretyline_suretyline_PartyKind⟩ := id NF
  obtain ⟨T1, X1, e1, st1⟩ := getS2 X0 hx hZ hown (host := "") (Or.inl (hw _ (List.mem_of_getElem? (i := 12) rfl))) Via.refl e0 (S_w_LiabilityWeight_1__SwitchMap_com_example_suretyline_suretyline_PartyKind.ext O0.2) (g := (mkF m 0 #[.val (.ref w_PartyKind_FARMER)] [])) rfl (hb hby d2_0)
  refine Goes.to (T' := T1.setTop (mkF m 3 #[.val (.ref w_PartyKind_FARMER)] [(.ref w_LiabilityWeight_1__SwitchMap_com_example_suretyline_suretyline_PartyKind)])) st1 ?_
  refine Goes.to (T' := T1.setTop (mkF m 4 #[.val (.ref w_PartyKind_FARMER)] [(.ref w_PartyKind_FARMER), (.ref w_LiabilityWeight_1__SwitchMap_com_example_suretyline_suretyline_PartyKind)])) (fun t k => XS.aloadN X1.here hx rfl (hb hby d2_3) rfl rfl k) ?_
  obtain ⟨cq2, kq2, q2a, q2b, q2c⟩ := isOf hZ e1 (E_w_PartyKind_FARMER.ext O0.2)
  obtain ⟨_, _, ⟨T2, L2, k2, n2⟩, -, X2, ⟨Lc2, hQ2, l2, y2, z2⟩, st2⟩ := X1.virtualBackUp hx (x := (⟨"com/example/suretyline/suretyline/PartyKind", "ordinal", "()I"⟩ : MethodName)) (y := (⟨"java/lang/Enum", "ordinal", "()I"⟩ : MethodName)) (owner := "java/lang/Enum") hown (mvT hZ (hw _ (List.mem_of_getElem? (i := 15) rfl))) (mvT hZ (hw _ (List.mem_of_getElem? (i := 16) rfl))) (mvT hZ (hw _ (List.mem_of_getElem? (i := 17) rfl))) (by decide) (mvT hZ (hw _ (List.mem_of_getElem? (i := 19) rfl))) (mvT hZ (hw _ (List.mem_of_getElem? (i := 18) rfl))) (backOf (W := 1) (rmO l Z a0 hw [] w_PartyKind_FARMER w_PartyKind_SMALL_MICRO w_LiabilityWeight_1__SwitchMap_com_example_suretyline_suretyline_PartyKind w_LiabilityWeight_INCLUSIVE_LOAN w_PartyKind_OTHER w_LiabilityWeight_LOAN w_PartyKind_FARMER k_w_LiabilityWeight_1__SwitchMap_com_example_suretyline_suretyline_PartyKind (1 : Int32) h0 n0 O0 NF (F_ordinal_w_PartyKind_FARMER.ext O0.2)) hZ (hw _ (List.mem_of_getElem? (i := 21) rfl)) (hw _ (List.mem_of_getElem? (i := 20) rfl)) (by decide) (by decide)) q2a q2c (g := (mkF m 4 #[.val (.ref w_PartyKind_FARMER)] [(.ref w_PartyKind_FARMER), (.ref w_LiabilityWeight_1__SwitchMap_com_example_suretyline_suretyline_PartyKind)])) rfl (by rw [hml]; rfl) (Steps.refl _) (argsL := []) (rest := [(.ref w_LiabilityWeight_1__SwitchMap_com_example_suretyline_suretyline_PartyKind)]) (lenOf pd_4 rfl) rfl (by show 2 * 0 + _ ≤ _; exact Nat.le_of_eq rfl) (hb hby d2_4) (fun _ _ => ⟨rfl, e1, (by decide : 0 + 0 ≤ _), (by decide : 0 + 0 ≤ _)⟩)
  dsimp only [Pt.U, Pt.locs, Pt.cells, Pt.slots] at X2 l2 y2 z2 st2 hQ2
  subst l2 y2 z2
  obtain ⟨rfl, Nq2, e2⟩ := hQ2
  have N2 := Fr.app N0 Nq2
  refine Goes.thru (T' := T2.setTop (mkF m 7 #[.val (.ref w_PartyKind_FARMER)] [(.int (1 : Int32)), (.ref w_LiabilityWeight_1__SwitchMap_com_example_suretyline_suretyline_PartyKind)])) st2 ?_
  obtain ⟨cl3, Ar3, q3, S3, Ng3, H3, G3⟩ := id (V_w_LiabilityWeight_1__SwitchMap_com_example_suretyline_suretyline_PartyKind.ext O0.2)
  have hin3 : ¬ ((1 : Int32) < 0 ∨ cl3.slots.size ≤ ((1 : Int32)).toNatClampNeg) := inb_of S3 ⟨by decide, by decide⟩
  refine Goes.to (T' := T2.setTop (mkF m 8 #[.val (.ref w_PartyKind_FARMER)] [(.int (2 : Int32))])) (X2.iaload hx (j := (1 : Int32)) (v := (.int (2 : Int32))) (by rw [e2]; exact Ar3.1) (State.isArrayOf_alike hZ.alike Ar3.2.1) Ar3.2.2 hin3 (H3.at hin3 rfl) (g := (mkF m 7 #[.val (.ref w_PartyKind_FARMER)] [(.int (1 : Int32)), (.ref w_LiabilityWeight_1__SwitchMap_com_example_suretyline_suretyline_PartyKind)])) rfl rfl (hb hby d2_7)) ?_
  refine Goes.to (T' := T2.setTop (mkF m 52 #[.val (.ref w_PartyKind_FARMER)] [])) (fun t k => XS.tswIn X2.here hx rfl (pc0 := 8) (pc' := 52) rfl (hb hby d2_8) rfl (by decide) (o := 44) rfl (by decide) (by decide) k) ?_
  refine Goes.to (T' := T2.setTop (mkF m 55 #[.val (.ref w_PartyKind_FARMER)] [(.long (200000000 : Int64))])) (X2.ldc2Long hx hown (mvT hZ (hw _ (List.mem_of_getElem? (i := 38) rfl))) (g := (mkF m 52 #[.val (.ref w_PartyKind_FARMER)] [])) rfl (hb hby d2_52)) ?_
  refine Goes.to (T' := T2.setTop (mkF m 61 #[.val (.ref w_PartyKind_FARMER)] [(.long (200000000 : Int64))])) (fun t k => XS.goto X2.here hx rfl (pc0 := 55) (pc' := 61) rfl (hb hby d2_55) (by decide) (by decide) k) ?_
  obtain ⟨fs, hrL, hrun, hended, hW, hsame⟩ := X2.leave (v := some (.long (200000000 : Int64))) (fun h => by rw [Bd.returns] at h; cases h)
  subst hQf
  refine ⟨_, _, retOut X2 hx Bd.returns rfl (Or.inr (Or.inl ⟨rfl, rfl, _, rfl⟩)) (hb hby d2_61) hrL, hrun, hended, _, _, rfl, ?_, ⟨_, rfl⟩, hW, hsame.mono (by decide) (by decide)⟩
  show (fun (v : Option Value) (h : Heap) (L : List Loc) => v = some (.long (200000000 : Int64)) ∧ Fr n0 L ∧ h = h0) (some (.long (200000000 : Int64))) T2.heap _
  rw [e2]
  exact ⟨rfl, N2, rfl⟩
theorem ef_rmF1 (m : MethodId) (x0 : Addr) (x1 : Int64) : entryFrame m #[(.ref x0), (.long x1)] 5 = mkF m 0 #[.val (.ref x0), .val (.long x1), .second, .unset, .unset] [] := by first | (simp [entryFrame, mkF, argsToLocals, Value.category]; done) | rfl
def Q_rmF1 (Z : State) (am : Int64) (w_PartyKind_SMALL_MICRO : Addr) (w_LiabilityWeight_1__SwitchMap_com_example_suretyline_suretyline_PartyKind : Addr) (w_LiabilityWeight_INCLUSIVE_LOAN : Addr) (w_PartyKind_OTHER : Addr) (w_LiabilityWeight_LOAN : Addr) (w_PartyKind_FARMER : Addr) (k_w_LiabilityWeight_1__SwitchMap_com_example_suretyline_suretyline_PartyKind : ClassId) (r : Addr) (h0 : Heap) (n0 : Nat) (v : Option Value) (h : Heap) (L : List Loc) : Prop := v = some (.ref r) ∧ Fr n0 L ∧ h = h0
set_option maxRecDepth 65536 in
set_option maxHeartbeats 40000000 in
theorem rmF1 (l : Launch) (Z : State) (a0 : Array Value) (hw : ∀ d ∈ tables_1, d.before a0 Z = true) (ws : List Jvm.Cond) (am : Int64) (w_PartyKind_SMALL_MICRO : Addr) (w_LiabilityWeight_1__SwitchMap_com_example_suretyline_suretyline_PartyKind : Addr) (w_LiabilityWeight_INCLUSIVE_LOAN : Addr) (w_PartyKind_OTHER : Addr) (w_LiabilityWeight_LOAN : Addr) (w_PartyKind_FARMER : Addr) (k_w_LiabilityWeight_1__SwitchMap_com_example_suretyline_suretyline_PartyKind : ClassId) (r : Addr) (h0 : Heap) (n0 : Nat) (O0 : Old Z n0 h0) (NF : Nar Z w_PartyKind_SMALL_MICRO w_LiabilityWeight_1__SwitchMap_com_example_suretyline_suretyline_PartyKind w_LiabilityWeight_INCLUSIVE_LOAN w_PartyKind_OTHER w_LiabilityWeight_LOAN w_PartyKind_FARMER k_w_LiabilityWeight_1__SwitchMap_com_example_suretyline_suretyline_PartyKind) (hr : r = if (200000000 : Int64) < am then w_LiabilityWeight_LOAN else w_LiabilityWeight_INCLUSIVE_LOAN) :
    MetFree l (⟨"com/example/suretyline/suretyline/LiabilityWeight", "ofLoanInFen", "(Lcom/example/suretyline/suretyline/PartyKind;J)Lcom/example/suretyline/suretyline/LiabilityWeight;"⟩ : MethodName) (head1 (Jvm.Cond.code (⟨"com/example/suretyline/suretyline/LiabilityWeight", "ofLoanInFen", "(Lcom/example/suretyline/suretyline/PartyKind;J)Lcom/example/suretyline/suretyline/LiabilityWeight;"⟩ : MethodName) prog_27_method_11_code 5 (some (.object "com/example/suretyline/suretyline/LiabilityWeight")) :: ws) ({ frames := 2, cells := 0, slots := 0, locals := 48 } : Room)) (fun a U => a = #[(.ref w_PartyKind_FARMER), (.long am)] ∧ Z.Warmed39 U.vm ∧ U.heap = h0) (fun _ _ _ _ _ => True) (fun _ U o U' => ∃ v L, o = .returned v ∧ Q_rmF1 Z am w_PartyKind_SMALL_MICRO w_LiabilityWeight_1__SwitchMap_com_example_suretyline_suretyline_PartyKind w_LiabilityWeight_INCLUSIVE_LOAN w_PartyKind_OTHER w_LiabilityWeight_LOAN w_PartyKind_FARMER k_w_LiabilityWeight_1__SwitchMap_com_example_suretyline_suretyline_PartyKind r h0 n0 v U'.heap L ∧ FrameEnd U o U' L ({ frames := 2, cells := 0, slots := 0, locals := 48 } : Room).cells ({ frames := 2, cells := 0, slots := 0, locals := 48 } : Room).slots) := by
  refine MetFree.of_bodySF (plainFor_of_name pn_1) hisR ?_
  intro p e s m args below meth c s₁ Bd hml0 hP hK
  obtain ⟨rfl, hZ, hh⟩ := hP
  have hx := Bd.exec
  have hby := Bd.bytes
  have hml : c.maxLocals = 5 := hml0
  have hown : s.vm.findClass "com/example/suretyline/suretyline/LiabilityWeight" = some m.cls := findClass_of_methodNamed Bd.named
  have hnm := (name_of_methodNamed Bd.named Bd.method).1
  have X0 : Stand p l e ({ frames := 2, cells := 0, slots := 0, locals := 48 } : Room) s m #[(.ref w_PartyKind_FARMER), (.long am)] below meth c s₁ [] 0 0 := Stand.of_body Bd
  have e0 : s₁.heap = h0 := by rw [← hh, Bd.state]; rfl
  have N0 := Fr.nil n0
  suffices G : ∀ (Qf : Outcome → State → Prop), Qf = (fun (_ : Array Value) (U : State) (o : Outcome) (U' : State) => ∃ v L, o = .returned v ∧ Q_rmF1 Z am w_PartyKind_SMALL_MICRO w_LiabilityWeight_1__SwitchMap_com_example_suretyline_suretyline_PartyKind w_LiabilityWeight_INCLUSIVE_LOAN w_PartyKind_OTHER w_LiabilityWeight_LOAN w_PartyKind_FARMER k_w_LiabilityWeight_1__SwitchMap_com_example_suretyline_suretyline_PartyKind r h0 n0 v U'.heap L ∧ FrameEnd U o U' L ({ frames := 2, cells := 0, slots := 0, locals := 48 } : Room).cells ({ frames := 2, cells := 0, slots := 0, locals := 48 } : Room).slots) #[] s → Goes p.tables e below Qf (s₁.setTop (mkF m 0 #[.val (.ref w_PartyKind_FARMER), .val (.long am), .second, .unset, .unset] [])) by
    obtain ⟨s₂, o, g1, g2, g3, g4⟩ := G _ rfl
    exact ⟨s₂, o, castTop (ef_rmF1 m _ _) g1, g2, g3, g4⟩
  intro Qf hQf
  obtain ⟨S_w_PartyKind_SMALL_MICRO, E_w_PartyKind_SMALL_MICRO, S_w_LiabilityWeight_1__SwitchMap_com_example_suretyline_suretyline_PartyKind, S_w_LiabilityWeight_INCLUSIVE_LOAN, E_w_LiabilityWeight_INCLUSIVE_LOAN, S_w_PartyKind_OTHER, E_w_PartyKind_OTHER, S_w_LiabilityWeight_LOAN, E_w_LiabilityWeight_LOAN, S_w_PartyKind_FARMER, E_w_PartyKind_FARMER, F_ordinal_w_PartyKind_SMALL_MICRO, F_ordinal_w_PartyKind_OTHER, F_ordinal_w_PartyKind_FARMER, V_w_LiabilityWeight_1__SwitchMap_com_example_suretyline_suretyline_PartyKind⟩ := id NF
  refine Goes.to (T' := s₁.setTop (mkF m 1 #[.val (.ref w_PartyKind_FARMER), .val (.long am), .second, .unset, .unset] [(.ref w_PartyKind_FARMER)])) (fun t k => XS.aloadN X0.here hx rfl (hb hby d1_0) rfl rfl k) ?_
  obtain ⟨_, _, ⟨T1, L1, k1, n1⟩, -, X1, ⟨Lc1, hQ1, l1, y1, z1⟩, st1⟩ := Jvm.LawKit.callS X0 hx (y := (⟨"com/example/suretyline/suretyline/LiabilityWeight", "loanThreshold", "(Lcom/example/suretyline/suretyline/PartyKind;)J"⟩ : MethodName)) hown (mvT hZ (hw _ (List.mem_of_getElem? (i := 9) rfl))) (mvT hZ (hw _ (List.mem_of_getElem? (i := 10) rfl))) (mvT hZ (hw _ (List.mem_of_getElem? (i := 7) rfl))) (mvT hZ (hw _ (List.mem_of_getElem? (i := 11) rfl))) (by decide) (backOf (W := 0) (rmT1 l Z a0 hw []  w_PartyKind_SMALL_MICRO w_LiabilityWeight_1__SwitchMap_com_example_suretyline_suretyline_PartyKind w_LiabilityWeight_INCLUSIVE_LOAN w_PartyKind_OTHER w_LiabilityWeight_LOAN w_PartyKind_FARMER k_w_LiabilityWeight_1__SwitchMap_com_example_suretyline_suretyline_PartyKind  h0 n0 O0 NF ) hZ (hw _ (List.mem_of_getElem? (i := 11) rfl)) (hw _ (List.mem_of_getElem? (i := 7) rfl)) (by decide) (by decide)) (g := (mkF m 1 #[.val (.ref w_PartyKind_FARMER), .val (.long am), .second, .unset, .unset] [(.ref w_PartyKind_FARMER)])) rfl (by rw [hml]; rfl) (argsL := [(.ref w_PartyKind_FARMER)]) (rest := []) (lenOf pd_14 rfl) rfl (by show 2 * 0 + _ ≤ _; exact Nat.le_of_eq rfl) (hb hby d1_1) (fun _ _ => ⟨rfl, e0, (by decide : 0 + 0 ≤ _), (by decide : 0 + 0 ≤ _)⟩)
  dsimp only [Pt.U, Pt.locs, Pt.cells, Pt.slots] at X1 l1 y1 z1 st1 hQ1
  subst l1 y1 z1
  obtain ⟨rfl, Nq1, e1⟩ := hQ1
  have N1 := Fr.app N0 Nq1
  refine Goes.to (T' := T1.setTop (mkF m 4 #[.val (.ref w_PartyKind_FARMER), .val (.long am), .second, .unset, .unset] [(.long (200000000 : Int64))])) st1 ?_
  refine Goes.to (T' := T1.setTop (mkF m 5 #[.val (.ref w_PartyKind_FARMER), .val (.long am), .second, .val (.long (200000000 : Int64)), .second] [])) (fun t k => XS.lstoreN X1.here hx rfl (hb hby d1_4) rfl (l' := #[.val (.ref w_PartyKind_FARMER), .val (.long am), .second, .val (.long (200000000 : Int64)), .second]) rfl k) ?_
  refine Goes.to (T' := T1.setTop (mkF m 6 #[.val (.ref w_PartyKind_FARMER), .val (.long am), .second, .val (.long (200000000 : Int64)), .second] [(.long (200000000 : Int64))])) (fun t k => XS.lloadN X1.here hx rfl (hb hby d1_5) rfl k) ?_
  refine Goes.to (T' := T1.setTop (mkF m 9 #[.val (.ref w_PartyKind_FARMER), .val (.long am), .second, .val (.long (200000000 : Int64)), .second] [(.long (-1 : Int64)), (.long (200000000 : Int64))])) (X1.ldc2Long hx hown (mvT hZ (hw _ (List.mem_of_getElem? (i := 25) rfl))) (g := (mkF m 6 #[.val (.ref w_PartyKind_FARMER), .val (.long am), .second, .val (.long (200000000 : Int64)), .second] [(.long (200000000 : Int64))])) rfl (hb hby d1_6)) ?_
  refine Goes.to (T' := T1.setTop (mkF m 10 #[.val (.ref w_PartyKind_FARMER), .val (.long am), .second, .val (.long (200000000 : Int64)), .second] [(.int (lcmpW (200000000 : Int64) (-1 : Int64)))])) (fun t k => XS.lcmp X1.here hx rfl (hb hby d1_9) rfl k) ?_
  refine Goes.to (T' := T1.setTop (mkF m 13 #[.val (.ref w_PartyKind_FARMER), .val (.long am), .second, .val (.long (200000000 : Int64)), .second] [])) (fun t k => XS.ifNo X1.here hx rfl (hb hby d1_10) rfl ((if0 _ _).trans (feq (by decide)).1) k) ?_
  refine Goes.to (T' := T1.setTop (mkF m 14 #[.val (.ref w_PartyKind_FARMER), .val (.long am), .second, .val (.long (200000000 : Int64)), .second] [(.long am)])) (fun t k => XS.lloadN X1.here hx rfl (hb hby d1_13) rfl k) ?_
  refine Goes.to (T' := T1.setTop (mkF m 15 #[.val (.ref w_PartyKind_FARMER), .val (.long am), .second, .val (.long (200000000 : Int64)), .second] [(.long (200000000 : Int64)), (.long am)])) (fun t k => XS.lloadN X1.here hx rfl (hb hby d1_14) rfl k) ?_
  refine Goes.to (T' := T1.setTop (mkF m 16 #[.val (.ref w_PartyKind_FARMER), .val (.long am), .second, .val (.long (200000000 : Int64)), .second] [(.int (lcmpW am (200000000 : Int64)))])) (fun t k => XS.lcmp X1.here hx rfl (hb hby d1_15) rfl k) ?_
  rcases Decidable.em ((200000000 : Int64) < am) with hc16_2 | hc16_2
  · skip
    refine Goes.to (T' := T1.setTop (mkF m 25 #[.val (.ref w_PartyKind_FARMER), .val (.long am), .second, .val (.long (200000000 : Int64)), .second] [])) (fun t k => XS.ifYes X1.here hx rfl (pc0 := 16) (pc' := 25) rfl (hb hby d1_16) rfl ((if0 _ _).trans (tlt ((lw_gt am (200000000 : Int64)).mpr hc16_2)).2.2.1) (by decide) (by decide) k) ?_
    obtain ⟨T3, X3, e3, st3⟩ := getS2 X1 hx hZ hown (host := "") (Or.inl (hw _ (List.mem_of_getElem? (i := 33) rfl))) Via.refl e1 (S_w_LiabilityWeight_LOAN.ext O0.2) (g := (mkF m 25 #[.val (.ref w_PartyKind_FARMER), .val (.long am), .second, .val (.long (200000000 : Int64)), .second] [])) rfl (hb hby d1_25)
    refine Goes.to (T' := T3.setTop (mkF m 28 #[.val (.ref w_PartyKind_FARMER), .val (.long am), .second, .val (.long (200000000 : Int64)), .second] [(.ref w_LiabilityWeight_LOAN)])) st3 ?_
    obtain ⟨fs, hrL, hrun, hended, hW, hsame⟩ := X3.leave (v := some (.ref w_LiabilityWeight_LOAN)) (fun h => by rw [Bd.returns] at h; cases h)
    subst hQf
    refine ⟨_, _, retOut X3 hx Bd.returns rfl (Or.inr (Or.inr (Or.inr (Or.inr ⟨rfl, rfl, rfl⟩)))) (hb hby d1_28) hrL, hrun, hended, _, _, rfl, ?_, ⟨_, rfl⟩, hW, hsame.mono (by decide) (by decide)⟩
    show (fun (v : Option Value) (h : Heap) (L : List Loc) => v = some (.ref r) ∧ Fr n0 L ∧ h = h0) (some (.ref w_LiabilityWeight_LOAN)) T3.heap _
    rw [e3]
    have hv : w_LiabilityWeight_LOAN = r := by rw [hr]; first | (simp [hc16_2]; done) | ((repeat' split) <;> first | rfl | contradiction | simp_all)
    exact ⟨by rw [hv], N1, rfl⟩
  · skip
    refine Goes.to (T' := T1.setTop (mkF m 19 #[.val (.ref w_PartyKind_FARMER), .val (.long am), .second, .val (.long (200000000 : Int64)), .second] [])) (fun t k => XS.ifNo X1.here hx rfl (hb hby d1_16) rfl ((if0 _ _).trans (flt (fun q => hc16_2 ((lw_gt am (200000000 : Int64)).mp q))).2.2.1) k) ?_
    obtain ⟨T4, X4, e4, st4⟩ := getS2 X1 hx hZ hown (host := "") (Or.inl (hw _ (List.mem_of_getElem? (i := 26) rfl))) Via.refl e1 (S_w_LiabilityWeight_INCLUSIVE_LOAN.ext O0.2) (g := (mkF m 19 #[.val (.ref w_PartyKind_FARMER), .val (.long am), .second, .val (.long (200000000 : Int64)), .second] [])) rfl (hb hby d1_19)
    refine Goes.to (T' := T4.setTop (mkF m 22 #[.val (.ref w_PartyKind_FARMER), .val (.long am), .second, .val (.long (200000000 : Int64)), .second] [(.ref w_LiabilityWeight_INCLUSIVE_LOAN)])) st4 ?_
    refine Goes.to (T' := T4.setTop (mkF m 28 #[.val (.ref w_PartyKind_FARMER), .val (.long am), .second, .val (.long (200000000 : Int64)), .second] [(.ref w_LiabilityWeight_INCLUSIVE_LOAN)])) (fun t k => XS.goto X4.here hx rfl (pc0 := 22) (pc' := 28) rfl (hb hby d1_22) (by decide) (by decide) k) ?_
    obtain ⟨fs, hrL, hrun, hended, hW, hsame⟩ := X4.leave (v := some (.ref w_LiabilityWeight_INCLUSIVE_LOAN)) (fun h => by rw [Bd.returns] at h; cases h)
    subst hQf
    refine ⟨_, _, retOut X4 hx Bd.returns rfl (Or.inr (Or.inr (Or.inr (Or.inr ⟨rfl, rfl, rfl⟩)))) (hb hby d1_28) hrL, hrun, hended, _, _, rfl, ?_, ⟨_, rfl⟩, hW, hsame.mono (by decide) (by decide)⟩
    show (fun (v : Option Value) (h : Heap) (L : List Loc) => v = some (.ref r) ∧ Fr n0 L ∧ h = h0) (some (.ref w_LiabilityWeight_INCLUSIVE_LOAN)) T4.heap _
    rw [e4]
    have hv : w_LiabilityWeight_INCLUSIVE_LOAN = r := by rw [hr]; first | (simp [hc16_2]; done) | ((repeat' split) <;> first | rfl | contradiction | simp_all)
    exact ⟨by rw [hv], N1, rfl⟩
theorem d2_58 : decode prog_27_method_12_code 58 = .ok (.ldc2_w 111, 3) := by decide +kernel
theorem ef_rmT2 (m : MethodId) (x0 : Addr) : entryFrame m #[(.ref x0)] 1 = mkF m 0 #[.val (.ref x0)] [] := by first | (simp [entryFrame, mkF, argsToLocals, Value.category]; done) | rfl
def Q_rmT2 (Z : State) (w_PartyKind_SMALL_MICRO : Addr) (w_LiabilityWeight_1__SwitchMap_com_example_suretyline_suretyline_PartyKind : Addr) (w_LiabilityWeight_INCLUSIVE_LOAN : Addr) (w_PartyKind_OTHER : Addr) (w_LiabilityWeight_LOAN : Addr) (w_PartyKind_FARMER : Addr) (k_w_LiabilityWeight_1__SwitchMap_com_example_suretyline_suretyline_PartyKind : ClassId) (h0 : Heap) (n0 : Nat) (v : Option Value) (h : Heap) (L : List Loc) : Prop := v = some (.long (-1 : Int64)) ∧ Fr n0 L ∧ h = h0
set_option maxRecDepth 65536 in
set_option maxHeartbeats 40000000 in
theorem rmT2 (l : Launch) (Z : State) (a0 : Array Value) (hw : ∀ d ∈ tables_1, d.before a0 Z = true) (ws : List Jvm.Cond) (w_PartyKind_SMALL_MICRO : Addr) (w_LiabilityWeight_1__SwitchMap_com_example_suretyline_suretyline_PartyKind : Addr) (w_LiabilityWeight_INCLUSIVE_LOAN : Addr) (w_PartyKind_OTHER : Addr) (w_LiabilityWeight_LOAN : Addr) (w_PartyKind_FARMER : Addr) (k_w_LiabilityWeight_1__SwitchMap_com_example_suretyline_suretyline_PartyKind : ClassId) (h0 : Heap) (n0 : Nat) (O0 : Old Z n0 h0) (NF : Nar Z w_PartyKind_SMALL_MICRO w_LiabilityWeight_1__SwitchMap_com_example_suretyline_suretyline_PartyKind w_LiabilityWeight_INCLUSIVE_LOAN w_PartyKind_OTHER w_LiabilityWeight_LOAN w_PartyKind_FARMER k_w_LiabilityWeight_1__SwitchMap_com_example_suretyline_suretyline_PartyKind) :
    MetFree l (⟨"com/example/suretyline/suretyline/LiabilityWeight", "loanThreshold", "(Lcom/example/suretyline/suretyline/PartyKind;)J"⟩ : MethodName) (head1 (Jvm.Cond.code (⟨"com/example/suretyline/suretyline/LiabilityWeight", "loanThreshold", "(Lcom/example/suretyline/suretyline/PartyKind;)J"⟩ : MethodName) prog_27_method_12_code 1 (some .long) :: ws) ({ frames := 1, cells := 0, slots := 0, locals := 16 } : Room)) (fun a U => a = #[(.ref w_PartyKind_OTHER)] ∧ Z.Warmed39 U.vm ∧ U.heap = h0) (fun _ _ _ _ _ => True) (fun _ U o U' => ∃ v L, o = .returned v ∧ Q_rmT2 Z w_PartyKind_SMALL_MICRO w_LiabilityWeight_1__SwitchMap_com_example_suretyline_suretyline_PartyKind w_LiabilityWeight_INCLUSIVE_LOAN w_PartyKind_OTHER w_LiabilityWeight_LOAN w_PartyKind_FARMER k_w_LiabilityWeight_1__SwitchMap_com_example_suretyline_suretyline_PartyKind h0 n0 v U'.heap L ∧ FrameEnd U o U' L ({ frames := 1, cells := 0, slots := 0, locals := 16 } : Room).cells ({ frames := 1, cells := 0, slots := 0, locals := 16 } : Room).slots) := by
  refine MetFree.of_bodySF (plainFor_of_name pn_2) hisR ?_
  intro p e s m args below meth c s₁ Bd hml0 hP hK
  obtain ⟨rfl, hZ, hh⟩ := hP
  have hx := Bd.exec
  have hby := Bd.bytes
  have hml : c.maxLocals = 1 := hml0
  have hown : s.vm.findClass "com/example/suretyline/suretyline/LiabilityWeight" = some m.cls := findClass_of_methodNamed Bd.named
  have hnm := (name_of_methodNamed Bd.named Bd.method).1
  have X0 : Stand p l e ({ frames := 1, cells := 0, slots := 0, locals := 16 } : Room) s m #[(.ref w_PartyKind_OTHER)] below meth c s₁ [] 0 0 := Stand.of_body Bd
  have e0 : s₁.heap = h0 := by rw [← hh, Bd.state]; rfl
  have N0 := Fr.nil n0
  suffices G : ∀ (Qf : Outcome → State → Prop), Qf = (fun (_ : Array Value) (U : State) (o : Outcome) (U' : State) => ∃ v L, o = .returned v ∧ Q_rmT2 Z w_PartyKind_SMALL_MICRO w_LiabilityWeight_1__SwitchMap_com_example_suretyline_suretyline_PartyKind w_LiabilityWeight_INCLUSIVE_LOAN w_PartyKind_OTHER w_LiabilityWeight_LOAN w_PartyKind_FARMER k_w_LiabilityWeight_1__SwitchMap_com_example_suretyline_suretyline_PartyKind h0 n0 v U'.heap L ∧ FrameEnd U o U' L ({ frames := 1, cells := 0, slots := 0, locals := 16 } : Room).cells ({ frames := 1, cells := 0, slots := 0, locals := 16 } : Room).slots) #[] s → Goes p.tables e below Qf (s₁.setTop (mkF m 0 #[.val (.ref w_PartyKind_OTHER)] [])) by
    obtain ⟨s₂, o, g1, g2, g3, g4⟩ := G _ rfl
    exact ⟨s₂, o, castTop (ef_rmT2 m _) g1, g2, g3, g4⟩
  intro Qf hQf
  obtain ⟨S_w_PartyKind_SMALL_MICRO, E_w_PartyKind_SMALL_MICRO, S_w_LiabilityWeight_1__SwitchMap_com_example_suretyline_suretyline_PartyKind, S_w_LiabilityWeight_INCLUSIVE_LOAN, E_w_LiabilityWeight_INCLUSIVE_LOAN, S_w_PartyKind_OTHER, E_w_PartyKind_OTHER, S_w_LiabilityWeight_LOAN, E_w_LiabilityWeight_LOAN, S_w_PartyKind_FARMER, E_w_PartyKind_FARMER, F_ordinal_w_PartyKind_SMALL_MICRO, F_ordinal_w_PartyKind_OTHER, F_ordinal_w_PartyKind_FARMER, V_w_LiabilityWeight_1__SwitchMap_com_example_suretyline_suretyline_PartyKind⟩ := id NF
  obtain ⟨T1, X1, e1, st1⟩ := getS2 X0 hx hZ hown (host := "") (Or.inl (hw _ (List.mem_of_getElem? (i := 12) rfl))) Via.refl e0 (S_w_LiabilityWeight_1__SwitchMap_com_example_suretyline_suretyline_PartyKind.ext O0.2) (g := (mkF m 0 #[.val (.ref w_PartyKind_OTHER)] [])) rfl (hb hby d2_0)
  refine Goes.to (T' := T1.setTop (mkF m 3 #[.val (.ref w_PartyKind_OTHER)] [(.ref w_LiabilityWeight_1__SwitchMap_com_example_suretyline_suretyline_PartyKind)])) st1 ?_
  refine Goes.to (T' := T1.setTop (mkF m 4 #[.val (.ref w_PartyKind_OTHER)] [(.ref w_PartyKind_OTHER), (.ref w_LiabilityWeight_1__SwitchMap_com_example_suretyline_suretyline_PartyKind)])) (fun t k => XS.aloadN X1.here hx rfl (hb hby d2_3) rfl rfl k) ?_
  obtain ⟨cq2, kq2, q2a, q2b, q2c⟩ := isOf hZ e1 (E_w_PartyKind_OTHER.ext O0.2)
  obtain ⟨_, _, ⟨T2, L2, k2, n2⟩, -, X2, ⟨Lc2, hQ2, l2, y2, z2⟩, st2⟩ := X1.virtualBackUp hx (x := (⟨"com/example/suretyline/suretyline/PartyKind", "ordinal", "()I"⟩ : MethodName)) (y := (⟨"java/lang/Enum", "ordinal", "()I"⟩ : MethodName)) (owner := "java/lang/Enum") hown (mvT hZ (hw _ (List.mem_of_getElem? (i := 15) rfl))) (mvT hZ (hw _ (List.mem_of_getElem? (i := 16) rfl))) (mvT hZ (hw _ (List.mem_of_getElem? (i := 17) rfl))) (by decide) (mvT hZ (hw _ (List.mem_of_getElem? (i := 19) rfl))) (mvT hZ (hw _ (List.mem_of_getElem? (i := 18) rfl))) (backOf (W := 1) (rmO l Z a0 hw [] w_PartyKind_OTHER w_PartyKind_SMALL_MICRO w_LiabilityWeight_1__SwitchMap_com_example_suretyline_suretyline_PartyKind w_LiabilityWeight_INCLUSIVE_LOAN w_PartyKind_OTHER w_LiabilityWeight_LOAN w_PartyKind_FARMER k_w_LiabilityWeight_1__SwitchMap_com_example_suretyline_suretyline_PartyKind (2 : Int32) h0 n0 O0 NF (F_ordinal_w_PartyKind_OTHER.ext O0.2)) hZ (hw _ (List.mem_of_getElem? (i := 21) rfl)) (hw _ (List.mem_of_getElem? (i := 20) rfl)) (by decide) (by decide)) q2a q2c (g := (mkF m 4 #[.val (.ref w_PartyKind_OTHER)] [(.ref w_PartyKind_OTHER), (.ref w_LiabilityWeight_1__SwitchMap_com_example_suretyline_suretyline_PartyKind)])) rfl (by rw [hml]; rfl) (Steps.refl _) (argsL := []) (rest := [(.ref w_LiabilityWeight_1__SwitchMap_com_example_suretyline_suretyline_PartyKind)]) (lenOf pd_4 rfl) rfl (by show 2 * 0 + _ ≤ _; exact Nat.le_of_eq rfl) (hb hby d2_4) (fun _ _ => ⟨rfl, e1, (by decide : 0 + 0 ≤ _), (by decide : 0 + 0 ≤ _)⟩)
  dsimp only [Pt.U, Pt.locs, Pt.cells, Pt.slots] at X2 l2 y2 z2 st2 hQ2
  subst l2 y2 z2
  obtain ⟨rfl, Nq2, e2⟩ := hQ2
  have N2 := Fr.app N0 Nq2
  refine Goes.thru (T' := T2.setTop (mkF m 7 #[.val (.ref w_PartyKind_OTHER)] [(.int (2 : Int32)), (.ref w_LiabilityWeight_1__SwitchMap_com_example_suretyline_suretyline_PartyKind)])) st2 ?_
  obtain ⟨cl3, Ar3, q3, S3, Ng3, H3, G3⟩ := id (V_w_LiabilityWeight_1__SwitchMap_com_example_suretyline_suretyline_PartyKind.ext O0.2)
  have hin3 : ¬ ((2 : Int32) < 0 ∨ cl3.slots.size ≤ ((2 : Int32)).toNatClampNeg) := inb_of S3 ⟨by decide, by decide⟩
  refine Goes.to (T' := T2.setTop (mkF m 8 #[.val (.ref w_PartyKind_OTHER)] [(.int (3 : Int32))])) (X2.iaload hx (j := (2 : Int32)) (v := (.int (3 : Int32))) (by rw [e2]; exact Ar3.1) (State.isArrayOf_alike hZ.alike Ar3.2.1) Ar3.2.2 hin3 (H3.at hin3 rfl) (g := (mkF m 7 #[.val (.ref w_PartyKind_OTHER)] [(.int (2 : Int32)), (.ref w_LiabilityWeight_1__SwitchMap_com_example_suretyline_suretyline_PartyKind)])) rfl rfl (hb hby d2_7)) ?_
  refine Goes.to (T' := T2.setTop (mkF m 58 #[.val (.ref w_PartyKind_OTHER)] [])) (fun t k => XS.tswIn X2.here hx rfl (pc0 := 8) (pc' := 58) rfl (hb hby d2_8) rfl (by decide) (o := 50) rfl (by decide) (by decide) k) ?_
  refine Goes.to (T' := T2.setTop (mkF m 61 #[.val (.ref w_PartyKind_OTHER)] [(.long (-1 : Int64))])) (X2.ldc2Long hx hown (mvT hZ (hw _ (List.mem_of_getElem? (i := 25) rfl))) (g := (mkF m 58 #[.val (.ref w_PartyKind_OTHER)] [])) rfl (hb hby d2_58)) ?_
  obtain ⟨fs, hrL, hrun, hended, hW, hsame⟩ := X2.leave (v := some (.long (-1 : Int64))) (fun h => by rw [Bd.returns] at h; cases h)
  subst hQf
  refine ⟨_, _, retOut X2 hx Bd.returns rfl (Or.inr (Or.inl ⟨rfl, rfl, _, rfl⟩)) (hb hby d2_61) hrL, hrun, hended, _, _, rfl, ?_, ⟨_, rfl⟩, hW, hsame.mono (by decide) (by decide)⟩
  show (fun (v : Option Value) (h : Heap) (L : List Loc) => v = some (.long (-1 : Int64)) ∧ Fr n0 L ∧ h = h0) (some (.long (-1 : Int64))) T2.heap _
  rw [e2]
  exact ⟨rfl, N2, rfl⟩
theorem ef_rmF2 (m : MethodId) (x0 : Addr) (x1 : Int64) : entryFrame m #[(.ref x0), (.long x1)] 5 = mkF m 0 #[.val (.ref x0), .val (.long x1), .second, .unset, .unset] [] := by first | (simp [entryFrame, mkF, argsToLocals, Value.category]; done) | rfl
def Q_rmF2 (Z : State) (am : Int64) (w_PartyKind_SMALL_MICRO : Addr) (w_LiabilityWeight_1__SwitchMap_com_example_suretyline_suretyline_PartyKind : Addr) (w_LiabilityWeight_INCLUSIVE_LOAN : Addr) (w_PartyKind_OTHER : Addr) (w_LiabilityWeight_LOAN : Addr) (w_PartyKind_FARMER : Addr) (k_w_LiabilityWeight_1__SwitchMap_com_example_suretyline_suretyline_PartyKind : ClassId) (r : Addr) (h0 : Heap) (n0 : Nat) (v : Option Value) (h : Heap) (L : List Loc) : Prop := v = some (.ref r) ∧ Fr n0 L ∧ h = h0
set_option maxRecDepth 65536 in
set_option maxHeartbeats 40000000 in
theorem rmF2 (l : Launch) (Z : State) (a0 : Array Value) (hw : ∀ d ∈ tables_1, d.before a0 Z = true) (ws : List Jvm.Cond) (am : Int64) (w_PartyKind_SMALL_MICRO : Addr) (w_LiabilityWeight_1__SwitchMap_com_example_suretyline_suretyline_PartyKind : Addr) (w_LiabilityWeight_INCLUSIVE_LOAN : Addr) (w_PartyKind_OTHER : Addr) (w_LiabilityWeight_LOAN : Addr) (w_PartyKind_FARMER : Addr) (k_w_LiabilityWeight_1__SwitchMap_com_example_suretyline_suretyline_PartyKind : ClassId) (r : Addr) (h0 : Heap) (n0 : Nat) (O0 : Old Z n0 h0) (NF : Nar Z w_PartyKind_SMALL_MICRO w_LiabilityWeight_1__SwitchMap_com_example_suretyline_suretyline_PartyKind w_LiabilityWeight_INCLUSIVE_LOAN w_PartyKind_OTHER w_LiabilityWeight_LOAN w_PartyKind_FARMER k_w_LiabilityWeight_1__SwitchMap_com_example_suretyline_suretyline_PartyKind) (hr : r = w_LiabilityWeight_LOAN) :
    MetFree l (⟨"com/example/suretyline/suretyline/LiabilityWeight", "ofLoanInFen", "(Lcom/example/suretyline/suretyline/PartyKind;J)Lcom/example/suretyline/suretyline/LiabilityWeight;"⟩ : MethodName) (head1 (Jvm.Cond.code (⟨"com/example/suretyline/suretyline/LiabilityWeight", "ofLoanInFen", "(Lcom/example/suretyline/suretyline/PartyKind;J)Lcom/example/suretyline/suretyline/LiabilityWeight;"⟩ : MethodName) prog_27_method_11_code 5 (some (.object "com/example/suretyline/suretyline/LiabilityWeight")) :: ws) ({ frames := 2, cells := 0, slots := 0, locals := 48 } : Room)) (fun a U => a = #[(.ref w_PartyKind_OTHER), (.long am)] ∧ Z.Warmed39 U.vm ∧ U.heap = h0) (fun _ _ _ _ _ => True) (fun _ U o U' => ∃ v L, o = .returned v ∧ Q_rmF2 Z am w_PartyKind_SMALL_MICRO w_LiabilityWeight_1__SwitchMap_com_example_suretyline_suretyline_PartyKind w_LiabilityWeight_INCLUSIVE_LOAN w_PartyKind_OTHER w_LiabilityWeight_LOAN w_PartyKind_FARMER k_w_LiabilityWeight_1__SwitchMap_com_example_suretyline_suretyline_PartyKind r h0 n0 v U'.heap L ∧ FrameEnd U o U' L ({ frames := 2, cells := 0, slots := 0, locals := 48 } : Room).cells ({ frames := 2, cells := 0, slots := 0, locals := 48 } : Room).slots) := by
  refine MetFree.of_bodySF (plainFor_of_name pn_1) hisR ?_
  intro p e s m args below meth c s₁ Bd hml0 hP hK
  obtain ⟨rfl, hZ, hh⟩ := hP
  have hx := Bd.exec
  have hby := Bd.bytes
  have hml : c.maxLocals = 5 := hml0
  have hown : s.vm.findClass "com/example/suretyline/suretyline/LiabilityWeight" = some m.cls := findClass_of_methodNamed Bd.named
  have hnm := (name_of_methodNamed Bd.named Bd.method).1
  have X0 : Stand p l e ({ frames := 2, cells := 0, slots := 0, locals := 48 } : Room) s m #[(.ref w_PartyKind_OTHER), (.long am)] below meth c s₁ [] 0 0 := Stand.of_body Bd
  have e0 : s₁.heap = h0 := by rw [← hh, Bd.state]; rfl
  have N0 := Fr.nil n0
  suffices G : ∀ (Qf : Outcome → State → Prop), Qf = (fun (_ : Array Value) (U : State) (o : Outcome) (U' : State) => ∃ v L, o = .returned v ∧ Q_rmF2 Z am w_PartyKind_SMALL_MICRO w_LiabilityWeight_1__SwitchMap_com_example_suretyline_suretyline_PartyKind w_LiabilityWeight_INCLUSIVE_LOAN w_PartyKind_OTHER w_LiabilityWeight_LOAN w_PartyKind_FARMER k_w_LiabilityWeight_1__SwitchMap_com_example_suretyline_suretyline_PartyKind r h0 n0 v U'.heap L ∧ FrameEnd U o U' L ({ frames := 2, cells := 0, slots := 0, locals := 48 } : Room).cells ({ frames := 2, cells := 0, slots := 0, locals := 48 } : Room).slots) #[] s → Goes p.tables e below Qf (s₁.setTop (mkF m 0 #[.val (.ref w_PartyKind_OTHER), .val (.long am), .second, .unset, .unset] [])) by
    obtain ⟨s₂, o, g1, g2, g3, g4⟩ := G _ rfl
    exact ⟨s₂, o, castTop (ef_rmF2 m _ _) g1, g2, g3, g4⟩
  intro Qf hQf
  obtain ⟨S_w_PartyKind_SMALL_MICRO, E_w_PartyKind_SMALL_MICRO, S_w_LiabilityWeight_1__SwitchMap_com_example_suretyline_suretyline_PartyKind, S_w_LiabilityWeight_INCLUSIVE_LOAN, E_w_LiabilityWeight_INCLUSIVE_LOAN, S_w_PartyKind_OTHER, E_w_PartyKind_OTHER, S_w_LiabilityWeight_LOAN, E_w_LiabilityWeight_LOAN, S_w_PartyKind_FARMER, E_w_PartyKind_FARMER, F_ordinal_w_PartyKind_SMALL_MICRO, F_ordinal_w_PartyKind_OTHER, F_ordinal_w_PartyKind_FARMER, V_w_LiabilityWeight_1__SwitchMap_com_example_suretyline_suretyline_PartyKind⟩ := id NF
  refine Goes.to (T' := s₁.setTop (mkF m 1 #[.val (.ref w_PartyKind_OTHER), .val (.long am), .second, .unset, .unset] [(.ref w_PartyKind_OTHER)])) (fun t k => XS.aloadN X0.here hx rfl (hb hby d1_0) rfl rfl k) ?_
  obtain ⟨_, _, ⟨T1, L1, k1, n1⟩, -, X1, ⟨Lc1, hQ1, l1, y1, z1⟩, st1⟩ := Jvm.LawKit.callS X0 hx (y := (⟨"com/example/suretyline/suretyline/LiabilityWeight", "loanThreshold", "(Lcom/example/suretyline/suretyline/PartyKind;)J"⟩ : MethodName)) hown (mvT hZ (hw _ (List.mem_of_getElem? (i := 9) rfl))) (mvT hZ (hw _ (List.mem_of_getElem? (i := 10) rfl))) (mvT hZ (hw _ (List.mem_of_getElem? (i := 7) rfl))) (mvT hZ (hw _ (List.mem_of_getElem? (i := 11) rfl))) (by decide) (backOf (W := 0) (rmT2 l Z a0 hw []  w_PartyKind_SMALL_MICRO w_LiabilityWeight_1__SwitchMap_com_example_suretyline_suretyline_PartyKind w_LiabilityWeight_INCLUSIVE_LOAN w_PartyKind_OTHER w_LiabilityWeight_LOAN w_PartyKind_FARMER k_w_LiabilityWeight_1__SwitchMap_com_example_suretyline_suretyline_PartyKind  h0 n0 O0 NF ) hZ (hw _ (List.mem_of_getElem? (i := 11) rfl)) (hw _ (List.mem_of_getElem? (i := 7) rfl)) (by decide) (by decide)) (g := (mkF m 1 #[.val (.ref w_PartyKind_OTHER), .val (.long am), .second, .unset, .unset] [(.ref w_PartyKind_OTHER)])) rfl (by rw [hml]; rfl) (argsL := [(.ref w_PartyKind_OTHER)]) (rest := []) (lenOf pd_14 rfl) rfl (by show 2 * 0 + _ ≤ _; exact Nat.le_of_eq rfl) (hb hby d1_1) (fun _ _ => ⟨rfl, e0, (by decide : 0 + 0 ≤ _), (by decide : 0 + 0 ≤ _)⟩)
  dsimp only [Pt.U, Pt.locs, Pt.cells, Pt.slots] at X1 l1 y1 z1 st1 hQ1
  subst l1 y1 z1
  obtain ⟨rfl, Nq1, e1⟩ := hQ1
  have N1 := Fr.app N0 Nq1
  refine Goes.to (T' := T1.setTop (mkF m 4 #[.val (.ref w_PartyKind_OTHER), .val (.long am), .second, .unset, .unset] [(.long (-1 : Int64))])) st1 ?_
  refine Goes.to (T' := T1.setTop (mkF m 5 #[.val (.ref w_PartyKind_OTHER), .val (.long am), .second, .val (.long (-1 : Int64)), .second] [])) (fun t k => XS.lstoreN X1.here hx rfl (hb hby d1_4) rfl (l' := #[.val (.ref w_PartyKind_OTHER), .val (.long am), .second, .val (.long (-1 : Int64)), .second]) rfl k) ?_
  refine Goes.to (T' := T1.setTop (mkF m 6 #[.val (.ref w_PartyKind_OTHER), .val (.long am), .second, .val (.long (-1 : Int64)), .second] [(.long (-1 : Int64))])) (fun t k => XS.lloadN X1.here hx rfl (hb hby d1_5) rfl k) ?_
  refine Goes.to (T' := T1.setTop (mkF m 9 #[.val (.ref w_PartyKind_OTHER), .val (.long am), .second, .val (.long (-1 : Int64)), .second] [(.long (-1 : Int64)), (.long (-1 : Int64))])) (X1.ldc2Long hx hown (mvT hZ (hw _ (List.mem_of_getElem? (i := 25) rfl))) (g := (mkF m 6 #[.val (.ref w_PartyKind_OTHER), .val (.long am), .second, .val (.long (-1 : Int64)), .second] [(.long (-1 : Int64))])) rfl (hb hby d1_6)) ?_
  refine Goes.to (T' := T1.setTop (mkF m 10 #[.val (.ref w_PartyKind_OTHER), .val (.long am), .second, .val (.long (-1 : Int64)), .second] [(.int (lcmpW (-1 : Int64) (-1 : Int64)))])) (fun t k => XS.lcmp X1.here hx rfl (hb hby d1_9) rfl k) ?_
  refine Goes.to (T' := T1.setTop (mkF m 25 #[.val (.ref w_PartyKind_OTHER), .val (.long am), .second, .val (.long (-1 : Int64)), .second] [])) (fun t k => XS.ifYes X1.here hx rfl (pc0 := 10) (pc' := 25) rfl (hb hby d1_10) rfl ((if0 _ _).trans (teq (by decide)).1) (by decide) (by decide) k) ?_
  obtain ⟨T2, X2, e2, st2⟩ := getS2 X1 hx hZ hown (host := "") (Or.inl (hw _ (List.mem_of_getElem? (i := 33) rfl))) Via.refl e1 (S_w_LiabilityWeight_LOAN.ext O0.2) (g := (mkF m 25 #[.val (.ref w_PartyKind_OTHER), .val (.long am), .second, .val (.long (-1 : Int64)), .second] [])) rfl (hb hby d1_25)
  refine Goes.to (T' := T2.setTop (mkF m 28 #[.val (.ref w_PartyKind_OTHER), .val (.long am), .second, .val (.long (-1 : Int64)), .second] [(.ref w_LiabilityWeight_LOAN)])) st2 ?_
  obtain ⟨fs, hrL, hrun, hended, hW, hsame⟩ := X2.leave (v := some (.ref w_LiabilityWeight_LOAN)) (fun h => by rw [Bd.returns] at h; cases h)
  subst hQf
  refine ⟨_, _, retOut X2 hx Bd.returns rfl (Or.inr (Or.inr (Or.inr (Or.inr ⟨rfl, rfl, rfl⟩)))) (hb hby d1_28) hrL, hrun, hended, _, _, rfl, ?_, ⟨_, rfl⟩, hW, hsame.mono (by decide) (by decide)⟩
  show (fun (v : Option Value) (h : Heap) (L : List Loc) => v = some (.ref r) ∧ Fr n0 L ∧ h = h0) (some (.ref w_LiabilityWeight_LOAN)) T2.heap _
  rw [e2]
  have hv : w_LiabilityWeight_LOAN = r := by rw [hr]
  exact ⟨by rw [hv], N1, rfl⟩
theorem pd_34 : parseMethodDescriptor "(Lcom/example/suretyline/suretyline/PartyKind;J)Lcom/example/suretyline/suretyline/LiabilityWeight;" = some ⟨[(.object "com/example/suretyline/suretyline/PartyKind"), .long], some (.object "com/example/suretyline/suretyline/LiabilityWeight")⟩ := by decide +kernel
theorem pn_0 : plainName "com/example/suretyline/suretyline/LiabilityWeightOfLoanInFenPinLaw" = true := by first | (simp [plainName, overriddenIn]; done) | decide +kernel
theorem ef_rm0 (m : MethodId) (x0 : Int32) (x1 : Int32) (x2 : Int64) (x3 : Int32) : entryFrame m #[(.int x0), (.int x1), (.long x2), (.int x3)] maxLocals = mkF m 0 #[.val (.int x0), .val (.int x1), .val (.long x2), .second, .val (.int x3), .unset, .unset, .unset, .unset, .unset, .unset, .unset] [] := by first | (simp [entryFrame, mkF, argsToLocals, Value.category, maxLocals]; done) | rfl
def Q_rm0 (Z : State) (p0 : Int32) (p1 : Int32) (q2 : Int64) (p3 : Int32) (w_PartyKind_SMALL_MICRO : Addr) (w_LiabilityWeight_1__SwitchMap_com_example_suretyline_suretyline_PartyKind : Addr) (w_LiabilityWeight_INCLUSIVE_LOAN : Addr) (w_PartyKind_OTHER : Addr) (w_LiabilityWeight_LOAN : Addr) (w_PartyKind_FARMER : Addr) (k_w_LiabilityWeight_1__SwitchMap_com_example_suretyline_suretyline_PartyKind : ClassId) (h0 : Heap) (n0 : Nat) (v : Option Value) (h : Heap) (L : List Loc) : Prop := v = some (.int 1) ∧ Fr n0 L
set_option maxRecDepth 65536 in
set_option maxHeartbeats 40000000 in
theorem rm0 (l : Launch) (Z : State) (a0 : Array Value) (hw : ∀ d ∈ tables_1, d.before a0 Z = true) (ws : List Jvm.Cond) (p0 : Int32) (p1 : Int32) (q2 : Int64) (p3 : Int32) (w_PartyKind_SMALL_MICRO : Addr) (w_LiabilityWeight_1__SwitchMap_com_example_suretyline_suretyline_PartyKind : Addr) (w_LiabilityWeight_INCLUSIVE_LOAN : Addr) (w_PartyKind_OTHER : Addr) (w_LiabilityWeight_LOAN : Addr) (w_PartyKind_FARMER : Addr) (k_w_LiabilityWeight_1__SwitchMap_com_example_suretyline_suretyline_PartyKind : ClassId) (h0 : Heap) (n0 : Nat) (O0 : Old Z n0 h0) (NF : Nar Z w_PartyKind_SMALL_MICRO w_LiabilityWeight_1__SwitchMap_com_example_suretyline_suretyline_PartyKind w_LiabilityWeight_INCLUSIVE_LOAN w_PartyKind_OTHER w_LiabilityWeight_LOAN w_PartyKind_FARMER k_w_LiabilityWeight_1__SwitchMap_com_example_suretyline_suretyline_PartyKind) :
    MetFree l x (head1 (Jvm.Cond.code x code maxLocals ret :: ws) room_1) (fun a U => a = #[(.int p0), (.int p1), (.long q2), (.int p3)] ∧ Z.Warmed39 U.vm ∧ U.heap = h0) (fun _ _ _ _ _ => True) (fun _ U o U' => ∃ v L, o = .returned v ∧ Q_rm0 Z p0 p1 q2 p3 w_PartyKind_SMALL_MICRO w_LiabilityWeight_1__SwitchMap_com_example_suretyline_suretyline_PartyKind w_LiabilityWeight_INCLUSIVE_LOAN w_PartyKind_OTHER w_LiabilityWeight_LOAN w_PartyKind_FARMER k_w_LiabilityWeight_1__SwitchMap_com_example_suretyline_suretyline_PartyKind h0 n0 v U'.heap L ∧ FrameEnd U o U' L room_1.cells room_1.slots) := by
  refine MetFree.of_bodySF (plainFor_of_name pn_0) hisR ?_
  intro p e s m args below meth c s₁ Bd hml0 hP hK
  obtain ⟨rfl, hZ, hh⟩ := hP
  have hx := Bd.exec
  have hby := Bd.bytes
  have hml : c.maxLocals = 12 := hml0
  have hown : s.vm.findClass "com/example/suretyline/suretyline/LiabilityWeightOfLoanInFenPinLaw" = some m.cls := findClass_of_methodNamed Bd.named
  have hnm := (name_of_methodNamed Bd.named Bd.method).1
  have X0 : Stand p l e room_1 s m #[(.int p0), (.int p1), (.long q2), (.int p3)] below meth c s₁ [] 0 0 := Stand.of_body Bd
  have e0 : s₁.heap = h0 := by rw [← hh, Bd.state]; rfl
  have N0 := Fr.nil n0
  suffices G : ∀ (Qf : Outcome → State → Prop), Qf = (fun (_ : Array Value) (U : State) (o : Outcome) (U' : State) => ∃ v L, o = .returned v ∧ Q_rm0 Z p0 p1 q2 p3 w_PartyKind_SMALL_MICRO w_LiabilityWeight_1__SwitchMap_com_example_suretyline_suretyline_PartyKind w_LiabilityWeight_INCLUSIVE_LOAN w_PartyKind_OTHER w_LiabilityWeight_LOAN w_PartyKind_FARMER k_w_LiabilityWeight_1__SwitchMap_com_example_suretyline_suretyline_PartyKind h0 n0 v U'.heap L ∧ FrameEnd U o U' L room_1.cells room_1.slots) #[] s → Goes p.tables e below Qf (s₁.setTop (mkF m 0 #[.val (.int p0), .val (.int p1), .val (.long q2), .second, .val (.int p3), .unset, .unset, .unset, .unset, .unset, .unset, .unset] [])) by
    obtain ⟨s₂, o, g1, g2, g3, g4⟩ := G _ rfl
    exact ⟨s₂, o, castTop (ef_rm0 m _ _ _ _) g1, g2, g3, g4⟩
  intro Qf hQf
  obtain ⟨S_w_PartyKind_SMALL_MICRO, E_w_PartyKind_SMALL_MICRO, S_w_LiabilityWeight_1__SwitchMap_com_example_suretyline_suretyline_PartyKind, S_w_LiabilityWeight_INCLUSIVE_LOAN, E_w_LiabilityWeight_INCLUSIVE_LOAN, S_w_PartyKind_OTHER, E_w_PartyKind_OTHER, S_w_LiabilityWeight_LOAN, E_w_LiabilityWeight_LOAN, S_w_PartyKind_FARMER, E_w_PartyKind_FARMER, F_ordinal_w_PartyKind_SMALL_MICRO, F_ordinal_w_PartyKind_OTHER, F_ordinal_w_PartyKind_FARMER, V_w_LiabilityWeight_1__SwitchMap_com_example_suretyline_suretyline_PartyKind⟩ := id NF
  refine Goes.to (T' := s₁.setTop (mkF m 1 #[.val (.int p0), .val (.int p1), .val (.long q2), .second, .val (.int p3), .unset, .unset, .unset, .unset, .unset, .unset, .unset] [(.int p0)])) (fun t k => XS.iloadN X0.here hx rfl (hb hby at_0) rfl k) ?_
  refine Goes.to (T' := s₁.setTop (mkF m 3 #[.val (.int p0), .val (.int p1), .val (.long q2), .second, .val (.int p3), .unset, .unset, .unset, .unset, .unset, .unset, .unset] [(.int (2147483647 : Int32)), (.int p0)])) (X0.ldcInt hx hown (mvT hZ (hw _ (List.mem_of_getElem? (i := 0) rfl))) (g := (mkF m 1 #[.val (.int p0), .val (.int p1), .val (.long q2), .second, .val (.int p3), .unset, .unset, .unset, .unset, .unset, .unset, .unset] [(.int p0)])) rfl (hb hby at_1)) ?_
  refine Goes.to (T' := s₁.setTop (mkF m 4 #[.val (.int p0), .val (.int p1), .val (.long q2), .second, .val (.int p3), .unset, .unset, .unset, .unset, .unset, .unset, .unset] [(.int (p0 &&& (2147483647 : Int32)))])) (fun t k => XS.iand X0.here hx rfl (hb hby at_3) rfl k) ?_
  refine Goes.to (T' := s₁.setTop (mkF m 5 #[.val (.int p0), .val (.int p1), .val (.long q2), .second, .val (.int p3), .unset, .unset, .unset, .unset, .unset, .unset, .unset] [(.int (3 : Int32)), (.int (p0 &&& (2147483647 : Int32)))])) (fun t k => XS.iconst X0.here hx rfl (hb hby at_4) k) ?_
  refine Goes.to (T' := s₁.setTop (mkF m 6 #[.val (.int p0), .val (.int p1), .val (.long q2), .second, .val (.int p3), .unset, .unset, .unset, .unset, .unset, .unset, .unset] [(.int ((p0 &&& (2147483647 : Int32)) % (3 : Int32)))])) (fun t k => iremM X0 hx rfl (hb hby at_5) rfl (by decide) k) ?_
  rcases own_mod3 p0 with hv_1 | hv_1 | hv_1
  · rw [hv_1]
    refine Goes.to (T' := s₁.setTop (mkF m 8 #[.val (.int p0), .val (.int p1), .val (.long q2), .second, .val (.int p3), .val (.int (0 : Int32)), .unset, .unset, .unset, .unset, .unset, .unset] [])) (fun t k => XS.istore X0.here hx rfl (hb hby at_6) rfl (l' := #[.val (.int p0), .val (.int p1), .val (.long q2), .second, .val (.int p3), .val (.int (0 : Int32)), .unset, .unset, .unset, .unset, .unset, .unset]) rfl k) ?_
    refine Goes.to (T' := s₁.setTop (mkF m 10 #[.val (.int p0), .val (.int p1), .val (.long q2), .second, .val (.int p3), .val (.int (0 : Int32)), .unset, .unset, .unset, .unset, .unset, .unset] [(.int (0 : Int32))])) (fun t k => XS.iload X0.here hx rfl (hb hby at_8) rfl k) ?_
    refine Goes.to (T' := s₁.setTop (mkF m 13 #[.val (.int p0), .val (.int p1), .val (.long q2), .second, .val (.int p3), .val (.int (0 : Int32)), .unset, .unset, .unset, .unset, .unset, .unset] [])) (fun t k => XS.ifNo X0.here hx rfl (hb hby at_10) rfl ((if0 _ _).trans (teq (by decide)).2) k) ?_
    obtain ⟨T2, X2, e2, st2⟩ := getS2 X0 hx hZ hown (host := "") (Or.inl (hw _ (List.mem_of_getElem? (i := 1) rfl))) Via.refl e0 (S_w_PartyKind_SMALL_MICRO.ext O0.2) (g := (mkF m 13 #[.val (.int p0), .val (.int p1), .val (.long q2), .second, .val (.int p3), .val (.int (0 : Int32)), .unset, .unset, .unset, .unset, .unset, .unset] [])) rfl (hb hby at_13)
    refine Goes.to (T' := T2.setTop (mkF m 16 #[.val (.int p0), .val (.int p1), .val (.long q2), .second, .val (.int p3), .val (.int (0 : Int32)), .unset, .unset, .unset, .unset, .unset, .unset] [(.ref w_PartyKind_SMALL_MICRO)])) st2 ?_
    refine Goes.to (T' := T2.setTop (mkF m 34 #[.val (.int p0), .val (.int p1), .val (.long q2), .second, .val (.int p3), .val (.int (0 : Int32)), .unset, .unset, .unset, .unset, .unset, .unset] [(.ref w_PartyKind_SMALL_MICRO)])) (fun t k => XS.goto X2.here hx rfl (pc0 := 16) (pc' := 34) rfl (hb hby at_16) (by decide) (by decide) k) ?_
    refine Goes.to (T' := T2.setTop (mkF m 36 #[.val (.int p0), .val (.int p1), .val (.long q2), .second, .val (.int p3), .val (.int (0 : Int32)), .val (.ref w_PartyKind_SMALL_MICRO), .unset, .unset, .unset, .unset, .unset] [])) (fun t k => XS.astore X2.here hx rfl (hb hby at_34) rfl rfl (l' := #[.val (.int p0), .val (.int p1), .val (.long q2), .second, .val (.int p3), .val (.int (0 : Int32)), .val (.ref w_PartyKind_SMALL_MICRO), .unset, .unset, .unset, .unset, .unset]) rfl k) ?_
    refine Goes.to (T' := T2.setTop (mkF m 37 #[.val (.int p0), .val (.int p1), .val (.long q2), .second, .val (.int p3), .val (.int (0 : Int32)), .val (.ref w_PartyKind_SMALL_MICRO), .unset, .unset, .unset, .unset, .unset] [(.int p1)])) (fun t k => XS.iloadN X2.here hx rfl (hb hby at_36) rfl k) ?_
    refine Goes.to (T' := T2.setTop (mkF m 38 #[.val (.int p0), .val (.int p1), .val (.long q2), .second, .val (.int p3), .val (.int (0 : Int32)), .val (.ref w_PartyKind_SMALL_MICRO), .unset, .unset, .unset, .unset, .unset] [(.int (3 : Int32)), (.int p1)])) (fun t k => XS.iconst X2.here hx rfl (hb hby at_37) k) ?_
    refine Goes.to (T' := T2.setTop (mkF m 39 #[.val (.int p0), .val (.int p1), .val (.long q2), .second, .val (.int p3), .val (.int (0 : Int32)), .val (.ref w_PartyKind_SMALL_MICRO), .unset, .unset, .unset, .unset, .unset] [(.int (p1 &&& (3 : Int32)))])) (fun t k => XS.iand X2.here hx rfl (hb hby at_38) rfl k) ?_
    refine Goes.to (T' := T2.setTop (mkF m 41 #[.val (.int p0), .val (.int p1), .val (.long q2), .second, .val (.int p3), .val (.int (0 : Int32)), .val (.ref w_PartyKind_SMALL_MICRO), .val (.int (p1 &&& (3 : Int32))), .unset, .unset, .unset, .unset] [])) (fun t k => XS.istore X2.here hx rfl (hb hby at_39) rfl (l' := #[.val (.int p0), .val (.int p1), .val (.long q2), .second, .val (.int p3), .val (.int (0 : Int32)), .val (.ref w_PartyKind_SMALL_MICRO), .val (.int (p1 &&& (3 : Int32))), .unset, .unset, .unset, .unset]) rfl k) ?_
    have J103 : ∀ (TJ3 : State) (locsJ3 : List Loc) (am : Int64) (XJ3 : Stand p l e room_1 s m #[(.int p0), (.int p1), (.long q2), (.int p3)] below meth c TJ3 locsJ3 0 0) (eJ3 : TJ3.heap = h0) (NJ3 : Fr n0 locsJ3), Goes p.tables e below Qf (TJ3.setTop (mkF m 103 #[.val (.int p0), .val (.int p1), .val (.long q2), .second, .val (.int p3), .val (.int (0 : Int32)), .val (.ref w_PartyKind_SMALL_MICRO), .val (.int (p1 &&& (3 : Int32))), .val (.long am), .second, .unset, .unset] [])) := by
      intro TJ3 locsJ3 am XJ3 eJ3 NJ3 
      refine Goes.to (T' := TJ3.setTop (mkF m 105 #[.val (.int p0), .val (.int p1), .val (.long q2), .second, .val (.int p3), .val (.int (0 : Int32)), .val (.ref w_PartyKind_SMALL_MICRO), .val (.int (p1 &&& (3 : Int32))), .val (.long am), .second, .unset, .unset] [(.int (0 : Int32))])) (fun t k => XS.iload XJ3.here hx rfl (hb hby at_103) rfl k) ?_
      refine Goes.to (T' := TJ3.setTop (mkF m 108 #[.val (.int p0), .val (.int p1), .val (.long q2), .second, .val (.int p3), .val (.int (0 : Int32)), .val (.ref w_PartyKind_SMALL_MICRO), .val (.int (p1 &&& (3 : Int32))), .val (.long am), .second, .unset, .unset] [])) (fun t k => XS.ifNo XJ3.here hx rfl (hb hby at_105) rfl ((if0 _ _).trans (teq (by decide)).2) k) ?_
      refine Goes.to (T' := TJ3.setTop (mkF m 110 #[.val (.int p0), .val (.int p1), .val (.long q2), .second, .val (.int p3), .val (.int (0 : Int32)), .val (.ref w_PartyKind_SMALL_MICRO), .val (.int (p1 &&& (3 : Int32))), .val (.long am), .second, .unset, .unset] [(.long am)])) (fun t k => XS.lload XJ3.here hx rfl (hb hby at_108) rfl k) ?_
      refine Goes.to (T' := TJ3.setTop (mkF m 113 #[.val (.int p0), .val (.int p1), .val (.long q2), .second, .val (.int p3), .val (.int (0 : Int32)), .val (.ref w_PartyKind_SMALL_MICRO), .val (.int (p1 &&& (3 : Int32))), .val (.long am), .second, .unset, .unset] [(.long (500000000 : Int64)), (.long am)])) (XJ3.ldc2Long hx hown (mvT hZ (hw _ (List.mem_of_getElem? (i := 4) rfl))) (g := (mkF m 110 #[.val (.int p0), .val (.int p1), .val (.long q2), .second, .val (.int p3), .val (.int (0 : Int32)), .val (.ref w_PartyKind_SMALL_MICRO), .val (.int (p1 &&& (3 : Int32))), .val (.long am), .second, .unset, .unset] [(.long am)])) rfl (hb hby at_110)) ?_
      refine Goes.to (T' := TJ3.setTop (mkF m 114 #[.val (.int p0), .val (.int p1), .val (.long q2), .second, .val (.int p3), .val (.int (0 : Int32)), .val (.ref w_PartyKind_SMALL_MICRO), .val (.int (p1 &&& (3 : Int32))), .val (.long am), .second, .unset, .unset] [(.int (lcmpW am (500000000 : Int64)))])) (fun t k => XS.lcmp XJ3.here hx rfl (hb hby at_113) rfl k) ?_
      rcases Decidable.em ((500000000 : Int64) < am) with hc114_4 | hc114_4
      · skip
        refine Goes.to (T' := TJ3.setTop (mkF m 121 #[.val (.int p0), .val (.int p1), .val (.long q2), .second, .val (.int p3), .val (.int (0 : Int32)), .val (.ref w_PartyKind_SMALL_MICRO), .val (.int (p1 &&& (3 : Int32))), .val (.long am), .second, .unset, .unset] [])) (fun t k => XS.ifYes XJ3.here hx rfl (pc0 := 114) (pc' := 121) rfl (hb hby at_114) rfl ((if0 _ _).trans (tlt ((lw_gt am (500000000 : Int64)).mpr hc114_4)).2.2.1) (by decide) (by decide) k) ?_
        refine Goes.to (T' := TJ3.setTop (mkF m 122 #[.val (.int p0), .val (.int p1), .val (.long q2), .second, .val (.int p3), .val (.int (0 : Int32)), .val (.ref w_PartyKind_SMALL_MICRO), .val (.int (p1 &&& (3 : Int32))), .val (.long am), .second, .unset, .unset] [(.int (0 : Int32))])) (fun t k => XS.iconst XJ3.here hx rfl (hb hby at_121) k) ?_
        refine Goes.to (T' := TJ3.setTop (mkF m 124 #[.val (.int p0), .val (.int p1), .val (.long q2), .second, .val (.int p3), .val (.int (0 : Int32)), .val (.ref w_PartyKind_SMALL_MICRO), .val (.int (p1 &&& (3 : Int32))), .val (.long am), .second, .val (.int (0 : Int32)), .unset] [])) (fun t k => XS.istore XJ3.here hx rfl (hb hby at_122) rfl (l' := #[.val (.int p0), .val (.int p1), .val (.long q2), .second, .val (.int p3), .val (.int (0 : Int32)), .val (.ref w_PartyKind_SMALL_MICRO), .val (.int (p1 &&& (3 : Int32))), .val (.long am), .second, .val (.int (0 : Int32)), .unset]) rfl k) ?_
        refine Goes.to (T' := TJ3.setTop (mkF m 155 #[.val (.int p0), .val (.int p1), .val (.long q2), .second, .val (.int p3), .val (.int (0 : Int32)), .val (.ref w_PartyKind_SMALL_MICRO), .val (.int (p1 &&& (3 : Int32))), .val (.long am), .second, .val (.int (0 : Int32)), .unset] [])) (fun t k => XS.goto XJ3.here hx rfl (pc0 := 124) (pc' := 155) rfl (hb hby at_124) (by decide) (by decide) k) ?_
        refine Goes.to (T' := TJ3.setTop (mkF m 157 #[.val (.int p0), .val (.int p1), .val (.long q2), .second, .val (.int p3), .val (.int (0 : Int32)), .val (.ref w_PartyKind_SMALL_MICRO), .val (.int (p1 &&& (3 : Int32))), .val (.long am), .second, .val (.int (0 : Int32)), .unset] [(.ref w_PartyKind_SMALL_MICRO)])) (fun t k => XS.aload XJ3.here hx rfl (hb hby at_155) rfl rfl k) ?_
        refine Goes.to (T' := TJ3.setTop (mkF m 159 #[.val (.int p0), .val (.int p1), .val (.long q2), .second, .val (.int p3), .val (.int (0 : Int32)), .val (.ref w_PartyKind_SMALL_MICRO), .val (.int (p1 &&& (3 : Int32))), .val (.long am), .second, .val (.int (0 : Int32)), .unset] [(.long am), (.ref w_PartyKind_SMALL_MICRO)])) (fun t k => XS.lload XJ3.here hx rfl (hb hby at_157) rfl k) ?_
        obtain ⟨_, _, ⟨T5, L5, k5, n5⟩, -, X5, ⟨Lc5, hQ5, l5, y5, z5⟩, st5⟩ := Jvm.LawKit.callS XJ3 hx (y := (⟨"com/example/suretyline/suretyline/LiabilityWeight", "ofLoanInFen", "(Lcom/example/suretyline/suretyline/PartyKind;J)Lcom/example/suretyline/suretyline/LiabilityWeight;"⟩ : MethodName)) hown (mvT hZ (hw _ (List.mem_of_getElem? (i := 5) rfl))) (mvT hZ (hw _ (List.mem_of_getElem? (i := 6) rfl))) (mvT hZ (hw _ (List.mem_of_getElem? (i := 7) rfl))) (mvT hZ (hw _ (List.mem_of_getElem? (i := 8) rfl))) (by decide) (backOf (W := 0) (rmF0 l Z a0 hw [] am w_PartyKind_SMALL_MICRO w_LiabilityWeight_1__SwitchMap_com_example_suretyline_suretyline_PartyKind w_LiabilityWeight_INCLUSIVE_LOAN w_PartyKind_OTHER w_LiabilityWeight_LOAN w_PartyKind_FARMER k_w_LiabilityWeight_1__SwitchMap_com_example_suretyline_suretyline_PartyKind w_LiabilityWeight_LOAN h0 n0 O0 NF (by first | (simp [hc114_4]; done) | ((repeat' split) <;> first | rfl | contradiction | simp_all))) hZ (hw _ (List.mem_of_getElem? (i := 8) rfl)) (hw _ (List.mem_of_getElem? (i := 7) rfl)) (by decide) (by decide)) (g := (mkF m 159 #[.val (.int p0), .val (.int p1), .val (.long q2), .second, .val (.int p3), .val (.int (0 : Int32)), .val (.ref w_PartyKind_SMALL_MICRO), .val (.int (p1 &&& (3 : Int32))), .val (.long am), .second, .val (.int (0 : Int32)), .unset] [(.long am), (.ref w_PartyKind_SMALL_MICRO)])) rfl (by rw [hml]; rfl) (argsL := [(.ref w_PartyKind_SMALL_MICRO), (.long am)]) (rest := []) (lenOf pd_34 rfl) rfl (by show 2 * 0 + _ ≤ _; exact Nat.le_of_eq rfl) (hb hby at_159) (fun _ _ => ⟨rfl, eJ3, (by decide : 0 + 0 ≤ _), (by decide : 0 + 0 ≤ _)⟩)
        dsimp only [Pt.U, Pt.locs, Pt.cells, Pt.slots] at X5 l5 y5 z5 st5 hQ5
        subst l5 y5 z5
        obtain ⟨rfl, Nq5, e5⟩ := hQ5
        have N5 := Fr.app NJ3 Nq5
        refine Goes.to (T' := T5.setTop (mkF m 162 #[.val (.int p0), .val (.int p1), .val (.long q2), .second, .val (.int p3), .val (.int (0 : Int32)), .val (.ref w_PartyKind_SMALL_MICRO), .val (.int (p1 &&& (3 : Int32))), .val (.long am), .second, .val (.int (0 : Int32)), .unset] [(.ref w_LiabilityWeight_LOAN)])) st5 ?_
        refine Goes.to (T' := T5.setTop (mkF m 164 #[.val (.int p0), .val (.int p1), .val (.long q2), .second, .val (.int p3), .val (.int (0 : Int32)), .val (.ref w_PartyKind_SMALL_MICRO), .val (.int (p1 &&& (3 : Int32))), .val (.long am), .second, .val (.int (0 : Int32)), .val (.ref w_LiabilityWeight_LOAN)] [])) (fun t k => XS.astore X5.here hx rfl (hb hby at_162) rfl rfl (l' := #[.val (.int p0), .val (.int p1), .val (.long q2), .second, .val (.int p3), .val (.int (0 : Int32)), .val (.ref w_PartyKind_SMALL_MICRO), .val (.int (p1 &&& (3 : Int32))), .val (.long am), .second, .val (.int (0 : Int32)), .val (.ref w_LiabilityWeight_LOAN)]) rfl k) ?_
        refine Goes.to (T' := T5.setTop (mkF m 166 #[.val (.int p0), .val (.int p1), .val (.long q2), .second, .val (.int p3), .val (.int (0 : Int32)), .val (.ref w_PartyKind_SMALL_MICRO), .val (.int (p1 &&& (3 : Int32))), .val (.long am), .second, .val (.int (0 : Int32)), .val (.ref w_LiabilityWeight_LOAN)] [(.ref w_LiabilityWeight_LOAN)])) (fun t k => XS.aload X5.here hx rfl (hb hby at_164) rfl rfl k) ?_
        refine Goes.to (T' := T5.setTop (mkF m 168 #[.val (.int p0), .val (.int p1), .val (.long q2), .second, .val (.int p3), .val (.int (0 : Int32)), .val (.ref w_PartyKind_SMALL_MICRO), .val (.int (p1 &&& (3 : Int32))), .val (.long am), .second, .val (.int (0 : Int32)), .val (.ref w_LiabilityWeight_LOAN)] [(.int (0 : Int32)), (.ref w_LiabilityWeight_LOAN)])) (fun t k => XS.iload X5.here hx rfl (hb hby at_166) rfl k) ?_
        refine Goes.to (T' := T5.setTop (mkF m 177 #[.val (.int p0), .val (.int p1), .val (.long q2), .second, .val (.int p3), .val (.int (0 : Int32)), .val (.ref w_PartyKind_SMALL_MICRO), .val (.int (p1 &&& (3 : Int32))), .val (.long am), .second, .val (.int (0 : Int32)), .val (.ref w_LiabilityWeight_LOAN)] [(.ref w_LiabilityWeight_LOAN)])) (fun t k => XS.ifYes X5.here hx rfl (pc0 := 168) (pc' := 177) rfl (hb hby at_168) rfl ((if0 _ _).trans (teq (by decide)).1) (by decide) (by decide) k) ?_
        obtain ⟨T6, X6, e6, st6⟩ := getS2 X5 hx hZ hown (host := "") (Or.inl (hw _ (List.mem_of_getElem? (i := 35) rfl))) Via.refl e5 (S_w_LiabilityWeight_LOAN.ext O0.2) (g := (mkF m 177 #[.val (.int p0), .val (.int p1), .val (.long q2), .second, .val (.int p3), .val (.int (0 : Int32)), .val (.ref w_PartyKind_SMALL_MICRO), .val (.int (p1 &&& (3 : Int32))), .val (.long am), .second, .val (.int (0 : Int32)), .val (.ref w_LiabilityWeight_LOAN)] [(.ref w_LiabilityWeight_LOAN)])) rfl (hb hby at_177)
        refine Goes.to (T' := T6.setTop (mkF m 180 #[.val (.int p0), .val (.int p1), .val (.long q2), .second, .val (.int p3), .val (.int (0 : Int32)), .val (.ref w_PartyKind_SMALL_MICRO), .val (.int (p1 &&& (3 : Int32))), .val (.long am), .second, .val (.int (0 : Int32)), .val (.ref w_LiabilityWeight_LOAN)] [(.ref w_LiabilityWeight_LOAN), (.ref w_LiabilityWeight_LOAN)])) st6 ?_
        refine Goes.to (T' := T6.setTop (mkF m 183 #[.val (.int p0), .val (.int p1), .val (.long q2), .second, .val (.int p3), .val (.int (0 : Int32)), .val (.ref w_PartyKind_SMALL_MICRO), .val (.int (p1 &&& (3 : Int32))), .val (.long am), .second, .val (.int (0 : Int32)), .val (.ref w_LiabilityWeight_LOAN)] [])) (fun t k => Jvm.RoadKit.acmp (g := (mkF m 180 #[.val (.int p0), .val (.int p1), .val (.long q2), .second, .val (.int p3), .val (.int (0 : Int32)), .val (.ref w_PartyKind_SMALL_MICRO), .val (.int (p1 &&& (3 : Int32))), .val (.long am), .second, .val (.int (0 : Int32)), .val (.ref w_LiabilityWeight_LOAN)] [(.ref w_LiabilityWeight_LOAN), (.ref w_LiabilityWeight_LOAN)])) X6 hx rfl rfl rfl (pc0 := 180) (pc' := 183) (same := true) rfl (hb hby at_180) rfl (decide_eq_true rfl) (by decide) (by decide) k) ?_
        refine Goes.to (T' := T6.setTop (mkF m 184 #[.val (.int p0), .val (.int p1), .val (.long q2), .second, .val (.int p3), .val (.int (0 : Int32)), .val (.ref w_PartyKind_SMALL_MICRO), .val (.int (p1 &&& (3 : Int32))), .val (.long am), .second, .val (.int (0 : Int32)), .val (.ref w_LiabilityWeight_LOAN)] [(.int (1 : Int32))])) (fun t k => XS.iconst X6.here hx rfl (hb hby at_183) k) ?_
        refine Goes.to (T' := T6.setTop (mkF m 188 #[.val (.int p0), .val (.int p1), .val (.long q2), .second, .val (.int p3), .val (.int (0 : Int32)), .val (.ref w_PartyKind_SMALL_MICRO), .val (.int (p1 &&& (3 : Int32))), .val (.long am), .second, .val (.int (0 : Int32)), .val (.ref w_LiabilityWeight_LOAN)] [(.int (1 : Int32))])) (fun t k => XS.goto X6.here hx rfl (pc0 := 184) (pc' := 188) rfl (hb hby at_184) (by decide) (by decide) k) ?_
        obtain ⟨fs, hrL, hrun, hended, hW, hsame⟩ := X6.leave (v := some (.int (1 : Int32))) (fun h => by rw [Bd.returns] at h; cases h)
        subst hQf
        refine ⟨_, _, retN X6 hx (t := .boolean) Bd.returns (by simp) (hb hby at_188) hrL, hrun, hended, _, _, rfl, ?_, ⟨_, rfl⟩, hW, hsame.mono (by decide) (by decide)⟩
        show (fun (v : Option Value) (h : Heap) (L : List Loc) => v = some (.int 1) ∧ Fr n0 L) (some (.int (1 : Int32))) T6.heap _
        rw [e6]
        exact ⟨rfl, N5⟩
      · skip
        refine Goes.to (T' := TJ3.setTop (mkF m 117 #[.val (.int p0), .val (.int p1), .val (.long q2), .second, .val (.int p3), .val (.int (0 : Int32)), .val (.ref w_PartyKind_SMALL_MICRO), .val (.int (p1 &&& (3 : Int32))), .val (.long am), .second, .unset, .unset] [])) (fun t k => XS.ifNo XJ3.here hx rfl (hb hby at_114) rfl ((if0 _ _).trans (flt (fun q => hc114_4 ((lw_gt am (500000000 : Int64)).mp q))).2.2.1) k) ?_
        refine Goes.to (T' := TJ3.setTop (mkF m 118 #[.val (.int p0), .val (.int p1), .val (.long q2), .second, .val (.int p3), .val (.int (0 : Int32)), .val (.ref w_PartyKind_SMALL_MICRO), .val (.int (p1 &&& (3 : Int32))), .val (.long am), .second, .unset, .unset] [(.int (1 : Int32))])) (fun t k => XS.iconst XJ3.here hx rfl (hb hby at_117) k) ?_
        refine Goes.to (T' := TJ3.setTop (mkF m 122 #[.val (.int p0), .val (.int p1), .val (.long q2), .second, .val (.int p3), .val (.int (0 : Int32)), .val (.ref w_PartyKind_SMALL_MICRO), .val (.int (p1 &&& (3 : Int32))), .val (.long am), .second, .unset, .unset] [(.int (1 : Int32))])) (fun t k => XS.goto XJ3.here hx rfl (pc0 := 118) (pc' := 122) rfl (hb hby at_118) (by decide) (by decide) k) ?_
        refine Goes.to (T' := TJ3.setTop (mkF m 124 #[.val (.int p0), .val (.int p1), .val (.long q2), .second, .val (.int p3), .val (.int (0 : Int32)), .val (.ref w_PartyKind_SMALL_MICRO), .val (.int (p1 &&& (3 : Int32))), .val (.long am), .second, .val (.int (1 : Int32)), .unset] [])) (fun t k => XS.istore XJ3.here hx rfl (hb hby at_122) rfl (l' := #[.val (.int p0), .val (.int p1), .val (.long q2), .second, .val (.int p3), .val (.int (0 : Int32)), .val (.ref w_PartyKind_SMALL_MICRO), .val (.int (p1 &&& (3 : Int32))), .val (.long am), .second, .val (.int (1 : Int32)), .unset]) rfl k) ?_
        refine Goes.to (T' := TJ3.setTop (mkF m 155 #[.val (.int p0), .val (.int p1), .val (.long q2), .second, .val (.int p3), .val (.int (0 : Int32)), .val (.ref w_PartyKind_SMALL_MICRO), .val (.int (p1 &&& (3 : Int32))), .val (.long am), .second, .val (.int (1 : Int32)), .unset] [])) (fun t k => XS.goto XJ3.here hx rfl (pc0 := 124) (pc' := 155) rfl (hb hby at_124) (by decide) (by decide) k) ?_
        refine Goes.to (T' := TJ3.setTop (mkF m 157 #[.val (.int p0), .val (.int p1), .val (.long q2), .second, .val (.int p3), .val (.int (0 : Int32)), .val (.ref w_PartyKind_SMALL_MICRO), .val (.int (p1 &&& (3 : Int32))), .val (.long am), .second, .val (.int (1 : Int32)), .unset] [(.ref w_PartyKind_SMALL_MICRO)])) (fun t k => XS.aload XJ3.here hx rfl (hb hby at_155) rfl rfl k) ?_
        refine Goes.to (T' := TJ3.setTop (mkF m 159 #[.val (.int p0), .val (.int p1), .val (.long q2), .second, .val (.int p3), .val (.int (0 : Int32)), .val (.ref w_PartyKind_SMALL_MICRO), .val (.int (p1 &&& (3 : Int32))), .val (.long am), .second, .val (.int (1 : Int32)), .unset] [(.long am), (.ref w_PartyKind_SMALL_MICRO)])) (fun t k => XS.lload XJ3.here hx rfl (hb hby at_157) rfl k) ?_
        obtain ⟨_, _, ⟨T7, L7, k7, n7⟩, -, X7, ⟨Lc7, hQ7, l7, y7, z7⟩, st7⟩ := Jvm.LawKit.callS XJ3 hx (y := (⟨"com/example/suretyline/suretyline/LiabilityWeight", "ofLoanInFen", "(Lcom/example/suretyline/suretyline/PartyKind;J)Lcom/example/suretyline/suretyline/LiabilityWeight;"⟩ : MethodName)) hown (mvT hZ (hw _ (List.mem_of_getElem? (i := 5) rfl))) (mvT hZ (hw _ (List.mem_of_getElem? (i := 6) rfl))) (mvT hZ (hw _ (List.mem_of_getElem? (i := 7) rfl))) (mvT hZ (hw _ (List.mem_of_getElem? (i := 8) rfl))) (by decide) (backOf (W := 0) (rmF0 l Z a0 hw [] am w_PartyKind_SMALL_MICRO w_LiabilityWeight_1__SwitchMap_com_example_suretyline_suretyline_PartyKind w_LiabilityWeight_INCLUSIVE_LOAN w_PartyKind_OTHER w_LiabilityWeight_LOAN w_PartyKind_FARMER k_w_LiabilityWeight_1__SwitchMap_com_example_suretyline_suretyline_PartyKind w_LiabilityWeight_INCLUSIVE_LOAN h0 n0 O0 NF (by first | (simp [hc114_4]; done) | ((repeat' split) <;> first | rfl | contradiction | simp_all))) hZ (hw _ (List.mem_of_getElem? (i := 8) rfl)) (hw _ (List.mem_of_getElem? (i := 7) rfl)) (by decide) (by decide)) (g := (mkF m 159 #[.val (.int p0), .val (.int p1), .val (.long q2), .second, .val (.int p3), .val (.int (0 : Int32)), .val (.ref w_PartyKind_SMALL_MICRO), .val (.int (p1 &&& (3 : Int32))), .val (.long am), .second, .val (.int (1 : Int32)), .unset] [(.long am), (.ref w_PartyKind_SMALL_MICRO)])) rfl (by rw [hml]; rfl) (argsL := [(.ref w_PartyKind_SMALL_MICRO), (.long am)]) (rest := []) (lenOf pd_34 rfl) rfl (by show 2 * 0 + _ ≤ _; exact Nat.le_of_eq rfl) (hb hby at_159) (fun _ _ => ⟨rfl, eJ3, (by decide : 0 + 0 ≤ _), (by decide : 0 + 0 ≤ _)⟩)
        dsimp only [Pt.U, Pt.locs, Pt.cells, Pt.slots] at X7 l7 y7 z7 st7 hQ7
        subst l7 y7 z7
        obtain ⟨rfl, Nq7, e7⟩ := hQ7
        have N7 := Fr.app NJ3 Nq7
        refine Goes.to (T' := T7.setTop (mkF m 162 #[.val (.int p0), .val (.int p1), .val (.long q2), .second, .val (.int p3), .val (.int (0 : Int32)), .val (.ref w_PartyKind_SMALL_MICRO), .val (.int (p1 &&& (3 : Int32))), .val (.long am), .second, .val (.int (1 : Int32)), .unset] [(.ref w_LiabilityWeight_INCLUSIVE_LOAN)])) st7 ?_
        refine Goes.to (T' := T7.setTop (mkF m 164 #[.val (.int p0), .val (.int p1), .val (.long q2), .second, .val (.int p3), .val (.int (0 : Int32)), .val (.ref w_PartyKind_SMALL_MICRO), .val (.int (p1 &&& (3 : Int32))), .val (.long am), .second, .val (.int (1 : Int32)), .val (.ref w_LiabilityWeight_INCLUSIVE_LOAN)] [])) (fun t k => XS.astore X7.here hx rfl (hb hby at_162) rfl rfl (l' := #[.val (.int p0), .val (.int p1), .val (.long q2), .second, .val (.int p3), .val (.int (0 : Int32)), .val (.ref w_PartyKind_SMALL_MICRO), .val (.int (p1 &&& (3 : Int32))), .val (.long am), .second, .val (.int (1 : Int32)), .val (.ref w_LiabilityWeight_INCLUSIVE_LOAN)]) rfl k) ?_
        refine Goes.to (T' := T7.setTop (mkF m 166 #[.val (.int p0), .val (.int p1), .val (.long q2), .second, .val (.int p3), .val (.int (0 : Int32)), .val (.ref w_PartyKind_SMALL_MICRO), .val (.int (p1 &&& (3 : Int32))), .val (.long am), .second, .val (.int (1 : Int32)), .val (.ref w_LiabilityWeight_INCLUSIVE_LOAN)] [(.ref w_LiabilityWeight_INCLUSIVE_LOAN)])) (fun t k => XS.aload X7.here hx rfl (hb hby at_164) rfl rfl k) ?_
        refine Goes.to (T' := T7.setTop (mkF m 168 #[.val (.int p0), .val (.int p1), .val (.long q2), .second, .val (.int p3), .val (.int (0 : Int32)), .val (.ref w_PartyKind_SMALL_MICRO), .val (.int (p1 &&& (3 : Int32))), .val (.long am), .second, .val (.int (1 : Int32)), .val (.ref w_LiabilityWeight_INCLUSIVE_LOAN)] [(.int (1 : Int32)), (.ref w_LiabilityWeight_INCLUSIVE_LOAN)])) (fun t k => XS.iload X7.here hx rfl (hb hby at_166) rfl k) ?_
        refine Goes.to (T' := T7.setTop (mkF m 171 #[.val (.int p0), .val (.int p1), .val (.long q2), .second, .val (.int p3), .val (.int (0 : Int32)), .val (.ref w_PartyKind_SMALL_MICRO), .val (.int (p1 &&& (3 : Int32))), .val (.long am), .second, .val (.int (1 : Int32)), .val (.ref w_LiabilityWeight_INCLUSIVE_LOAN)] [(.ref w_LiabilityWeight_INCLUSIVE_LOAN)])) (fun t k => XS.ifNo X7.here hx rfl (hb hby at_168) rfl ((if0 _ _).trans (feq (by decide)).1) k) ?_
        obtain ⟨T8, X8, e8, st8⟩ := getS2 X7 hx hZ hown (host := "") (Or.inl (hw _ (List.mem_of_getElem? (i := 28) rfl))) Via.refl e7 (S_w_LiabilityWeight_INCLUSIVE_LOAN.ext O0.2) (g := (mkF m 171 #[.val (.int p0), .val (.int p1), .val (.long q2), .second, .val (.int p3), .val (.int (0 : Int32)), .val (.ref w_PartyKind_SMALL_MICRO), .val (.int (p1 &&& (3 : Int32))), .val (.long am), .second, .val (.int (1 : Int32)), .val (.ref w_LiabilityWeight_INCLUSIVE_LOAN)] [(.ref w_LiabilityWeight_INCLUSIVE_LOAN)])) rfl (hb hby at_171)
        refine Goes.to (T' := T8.setTop (mkF m 174 #[.val (.int p0), .val (.int p1), .val (.long q2), .second, .val (.int p3), .val (.int (0 : Int32)), .val (.ref w_PartyKind_SMALL_MICRO), .val (.int (p1 &&& (3 : Int32))), .val (.long am), .second, .val (.int (1 : Int32)), .val (.ref w_LiabilityWeight_INCLUSIVE_LOAN)] [(.ref w_LiabilityWeight_INCLUSIVE_LOAN), (.ref w_LiabilityWeight_INCLUSIVE_LOAN)])) st8 ?_
        refine Goes.to (T' := T8.setTop (mkF m 180 #[.val (.int p0), .val (.int p1), .val (.long q2), .second, .val (.int p3), .val (.int (0 : Int32)), .val (.ref w_PartyKind_SMALL_MICRO), .val (.int (p1 &&& (3 : Int32))), .val (.long am), .second, .val (.int (1 : Int32)), .val (.ref w_LiabilityWeight_INCLUSIVE_LOAN)] [(.ref w_LiabilityWeight_INCLUSIVE_LOAN), (.ref w_LiabilityWeight_INCLUSIVE_LOAN)])) (fun t k => XS.goto X8.here hx rfl (pc0 := 174) (pc' := 180) rfl (hb hby at_174) (by decide) (by decide) k) ?_
        refine Goes.to (T' := T8.setTop (mkF m 183 #[.val (.int p0), .val (.int p1), .val (.long q2), .second, .val (.int p3), .val (.int (0 : Int32)), .val (.ref w_PartyKind_SMALL_MICRO), .val (.int (p1 &&& (3 : Int32))), .val (.long am), .second, .val (.int (1 : Int32)), .val (.ref w_LiabilityWeight_INCLUSIVE_LOAN)] [])) (fun t k => Jvm.RoadKit.acmp (g := (mkF m 180 #[.val (.int p0), .val (.int p1), .val (.long q2), .second, .val (.int p3), .val (.int (0 : Int32)), .val (.ref w_PartyKind_SMALL_MICRO), .val (.int (p1 &&& (3 : Int32))), .val (.long am), .second, .val (.int (1 : Int32)), .val (.ref w_LiabilityWeight_INCLUSIVE_LOAN)] [(.ref w_LiabilityWeight_INCLUSIVE_LOAN), (.ref w_LiabilityWeight_INCLUSIVE_LOAN)])) X8 hx rfl rfl rfl (pc0 := 180) (pc' := 183) (same := true) rfl (hb hby at_180) rfl (decide_eq_true rfl) (by decide) (by decide) k) ?_
        refine Goes.to (T' := T8.setTop (mkF m 184 #[.val (.int p0), .val (.int p1), .val (.long q2), .second, .val (.int p3), .val (.int (0 : Int32)), .val (.ref w_PartyKind_SMALL_MICRO), .val (.int (p1 &&& (3 : Int32))), .val (.long am), .second, .val (.int (1 : Int32)), .val (.ref w_LiabilityWeight_INCLUSIVE_LOAN)] [(.int (1 : Int32))])) (fun t k => XS.iconst X8.here hx rfl (hb hby at_183) k) ?_
        refine Goes.to (T' := T8.setTop (mkF m 188 #[.val (.int p0), .val (.int p1), .val (.long q2), .second, .val (.int p3), .val (.int (0 : Int32)), .val (.ref w_PartyKind_SMALL_MICRO), .val (.int (p1 &&& (3 : Int32))), .val (.long am), .second, .val (.int (1 : Int32)), .val (.ref w_LiabilityWeight_INCLUSIVE_LOAN)] [(.int (1 : Int32))])) (fun t k => XS.goto X8.here hx rfl (pc0 := 184) (pc' := 188) rfl (hb hby at_184) (by decide) (by decide) k) ?_
        obtain ⟨fs, hrL, hrun, hended, hW, hsame⟩ := X8.leave (v := some (.int (1 : Int32))) (fun h => by rw [Bd.returns] at h; cases h)
        subst hQf
        refine ⟨_, _, retN X8 hx (t := .boolean) Bd.returns (by simp) (hb hby at_188) hrL, hrun, hended, _, _, rfl, ?_, ⟨_, rfl⟩, hW, hsame.mono (by decide) (by decide)⟩
        show (fun (v : Option Value) (h : Heap) (L : List Loc) => v = some (.int 1) ∧ Fr n0 L) (some (.int (1 : Int32))) T8.heap _
        rw [e8]
        exact ⟨rfl, N7⟩
    refine Goes.to (T' := T2.setTop (mkF m 43 #[.val (.int p0), .val (.int p1), .val (.long q2), .second, .val (.int p3), .val (.int (0 : Int32)), .val (.ref w_PartyKind_SMALL_MICRO), .val (.int (p1 &&& (3 : Int32))), .unset, .unset, .unset, .unset] [(.int (p1 &&& (3 : Int32)))])) (fun t k => XS.iload X2.here hx rfl (hb hby at_41) rfl k) ?_
    rcases Decidable.em ((p1 &&& (3 : Int32)) = (0 : Int32)) with hc43_9 | hc43_9
    · skip
      refine Goes.to (T' := T2.setTop (mkF m 46 #[.val (.int p0), .val (.int p1), .val (.long q2), .second, .val (.int p3), .val (.int (0 : Int32)), .val (.ref w_PartyKind_SMALL_MICRO), .val (.int (p1 &&& (3 : Int32))), .unset, .unset, .unset, .unset] [])) (fun t k => XS.ifNo X2.here hx rfl (hb hby at_43) rfl ((if0 _ _).trans (teq hc43_9).2) k) ?_
      refine Goes.to (T' := T2.setTop (mkF m 47 #[.val (.int p0), .val (.int p1), .val (.long q2), .second, .val (.int p3), .val (.int (0 : Int32)), .val (.ref w_PartyKind_SMALL_MICRO), .val (.int (p1 &&& (3 : Int32))), .unset, .unset, .unset, .unset] [(.long q2)])) (fun t k => XS.lloadN X2.here hx rfl (hb hby at_46) rfl k) ?_
      refine Goes.to (T' := T2.setTop (mkF m 50 #[.val (.int p0), .val (.int p1), .val (.long q2), .second, .val (.int p3), .val (.int (0 : Int32)), .val (.ref w_PartyKind_SMALL_MICRO), .val (.int (p1 &&& (3 : Int32))), .unset, .unset, .unset, .unset] [(.long (9223372036854775807 : Int64)), (.long q2)])) (X2.ldc2Long hx hown (mvT hZ (hw _ (List.mem_of_getElem? (i := 29) rfl))) (g := (mkF m 47 #[.val (.int p0), .val (.int p1), .val (.long q2), .second, .val (.int p3), .val (.int (0 : Int32)), .val (.ref w_PartyKind_SMALL_MICRO), .val (.int (p1 &&& (3 : Int32))), .unset, .unset, .unset, .unset] [(.long q2)])) rfl (hb hby at_47)) ?_
      refine Goes.to (T' := T2.setTop (mkF m 51 #[.val (.int p0), .val (.int p1), .val (.long q2), .second, .val (.int p3), .val (.int (0 : Int32)), .val (.ref w_PartyKind_SMALL_MICRO), .val (.int (p1 &&& (3 : Int32))), .unset, .unset, .unset, .unset] [(.long (q2 &&& (9223372036854775807 : Int64)))])) (fun t k => XS.land X2.here hx rfl (hb hby at_50) rfl k) ?_
      refine Goes.to (T' := T2.setTop (mkF m 53 #[.val (.int p0), .val (.int p1), .val (.long q2), .second, .val (.int p3), .val (.int (0 : Int32)), .val (.ref w_PartyKind_SMALL_MICRO), .val (.int (p1 &&& (3 : Int32))), .val (.long (q2 &&& (9223372036854775807 : Int64))), .second, .unset, .unset] [])) (fun t k => XS.lstore X2.here hx rfl (hb hby at_51) rfl (l' := #[.val (.int p0), .val (.int p1), .val (.long q2), .second, .val (.int p3), .val (.int (0 : Int32)), .val (.ref w_PartyKind_SMALL_MICRO), .val (.int (p1 &&& (3 : Int32))), .val (.long (q2 &&& (9223372036854775807 : Int64))), .second, .unset, .unset]) rfl k) ?_
      refine Goes.to (T' := T2.setTop (mkF m 103 #[.val (.int p0), .val (.int p1), .val (.long q2), .second, .val (.int p3), .val (.int (0 : Int32)), .val (.ref w_PartyKind_SMALL_MICRO), .val (.int (p1 &&& (3 : Int32))), .val (.long (q2 &&& (9223372036854775807 : Int64))), .second, .unset, .unset] [])) (fun t k => XS.goto X2.here hx rfl (pc0 := 53) (pc' := 103) rfl (hb hby at_53) (by decide) (by decide) k) ?_
      exact J103 _ _ (q2 &&& (9223372036854775807 : Int64)) X2 e2 N0 
    · skip
      refine Goes.to (T' := T2.setTop (mkF m 56 #[.val (.int p0), .val (.int p1), .val (.long q2), .second, .val (.int p3), .val (.int (0 : Int32)), .val (.ref w_PartyKind_SMALL_MICRO), .val (.int (p1 &&& (3 : Int32))), .unset, .unset, .unset, .unset] [])) (fun t k => XS.ifYes X2.here hx rfl (pc0 := 43) (pc' := 56) rfl (hb hby at_43) rfl ((if0 _ _).trans (feq hc43_9).2) (by decide) (by decide) k) ?_
      refine Goes.to (T' := T2.setTop (mkF m 58 #[.val (.int p0), .val (.int p1), .val (.long q2), .second, .val (.int p3), .val (.int (0 : Int32)), .val (.ref w_PartyKind_SMALL_MICRO), .val (.int (p1 &&& (3 : Int32))), .unset, .unset, .unset, .unset] [(.int (p1 &&& (3 : Int32)))])) (fun t k => XS.iload X2.here hx rfl (hb hby at_56) rfl k) ?_
      refine Goes.to (T' := T2.setTop (mkF m 59 #[.val (.int p0), .val (.int p1), .val (.long q2), .second, .val (.int p3), .val (.int (0 : Int32)), .val (.ref w_PartyKind_SMALL_MICRO), .val (.int (p1 &&& (3 : Int32))), .unset, .unset, .unset, .unset] [(.int (1 : Int32)), (.int (p1 &&& (3 : Int32)))])) (fun t k => XS.iconst X2.here hx rfl (hb hby at_58) k) ?_
      rcases Decidable.em ((p1 &&& (3 : Int32)) = (1 : Int32)) with hc59_10 | hc59_10
      · skip
        refine Goes.to (T' := T2.setTop (mkF m 62 #[.val (.int p0), .val (.int p1), .val (.long q2), .second, .val (.int p3), .val (.int (0 : Int32)), .val (.ref w_PartyKind_SMALL_MICRO), .val (.int (p1 &&& (3 : Int32))), .unset, .unset, .unset, .unset] [])) (fun t k => XS.icmpNo X2.here hx rfl (hb hby at_59) rfl (teq hc59_10).2 k) ?_
        refine Goes.to (T' := T2.setTop (mkF m 65 #[.val (.int p0), .val (.int p1), .val (.long q2), .second, .val (.int p3), .val (.int (0 : Int32)), .val (.ref w_PartyKind_SMALL_MICRO), .val (.int (p1 &&& (3 : Int32))), .unset, .unset, .unset, .unset] [(.long (500000000 : Int64))])) (X2.ldc2Long hx hown (mvT hZ (hw _ (List.mem_of_getElem? (i := 4) rfl))) (g := (mkF m 62 #[.val (.int p0), .val (.int p1), .val (.long q2), .second, .val (.int p3), .val (.int (0 : Int32)), .val (.ref w_PartyKind_SMALL_MICRO), .val (.int (p1 &&& (3 : Int32))), .unset, .unset, .unset, .unset] [])) rfl (hb hby at_62)) ?_
        refine Goes.to (T' := T2.setTop (mkF m 67 #[.val (.int p0), .val (.int p1), .val (.long q2), .second, .val (.int p3), .val (.int (0 : Int32)), .val (.ref w_PartyKind_SMALL_MICRO), .val (.int (p1 &&& (3 : Int32))), .unset, .unset, .unset, .unset] [(.int p3), (.long (500000000 : Int64))])) (fun t k => XS.iload X2.here hx rfl (hb hby at_65) rfl k) ?_
        refine Goes.to (T' := T2.setTop (mkF m 68 #[.val (.int p0), .val (.int p1), .val (.long q2), .second, .val (.int p3), .val (.int (0 : Int32)), .val (.ref w_PartyKind_SMALL_MICRO), .val (.int (p1 &&& (3 : Int32))), .unset, .unset, .unset, .unset] [(.int (3 : Int32)), (.int p3), (.long (500000000 : Int64))])) (fun t k => XS.iconst X2.here hx rfl (hb hby at_67) k) ?_
        refine Goes.to (T' := T2.setTop (mkF m 69 #[.val (.int p0), .val (.int p1), .val (.long q2), .second, .val (.int p3), .val (.int (0 : Int32)), .val (.ref w_PartyKind_SMALL_MICRO), .val (.int (p1 &&& (3 : Int32))), .unset, .unset, .unset, .unset] [(.int (p3 % (3 : Int32))), (.long (500000000 : Int64))])) (fun t k => iremM X2 hx rfl (hb hby at_68) rfl (by decide) k) ?_
        refine Goes.to (T' := T2.setTop (mkF m 70 #[.val (.int p0), .val (.int p1), .val (.long q2), .second, .val (.int p3), .val (.int (0 : Int32)), .val (.ref w_PartyKind_SMALL_MICRO), .val (.int (p1 &&& (3 : Int32))), .unset, .unset, .unset, .unset] [(.long ((p3 % (3 : Int32)).toInt64)), (.long (500000000 : Int64))])) (fun t k => XS.i2l X2.here hx rfl (hb hby at_69) rfl k) ?_
        refine Goes.to (T' := T2.setTop (mkF m 71 #[.val (.int p0), .val (.int p1), .val (.long q2), .second, .val (.int p3), .val (.int (0 : Int32)), .val (.ref w_PartyKind_SMALL_MICRO), .val (.int (p1 &&& (3 : Int32))), .unset, .unset, .unset, .unset] [(.long ((500000000 : Int64) + ((p3 % (3 : Int32)).toInt64)))])) (fun t k => XS.ladd X2.here hx rfl (hb hby at_70) rfl k) ?_
        refine Goes.to (T' := T2.setTop (mkF m 73 #[.val (.int p0), .val (.int p1), .val (.long q2), .second, .val (.int p3), .val (.int (0 : Int32)), .val (.ref w_PartyKind_SMALL_MICRO), .val (.int (p1 &&& (3 : Int32))), .val (.long ((500000000 : Int64) + ((p3 % (3 : Int32)).toInt64))), .second, .unset, .unset] [])) (fun t k => XS.lstore X2.here hx rfl (hb hby at_71) rfl (l' := #[.val (.int p0), .val (.int p1), .val (.long q2), .second, .val (.int p3), .val (.int (0 : Int32)), .val (.ref w_PartyKind_SMALL_MICRO), .val (.int (p1 &&& (3 : Int32))), .val (.long ((500000000 : Int64) + ((p3 % (3 : Int32)).toInt64))), .second, .unset, .unset]) rfl k) ?_
        refine Goes.to (T' := T2.setTop (mkF m 103 #[.val (.int p0), .val (.int p1), .val (.long q2), .second, .val (.int p3), .val (.int (0 : Int32)), .val (.ref w_PartyKind_SMALL_MICRO), .val (.int (p1 &&& (3 : Int32))), .val (.long ((500000000 : Int64) + ((p3 % (3 : Int32)).toInt64))), .second, .unset, .unset] [])) (fun t k => XS.goto X2.here hx rfl (pc0 := 73) (pc' := 103) rfl (hb hby at_73) (by decide) (by decide) k) ?_
        exact J103 _ _ ((500000000 : Int64) + ((p3 % (3 : Int32)).toInt64)) X2 e2 N0 
      · skip
        refine Goes.to (T' := T2.setTop (mkF m 76 #[.val (.int p0), .val (.int p1), .val (.long q2), .second, .val (.int p3), .val (.int (0 : Int32)), .val (.ref w_PartyKind_SMALL_MICRO), .val (.int (p1 &&& (3 : Int32))), .unset, .unset, .unset, .unset] [])) (fun t k => XS.icmpYes X2.here hx rfl (pc0 := 59) (pc' := 76) rfl (hb hby at_59) rfl (feq hc59_10).2 (by decide) (by decide) k) ?_
        refine Goes.to (T' := T2.setTop (mkF m 78 #[.val (.int p0), .val (.int p1), .val (.long q2), .second, .val (.int p3), .val (.int (0 : Int32)), .val (.ref w_PartyKind_SMALL_MICRO), .val (.int (p1 &&& (3 : Int32))), .unset, .unset, .unset, .unset] [(.int (p1 &&& (3 : Int32)))])) (fun t k => XS.iload X2.here hx rfl (hb hby at_76) rfl k) ?_
        refine Goes.to (T' := T2.setTop (mkF m 79 #[.val (.int p0), .val (.int p1), .val (.long q2), .second, .val (.int p3), .val (.int (0 : Int32)), .val (.ref w_PartyKind_SMALL_MICRO), .val (.int (p1 &&& (3 : Int32))), .unset, .unset, .unset, .unset] [(.int (2 : Int32)), (.int (p1 &&& (3 : Int32)))])) (fun t k => XS.iconst X2.here hx rfl (hb hby at_78) k) ?_
        rcases Decidable.em ((p1 &&& (3 : Int32)) = (2 : Int32)) with hc79_11 | hc79_11
        · skip
          refine Goes.to (T' := T2.setTop (mkF m 82 #[.val (.int p0), .val (.int p1), .val (.long q2), .second, .val (.int p3), .val (.int (0 : Int32)), .val (.ref w_PartyKind_SMALL_MICRO), .val (.int (p1 &&& (3 : Int32))), .unset, .unset, .unset, .unset] [])) (fun t k => XS.icmpNo X2.here hx rfl (hb hby at_79) rfl (teq hc79_11).2 k) ?_
          refine Goes.to (T' := T2.setTop (mkF m 85 #[.val (.int p0), .val (.int p1), .val (.long q2), .second, .val (.int p3), .val (.int (0 : Int32)), .val (.ref w_PartyKind_SMALL_MICRO), .val (.int (p1 &&& (3 : Int32))), .unset, .unset, .unset, .unset] [(.long (200000000 : Int64))])) (X2.ldc2Long hx hown (mvT hZ (hw _ (List.mem_of_getElem? (i := 32) rfl))) (g := (mkF m 82 #[.val (.int p0), .val (.int p1), .val (.long q2), .second, .val (.int p3), .val (.int (0 : Int32)), .val (.ref w_PartyKind_SMALL_MICRO), .val (.int (p1 &&& (3 : Int32))), .unset, .unset, .unset, .unset] [])) rfl (hb hby at_82)) ?_
          refine Goes.to (T' := T2.setTop (mkF m 87 #[.val (.int p0), .val (.int p1), .val (.long q2), .second, .val (.int p3), .val (.int (0 : Int32)), .val (.ref w_PartyKind_SMALL_MICRO), .val (.int (p1 &&& (3 : Int32))), .unset, .unset, .unset, .unset] [(.int p3), (.long (200000000 : Int64))])) (fun t k => XS.iload X2.here hx rfl (hb hby at_85) rfl k) ?_
          refine Goes.to (T' := T2.setTop (mkF m 88 #[.val (.int p0), .val (.int p1), .val (.long q2), .second, .val (.int p3), .val (.int (0 : Int32)), .val (.ref w_PartyKind_SMALL_MICRO), .val (.int (p1 &&& (3 : Int32))), .unset, .unset, .unset, .unset] [(.int (3 : Int32)), (.int p3), (.long (200000000 : Int64))])) (fun t k => XS.iconst X2.here hx rfl (hb hby at_87) k) ?_
          refine Goes.to (T' := T2.setTop (mkF m 89 #[.val (.int p0), .val (.int p1), .val (.long q2), .second, .val (.int p3), .val (.int (0 : Int32)), .val (.ref w_PartyKind_SMALL_MICRO), .val (.int (p1 &&& (3 : Int32))), .unset, .unset, .unset, .unset] [(.int (p3 % (3 : Int32))), (.long (200000000 : Int64))])) (fun t k => iremM X2 hx rfl (hb hby at_88) rfl (by decide) k) ?_
          refine Goes.to (T' := T2.setTop (mkF m 90 #[.val (.int p0), .val (.int p1), .val (.long q2), .second, .val (.int p3), .val (.int (0 : Int32)), .val (.ref w_PartyKind_SMALL_MICRO), .val (.int (p1 &&& (3 : Int32))), .unset, .unset, .unset, .unset] [(.long ((p3 % (3 : Int32)).toInt64)), (.long (200000000 : Int64))])) (fun t k => XS.i2l X2.here hx rfl (hb hby at_89) rfl k) ?_
          refine Goes.to (T' := T2.setTop (mkF m 91 #[.val (.int p0), .val (.int p1), .val (.long q2), .second, .val (.int p3), .val (.int (0 : Int32)), .val (.ref w_PartyKind_SMALL_MICRO), .val (.int (p1 &&& (3 : Int32))), .unset, .unset, .unset, .unset] [(.long ((200000000 : Int64) + ((p3 % (3 : Int32)).toInt64)))])) (fun t k => XS.ladd X2.here hx rfl (hb hby at_90) rfl k) ?_
          refine Goes.to (T' := T2.setTop (mkF m 93 #[.val (.int p0), .val (.int p1), .val (.long q2), .second, .val (.int p3), .val (.int (0 : Int32)), .val (.ref w_PartyKind_SMALL_MICRO), .val (.int (p1 &&& (3 : Int32))), .val (.long ((200000000 : Int64) + ((p3 % (3 : Int32)).toInt64))), .second, .unset, .unset] [])) (fun t k => XS.lstore X2.here hx rfl (hb hby at_91) rfl (l' := #[.val (.int p0), .val (.int p1), .val (.long q2), .second, .val (.int p3), .val (.int (0 : Int32)), .val (.ref w_PartyKind_SMALL_MICRO), .val (.int (p1 &&& (3 : Int32))), .val (.long ((200000000 : Int64) + ((p3 % (3 : Int32)).toInt64))), .second, .unset, .unset]) rfl k) ?_
          refine Goes.to (T' := T2.setTop (mkF m 103 #[.val (.int p0), .val (.int p1), .val (.long q2), .second, .val (.int p3), .val (.int (0 : Int32)), .val (.ref w_PartyKind_SMALL_MICRO), .val (.int (p1 &&& (3 : Int32))), .val (.long ((200000000 : Int64) + ((p3 % (3 : Int32)).toInt64))), .second, .unset, .unset] [])) (fun t k => XS.goto X2.here hx rfl (pc0 := 93) (pc' := 103) rfl (hb hby at_93) (by decide) (by decide) k) ?_
          exact J103 _ _ ((200000000 : Int64) + ((p3 % (3 : Int32)).toInt64)) X2 e2 N0 
        · skip
          refine Goes.to (T' := T2.setTop (mkF m 96 #[.val (.int p0), .val (.int p1), .val (.long q2), .second, .val (.int p3), .val (.int (0 : Int32)), .val (.ref w_PartyKind_SMALL_MICRO), .val (.int (p1 &&& (3 : Int32))), .unset, .unset, .unset, .unset] [])) (fun t k => XS.icmpYes X2.here hx rfl (pc0 := 79) (pc' := 96) rfl (hb hby at_79) rfl (feq hc79_11).2 (by decide) (by decide) k) ?_
          refine Goes.to (T' := T2.setTop (mkF m 98 #[.val (.int p0), .val (.int p1), .val (.long q2), .second, .val (.int p3), .val (.int (0 : Int32)), .val (.ref w_PartyKind_SMALL_MICRO), .val (.int (p1 &&& (3 : Int32))), .unset, .unset, .unset, .unset] [(.int p3)])) (fun t k => XS.iload X2.here hx rfl (hb hby at_96) rfl k) ?_
          refine Goes.to (T' := T2.setTop (mkF m 99 #[.val (.int p0), .val (.int p1), .val (.long q2), .second, .val (.int p3), .val (.int (0 : Int32)), .val (.ref w_PartyKind_SMALL_MICRO), .val (.int (p1 &&& (3 : Int32))), .unset, .unset, .unset, .unset] [(.int (3 : Int32)), (.int p3)])) (fun t k => XS.iconst X2.here hx rfl (hb hby at_98) k) ?_
          refine Goes.to (T' := T2.setTop (mkF m 100 #[.val (.int p0), .val (.int p1), .val (.long q2), .second, .val (.int p3), .val (.int (0 : Int32)), .val (.ref w_PartyKind_SMALL_MICRO), .val (.int (p1 &&& (3 : Int32))), .unset, .unset, .unset, .unset] [(.int (p3 &&& (3 : Int32)))])) (fun t k => XS.iand X2.here hx rfl (hb hby at_99) rfl k) ?_
          refine Goes.to (T' := T2.setTop (mkF m 101 #[.val (.int p0), .val (.int p1), .val (.long q2), .second, .val (.int p3), .val (.int (0 : Int32)), .val (.ref w_PartyKind_SMALL_MICRO), .val (.int (p1 &&& (3 : Int32))), .unset, .unset, .unset, .unset] [(.long ((p3 &&& (3 : Int32)).toInt64))])) (fun t k => XS.i2l X2.here hx rfl (hb hby at_100) rfl k) ?_
          refine Goes.to (T' := T2.setTop (mkF m 103 #[.val (.int p0), .val (.int p1), .val (.long q2), .second, .val (.int p3), .val (.int (0 : Int32)), .val (.ref w_PartyKind_SMALL_MICRO), .val (.int (p1 &&& (3 : Int32))), .val (.long ((p3 &&& (3 : Int32)).toInt64)), .second, .unset, .unset] [])) (fun t k => XS.lstore X2.here hx rfl (hb hby at_101) rfl (l' := #[.val (.int p0), .val (.int p1), .val (.long q2), .second, .val (.int p3), .val (.int (0 : Int32)), .val (.ref w_PartyKind_SMALL_MICRO), .val (.int (p1 &&& (3 : Int32))), .val (.long ((p3 &&& (3 : Int32)).toInt64)), .second, .unset, .unset]) rfl k) ?_
          exact J103 _ _ ((p3 &&& (3 : Int32)).toInt64) X2 e2 N0 
  · rw [hv_1]
    refine Goes.to (T' := s₁.setTop (mkF m 8 #[.val (.int p0), .val (.int p1), .val (.long q2), .second, .val (.int p3), .val (.int (1 : Int32)), .unset, .unset, .unset, .unset, .unset, .unset] [])) (fun t k => XS.istore X0.here hx rfl (hb hby at_6) rfl (l' := #[.val (.int p0), .val (.int p1), .val (.long q2), .second, .val (.int p3), .val (.int (1 : Int32)), .unset, .unset, .unset, .unset, .unset, .unset]) rfl k) ?_
    refine Goes.to (T' := s₁.setTop (mkF m 10 #[.val (.int p0), .val (.int p1), .val (.long q2), .second, .val (.int p3), .val (.int (1 : Int32)), .unset, .unset, .unset, .unset, .unset, .unset] [(.int (1 : Int32))])) (fun t k => XS.iload X0.here hx rfl (hb hby at_8) rfl k) ?_
    refine Goes.to (T' := s₁.setTop (mkF m 19 #[.val (.int p0), .val (.int p1), .val (.long q2), .second, .val (.int p3), .val (.int (1 : Int32)), .unset, .unset, .unset, .unset, .unset, .unset] [])) (fun t k => XS.ifYes X0.here hx rfl (pc0 := 10) (pc' := 19) rfl (hb hby at_10) rfl ((if0 _ _).trans (feq (by decide)).2) (by decide) (by decide) k) ?_
    refine Goes.to (T' := s₁.setTop (mkF m 21 #[.val (.int p0), .val (.int p1), .val (.long q2), .second, .val (.int p3), .val (.int (1 : Int32)), .unset, .unset, .unset, .unset, .unset, .unset] [(.int (1 : Int32))])) (fun t k => XS.iload X0.here hx rfl (hb hby at_19) rfl k) ?_
    refine Goes.to (T' := s₁.setTop (mkF m 22 #[.val (.int p0), .val (.int p1), .val (.long q2), .second, .val (.int p3), .val (.int (1 : Int32)), .unset, .unset, .unset, .unset, .unset, .unset] [(.int (1 : Int32)), (.int (1 : Int32))])) (fun t k => XS.iconst X0.here hx rfl (hb hby at_21) k) ?_
    refine Goes.to (T' := s₁.setTop (mkF m 25 #[.val (.int p0), .val (.int p1), .val (.long q2), .second, .val (.int p3), .val (.int (1 : Int32)), .unset, .unset, .unset, .unset, .unset, .unset] [])) (fun t k => XS.icmpNo X0.here hx rfl (hb hby at_22) rfl (teq (by decide)).2 k) ?_
    obtain ⟨T12, X12, e12, st12⟩ := getS2 X0 hx hZ hown (host := "") (Or.inl (hw _ (List.mem_of_getElem? (i := 36) rfl))) Via.refl e0 (S_w_PartyKind_FARMER.ext O0.2) (g := (mkF m 25 #[.val (.int p0), .val (.int p1), .val (.long q2), .second, .val (.int p3), .val (.int (1 : Int32)), .unset, .unset, .unset, .unset, .unset, .unset] [])) rfl (hb hby at_25)
    refine Goes.to (T' := T12.setTop (mkF m 28 #[.val (.int p0), .val (.int p1), .val (.long q2), .second, .val (.int p3), .val (.int (1 : Int32)), .unset, .unset, .unset, .unset, .unset, .unset] [(.ref w_PartyKind_FARMER)])) st12 ?_
    refine Goes.to (T' := T12.setTop (mkF m 34 #[.val (.int p0), .val (.int p1), .val (.long q2), .second, .val (.int p3), .val (.int (1 : Int32)), .unset, .unset, .unset, .unset, .unset, .unset] [(.ref w_PartyKind_FARMER)])) (fun t k => XS.goto X12.here hx rfl (pc0 := 28) (pc' := 34) rfl (hb hby at_28) (by decide) (by decide) k) ?_
    refine Goes.to (T' := T12.setTop (mkF m 36 #[.val (.int p0), .val (.int p1), .val (.long q2), .second, .val (.int p3), .val (.int (1 : Int32)), .val (.ref w_PartyKind_FARMER), .unset, .unset, .unset, .unset, .unset] [])) (fun t k => XS.astore X12.here hx rfl (hb hby at_34) rfl rfl (l' := #[.val (.int p0), .val (.int p1), .val (.long q2), .second, .val (.int p3), .val (.int (1 : Int32)), .val (.ref w_PartyKind_FARMER), .unset, .unset, .unset, .unset, .unset]) rfl k) ?_
    refine Goes.to (T' := T12.setTop (mkF m 37 #[.val (.int p0), .val (.int p1), .val (.long q2), .second, .val (.int p3), .val (.int (1 : Int32)), .val (.ref w_PartyKind_FARMER), .unset, .unset, .unset, .unset, .unset] [(.int p1)])) (fun t k => XS.iloadN X12.here hx rfl (hb hby at_36) rfl k) ?_
    refine Goes.to (T' := T12.setTop (mkF m 38 #[.val (.int p0), .val (.int p1), .val (.long q2), .second, .val (.int p3), .val (.int (1 : Int32)), .val (.ref w_PartyKind_FARMER), .unset, .unset, .unset, .unset, .unset] [(.int (3 : Int32)), (.int p1)])) (fun t k => XS.iconst X12.here hx rfl (hb hby at_37) k) ?_
    refine Goes.to (T' := T12.setTop (mkF m 39 #[.val (.int p0), .val (.int p1), .val (.long q2), .second, .val (.int p3), .val (.int (1 : Int32)), .val (.ref w_PartyKind_FARMER), .unset, .unset, .unset, .unset, .unset] [(.int (p1 &&& (3 : Int32)))])) (fun t k => XS.iand X12.here hx rfl (hb hby at_38) rfl k) ?_
    refine Goes.to (T' := T12.setTop (mkF m 41 #[.val (.int p0), .val (.int p1), .val (.long q2), .second, .val (.int p3), .val (.int (1 : Int32)), .val (.ref w_PartyKind_FARMER), .val (.int (p1 &&& (3 : Int32))), .unset, .unset, .unset, .unset] [])) (fun t k => XS.istore X12.here hx rfl (hb hby at_39) rfl (l' := #[.val (.int p0), .val (.int p1), .val (.long q2), .second, .val (.int p3), .val (.int (1 : Int32)), .val (.ref w_PartyKind_FARMER), .val (.int (p1 &&& (3 : Int32))), .unset, .unset, .unset, .unset]) rfl k) ?_
    have J103 : ∀ (TJ13 : State) (locsJ13 : List Loc) (am : Int64) (XJ13 : Stand p l e room_1 s m #[(.int p0), (.int p1), (.long q2), (.int p3)] below meth c TJ13 locsJ13 0 0) (eJ13 : TJ13.heap = h0) (NJ13 : Fr n0 locsJ13), Goes p.tables e below Qf (TJ13.setTop (mkF m 103 #[.val (.int p0), .val (.int p1), .val (.long q2), .second, .val (.int p3), .val (.int (1 : Int32)), .val (.ref w_PartyKind_FARMER), .val (.int (p1 &&& (3 : Int32))), .val (.long am), .second, .unset, .unset] [])) := by
      intro TJ13 locsJ13 am XJ13 eJ13 NJ13 
      refine Goes.to (T' := TJ13.setTop (mkF m 105 #[.val (.int p0), .val (.int p1), .val (.long q2), .second, .val (.int p3), .val (.int (1 : Int32)), .val (.ref w_PartyKind_FARMER), .val (.int (p1 &&& (3 : Int32))), .val (.long am), .second, .unset, .unset] [(.int (1 : Int32))])) (fun t k => XS.iload XJ13.here hx rfl (hb hby at_103) rfl k) ?_
      refine Goes.to (T' := TJ13.setTop (mkF m 127 #[.val (.int p0), .val (.int p1), .val (.long q2), .second, .val (.int p3), .val (.int (1 : Int32)), .val (.ref w_PartyKind_FARMER), .val (.int (p1 &&& (3 : Int32))), .val (.long am), .second, .unset, .unset] [])) (fun t k => XS.ifYes XJ13.here hx rfl (pc0 := 105) (pc' := 127) rfl (hb hby at_105) rfl ((if0 _ _).trans (feq (by decide)).2) (by decide) (by decide) k) ?_
      refine Goes.to (T' := TJ13.setTop (mkF m 129 #[.val (.int p0), .val (.int p1), .val (.long q2), .second, .val (.int p3), .val (.int (1 : Int32)), .val (.ref w_PartyKind_FARMER), .val (.int (p1 &&& (3 : Int32))), .val (.long am), .second, .unset, .unset] [(.int (1 : Int32))])) (fun t k => XS.iload XJ13.here hx rfl (hb hby at_127) rfl k) ?_
      refine Goes.to (T' := TJ13.setTop (mkF m 130 #[.val (.int p0), .val (.int p1), .val (.long q2), .second, .val (.int p3), .val (.int (1 : Int32)), .val (.ref w_PartyKind_FARMER), .val (.int (p1 &&& (3 : Int32))), .val (.long am), .second, .unset, .unset] [(.int (1 : Int32)), (.int (1 : Int32))])) (fun t k => XS.iconst XJ13.here hx rfl (hb hby at_129) k) ?_
      refine Goes.to (T' := TJ13.setTop (mkF m 133 #[.val (.int p0), .val (.int p1), .val (.long q2), .second, .val (.int p3), .val (.int (1 : Int32)), .val (.ref w_PartyKind_FARMER), .val (.int (p1 &&& (3 : Int32))), .val (.long am), .second, .unset, .unset] [])) (fun t k => XS.icmpNo XJ13.here hx rfl (hb hby at_130) rfl (teq (by decide)).2 k) ?_
      refine Goes.to (T' := TJ13.setTop (mkF m 135 #[.val (.int p0), .val (.int p1), .val (.long q2), .second, .val (.int p3), .val (.int (1 : Int32)), .val (.ref w_PartyKind_FARMER), .val (.int (p1 &&& (3 : Int32))), .val (.long am), .second, .unset, .unset] [(.long am)])) (fun t k => XS.lload XJ13.here hx rfl (hb hby at_133) rfl k) ?_
      refine Goes.to (T' := TJ13.setTop (mkF m 138 #[.val (.int p0), .val (.int p1), .val (.long q2), .second, .val (.int p3), .val (.int (1 : Int32)), .val (.ref w_PartyKind_FARMER), .val (.int (p1 &&& (3 : Int32))), .val (.long am), .second, .unset, .unset] [(.long (200000000 : Int64)), (.long am)])) (XJ13.ldc2Long hx hown (mvT hZ (hw _ (List.mem_of_getElem? (i := 32) rfl))) (g := (mkF m 135 #[.val (.int p0), .val (.int p1), .val (.long q2), .second, .val (.int p3), .val (.int (1 : Int32)), .val (.ref w_PartyKind_FARMER), .val (.int (p1 &&& (3 : Int32))), .val (.long am), .second, .unset, .unset] [(.long am)])) rfl (hb hby at_135)) ?_
      refine Goes.to (T' := TJ13.setTop (mkF m 139 #[.val (.int p0), .val (.int p1), .val (.long q2), .second, .val (.int p3), .val (.int (1 : Int32)), .val (.ref w_PartyKind_FARMER), .val (.int (p1 &&& (3 : Int32))), .val (.long am), .second, .unset, .unset] [(.int (lcmpW am (200000000 : Int64)))])) (fun t k => XS.lcmp XJ13.here hx rfl (hb hby at_138) rfl k) ?_
      rcases Decidable.em ((200000000 : Int64) < am) with hc139_14 | hc139_14
      · skip
        refine Goes.to (T' := TJ13.setTop (mkF m 146 #[.val (.int p0), .val (.int p1), .val (.long q2), .second, .val (.int p3), .val (.int (1 : Int32)), .val (.ref w_PartyKind_FARMER), .val (.int (p1 &&& (3 : Int32))), .val (.long am), .second, .unset, .unset] [])) (fun t k => XS.ifYes XJ13.here hx rfl (pc0 := 139) (pc' := 146) rfl (hb hby at_139) rfl ((if0 _ _).trans (tlt ((lw_gt am (200000000 : Int64)).mpr hc139_14)).2.2.1) (by decide) (by decide) k) ?_
        refine Goes.to (T' := TJ13.setTop (mkF m 147 #[.val (.int p0), .val (.int p1), .val (.long q2), .second, .val (.int p3), .val (.int (1 : Int32)), .val (.ref w_PartyKind_FARMER), .val (.int (p1 &&& (3 : Int32))), .val (.long am), .second, .unset, .unset] [(.int (0 : Int32))])) (fun t k => XS.iconst XJ13.here hx rfl (hb hby at_146) k) ?_
        refine Goes.to (T' := TJ13.setTop (mkF m 149 #[.val (.int p0), .val (.int p1), .val (.long q2), .second, .val (.int p3), .val (.int (1 : Int32)), .val (.ref w_PartyKind_FARMER), .val (.int (p1 &&& (3 : Int32))), .val (.long am), .second, .val (.int (0 : Int32)), .unset] [])) (fun t k => XS.istore XJ13.here hx rfl (hb hby at_147) rfl (l' := #[.val (.int p0), .val (.int p1), .val (.long q2), .second, .val (.int p3), .val (.int (1 : Int32)), .val (.ref w_PartyKind_FARMER), .val (.int (p1 &&& (3 : Int32))), .val (.long am), .second, .val (.int (0 : Int32)), .unset]) rfl k) ?_
        refine Goes.to (T' := TJ13.setTop (mkF m 155 #[.val (.int p0), .val (.int p1), .val (.long q2), .second, .val (.int p3), .val (.int (1 : Int32)), .val (.ref w_PartyKind_FARMER), .val (.int (p1 &&& (3 : Int32))), .val (.long am), .second, .val (.int (0 : Int32)), .unset] [])) (fun t k => XS.goto XJ13.here hx rfl (pc0 := 149) (pc' := 155) rfl (hb hby at_149) (by decide) (by decide) k) ?_
        refine Goes.to (T' := TJ13.setTop (mkF m 157 #[.val (.int p0), .val (.int p1), .val (.long q2), .second, .val (.int p3), .val (.int (1 : Int32)), .val (.ref w_PartyKind_FARMER), .val (.int (p1 &&& (3 : Int32))), .val (.long am), .second, .val (.int (0 : Int32)), .unset] [(.ref w_PartyKind_FARMER)])) (fun t k => XS.aload XJ13.here hx rfl (hb hby at_155) rfl rfl k) ?_
        refine Goes.to (T' := TJ13.setTop (mkF m 159 #[.val (.int p0), .val (.int p1), .val (.long q2), .second, .val (.int p3), .val (.int (1 : Int32)), .val (.ref w_PartyKind_FARMER), .val (.int (p1 &&& (3 : Int32))), .val (.long am), .second, .val (.int (0 : Int32)), .unset] [(.long am), (.ref w_PartyKind_FARMER)])) (fun t k => XS.lload XJ13.here hx rfl (hb hby at_157) rfl k) ?_
        obtain ⟨_, _, ⟨T15, L15, k15, n15⟩, -, X15, ⟨Lc15, hQ15, l15, y15, z15⟩, st15⟩ := Jvm.LawKit.callS XJ13 hx (y := (⟨"com/example/suretyline/suretyline/LiabilityWeight", "ofLoanInFen", "(Lcom/example/suretyline/suretyline/PartyKind;J)Lcom/example/suretyline/suretyline/LiabilityWeight;"⟩ : MethodName)) hown (mvT hZ (hw _ (List.mem_of_getElem? (i := 5) rfl))) (mvT hZ (hw _ (List.mem_of_getElem? (i := 6) rfl))) (mvT hZ (hw _ (List.mem_of_getElem? (i := 7) rfl))) (mvT hZ (hw _ (List.mem_of_getElem? (i := 8) rfl))) (by decide) (backOf (W := 0) (rmF1 l Z a0 hw [] am w_PartyKind_SMALL_MICRO w_LiabilityWeight_1__SwitchMap_com_example_suretyline_suretyline_PartyKind w_LiabilityWeight_INCLUSIVE_LOAN w_PartyKind_OTHER w_LiabilityWeight_LOAN w_PartyKind_FARMER k_w_LiabilityWeight_1__SwitchMap_com_example_suretyline_suretyline_PartyKind w_LiabilityWeight_LOAN h0 n0 O0 NF (by first | (simp [hc139_14]; done) | ((repeat' split) <;> first | rfl | contradiction | simp_all))) hZ (hw _ (List.mem_of_getElem? (i := 8) rfl)) (hw _ (List.mem_of_getElem? (i := 7) rfl)) (by decide) (by decide)) (g := (mkF m 159 #[.val (.int p0), .val (.int p1), .val (.long q2), .second, .val (.int p3), .val (.int (1 : Int32)), .val (.ref w_PartyKind_FARMER), .val (.int (p1 &&& (3 : Int32))), .val (.long am), .second, .val (.int (0 : Int32)), .unset] [(.long am), (.ref w_PartyKind_FARMER)])) rfl (by rw [hml]; rfl) (argsL := [(.ref w_PartyKind_FARMER), (.long am)]) (rest := []) (lenOf pd_34 rfl) rfl (by show 2 * 0 + _ ≤ _; exact Nat.le_of_eq rfl) (hb hby at_159) (fun _ _ => ⟨rfl, eJ13, (by decide : 0 + 0 ≤ _), (by decide : 0 + 0 ≤ _)⟩)
        dsimp only [Pt.U, Pt.locs, Pt.cells, Pt.slots] at X15 l15 y15 z15 st15 hQ15
        subst l15 y15 z15
        obtain ⟨rfl, Nq15, e15⟩ := hQ15
        have N15 := Fr.app NJ13 Nq15
        refine Goes.to (T' := T15.setTop (mkF m 162 #[.val (.int p0), .val (.int p1), .val (.long q2), .second, .val (.int p3), .val (.int (1 : Int32)), .val (.ref w_PartyKind_FARMER), .val (.int (p1 &&& (3 : Int32))), .val (.long am), .second, .val (.int (0 : Int32)), .unset] [(.ref w_LiabilityWeight_LOAN)])) st15 ?_
        refine Goes.to (T' := T15.setTop (mkF m 164 #[.val (.int p0), .val (.int p1), .val (.long q2), .second, .val (.int p3), .val (.int (1 : Int32)), .val (.ref w_PartyKind_FARMER), .val (.int (p1 &&& (3 : Int32))), .val (.long am), .second, .val (.int (0 : Int32)), .val (.ref w_LiabilityWeight_LOAN)] [])) (fun t k => XS.astore X15.here hx rfl (hb hby at_162) rfl rfl (l' := #[.val (.int p0), .val (.int p1), .val (.long q2), .second, .val (.int p3), .val (.int (1 : Int32)), .val (.ref w_PartyKind_FARMER), .val (.int (p1 &&& (3 : Int32))), .val (.long am), .second, .val (.int (0 : Int32)), .val (.ref w_LiabilityWeight_LOAN)]) rfl k) ?_
        refine Goes.to (T' := T15.setTop (mkF m 166 #[.val (.int p0), .val (.int p1), .val (.long q2), .second, .val (.int p3), .val (.int (1 : Int32)), .val (.ref w_PartyKind_FARMER), .val (.int (p1 &&& (3 : Int32))), .val (.long am), .second, .val (.int (0 : Int32)), .val (.ref w_LiabilityWeight_LOAN)] [(.ref w_LiabilityWeight_LOAN)])) (fun t k => XS.aload X15.here hx rfl (hb hby at_164) rfl rfl k) ?_
        refine Goes.to (T' := T15.setTop (mkF m 168 #[.val (.int p0), .val (.int p1), .val (.long q2), .second, .val (.int p3), .val (.int (1 : Int32)), .val (.ref w_PartyKind_FARMER), .val (.int (p1 &&& (3 : Int32))), .val (.long am), .second, .val (.int (0 : Int32)), .val (.ref w_LiabilityWeight_LOAN)] [(.int (0 : Int32)), (.ref w_LiabilityWeight_LOAN)])) (fun t k => XS.iload X15.here hx rfl (hb hby at_166) rfl k) ?_
        refine Goes.to (T' := T15.setTop (mkF m 177 #[.val (.int p0), .val (.int p1), .val (.long q2), .second, .val (.int p3), .val (.int (1 : Int32)), .val (.ref w_PartyKind_FARMER), .val (.int (p1 &&& (3 : Int32))), .val (.long am), .second, .val (.int (0 : Int32)), .val (.ref w_LiabilityWeight_LOAN)] [(.ref w_LiabilityWeight_LOAN)])) (fun t k => XS.ifYes X15.here hx rfl (pc0 := 168) (pc' := 177) rfl (hb hby at_168) rfl ((if0 _ _).trans (teq (by decide)).1) (by decide) (by decide) k) ?_
        obtain ⟨T16, X16, e16, st16⟩ := getS2 X15 hx hZ hown (host := "") (Or.inl (hw _ (List.mem_of_getElem? (i := 35) rfl))) Via.refl e15 (S_w_LiabilityWeight_LOAN.ext O0.2) (g := (mkF m 177 #[.val (.int p0), .val (.int p1), .val (.long q2), .second, .val (.int p3), .val (.int (1 : Int32)), .val (.ref w_PartyKind_FARMER), .val (.int (p1 &&& (3 : Int32))), .val (.long am), .second, .val (.int (0 : Int32)), .val (.ref w_LiabilityWeight_LOAN)] [(.ref w_LiabilityWeight_LOAN)])) rfl (hb hby at_177)
        refine Goes.to (T' := T16.setTop (mkF m 180 #[.val (.int p0), .val (.int p1), .val (.long q2), .second, .val (.int p3), .val (.int (1 : Int32)), .val (.ref w_PartyKind_FARMER), .val (.int (p1 &&& (3 : Int32))), .val (.long am), .second, .val (.int (0 : Int32)), .val (.ref w_LiabilityWeight_LOAN)] [(.ref w_LiabilityWeight_LOAN), (.ref w_LiabilityWeight_LOAN)])) st16 ?_
        refine Goes.to (T' := T16.setTop (mkF m 183 #[.val (.int p0), .val (.int p1), .val (.long q2), .second, .val (.int p3), .val (.int (1 : Int32)), .val (.ref w_PartyKind_FARMER), .val (.int (p1 &&& (3 : Int32))), .val (.long am), .second, .val (.int (0 : Int32)), .val (.ref w_LiabilityWeight_LOAN)] [])) (fun t k => Jvm.RoadKit.acmp (g := (mkF m 180 #[.val (.int p0), .val (.int p1), .val (.long q2), .second, .val (.int p3), .val (.int (1 : Int32)), .val (.ref w_PartyKind_FARMER), .val (.int (p1 &&& (3 : Int32))), .val (.long am), .second, .val (.int (0 : Int32)), .val (.ref w_LiabilityWeight_LOAN)] [(.ref w_LiabilityWeight_LOAN), (.ref w_LiabilityWeight_LOAN)])) X16 hx rfl rfl rfl (pc0 := 180) (pc' := 183) (same := true) rfl (hb hby at_180) rfl (decide_eq_true rfl) (by decide) (by decide) k) ?_
        refine Goes.to (T' := T16.setTop (mkF m 184 #[.val (.int p0), .val (.int p1), .val (.long q2), .second, .val (.int p3), .val (.int (1 : Int32)), .val (.ref w_PartyKind_FARMER), .val (.int (p1 &&& (3 : Int32))), .val (.long am), .second, .val (.int (0 : Int32)), .val (.ref w_LiabilityWeight_LOAN)] [(.int (1 : Int32))])) (fun t k => XS.iconst X16.here hx rfl (hb hby at_183) k) ?_
        refine Goes.to (T' := T16.setTop (mkF m 188 #[.val (.int p0), .val (.int p1), .val (.long q2), .second, .val (.int p3), .val (.int (1 : Int32)), .val (.ref w_PartyKind_FARMER), .val (.int (p1 &&& (3 : Int32))), .val (.long am), .second, .val (.int (0 : Int32)), .val (.ref w_LiabilityWeight_LOAN)] [(.int (1 : Int32))])) (fun t k => XS.goto X16.here hx rfl (pc0 := 184) (pc' := 188) rfl (hb hby at_184) (by decide) (by decide) k) ?_
        obtain ⟨fs, hrL, hrun, hended, hW, hsame⟩ := X16.leave (v := some (.int (1 : Int32))) (fun h => by rw [Bd.returns] at h; cases h)
        subst hQf
        refine ⟨_, _, retN X16 hx (t := .boolean) Bd.returns (by simp) (hb hby at_188) hrL, hrun, hended, _, _, rfl, ?_, ⟨_, rfl⟩, hW, hsame.mono (by decide) (by decide)⟩
        show (fun (v : Option Value) (h : Heap) (L : List Loc) => v = some (.int 1) ∧ Fr n0 L) (some (.int (1 : Int32))) T16.heap _
        rw [e16]
        exact ⟨rfl, N15⟩
      · skip
        refine Goes.to (T' := TJ13.setTop (mkF m 142 #[.val (.int p0), .val (.int p1), .val (.long q2), .second, .val (.int p3), .val (.int (1 : Int32)), .val (.ref w_PartyKind_FARMER), .val (.int (p1 &&& (3 : Int32))), .val (.long am), .second, .unset, .unset] [])) (fun t k => XS.ifNo XJ13.here hx rfl (hb hby at_139) rfl ((if0 _ _).trans (flt (fun q => hc139_14 ((lw_gt am (200000000 : Int64)).mp q))).2.2.1) k) ?_
        refine Goes.to (T' := TJ13.setTop (mkF m 143 #[.val (.int p0), .val (.int p1), .val (.long q2), .second, .val (.int p3), .val (.int (1 : Int32)), .val (.ref w_PartyKind_FARMER), .val (.int (p1 &&& (3 : Int32))), .val (.long am), .second, .unset, .unset] [(.int (1 : Int32))])) (fun t k => XS.iconst XJ13.here hx rfl (hb hby at_142) k) ?_
        refine Goes.to (T' := TJ13.setTop (mkF m 147 #[.val (.int p0), .val (.int p1), .val (.long q2), .second, .val (.int p3), .val (.int (1 : Int32)), .val (.ref w_PartyKind_FARMER), .val (.int (p1 &&& (3 : Int32))), .val (.long am), .second, .unset, .unset] [(.int (1 : Int32))])) (fun t k => XS.goto XJ13.here hx rfl (pc0 := 143) (pc' := 147) rfl (hb hby at_143) (by decide) (by decide) k) ?_
        refine Goes.to (T' := TJ13.setTop (mkF m 149 #[.val (.int p0), .val (.int p1), .val (.long q2), .second, .val (.int p3), .val (.int (1 : Int32)), .val (.ref w_PartyKind_FARMER), .val (.int (p1 &&& (3 : Int32))), .val (.long am), .second, .val (.int (1 : Int32)), .unset] [])) (fun t k => XS.istore XJ13.here hx rfl (hb hby at_147) rfl (l' := #[.val (.int p0), .val (.int p1), .val (.long q2), .second, .val (.int p3), .val (.int (1 : Int32)), .val (.ref w_PartyKind_FARMER), .val (.int (p1 &&& (3 : Int32))), .val (.long am), .second, .val (.int (1 : Int32)), .unset]) rfl k) ?_
        refine Goes.to (T' := TJ13.setTop (mkF m 155 #[.val (.int p0), .val (.int p1), .val (.long q2), .second, .val (.int p3), .val (.int (1 : Int32)), .val (.ref w_PartyKind_FARMER), .val (.int (p1 &&& (3 : Int32))), .val (.long am), .second, .val (.int (1 : Int32)), .unset] [])) (fun t k => XS.goto XJ13.here hx rfl (pc0 := 149) (pc' := 155) rfl (hb hby at_149) (by decide) (by decide) k) ?_
        refine Goes.to (T' := TJ13.setTop (mkF m 157 #[.val (.int p0), .val (.int p1), .val (.long q2), .second, .val (.int p3), .val (.int (1 : Int32)), .val (.ref w_PartyKind_FARMER), .val (.int (p1 &&& (3 : Int32))), .val (.long am), .second, .val (.int (1 : Int32)), .unset] [(.ref w_PartyKind_FARMER)])) (fun t k => XS.aload XJ13.here hx rfl (hb hby at_155) rfl rfl k) ?_
        refine Goes.to (T' := TJ13.setTop (mkF m 159 #[.val (.int p0), .val (.int p1), .val (.long q2), .second, .val (.int p3), .val (.int (1 : Int32)), .val (.ref w_PartyKind_FARMER), .val (.int (p1 &&& (3 : Int32))), .val (.long am), .second, .val (.int (1 : Int32)), .unset] [(.long am), (.ref w_PartyKind_FARMER)])) (fun t k => XS.lload XJ13.here hx rfl (hb hby at_157) rfl k) ?_
        obtain ⟨_, _, ⟨T17, L17, k17, n17⟩, -, X17, ⟨Lc17, hQ17, l17, y17, z17⟩, st17⟩ := Jvm.LawKit.callS XJ13 hx (y := (⟨"com/example/suretyline/suretyline/LiabilityWeight", "ofLoanInFen", "(Lcom/example/suretyline/suretyline/PartyKind;J)Lcom/example/suretyline/suretyline/LiabilityWeight;"⟩ : MethodName)) hown (mvT hZ (hw _ (List.mem_of_getElem? (i := 5) rfl))) (mvT hZ (hw _ (List.mem_of_getElem? (i := 6) rfl))) (mvT hZ (hw _ (List.mem_of_getElem? (i := 7) rfl))) (mvT hZ (hw _ (List.mem_of_getElem? (i := 8) rfl))) (by decide) (backOf (W := 0) (rmF1 l Z a0 hw [] am w_PartyKind_SMALL_MICRO w_LiabilityWeight_1__SwitchMap_com_example_suretyline_suretyline_PartyKind w_LiabilityWeight_INCLUSIVE_LOAN w_PartyKind_OTHER w_LiabilityWeight_LOAN w_PartyKind_FARMER k_w_LiabilityWeight_1__SwitchMap_com_example_suretyline_suretyline_PartyKind w_LiabilityWeight_INCLUSIVE_LOAN h0 n0 O0 NF (by first | (simp [hc139_14]; done) | ((repeat' split) <;> first | rfl | contradiction | simp_all))) hZ (hw _ (List.mem_of_getElem? (i := 8) rfl)) (hw _ (List.mem_of_getElem? (i := 7) rfl)) (by decide) (by decide)) (g := (mkF m 159 #[.val (.int p0), .val (.int p1), .val (.long q2), .second, .val (.int p3), .val (.int (1 : Int32)), .val (.ref w_PartyKind_FARMER), .val (.int (p1 &&& (3 : Int32))), .val (.long am), .second, .val (.int (1 : Int32)), .unset] [(.long am), (.ref w_PartyKind_FARMER)])) rfl (by rw [hml]; rfl) (argsL := [(.ref w_PartyKind_FARMER), (.long am)]) (rest := []) (lenOf pd_34 rfl) rfl (by show 2 * 0 + _ ≤ _; exact Nat.le_of_eq rfl) (hb hby at_159) (fun _ _ => ⟨rfl, eJ13, (by decide : 0 + 0 ≤ _), (by decide : 0 + 0 ≤ _)⟩)
        dsimp only [Pt.U, Pt.locs, Pt.cells, Pt.slots] at X17 l17 y17 z17 st17 hQ17
        subst l17 y17 z17
        obtain ⟨rfl, Nq17, e17⟩ := hQ17
        have N17 := Fr.app NJ13 Nq17
        refine Goes.to (T' := T17.setTop (mkF m 162 #[.val (.int p0), .val (.int p1), .val (.long q2), .second, .val (.int p3), .val (.int (1 : Int32)), .val (.ref w_PartyKind_FARMER), .val (.int (p1 &&& (3 : Int32))), .val (.long am), .second, .val (.int (1 : Int32)), .unset] [(.ref w_LiabilityWeight_INCLUSIVE_LOAN)])) st17 ?_
        refine Goes.to (T' := T17.setTop (mkF m 164 #[.val (.int p0), .val (.int p1), .val (.long q2), .second, .val (.int p3), .val (.int (1 : Int32)), .val (.ref w_PartyKind_FARMER), .val (.int (p1 &&& (3 : Int32))), .val (.long am), .second, .val (.int (1 : Int32)), .val (.ref w_LiabilityWeight_INCLUSIVE_LOAN)] [])) (fun t k => XS.astore X17.here hx rfl (hb hby at_162) rfl rfl (l' := #[.val (.int p0), .val (.int p1), .val (.long q2), .second, .val (.int p3), .val (.int (1 : Int32)), .val (.ref w_PartyKind_FARMER), .val (.int (p1 &&& (3 : Int32))), .val (.long am), .second, .val (.int (1 : Int32)), .val (.ref w_LiabilityWeight_INCLUSIVE_LOAN)]) rfl k) ?_
        refine Goes.to (T' := T17.setTop (mkF m 166 #[.val (.int p0), .val (.int p1), .val (.long q2), .second, .val (.int p3), .val (.int (1 : Int32)), .val (.ref w_PartyKind_FARMER), .val (.int (p1 &&& (3 : Int32))), .val (.long am), .second, .val (.int (1 : Int32)), .val (.ref w_LiabilityWeight_INCLUSIVE_LOAN)] [(.ref w_LiabilityWeight_INCLUSIVE_LOAN)])) (fun t k => XS.aload X17.here hx rfl (hb hby at_164) rfl rfl k) ?_
        refine Goes.to (T' := T17.setTop (mkF m 168 #[.val (.int p0), .val (.int p1), .val (.long q2), .second, .val (.int p3), .val (.int (1 : Int32)), .val (.ref w_PartyKind_FARMER), .val (.int (p1 &&& (3 : Int32))), .val (.long am), .second, .val (.int (1 : Int32)), .val (.ref w_LiabilityWeight_INCLUSIVE_LOAN)] [(.int (1 : Int32)), (.ref w_LiabilityWeight_INCLUSIVE_LOAN)])) (fun t k => XS.iload X17.here hx rfl (hb hby at_166) rfl k) ?_
        refine Goes.to (T' := T17.setTop (mkF m 171 #[.val (.int p0), .val (.int p1), .val (.long q2), .second, .val (.int p3), .val (.int (1 : Int32)), .val (.ref w_PartyKind_FARMER), .val (.int (p1 &&& (3 : Int32))), .val (.long am), .second, .val (.int (1 : Int32)), .val (.ref w_LiabilityWeight_INCLUSIVE_LOAN)] [(.ref w_LiabilityWeight_INCLUSIVE_LOAN)])) (fun t k => XS.ifNo X17.here hx rfl (hb hby at_168) rfl ((if0 _ _).trans (feq (by decide)).1) k) ?_
        obtain ⟨T18, X18, e18, st18⟩ := getS2 X17 hx hZ hown (host := "") (Or.inl (hw _ (List.mem_of_getElem? (i := 28) rfl))) Via.refl e17 (S_w_LiabilityWeight_INCLUSIVE_LOAN.ext O0.2) (g := (mkF m 171 #[.val (.int p0), .val (.int p1), .val (.long q2), .second, .val (.int p3), .val (.int (1 : Int32)), .val (.ref w_PartyKind_FARMER), .val (.int (p1 &&& (3 : Int32))), .val (.long am), .second, .val (.int (1 : Int32)), .val (.ref w_LiabilityWeight_INCLUSIVE_LOAN)] [(.ref w_LiabilityWeight_INCLUSIVE_LOAN)])) rfl (hb hby at_171)
        refine Goes.to (T' := T18.setTop (mkF m 174 #[.val (.int p0), .val (.int p1), .val (.long q2), .second, .val (.int p3), .val (.int (1 : Int32)), .val (.ref w_PartyKind_FARMER), .val (.int (p1 &&& (3 : Int32))), .val (.long am), .second, .val (.int (1 : Int32)), .val (.ref w_LiabilityWeight_INCLUSIVE_LOAN)] [(.ref w_LiabilityWeight_INCLUSIVE_LOAN), (.ref w_LiabilityWeight_INCLUSIVE_LOAN)])) st18 ?_
        refine Goes.to (T' := T18.setTop (mkF m 180 #[.val (.int p0), .val (.int p1), .val (.long q2), .second, .val (.int p3), .val (.int (1 : Int32)), .val (.ref w_PartyKind_FARMER), .val (.int (p1 &&& (3 : Int32))), .val (.long am), .second, .val (.int (1 : Int32)), .val (.ref w_LiabilityWeight_INCLUSIVE_LOAN)] [(.ref w_LiabilityWeight_INCLUSIVE_LOAN), (.ref w_LiabilityWeight_INCLUSIVE_LOAN)])) (fun t k => XS.goto X18.here hx rfl (pc0 := 174) (pc' := 180) rfl (hb hby at_174) (by decide) (by decide) k) ?_
        refine Goes.to (T' := T18.setTop (mkF m 183 #[.val (.int p0), .val (.int p1), .val (.long q2), .second, .val (.int p3), .val (.int (1 : Int32)), .val (.ref w_PartyKind_FARMER), .val (.int (p1 &&& (3 : Int32))), .val (.long am), .second, .val (.int (1 : Int32)), .val (.ref w_LiabilityWeight_INCLUSIVE_LOAN)] [])) (fun t k => Jvm.RoadKit.acmp (g := (mkF m 180 #[.val (.int p0), .val (.int p1), .val (.long q2), .second, .val (.int p3), .val (.int (1 : Int32)), .val (.ref w_PartyKind_FARMER), .val (.int (p1 &&& (3 : Int32))), .val (.long am), .second, .val (.int (1 : Int32)), .val (.ref w_LiabilityWeight_INCLUSIVE_LOAN)] [(.ref w_LiabilityWeight_INCLUSIVE_LOAN), (.ref w_LiabilityWeight_INCLUSIVE_LOAN)])) X18 hx rfl rfl rfl (pc0 := 180) (pc' := 183) (same := true) rfl (hb hby at_180) rfl (decide_eq_true rfl) (by decide) (by decide) k) ?_
        refine Goes.to (T' := T18.setTop (mkF m 184 #[.val (.int p0), .val (.int p1), .val (.long q2), .second, .val (.int p3), .val (.int (1 : Int32)), .val (.ref w_PartyKind_FARMER), .val (.int (p1 &&& (3 : Int32))), .val (.long am), .second, .val (.int (1 : Int32)), .val (.ref w_LiabilityWeight_INCLUSIVE_LOAN)] [(.int (1 : Int32))])) (fun t k => XS.iconst X18.here hx rfl (hb hby at_183) k) ?_
        refine Goes.to (T' := T18.setTop (mkF m 188 #[.val (.int p0), .val (.int p1), .val (.long q2), .second, .val (.int p3), .val (.int (1 : Int32)), .val (.ref w_PartyKind_FARMER), .val (.int (p1 &&& (3 : Int32))), .val (.long am), .second, .val (.int (1 : Int32)), .val (.ref w_LiabilityWeight_INCLUSIVE_LOAN)] [(.int (1 : Int32))])) (fun t k => XS.goto X18.here hx rfl (pc0 := 184) (pc' := 188) rfl (hb hby at_184) (by decide) (by decide) k) ?_
        obtain ⟨fs, hrL, hrun, hended, hW, hsame⟩ := X18.leave (v := some (.int (1 : Int32))) (fun h => by rw [Bd.returns] at h; cases h)
        subst hQf
        refine ⟨_, _, retN X18 hx (t := .boolean) Bd.returns (by simp) (hb hby at_188) hrL, hrun, hended, _, _, rfl, ?_, ⟨_, rfl⟩, hW, hsame.mono (by decide) (by decide)⟩
        show (fun (v : Option Value) (h : Heap) (L : List Loc) => v = some (.int 1) ∧ Fr n0 L) (some (.int (1 : Int32))) T18.heap _
        rw [e18]
        exact ⟨rfl, N17⟩
    refine Goes.to (T' := T12.setTop (mkF m 43 #[.val (.int p0), .val (.int p1), .val (.long q2), .second, .val (.int p3), .val (.int (1 : Int32)), .val (.ref w_PartyKind_FARMER), .val (.int (p1 &&& (3 : Int32))), .unset, .unset, .unset, .unset] [(.int (p1 &&& (3 : Int32)))])) (fun t k => XS.iload X12.here hx rfl (hb hby at_41) rfl k) ?_
    rcases Decidable.em ((p1 &&& (3 : Int32)) = (0 : Int32)) with hc43_19 | hc43_19
    · skip
      refine Goes.to (T' := T12.setTop (mkF m 46 #[.val (.int p0), .val (.int p1), .val (.long q2), .second, .val (.int p3), .val (.int (1 : Int32)), .val (.ref w_PartyKind_FARMER), .val (.int (p1 &&& (3 : Int32))), .unset, .unset, .unset, .unset] [])) (fun t k => XS.ifNo X12.here hx rfl (hb hby at_43) rfl ((if0 _ _).trans (teq hc43_19).2) k) ?_
      refine Goes.to (T' := T12.setTop (mkF m 47 #[.val (.int p0), .val (.int p1), .val (.long q2), .second, .val (.int p3), .val (.int (1 : Int32)), .val (.ref w_PartyKind_FARMER), .val (.int (p1 &&& (3 : Int32))), .unset, .unset, .unset, .unset] [(.long q2)])) (fun t k => XS.lloadN X12.here hx rfl (hb hby at_46) rfl k) ?_
      refine Goes.to (T' := T12.setTop (mkF m 50 #[.val (.int p0), .val (.int p1), .val (.long q2), .second, .val (.int p3), .val (.int (1 : Int32)), .val (.ref w_PartyKind_FARMER), .val (.int (p1 &&& (3 : Int32))), .unset, .unset, .unset, .unset] [(.long (9223372036854775807 : Int64)), (.long q2)])) (X12.ldc2Long hx hown (mvT hZ (hw _ (List.mem_of_getElem? (i := 29) rfl))) (g := (mkF m 47 #[.val (.int p0), .val (.int p1), .val (.long q2), .second, .val (.int p3), .val (.int (1 : Int32)), .val (.ref w_PartyKind_FARMER), .val (.int (p1 &&& (3 : Int32))), .unset, .unset, .unset, .unset] [(.long q2)])) rfl (hb hby at_47)) ?_
      refine Goes.to (T' := T12.setTop (mkF m 51 #[.val (.int p0), .val (.int p1), .val (.long q2), .second, .val (.int p3), .val (.int (1 : Int32)), .val (.ref w_PartyKind_FARMER), .val (.int (p1 &&& (3 : Int32))), .unset, .unset, .unset, .unset] [(.long (q2 &&& (9223372036854775807 : Int64)))])) (fun t k => XS.land X12.here hx rfl (hb hby at_50) rfl k) ?_
      refine Goes.to (T' := T12.setTop (mkF m 53 #[.val (.int p0), .val (.int p1), .val (.long q2), .second, .val (.int p3), .val (.int (1 : Int32)), .val (.ref w_PartyKind_FARMER), .val (.int (p1 &&& (3 : Int32))), .val (.long (q2 &&& (9223372036854775807 : Int64))), .second, .unset, .unset] [])) (fun t k => XS.lstore X12.here hx rfl (hb hby at_51) rfl (l' := #[.val (.int p0), .val (.int p1), .val (.long q2), .second, .val (.int p3), .val (.int (1 : Int32)), .val (.ref w_PartyKind_FARMER), .val (.int (p1 &&& (3 : Int32))), .val (.long (q2 &&& (9223372036854775807 : Int64))), .second, .unset, .unset]) rfl k) ?_
      refine Goes.to (T' := T12.setTop (mkF m 103 #[.val (.int p0), .val (.int p1), .val (.long q2), .second, .val (.int p3), .val (.int (1 : Int32)), .val (.ref w_PartyKind_FARMER), .val (.int (p1 &&& (3 : Int32))), .val (.long (q2 &&& (9223372036854775807 : Int64))), .second, .unset, .unset] [])) (fun t k => XS.goto X12.here hx rfl (pc0 := 53) (pc' := 103) rfl (hb hby at_53) (by decide) (by decide) k) ?_
      exact J103 _ _ (q2 &&& (9223372036854775807 : Int64)) X12 e12 N0 
    · skip
      refine Goes.to (T' := T12.setTop (mkF m 56 #[.val (.int p0), .val (.int p1), .val (.long q2), .second, .val (.int p3), .val (.int (1 : Int32)), .val (.ref w_PartyKind_FARMER), .val (.int (p1 &&& (3 : Int32))), .unset, .unset, .unset, .unset] [])) (fun t k => XS.ifYes X12.here hx rfl (pc0 := 43) (pc' := 56) rfl (hb hby at_43) rfl ((if0 _ _).trans (feq hc43_19).2) (by decide) (by decide) k) ?_
      refine Goes.to (T' := T12.setTop (mkF m 58 #[.val (.int p0), .val (.int p1), .val (.long q2), .second, .val (.int p3), .val (.int (1 : Int32)), .val (.ref w_PartyKind_FARMER), .val (.int (p1 &&& (3 : Int32))), .unset, .unset, .unset, .unset] [(.int (p1 &&& (3 : Int32)))])) (fun t k => XS.iload X12.here hx rfl (hb hby at_56) rfl k) ?_
      refine Goes.to (T' := T12.setTop (mkF m 59 #[.val (.int p0), .val (.int p1), .val (.long q2), .second, .val (.int p3), .val (.int (1 : Int32)), .val (.ref w_PartyKind_FARMER), .val (.int (p1 &&& (3 : Int32))), .unset, .unset, .unset, .unset] [(.int (1 : Int32)), (.int (p1 &&& (3 : Int32)))])) (fun t k => XS.iconst X12.here hx rfl (hb hby at_58) k) ?_
      rcases Decidable.em ((p1 &&& (3 : Int32)) = (1 : Int32)) with hc59_20 | hc59_20
      · skip
        refine Goes.to (T' := T12.setTop (mkF m 62 #[.val (.int p0), .val (.int p1), .val (.long q2), .second, .val (.int p3), .val (.int (1 : Int32)), .val (.ref w_PartyKind_FARMER), .val (.int (p1 &&& (3 : Int32))), .unset, .unset, .unset, .unset] [])) (fun t k => XS.icmpNo X12.here hx rfl (hb hby at_59) rfl (teq hc59_20).2 k) ?_
        refine Goes.to (T' := T12.setTop (mkF m 65 #[.val (.int p0), .val (.int p1), .val (.long q2), .second, .val (.int p3), .val (.int (1 : Int32)), .val (.ref w_PartyKind_FARMER), .val (.int (p1 &&& (3 : Int32))), .unset, .unset, .unset, .unset] [(.long (500000000 : Int64))])) (X12.ldc2Long hx hown (mvT hZ (hw _ (List.mem_of_getElem? (i := 4) rfl))) (g := (mkF m 62 #[.val (.int p0), .val (.int p1), .val (.long q2), .second, .val (.int p3), .val (.int (1 : Int32)), .val (.ref w_PartyKind_FARMER), .val (.int (p1 &&& (3 : Int32))), .unset, .unset, .unset, .unset] [])) rfl (hb hby at_62)) ?_
        refine Goes.to (T' := T12.setTop (mkF m 67 #[.val (.int p0), .val (.int p1), .val (.long q2), .second, .val (.int p3), .val (.int (1 : Int32)), .val (.ref w_PartyKind_FARMER), .val (.int (p1 &&& (3 : Int32))), .unset, .unset, .unset, .unset] [(.int p3), (.long (500000000 : Int64))])) (fun t k => XS.iload X12.here hx rfl (hb hby at_65) rfl k) ?_
        refine Goes.to (T' := T12.setTop (mkF m 68 #[.val (.int p0), .val (.int p1), .val (.long q2), .second, .val (.int p3), .val (.int (1 : Int32)), .val (.ref w_PartyKind_FARMER), .val (.int (p1 &&& (3 : Int32))), .unset, .unset, .unset, .unset] [(.int (3 : Int32)), (.int p3), (.long (500000000 : Int64))])) (fun t k => XS.iconst X12.here hx rfl (hb hby at_67) k) ?_
        refine Goes.to (T' := T12.setTop (mkF m 69 #[.val (.int p0), .val (.int p1), .val (.long q2), .second, .val (.int p3), .val (.int (1 : Int32)), .val (.ref w_PartyKind_FARMER), .val (.int (p1 &&& (3 : Int32))), .unset, .unset, .unset, .unset] [(.int (p3 % (3 : Int32))), (.long (500000000 : Int64))])) (fun t k => iremM X12 hx rfl (hb hby at_68) rfl (by decide) k) ?_
        refine Goes.to (T' := T12.setTop (mkF m 70 #[.val (.int p0), .val (.int p1), .val (.long q2), .second, .val (.int p3), .val (.int (1 : Int32)), .val (.ref w_PartyKind_FARMER), .val (.int (p1 &&& (3 : Int32))), .unset, .unset, .unset, .unset] [(.long ((p3 % (3 : Int32)).toInt64)), (.long (500000000 : Int64))])) (fun t k => XS.i2l X12.here hx rfl (hb hby at_69) rfl k) ?_
        refine Goes.to (T' := T12.setTop (mkF m 71 #[.val (.int p0), .val (.int p1), .val (.long q2), .second, .val (.int p3), .val (.int (1 : Int32)), .val (.ref w_PartyKind_FARMER), .val (.int (p1 &&& (3 : Int32))), .unset, .unset, .unset, .unset] [(.long ((500000000 : Int64) + ((p3 % (3 : Int32)).toInt64)))])) (fun t k => XS.ladd X12.here hx rfl (hb hby at_70) rfl k) ?_
        refine Goes.to (T' := T12.setTop (mkF m 73 #[.val (.int p0), .val (.int p1), .val (.long q2), .second, .val (.int p3), .val (.int (1 : Int32)), .val (.ref w_PartyKind_FARMER), .val (.int (p1 &&& (3 : Int32))), .val (.long ((500000000 : Int64) + ((p3 % (3 : Int32)).toInt64))), .second, .unset, .unset] [])) (fun t k => XS.lstore X12.here hx rfl (hb hby at_71) rfl (l' := #[.val (.int p0), .val (.int p1), .val (.long q2), .second, .val (.int p3), .val (.int (1 : Int32)), .val (.ref w_PartyKind_FARMER), .val (.int (p1 &&& (3 : Int32))), .val (.long ((500000000 : Int64) + ((p3 % (3 : Int32)).toInt64))), .second, .unset, .unset]) rfl k) ?_
        refine Goes.to (T' := T12.setTop (mkF m 103 #[.val (.int p0), .val (.int p1), .val (.long q2), .second, .val (.int p3), .val (.int (1 : Int32)), .val (.ref w_PartyKind_FARMER), .val (.int (p1 &&& (3 : Int32))), .val (.long ((500000000 : Int64) + ((p3 % (3 : Int32)).toInt64))), .second, .unset, .unset] [])) (fun t k => XS.goto X12.here hx rfl (pc0 := 73) (pc' := 103) rfl (hb hby at_73) (by decide) (by decide) k) ?_
        exact J103 _ _ ((500000000 : Int64) + ((p3 % (3 : Int32)).toInt64)) X12 e12 N0 
      · skip
        refine Goes.to (T' := T12.setTop (mkF m 76 #[.val (.int p0), .val (.int p1), .val (.long q2), .second, .val (.int p3), .val (.int (1 : Int32)), .val (.ref w_PartyKind_FARMER), .val (.int (p1 &&& (3 : Int32))), .unset, .unset, .unset, .unset] [])) (fun t k => XS.icmpYes X12.here hx rfl (pc0 := 59) (pc' := 76) rfl (hb hby at_59) rfl (feq hc59_20).2 (by decide) (by decide) k) ?_
        refine Goes.to (T' := T12.setTop (mkF m 78 #[.val (.int p0), .val (.int p1), .val (.long q2), .second, .val (.int p3), .val (.int (1 : Int32)), .val (.ref w_PartyKind_FARMER), .val (.int (p1 &&& (3 : Int32))), .unset, .unset, .unset, .unset] [(.int (p1 &&& (3 : Int32)))])) (fun t k => XS.iload X12.here hx rfl (hb hby at_76) rfl k) ?_
        refine Goes.to (T' := T12.setTop (mkF m 79 #[.val (.int p0), .val (.int p1), .val (.long q2), .second, .val (.int p3), .val (.int (1 : Int32)), .val (.ref w_PartyKind_FARMER), .val (.int (p1 &&& (3 : Int32))), .unset, .unset, .unset, .unset] [(.int (2 : Int32)), (.int (p1 &&& (3 : Int32)))])) (fun t k => XS.iconst X12.here hx rfl (hb hby at_78) k) ?_
        rcases Decidable.em ((p1 &&& (3 : Int32)) = (2 : Int32)) with hc79_21 | hc79_21
        · skip
          refine Goes.to (T' := T12.setTop (mkF m 82 #[.val (.int p0), .val (.int p1), .val (.long q2), .second, .val (.int p3), .val (.int (1 : Int32)), .val (.ref w_PartyKind_FARMER), .val (.int (p1 &&& (3 : Int32))), .unset, .unset, .unset, .unset] [])) (fun t k => XS.icmpNo X12.here hx rfl (hb hby at_79) rfl (teq hc79_21).2 k) ?_
          refine Goes.to (T' := T12.setTop (mkF m 85 #[.val (.int p0), .val (.int p1), .val (.long q2), .second, .val (.int p3), .val (.int (1 : Int32)), .val (.ref w_PartyKind_FARMER), .val (.int (p1 &&& (3 : Int32))), .unset, .unset, .unset, .unset] [(.long (200000000 : Int64))])) (X12.ldc2Long hx hown (mvT hZ (hw _ (List.mem_of_getElem? (i := 32) rfl))) (g := (mkF m 82 #[.val (.int p0), .val (.int p1), .val (.long q2), .second, .val (.int p3), .val (.int (1 : Int32)), .val (.ref w_PartyKind_FARMER), .val (.int (p1 &&& (3 : Int32))), .unset, .unset, .unset, .unset] [])) rfl (hb hby at_82)) ?_
          refine Goes.to (T' := T12.setTop (mkF m 87 #[.val (.int p0), .val (.int p1), .val (.long q2), .second, .val (.int p3), .val (.int (1 : Int32)), .val (.ref w_PartyKind_FARMER), .val (.int (p1 &&& (3 : Int32))), .unset, .unset, .unset, .unset] [(.int p3), (.long (200000000 : Int64))])) (fun t k => XS.iload X12.here hx rfl (hb hby at_85) rfl k) ?_
          refine Goes.to (T' := T12.setTop (mkF m 88 #[.val (.int p0), .val (.int p1), .val (.long q2), .second, .val (.int p3), .val (.int (1 : Int32)), .val (.ref w_PartyKind_FARMER), .val (.int (p1 &&& (3 : Int32))), .unset, .unset, .unset, .unset] [(.int (3 : Int32)), (.int p3), (.long (200000000 : Int64))])) (fun t k => XS.iconst X12.here hx rfl (hb hby at_87) k) ?_
          refine Goes.to (T' := T12.setTop (mkF m 89 #[.val (.int p0), .val (.int p1), .val (.long q2), .second, .val (.int p3), .val (.int (1 : Int32)), .val (.ref w_PartyKind_FARMER), .val (.int (p1 &&& (3 : Int32))), .unset, .unset, .unset, .unset] [(.int (p3 % (3 : Int32))), (.long (200000000 : Int64))])) (fun t k => iremM X12 hx rfl (hb hby at_88) rfl (by decide) k) ?_
          refine Goes.to (T' := T12.setTop (mkF m 90 #[.val (.int p0), .val (.int p1), .val (.long q2), .second, .val (.int p3), .val (.int (1 : Int32)), .val (.ref w_PartyKind_FARMER), .val (.int (p1 &&& (3 : Int32))), .unset, .unset, .unset, .unset] [(.long ((p3 % (3 : Int32)).toInt64)), (.long (200000000 : Int64))])) (fun t k => XS.i2l X12.here hx rfl (hb hby at_89) rfl k) ?_
          refine Goes.to (T' := T12.setTop (mkF m 91 #[.val (.int p0), .val (.int p1), .val (.long q2), .second, .val (.int p3), .val (.int (1 : Int32)), .val (.ref w_PartyKind_FARMER), .val (.int (p1 &&& (3 : Int32))), .unset, .unset, .unset, .unset] [(.long ((200000000 : Int64) + ((p3 % (3 : Int32)).toInt64)))])) (fun t k => XS.ladd X12.here hx rfl (hb hby at_90) rfl k) ?_
          refine Goes.to (T' := T12.setTop (mkF m 93 #[.val (.int p0), .val (.int p1), .val (.long q2), .second, .val (.int p3), .val (.int (1 : Int32)), .val (.ref w_PartyKind_FARMER), .val (.int (p1 &&& (3 : Int32))), .val (.long ((200000000 : Int64) + ((p3 % (3 : Int32)).toInt64))), .second, .unset, .unset] [])) (fun t k => XS.lstore X12.here hx rfl (hb hby at_91) rfl (l' := #[.val (.int p0), .val (.int p1), .val (.long q2), .second, .val (.int p3), .val (.int (1 : Int32)), .val (.ref w_PartyKind_FARMER), .val (.int (p1 &&& (3 : Int32))), .val (.long ((200000000 : Int64) + ((p3 % (3 : Int32)).toInt64))), .second, .unset, .unset]) rfl k) ?_
          refine Goes.to (T' := T12.setTop (mkF m 103 #[.val (.int p0), .val (.int p1), .val (.long q2), .second, .val (.int p3), .val (.int (1 : Int32)), .val (.ref w_PartyKind_FARMER), .val (.int (p1 &&& (3 : Int32))), .val (.long ((200000000 : Int64) + ((p3 % (3 : Int32)).toInt64))), .second, .unset, .unset] [])) (fun t k => XS.goto X12.here hx rfl (pc0 := 93) (pc' := 103) rfl (hb hby at_93) (by decide) (by decide) k) ?_
          exact J103 _ _ ((200000000 : Int64) + ((p3 % (3 : Int32)).toInt64)) X12 e12 N0 
        · skip
          refine Goes.to (T' := T12.setTop (mkF m 96 #[.val (.int p0), .val (.int p1), .val (.long q2), .second, .val (.int p3), .val (.int (1 : Int32)), .val (.ref w_PartyKind_FARMER), .val (.int (p1 &&& (3 : Int32))), .unset, .unset, .unset, .unset] [])) (fun t k => XS.icmpYes X12.here hx rfl (pc0 := 79) (pc' := 96) rfl (hb hby at_79) rfl (feq hc79_21).2 (by decide) (by decide) k) ?_
          refine Goes.to (T' := T12.setTop (mkF m 98 #[.val (.int p0), .val (.int p1), .val (.long q2), .second, .val (.int p3), .val (.int (1 : Int32)), .val (.ref w_PartyKind_FARMER), .val (.int (p1 &&& (3 : Int32))), .unset, .unset, .unset, .unset] [(.int p3)])) (fun t k => XS.iload X12.here hx rfl (hb hby at_96) rfl k) ?_
          refine Goes.to (T' := T12.setTop (mkF m 99 #[.val (.int p0), .val (.int p1), .val (.long q2), .second, .val (.int p3), .val (.int (1 : Int32)), .val (.ref w_PartyKind_FARMER), .val (.int (p1 &&& (3 : Int32))), .unset, .unset, .unset, .unset] [(.int (3 : Int32)), (.int p3)])) (fun t k => XS.iconst X12.here hx rfl (hb hby at_98) k) ?_
          refine Goes.to (T' := T12.setTop (mkF m 100 #[.val (.int p0), .val (.int p1), .val (.long q2), .second, .val (.int p3), .val (.int (1 : Int32)), .val (.ref w_PartyKind_FARMER), .val (.int (p1 &&& (3 : Int32))), .unset, .unset, .unset, .unset] [(.int (p3 &&& (3 : Int32)))])) (fun t k => XS.iand X12.here hx rfl (hb hby at_99) rfl k) ?_
          refine Goes.to (T' := T12.setTop (mkF m 101 #[.val (.int p0), .val (.int p1), .val (.long q2), .second, .val (.int p3), .val (.int (1 : Int32)), .val (.ref w_PartyKind_FARMER), .val (.int (p1 &&& (3 : Int32))), .unset, .unset, .unset, .unset] [(.long ((p3 &&& (3 : Int32)).toInt64))])) (fun t k => XS.i2l X12.here hx rfl (hb hby at_100) rfl k) ?_
          refine Goes.to (T' := T12.setTop (mkF m 103 #[.val (.int p0), .val (.int p1), .val (.long q2), .second, .val (.int p3), .val (.int (1 : Int32)), .val (.ref w_PartyKind_FARMER), .val (.int (p1 &&& (3 : Int32))), .val (.long ((p3 &&& (3 : Int32)).toInt64)), .second, .unset, .unset] [])) (fun t k => XS.lstore X12.here hx rfl (hb hby at_101) rfl (l' := #[.val (.int p0), .val (.int p1), .val (.long q2), .second, .val (.int p3), .val (.int (1 : Int32)), .val (.ref w_PartyKind_FARMER), .val (.int (p1 &&& (3 : Int32))), .val (.long ((p3 &&& (3 : Int32)).toInt64)), .second, .unset, .unset]) rfl k) ?_
          exact J103 _ _ ((p3 &&& (3 : Int32)).toInt64) X12 e12 N0 
  · rw [hv_1]
    refine Goes.to (T' := s₁.setTop (mkF m 8 #[.val (.int p0), .val (.int p1), .val (.long q2), .second, .val (.int p3), .val (.int (2 : Int32)), .unset, .unset, .unset, .unset, .unset, .unset] [])) (fun t k => XS.istore X0.here hx rfl (hb hby at_6) rfl (l' := #[.val (.int p0), .val (.int p1), .val (.long q2), .second, .val (.int p3), .val (.int (2 : Int32)), .unset, .unset, .unset, .unset, .unset, .unset]) rfl k) ?_
    refine Goes.to (T' := s₁.setTop (mkF m 10 #[.val (.int p0), .val (.int p1), .val (.long q2), .second, .val (.int p3), .val (.int (2 : Int32)), .unset, .unset, .unset, .unset, .unset, .unset] [(.int (2 : Int32))])) (fun t k => XS.iload X0.here hx rfl (hb hby at_8) rfl k) ?_
    refine Goes.to (T' := s₁.setTop (mkF m 19 #[.val (.int p0), .val (.int p1), .val (.long q2), .second, .val (.int p3), .val (.int (2 : Int32)), .unset, .unset, .unset, .unset, .unset, .unset] [])) (fun t k => XS.ifYes X0.here hx rfl (pc0 := 10) (pc' := 19) rfl (hb hby at_10) rfl ((if0 _ _).trans (feq (by decide)).2) (by decide) (by decide) k) ?_
    refine Goes.to (T' := s₁.setTop (mkF m 21 #[.val (.int p0), .val (.int p1), .val (.long q2), .second, .val (.int p3), .val (.int (2 : Int32)), .unset, .unset, .unset, .unset, .unset, .unset] [(.int (2 : Int32))])) (fun t k => XS.iload X0.here hx rfl (hb hby at_19) rfl k) ?_
    refine Goes.to (T' := s₁.setTop (mkF m 22 #[.val (.int p0), .val (.int p1), .val (.long q2), .second, .val (.int p3), .val (.int (2 : Int32)), .unset, .unset, .unset, .unset, .unset, .unset] [(.int (1 : Int32)), (.int (2 : Int32))])) (fun t k => XS.iconst X0.here hx rfl (hb hby at_21) k) ?_
    refine Goes.to (T' := s₁.setTop (mkF m 31 #[.val (.int p0), .val (.int p1), .val (.long q2), .second, .val (.int p3), .val (.int (2 : Int32)), .unset, .unset, .unset, .unset, .unset, .unset] [])) (fun t k => XS.icmpYes X0.here hx rfl (pc0 := 22) (pc' := 31) rfl (hb hby at_22) rfl (feq (by decide)).2 (by decide) (by decide) k) ?_
    obtain ⟨T22, X22, e22, st22⟩ := getS2 X0 hx hZ hown (host := "") (Or.inl (hw _ (List.mem_of_getElem? (i := 30) rfl))) Via.refl e0 (S_w_PartyKind_OTHER.ext O0.2) (g := (mkF m 31 #[.val (.int p0), .val (.int p1), .val (.long q2), .second, .val (.int p3), .val (.int (2 : Int32)), .unset, .unset, .unset, .unset, .unset, .unset] [])) rfl (hb hby at_31)
    refine Goes.to (T' := T22.setTop (mkF m 34 #[.val (.int p0), .val (.int p1), .val (.long q2), .second, .val (.int p3), .val (.int (2 : Int32)), .unset, .unset, .unset, .unset, .unset, .unset] [(.ref w_PartyKind_OTHER)])) st22 ?_
    refine Goes.to (T' := T22.setTop (mkF m 36 #[.val (.int p0), .val (.int p1), .val (.long q2), .second, .val (.int p3), .val (.int (2 : Int32)), .val (.ref w_PartyKind_OTHER), .unset, .unset, .unset, .unset, .unset] [])) (fun t k => XS.astore X22.here hx rfl (hb hby at_34) rfl rfl (l' := #[.val (.int p0), .val (.int p1), .val (.long q2), .second, .val (.int p3), .val (.int (2 : Int32)), .val (.ref w_PartyKind_OTHER), .unset, .unset, .unset, .unset, .unset]) rfl k) ?_
    refine Goes.to (T' := T22.setTop (mkF m 37 #[.val (.int p0), .val (.int p1), .val (.long q2), .second, .val (.int p3), .val (.int (2 : Int32)), .val (.ref w_PartyKind_OTHER), .unset, .unset, .unset, .unset, .unset] [(.int p1)])) (fun t k => XS.iloadN X22.here hx rfl (hb hby at_36) rfl k) ?_
    refine Goes.to (T' := T22.setTop (mkF m 38 #[.val (.int p0), .val (.int p1), .val (.long q2), .second, .val (.int p3), .val (.int (2 : Int32)), .val (.ref w_PartyKind_OTHER), .unset, .unset, .unset, .unset, .unset] [(.int (3 : Int32)), (.int p1)])) (fun t k => XS.iconst X22.here hx rfl (hb hby at_37) k) ?_
    refine Goes.to (T' := T22.setTop (mkF m 39 #[.val (.int p0), .val (.int p1), .val (.long q2), .second, .val (.int p3), .val (.int (2 : Int32)), .val (.ref w_PartyKind_OTHER), .unset, .unset, .unset, .unset, .unset] [(.int (p1 &&& (3 : Int32)))])) (fun t k => XS.iand X22.here hx rfl (hb hby at_38) rfl k) ?_
    refine Goes.to (T' := T22.setTop (mkF m 41 #[.val (.int p0), .val (.int p1), .val (.long q2), .second, .val (.int p3), .val (.int (2 : Int32)), .val (.ref w_PartyKind_OTHER), .val (.int (p1 &&& (3 : Int32))), .unset, .unset, .unset, .unset] [])) (fun t k => XS.istore X22.here hx rfl (hb hby at_39) rfl (l' := #[.val (.int p0), .val (.int p1), .val (.long q2), .second, .val (.int p3), .val (.int (2 : Int32)), .val (.ref w_PartyKind_OTHER), .val (.int (p1 &&& (3 : Int32))), .unset, .unset, .unset, .unset]) rfl k) ?_
    have J103 : ∀ (TJ23 : State) (locsJ23 : List Loc) (am : Int64) (XJ23 : Stand p l e room_1 s m #[(.int p0), (.int p1), (.long q2), (.int p3)] below meth c TJ23 locsJ23 0 0) (eJ23 : TJ23.heap = h0) (NJ23 : Fr n0 locsJ23), Goes p.tables e below Qf (TJ23.setTop (mkF m 103 #[.val (.int p0), .val (.int p1), .val (.long q2), .second, .val (.int p3), .val (.int (2 : Int32)), .val (.ref w_PartyKind_OTHER), .val (.int (p1 &&& (3 : Int32))), .val (.long am), .second, .unset, .unset] [])) := by
      intro TJ23 locsJ23 am XJ23 eJ23 NJ23 
      refine Goes.to (T' := TJ23.setTop (mkF m 105 #[.val (.int p0), .val (.int p1), .val (.long q2), .second, .val (.int p3), .val (.int (2 : Int32)), .val (.ref w_PartyKind_OTHER), .val (.int (p1 &&& (3 : Int32))), .val (.long am), .second, .unset, .unset] [(.int (2 : Int32))])) (fun t k => XS.iload XJ23.here hx rfl (hb hby at_103) rfl k) ?_
      refine Goes.to (T' := TJ23.setTop (mkF m 127 #[.val (.int p0), .val (.int p1), .val (.long q2), .second, .val (.int p3), .val (.int (2 : Int32)), .val (.ref w_PartyKind_OTHER), .val (.int (p1 &&& (3 : Int32))), .val (.long am), .second, .unset, .unset] [])) (fun t k => XS.ifYes XJ23.here hx rfl (pc0 := 105) (pc' := 127) rfl (hb hby at_105) rfl ((if0 _ _).trans (feq (by decide)).2) (by decide) (by decide) k) ?_
      refine Goes.to (T' := TJ23.setTop (mkF m 129 #[.val (.int p0), .val (.int p1), .val (.long q2), .second, .val (.int p3), .val (.int (2 : Int32)), .val (.ref w_PartyKind_OTHER), .val (.int (p1 &&& (3 : Int32))), .val (.long am), .second, .unset, .unset] [(.int (2 : Int32))])) (fun t k => XS.iload XJ23.here hx rfl (hb hby at_127) rfl k) ?_
      refine Goes.to (T' := TJ23.setTop (mkF m 130 #[.val (.int p0), .val (.int p1), .val (.long q2), .second, .val (.int p3), .val (.int (2 : Int32)), .val (.ref w_PartyKind_OTHER), .val (.int (p1 &&& (3 : Int32))), .val (.long am), .second, .unset, .unset] [(.int (1 : Int32)), (.int (2 : Int32))])) (fun t k => XS.iconst XJ23.here hx rfl (hb hby at_129) k) ?_
      refine Goes.to (T' := TJ23.setTop (mkF m 152 #[.val (.int p0), .val (.int p1), .val (.long q2), .second, .val (.int p3), .val (.int (2 : Int32)), .val (.ref w_PartyKind_OTHER), .val (.int (p1 &&& (3 : Int32))), .val (.long am), .second, .unset, .unset] [])) (fun t k => XS.icmpYes XJ23.here hx rfl (pc0 := 130) (pc' := 152) rfl (hb hby at_130) rfl (feq (by decide)).2 (by decide) (by decide) k) ?_
      refine Goes.to (T' := TJ23.setTop (mkF m 153 #[.val (.int p0), .val (.int p1), .val (.long q2), .second, .val (.int p3), .val (.int (2 : Int32)), .val (.ref w_PartyKind_OTHER), .val (.int (p1 &&& (3 : Int32))), .val (.long am), .second, .unset, .unset] [(.int (0 : Int32))])) (fun t k => XS.iconst XJ23.here hx rfl (hb hby at_152) k) ?_
      refine Goes.to (T' := TJ23.setTop (mkF m 155 #[.val (.int p0), .val (.int p1), .val (.long q2), .second, .val (.int p3), .val (.int (2 : Int32)), .val (.ref w_PartyKind_OTHER), .val (.int (p1 &&& (3 : Int32))), .val (.long am), .second, .val (.int (0 : Int32)), .unset] [])) (fun t k => XS.istore XJ23.here hx rfl (hb hby at_153) rfl (l' := #[.val (.int p0), .val (.int p1), .val (.long q2), .second, .val (.int p3), .val (.int (2 : Int32)), .val (.ref w_PartyKind_OTHER), .val (.int (p1 &&& (3 : Int32))), .val (.long am), .second, .val (.int (0 : Int32)), .unset]) rfl k) ?_
      refine Goes.to (T' := TJ23.setTop (mkF m 157 #[.val (.int p0), .val (.int p1), .val (.long q2), .second, .val (.int p3), .val (.int (2 : Int32)), .val (.ref w_PartyKind_OTHER), .val (.int (p1 &&& (3 : Int32))), .val (.long am), .second, .val (.int (0 : Int32)), .unset] [(.ref w_PartyKind_OTHER)])) (fun t k => XS.aload XJ23.here hx rfl (hb hby at_155) rfl rfl k) ?_
      refine Goes.to (T' := TJ23.setTop (mkF m 159 #[.val (.int p0), .val (.int p1), .val (.long q2), .second, .val (.int p3), .val (.int (2 : Int32)), .val (.ref w_PartyKind_OTHER), .val (.int (p1 &&& (3 : Int32))), .val (.long am), .second, .val (.int (0 : Int32)), .unset] [(.long am), (.ref w_PartyKind_OTHER)])) (fun t k => XS.lload XJ23.here hx rfl (hb hby at_157) rfl k) ?_
      obtain ⟨_, _, ⟨T24, L24, k24, n24⟩, -, X24, ⟨Lc24, hQ24, l24, y24, z24⟩, st24⟩ := Jvm.LawKit.callS XJ23 hx (y := (⟨"com/example/suretyline/suretyline/LiabilityWeight", "ofLoanInFen", "(Lcom/example/suretyline/suretyline/PartyKind;J)Lcom/example/suretyline/suretyline/LiabilityWeight;"⟩ : MethodName)) hown (mvT hZ (hw _ (List.mem_of_getElem? (i := 5) rfl))) (mvT hZ (hw _ (List.mem_of_getElem? (i := 6) rfl))) (mvT hZ (hw _ (List.mem_of_getElem? (i := 7) rfl))) (mvT hZ (hw _ (List.mem_of_getElem? (i := 8) rfl))) (by decide) (backOf (W := 0) (rmF2 l Z a0 hw [] am w_PartyKind_SMALL_MICRO w_LiabilityWeight_1__SwitchMap_com_example_suretyline_suretyline_PartyKind w_LiabilityWeight_INCLUSIVE_LOAN w_PartyKind_OTHER w_LiabilityWeight_LOAN w_PartyKind_FARMER k_w_LiabilityWeight_1__SwitchMap_com_example_suretyline_suretyline_PartyKind w_LiabilityWeight_LOAN h0 n0 O0 NF rfl) hZ (hw _ (List.mem_of_getElem? (i := 8) rfl)) (hw _ (List.mem_of_getElem? (i := 7) rfl)) (by decide) (by decide)) (g := (mkF m 159 #[.val (.int p0), .val (.int p1), .val (.long q2), .second, .val (.int p3), .val (.int (2 : Int32)), .val (.ref w_PartyKind_OTHER), .val (.int (p1 &&& (3 : Int32))), .val (.long am), .second, .val (.int (0 : Int32)), .unset] [(.long am), (.ref w_PartyKind_OTHER)])) rfl (by rw [hml]; rfl) (argsL := [(.ref w_PartyKind_OTHER), (.long am)]) (rest := []) (lenOf pd_34 rfl) rfl (by show 2 * 0 + _ ≤ _; exact Nat.le_of_eq rfl) (hb hby at_159) (fun _ _ => ⟨rfl, eJ23, (by decide : 0 + 0 ≤ _), (by decide : 0 + 0 ≤ _)⟩)
      dsimp only [Pt.U, Pt.locs, Pt.cells, Pt.slots] at X24 l24 y24 z24 st24 hQ24
      subst l24 y24 z24
      obtain ⟨rfl, Nq24, e24⟩ := hQ24
      have N24 := Fr.app NJ23 Nq24
      refine Goes.to (T' := T24.setTop (mkF m 162 #[.val (.int p0), .val (.int p1), .val (.long q2), .second, .val (.int p3), .val (.int (2 : Int32)), .val (.ref w_PartyKind_OTHER), .val (.int (p1 &&& (3 : Int32))), .val (.long am), .second, .val (.int (0 : Int32)), .unset] [(.ref w_LiabilityWeight_LOAN)])) st24 ?_
      refine Goes.to (T' := T24.setTop (mkF m 164 #[.val (.int p0), .val (.int p1), .val (.long q2), .second, .val (.int p3), .val (.int (2 : Int32)), .val (.ref w_PartyKind_OTHER), .val (.int (p1 &&& (3 : Int32))), .val (.long am), .second, .val (.int (0 : Int32)), .val (.ref w_LiabilityWeight_LOAN)] [])) (fun t k => XS.astore X24.here hx rfl (hb hby at_162) rfl rfl (l' := #[.val (.int p0), .val (.int p1), .val (.long q2), .second, .val (.int p3), .val (.int (2 : Int32)), .val (.ref w_PartyKind_OTHER), .val (.int (p1 &&& (3 : Int32))), .val (.long am), .second, .val (.int (0 : Int32)), .val (.ref w_LiabilityWeight_LOAN)]) rfl k) ?_
      refine Goes.to (T' := T24.setTop (mkF m 166 #[.val (.int p0), .val (.int p1), .val (.long q2), .second, .val (.int p3), .val (.int (2 : Int32)), .val (.ref w_PartyKind_OTHER), .val (.int (p1 &&& (3 : Int32))), .val (.long am), .second, .val (.int (0 : Int32)), .val (.ref w_LiabilityWeight_LOAN)] [(.ref w_LiabilityWeight_LOAN)])) (fun t k => XS.aload X24.here hx rfl (hb hby at_164) rfl rfl k) ?_
      refine Goes.to (T' := T24.setTop (mkF m 168 #[.val (.int p0), .val (.int p1), .val (.long q2), .second, .val (.int p3), .val (.int (2 : Int32)), .val (.ref w_PartyKind_OTHER), .val (.int (p1 &&& (3 : Int32))), .val (.long am), .second, .val (.int (0 : Int32)), .val (.ref w_LiabilityWeight_LOAN)] [(.int (0 : Int32)), (.ref w_LiabilityWeight_LOAN)])) (fun t k => XS.iload X24.here hx rfl (hb hby at_166) rfl k) ?_
      refine Goes.to (T' := T24.setTop (mkF m 177 #[.val (.int p0), .val (.int p1), .val (.long q2), .second, .val (.int p3), .val (.int (2 : Int32)), .val (.ref w_PartyKind_OTHER), .val (.int (p1 &&& (3 : Int32))), .val (.long am), .second, .val (.int (0 : Int32)), .val (.ref w_LiabilityWeight_LOAN)] [(.ref w_LiabilityWeight_LOAN)])) (fun t k => XS.ifYes X24.here hx rfl (pc0 := 168) (pc' := 177) rfl (hb hby at_168) rfl ((if0 _ _).trans (teq (by decide)).1) (by decide) (by decide) k) ?_
      obtain ⟨T25, X25, e25, st25⟩ := getS2 X24 hx hZ hown (host := "") (Or.inl (hw _ (List.mem_of_getElem? (i := 35) rfl))) Via.refl e24 (S_w_LiabilityWeight_LOAN.ext O0.2) (g := (mkF m 177 #[.val (.int p0), .val (.int p1), .val (.long q2), .second, .val (.int p3), .val (.int (2 : Int32)), .val (.ref w_PartyKind_OTHER), .val (.int (p1 &&& (3 : Int32))), .val (.long am), .second, .val (.int (0 : Int32)), .val (.ref w_LiabilityWeight_LOAN)] [(.ref w_LiabilityWeight_LOAN)])) rfl (hb hby at_177)
      refine Goes.to (T' := T25.setTop (mkF m 180 #[.val (.int p0), .val (.int p1), .val (.long q2), .second, .val (.int p3), .val (.int (2 : Int32)), .val (.ref w_PartyKind_OTHER), .val (.int (p1 &&& (3 : Int32))), .val (.long am), .second, .val (.int (0 : Int32)), .val (.ref w_LiabilityWeight_LOAN)] [(.ref w_LiabilityWeight_LOAN), (.ref w_LiabilityWeight_LOAN)])) st25 ?_
      refine Goes.to (T' := T25.setTop (mkF m 183 #[.val (.int p0), .val (.int p1), .val (.long q2), .second, .val (.int p3), .val (.int (2 : Int32)), .val (.ref w_PartyKind_OTHER), .val (.int (p1 &&& (3 : Int32))), .val (.long am), .second, .val (.int (0 : Int32)), .val (.ref w_LiabilityWeight_LOAN)] [])) (fun t k => Jvm.RoadKit.acmp (g := (mkF m 180 #[.val (.int p0), .val (.int p1), .val (.long q2), .second, .val (.int p3), .val (.int (2 : Int32)), .val (.ref w_PartyKind_OTHER), .val (.int (p1 &&& (3 : Int32))), .val (.long am), .second, .val (.int (0 : Int32)), .val (.ref w_LiabilityWeight_LOAN)] [(.ref w_LiabilityWeight_LOAN), (.ref w_LiabilityWeight_LOAN)])) X25 hx rfl rfl rfl (pc0 := 180) (pc' := 183) (same := true) rfl (hb hby at_180) rfl (decide_eq_true rfl) (by decide) (by decide) k) ?_
      refine Goes.to (T' := T25.setTop (mkF m 184 #[.val (.int p0), .val (.int p1), .val (.long q2), .second, .val (.int p3), .val (.int (2 : Int32)), .val (.ref w_PartyKind_OTHER), .val (.int (p1 &&& (3 : Int32))), .val (.long am), .second, .val (.int (0 : Int32)), .val (.ref w_LiabilityWeight_LOAN)] [(.int (1 : Int32))])) (fun t k => XS.iconst X25.here hx rfl (hb hby at_183) k) ?_
      refine Goes.to (T' := T25.setTop (mkF m 188 #[.val (.int p0), .val (.int p1), .val (.long q2), .second, .val (.int p3), .val (.int (2 : Int32)), .val (.ref w_PartyKind_OTHER), .val (.int (p1 &&& (3 : Int32))), .val (.long am), .second, .val (.int (0 : Int32)), .val (.ref w_LiabilityWeight_LOAN)] [(.int (1 : Int32))])) (fun t k => XS.goto X25.here hx rfl (pc0 := 184) (pc' := 188) rfl (hb hby at_184) (by decide) (by decide) k) ?_
      obtain ⟨fs, hrL, hrun, hended, hW, hsame⟩ := X25.leave (v := some (.int (1 : Int32))) (fun h => by rw [Bd.returns] at h; cases h)
      subst hQf
      refine ⟨_, _, retN X25 hx (t := .boolean) Bd.returns (by simp) (hb hby at_188) hrL, hrun, hended, _, _, rfl, ?_, ⟨_, rfl⟩, hW, hsame.mono (by decide) (by decide)⟩
      show (fun (v : Option Value) (h : Heap) (L : List Loc) => v = some (.int 1) ∧ Fr n0 L) (some (.int (1 : Int32))) T25.heap _
      rw [e25]
      exact ⟨rfl, N24⟩
    refine Goes.to (T' := T22.setTop (mkF m 43 #[.val (.int p0), .val (.int p1), .val (.long q2), .second, .val (.int p3), .val (.int (2 : Int32)), .val (.ref w_PartyKind_OTHER), .val (.int (p1 &&& (3 : Int32))), .unset, .unset, .unset, .unset] [(.int (p1 &&& (3 : Int32)))])) (fun t k => XS.iload X22.here hx rfl (hb hby at_41) rfl k) ?_
    rcases Decidable.em ((p1 &&& (3 : Int32)) = (0 : Int32)) with hc43_26 | hc43_26
    · skip
      refine Goes.to (T' := T22.setTop (mkF m 46 #[.val (.int p0), .val (.int p1), .val (.long q2), .second, .val (.int p3), .val (.int (2 : Int32)), .val (.ref w_PartyKind_OTHER), .val (.int (p1 &&& (3 : Int32))), .unset, .unset, .unset, .unset] [])) (fun t k => XS.ifNo X22.here hx rfl (hb hby at_43) rfl ((if0 _ _).trans (teq hc43_26).2) k) ?_
      refine Goes.to (T' := T22.setTop (mkF m 47 #[.val (.int p0), .val (.int p1), .val (.long q2), .second, .val (.int p3), .val (.int (2 : Int32)), .val (.ref w_PartyKind_OTHER), .val (.int (p1 &&& (3 : Int32))), .unset, .unset, .unset, .unset] [(.long q2)])) (fun t k => XS.lloadN X22.here hx rfl (hb hby at_46) rfl k) ?_
      refine Goes.to (T' := T22.setTop (mkF m 50 #[.val (.int p0), .val (.int p1), .val (.long q2), .second, .val (.int p3), .val (.int (2 : Int32)), .val (.ref w_PartyKind_OTHER), .val (.int (p1 &&& (3 : Int32))), .unset, .unset, .unset, .unset] [(.long (9223372036854775807 : Int64)), (.long q2)])) (X22.ldc2Long hx hown (mvT hZ (hw _ (List.mem_of_getElem? (i := 29) rfl))) (g := (mkF m 47 #[.val (.int p0), .val (.int p1), .val (.long q2), .second, .val (.int p3), .val (.int (2 : Int32)), .val (.ref w_PartyKind_OTHER), .val (.int (p1 &&& (3 : Int32))), .unset, .unset, .unset, .unset] [(.long q2)])) rfl (hb hby at_47)) ?_
      refine Goes.to (T' := T22.setTop (mkF m 51 #[.val (.int p0), .val (.int p1), .val (.long q2), .second, .val (.int p3), .val (.int (2 : Int32)), .val (.ref w_PartyKind_OTHER), .val (.int (p1 &&& (3 : Int32))), .unset, .unset, .unset, .unset] [(.long (q2 &&& (9223372036854775807 : Int64)))])) (fun t k => XS.land X22.here hx rfl (hb hby at_50) rfl k) ?_
      refine Goes.to (T' := T22.setTop (mkF m 53 #[.val (.int p0), .val (.int p1), .val (.long q2), .second, .val (.int p3), .val (.int (2 : Int32)), .val (.ref w_PartyKind_OTHER), .val (.int (p1 &&& (3 : Int32))), .val (.long (q2 &&& (9223372036854775807 : Int64))), .second, .unset, .unset] [])) (fun t k => XS.lstore X22.here hx rfl (hb hby at_51) rfl (l' := #[.val (.int p0), .val (.int p1), .val (.long q2), .second, .val (.int p3), .val (.int (2 : Int32)), .val (.ref w_PartyKind_OTHER), .val (.int (p1 &&& (3 : Int32))), .val (.long (q2 &&& (9223372036854775807 : Int64))), .second, .unset, .unset]) rfl k) ?_
      refine Goes.to (T' := T22.setTop (mkF m 103 #[.val (.int p0), .val (.int p1), .val (.long q2), .second, .val (.int p3), .val (.int (2 : Int32)), .val (.ref w_PartyKind_OTHER), .val (.int (p1 &&& (3 : Int32))), .val (.long (q2 &&& (9223372036854775807 : Int64))), .second, .unset, .unset] [])) (fun t k => XS.goto X22.here hx rfl (pc0 := 53) (pc' := 103) rfl (hb hby at_53) (by decide) (by decide) k) ?_
      exact J103 _ _ (q2 &&& (9223372036854775807 : Int64)) X22 e22 N0 
    · skip
      refine Goes.to (T' := T22.setTop (mkF m 56 #[.val (.int p0), .val (.int p1), .val (.long q2), .second, .val (.int p3), .val (.int (2 : Int32)), .val (.ref w_PartyKind_OTHER), .val (.int (p1 &&& (3 : Int32))), .unset, .unset, .unset, .unset] [])) (fun t k => XS.ifYes X22.here hx rfl (pc0 := 43) (pc' := 56) rfl (hb hby at_43) rfl ((if0 _ _).trans (feq hc43_26).2) (by decide) (by decide) k) ?_
      refine Goes.to (T' := T22.setTop (mkF m 58 #[.val (.int p0), .val (.int p1), .val (.long q2), .second, .val (.int p3), .val (.int (2 : Int32)), .val (.ref w_PartyKind_OTHER), .val (.int (p1 &&& (3 : Int32))), .unset, .unset, .unset, .unset] [(.int (p1 &&& (3 : Int32)))])) (fun t k => XS.iload X22.here hx rfl (hb hby at_56) rfl k) ?_
      refine Goes.to (T' := T22.setTop (mkF m 59 #[.val (.int p0), .val (.int p1), .val (.long q2), .second, .val (.int p3), .val (.int (2 : Int32)), .val (.ref w_PartyKind_OTHER), .val (.int (p1 &&& (3 : Int32))), .unset, .unset, .unset, .unset] [(.int (1 : Int32)), (.int (p1 &&& (3 : Int32)))])) (fun t k => XS.iconst X22.here hx rfl (hb hby at_58) k) ?_
      rcases Decidable.em ((p1 &&& (3 : Int32)) = (1 : Int32)) with hc59_27 | hc59_27
      · skip
        refine Goes.to (T' := T22.setTop (mkF m 62 #[.val (.int p0), .val (.int p1), .val (.long q2), .second, .val (.int p3), .val (.int (2 : Int32)), .val (.ref w_PartyKind_OTHER), .val (.int (p1 &&& (3 : Int32))), .unset, .unset, .unset, .unset] [])) (fun t k => XS.icmpNo X22.here hx rfl (hb hby at_59) rfl (teq hc59_27).2 k) ?_
        refine Goes.to (T' := T22.setTop (mkF m 65 #[.val (.int p0), .val (.int p1), .val (.long q2), .second, .val (.int p3), .val (.int (2 : Int32)), .val (.ref w_PartyKind_OTHER), .val (.int (p1 &&& (3 : Int32))), .unset, .unset, .unset, .unset] [(.long (500000000 : Int64))])) (X22.ldc2Long hx hown (mvT hZ (hw _ (List.mem_of_getElem? (i := 4) rfl))) (g := (mkF m 62 #[.val (.int p0), .val (.int p1), .val (.long q2), .second, .val (.int p3), .val (.int (2 : Int32)), .val (.ref w_PartyKind_OTHER), .val (.int (p1 &&& (3 : Int32))), .unset, .unset, .unset, .unset] [])) rfl (hb hby at_62)) ?_
        refine Goes.to (T' := T22.setTop (mkF m 67 #[.val (.int p0), .val (.int p1), .val (.long q2), .second, .val (.int p3), .val (.int (2 : Int32)), .val (.ref w_PartyKind_OTHER), .val (.int (p1 &&& (3 : Int32))), .unset, .unset, .unset, .unset] [(.int p3), (.long (500000000 : Int64))])) (fun t k => XS.iload X22.here hx rfl (hb hby at_65) rfl k) ?_
        refine Goes.to (T' := T22.setTop (mkF m 68 #[.val (.int p0), .val (.int p1), .val (.long q2), .second, .val (.int p3), .val (.int (2 : Int32)), .val (.ref w_PartyKind_OTHER), .val (.int (p1 &&& (3 : Int32))), .unset, .unset, .unset, .unset] [(.int (3 : Int32)), (.int p3), (.long (500000000 : Int64))])) (fun t k => XS.iconst X22.here hx rfl (hb hby at_67) k) ?_
        refine Goes.to (T' := T22.setTop (mkF m 69 #[.val (.int p0), .val (.int p1), .val (.long q2), .second, .val (.int p3), .val (.int (2 : Int32)), .val (.ref w_PartyKind_OTHER), .val (.int (p1 &&& (3 : Int32))), .unset, .unset, .unset, .unset] [(.int (p3 % (3 : Int32))), (.long (500000000 : Int64))])) (fun t k => iremM X22 hx rfl (hb hby at_68) rfl (by decide) k) ?_
        refine Goes.to (T' := T22.setTop (mkF m 70 #[.val (.int p0), .val (.int p1), .val (.long q2), .second, .val (.int p3), .val (.int (2 : Int32)), .val (.ref w_PartyKind_OTHER), .val (.int (p1 &&& (3 : Int32))), .unset, .unset, .unset, .unset] [(.long ((p3 % (3 : Int32)).toInt64)), (.long (500000000 : Int64))])) (fun t k => XS.i2l X22.here hx rfl (hb hby at_69) rfl k) ?_
        refine Goes.to (T' := T22.setTop (mkF m 71 #[.val (.int p0), .val (.int p1), .val (.long q2), .second, .val (.int p3), .val (.int (2 : Int32)), .val (.ref w_PartyKind_OTHER), .val (.int (p1 &&& (3 : Int32))), .unset, .unset, .unset, .unset] [(.long ((500000000 : Int64) + ((p3 % (3 : Int32)).toInt64)))])) (fun t k => XS.ladd X22.here hx rfl (hb hby at_70) rfl k) ?_
        refine Goes.to (T' := T22.setTop (mkF m 73 #[.val (.int p0), .val (.int p1), .val (.long q2), .second, .val (.int p3), .val (.int (2 : Int32)), .val (.ref w_PartyKind_OTHER), .val (.int (p1 &&& (3 : Int32))), .val (.long ((500000000 : Int64) + ((p3 % (3 : Int32)).toInt64))), .second, .unset, .unset] [])) (fun t k => XS.lstore X22.here hx rfl (hb hby at_71) rfl (l' := #[.val (.int p0), .val (.int p1), .val (.long q2), .second, .val (.int p3), .val (.int (2 : Int32)), .val (.ref w_PartyKind_OTHER), .val (.int (p1 &&& (3 : Int32))), .val (.long ((500000000 : Int64) + ((p3 % (3 : Int32)).toInt64))), .second, .unset, .unset]) rfl k) ?_
        refine Goes.to (T' := T22.setTop (mkF m 103 #[.val (.int p0), .val (.int p1), .val (.long q2), .second, .val (.int p3), .val (.int (2 : Int32)), .val (.ref w_PartyKind_OTHER), .val (.int (p1 &&& (3 : Int32))), .val (.long ((500000000 : Int64) + ((p3 % (3 : Int32)).toInt64))), .second, .unset, .unset] [])) (fun t k => XS.goto X22.here hx rfl (pc0 := 73) (pc' := 103) rfl (hb hby at_73) (by decide) (by decide) k) ?_
        exact J103 _ _ ((500000000 : Int64) + ((p3 % (3 : Int32)).toInt64)) X22 e22 N0 
      · skip
        refine Goes.to (T' := T22.setTop (mkF m 76 #[.val (.int p0), .val (.int p1), .val (.long q2), .second, .val (.int p3), .val (.int (2 : Int32)), .val (.ref w_PartyKind_OTHER), .val (.int (p1 &&& (3 : Int32))), .unset, .unset, .unset, .unset] [])) (fun t k => XS.icmpYes X22.here hx rfl (pc0 := 59) (pc' := 76) rfl (hb hby at_59) rfl (feq hc59_27).2 (by decide) (by decide) k) ?_
        refine Goes.to (T' := T22.setTop (mkF m 78 #[.val (.int p0), .val (.int p1), .val (.long q2), .second, .val (.int p3), .val (.int (2 : Int32)), .val (.ref w_PartyKind_OTHER), .val (.int (p1 &&& (3 : Int32))), .unset, .unset, .unset, .unset] [(.int (p1 &&& (3 : Int32)))])) (fun t k => XS.iload X22.here hx rfl (hb hby at_76) rfl k) ?_
        refine Goes.to (T' := T22.setTop (mkF m 79 #[.val (.int p0), .val (.int p1), .val (.long q2), .second, .val (.int p3), .val (.int (2 : Int32)), .val (.ref w_PartyKind_OTHER), .val (.int (p1 &&& (3 : Int32))), .unset, .unset, .unset, .unset] [(.int (2 : Int32)), (.int (p1 &&& (3 : Int32)))])) (fun t k => XS.iconst X22.here hx rfl (hb hby at_78) k) ?_
        rcases Decidable.em ((p1 &&& (3 : Int32)) = (2 : Int32)) with hc79_28 | hc79_28
        · skip
          refine Goes.to (T' := T22.setTop (mkF m 82 #[.val (.int p0), .val (.int p1), .val (.long q2), .second, .val (.int p3), .val (.int (2 : Int32)), .val (.ref w_PartyKind_OTHER), .val (.int (p1 &&& (3 : Int32))), .unset, .unset, .unset, .unset] [])) (fun t k => XS.icmpNo X22.here hx rfl (hb hby at_79) rfl (teq hc79_28).2 k) ?_
          refine Goes.to (T' := T22.setTop (mkF m 85 #[.val (.int p0), .val (.int p1), .val (.long q2), .second, .val (.int p3), .val (.int (2 : Int32)), .val (.ref w_PartyKind_OTHER), .val (.int (p1 &&& (3 : Int32))), .unset, .unset, .unset, .unset] [(.long (200000000 : Int64))])) (X22.ldc2Long hx hown (mvT hZ (hw _ (List.mem_of_getElem? (i := 32) rfl))) (g := (mkF m 82 #[.val (.int p0), .val (.int p1), .val (.long q2), .second, .val (.int p3), .val (.int (2 : Int32)), .val (.ref w_PartyKind_OTHER), .val (.int (p1 &&& (3 : Int32))), .unset, .unset, .unset, .unset] [])) rfl (hb hby at_82)) ?_
          refine Goes.to (T' := T22.setTop (mkF m 87 #[.val (.int p0), .val (.int p1), .val (.long q2), .second, .val (.int p3), .val (.int (2 : Int32)), .val (.ref w_PartyKind_OTHER), .val (.int (p1 &&& (3 : Int32))), .unset, .unset, .unset, .unset] [(.int p3), (.long (200000000 : Int64))])) (fun t k => XS.iload X22.here hx rfl (hb hby at_85) rfl k) ?_
          refine Goes.to (T' := T22.setTop (mkF m 88 #[.val (.int p0), .val (.int p1), .val (.long q2), .second, .val (.int p3), .val (.int (2 : Int32)), .val (.ref w_PartyKind_OTHER), .val (.int (p1 &&& (3 : Int32))), .unset, .unset, .unset, .unset] [(.int (3 : Int32)), (.int p3), (.long (200000000 : Int64))])) (fun t k => XS.iconst X22.here hx rfl (hb hby at_87) k) ?_
          refine Goes.to (T' := T22.setTop (mkF m 89 #[.val (.int p0), .val (.int p1), .val (.long q2), .second, .val (.int p3), .val (.int (2 : Int32)), .val (.ref w_PartyKind_OTHER), .val (.int (p1 &&& (3 : Int32))), .unset, .unset, .unset, .unset] [(.int (p3 % (3 : Int32))), (.long (200000000 : Int64))])) (fun t k => iremM X22 hx rfl (hb hby at_88) rfl (by decide) k) ?_
          refine Goes.to (T' := T22.setTop (mkF m 90 #[.val (.int p0), .val (.int p1), .val (.long q2), .second, .val (.int p3), .val (.int (2 : Int32)), .val (.ref w_PartyKind_OTHER), .val (.int (p1 &&& (3 : Int32))), .unset, .unset, .unset, .unset] [(.long ((p3 % (3 : Int32)).toInt64)), (.long (200000000 : Int64))])) (fun t k => XS.i2l X22.here hx rfl (hb hby at_89) rfl k) ?_
          refine Goes.to (T' := T22.setTop (mkF m 91 #[.val (.int p0), .val (.int p1), .val (.long q2), .second, .val (.int p3), .val (.int (2 : Int32)), .val (.ref w_PartyKind_OTHER), .val (.int (p1 &&& (3 : Int32))), .unset, .unset, .unset, .unset] [(.long ((200000000 : Int64) + ((p3 % (3 : Int32)).toInt64)))])) (fun t k => XS.ladd X22.here hx rfl (hb hby at_90) rfl k) ?_
          refine Goes.to (T' := T22.setTop (mkF m 93 #[.val (.int p0), .val (.int p1), .val (.long q2), .second, .val (.int p3), .val (.int (2 : Int32)), .val (.ref w_PartyKind_OTHER), .val (.int (p1 &&& (3 : Int32))), .val (.long ((200000000 : Int64) + ((p3 % (3 : Int32)).toInt64))), .second, .unset, .unset] [])) (fun t k => XS.lstore X22.here hx rfl (hb hby at_91) rfl (l' := #[.val (.int p0), .val (.int p1), .val (.long q2), .second, .val (.int p3), .val (.int (2 : Int32)), .val (.ref w_PartyKind_OTHER), .val (.int (p1 &&& (3 : Int32))), .val (.long ((200000000 : Int64) + ((p3 % (3 : Int32)).toInt64))), .second, .unset, .unset]) rfl k) ?_
          refine Goes.to (T' := T22.setTop (mkF m 103 #[.val (.int p0), .val (.int p1), .val (.long q2), .second, .val (.int p3), .val (.int (2 : Int32)), .val (.ref w_PartyKind_OTHER), .val (.int (p1 &&& (3 : Int32))), .val (.long ((200000000 : Int64) + ((p3 % (3 : Int32)).toInt64))), .second, .unset, .unset] [])) (fun t k => XS.goto X22.here hx rfl (pc0 := 93) (pc' := 103) rfl (hb hby at_93) (by decide) (by decide) k) ?_
          exact J103 _ _ ((200000000 : Int64) + ((p3 % (3 : Int32)).toInt64)) X22 e22 N0 
        · skip
          refine Goes.to (T' := T22.setTop (mkF m 96 #[.val (.int p0), .val (.int p1), .val (.long q2), .second, .val (.int p3), .val (.int (2 : Int32)), .val (.ref w_PartyKind_OTHER), .val (.int (p1 &&& (3 : Int32))), .unset, .unset, .unset, .unset] [])) (fun t k => XS.icmpYes X22.here hx rfl (pc0 := 79) (pc' := 96) rfl (hb hby at_79) rfl (feq hc79_28).2 (by decide) (by decide) k) ?_
          refine Goes.to (T' := T22.setTop (mkF m 98 #[.val (.int p0), .val (.int p1), .val (.long q2), .second, .val (.int p3), .val (.int (2 : Int32)), .val (.ref w_PartyKind_OTHER), .val (.int (p1 &&& (3 : Int32))), .unset, .unset, .unset, .unset] [(.int p3)])) (fun t k => XS.iload X22.here hx rfl (hb hby at_96) rfl k) ?_
          refine Goes.to (T' := T22.setTop (mkF m 99 #[.val (.int p0), .val (.int p1), .val (.long q2), .second, .val (.int p3), .val (.int (2 : Int32)), .val (.ref w_PartyKind_OTHER), .val (.int (p1 &&& (3 : Int32))), .unset, .unset, .unset, .unset] [(.int (3 : Int32)), (.int p3)])) (fun t k => XS.iconst X22.here hx rfl (hb hby at_98) k) ?_
          refine Goes.to (T' := T22.setTop (mkF m 100 #[.val (.int p0), .val (.int p1), .val (.long q2), .second, .val (.int p3), .val (.int (2 : Int32)), .val (.ref w_PartyKind_OTHER), .val (.int (p1 &&& (3 : Int32))), .unset, .unset, .unset, .unset] [(.int (p3 &&& (3 : Int32)))])) (fun t k => XS.iand X22.here hx rfl (hb hby at_99) rfl k) ?_
          refine Goes.to (T' := T22.setTop (mkF m 101 #[.val (.int p0), .val (.int p1), .val (.long q2), .second, .val (.int p3), .val (.int (2 : Int32)), .val (.ref w_PartyKind_OTHER), .val (.int (p1 &&& (3 : Int32))), .unset, .unset, .unset, .unset] [(.long ((p3 &&& (3 : Int32)).toInt64))])) (fun t k => XS.i2l X22.here hx rfl (hb hby at_100) rfl k) ?_
          refine Goes.to (T' := T22.setTop (mkF m 103 #[.val (.int p0), .val (.int p1), .val (.long q2), .second, .val (.int p3), .val (.int (2 : Int32)), .val (.ref w_PartyKind_OTHER), .val (.int (p1 &&& (3 : Int32))), .val (.long ((p3 &&& (3 : Int32)).toInt64)), .second, .unset, .unset] [])) (fun t k => XS.lstore X22.here hx rfl (hb hby at_101) rfl (l' := #[.val (.int p0), .val (.int p1), .val (.long q2), .second, .val (.int p3), .val (.int (2 : Int32)), .val (.ref w_PartyKind_OTHER), .val (.int (p1 &&& (3 : Int32))), .val (.long ((p3 &&& (3 : Int32)).toInt64)), .second, .unset, .unset]) rfl k) ?_
          exact J103 _ _ ((p3 &&& (3 : Int32)).toInt64) X22 e22 N0 
set_option maxRecDepth 65536 in
set_option maxHeartbeats 40000000 in
theorem comes_1 {Post : Tables → Env → Array Value → State → Outcome → State → Prop} (hpost : ∀ tb e args s v u, (limb_1_1.after args s (.returned v) u = true ∧ limb_1_2.after args s (.returned v) u = true ∧ True) → FrameEnd s (.returned v) u (Jvm.fieldLocs frame_1_writes args s ++ Jvm.arrayLocs frame_1_arrays args s ++ Jvm.staticLocs frame_1_statics s) 0 0 → Post tb e args s (.returned v) u) :
    ArmFor flags0 classFile x code maxLocals ret World_1 tables_1 room_1 Calls_1 rest_1 Pre_1 Post := by
  intro l hfl _ _ p e ha hc hk s m args below hf hA hF happ hP
  obtain ⟨hcalls, hrest, hpre⟩ := hP
  obtain ⟨-, -, -, hnamed, -, -, -, hat⟩ := (Spec.applies_iff hf).mp happ
  obtain ⟨hg, hn⟩ := and_e (Cond.before_iff.mp (show (Jvm.Cond.and given_1 narrow_1).before args s = true from hpre))
  obtain ⟨gc, gr0⟩ := and_e hg
  obtain ⟨w0, w1, w2, w3, rfl⟩ : ∃ w0 w1 w2 w3 : Value, args = #[w0, w1, w2, w3] := by
    have hs : args.size = 4 := by simpa [Cond.value, given_1] using gc
    obtain ⟨L⟩ := args
    match L, hs with
    | [w0, w1, w2, w3], _ => exact ⟨w0, w1, w2, w3, rfl⟩
  have hw := fun d (hd : d ∈ tables_1) => atoms_spec (ws := Jvm.Cond.code x code maxLocals ret :: tables_1) hat d (List.mem_cons_of_mem _ hd)
  have hfit : Fit s := fun {y c} hc i hi => by
    obtain ⟨ha, rfl⟩ := Array.getElem?_eq_some_iff.mp hc
    have q := List.all_eq_true.mp ((Array.all_eq_true_iff_forall_mem.mp hF) _ (Array.getElem_mem ha)) i (List.mem_range.mpr hi)
    simpa [Array.getElem?_eq_getElem hi] using q
  obtain ⟨gv0, gr1⟩ := and_e gr0
  obtain ⟨i0, ei0⟩ := is_v gv0
  obtain rfl : w0 = (.int i0) := Option.some.inj ei0
  obtain ⟨gv1, gr2⟩ := and_e gr1
  obtain ⟨i1, ei1⟩ := is_v gv1
  obtain rfl : w1 = (.int i1) := Option.some.inj ei1
  obtain ⟨gv2, gr3⟩ := and_e gr2
  obtain ⟨i2, ei2⟩ := isL_v gv2
  obtain rfl : w2 = (.long i2) := Option.some.inj ei2
  obtain ⟨i3, ei3⟩ := is_v gr3
  obtain rfl : w3 = (.int i3) := Option.some.inj ei3
  obtain ⟨nl1, nr1⟩ := and_e hn
  obtain ⟨nl2, nr2⟩ := and_e nr1
  obtain ⟨nl3, nr3⟩ := and_e nr2
  obtain ⟨nl4, nr4⟩ := and_e nr3
  obtain ⟨nl5, nr5⟩ := and_e nr4
  obtain ⟨nl6, nr6⟩ := and_e nr5
  obtain ⟨nl7, nr7⟩ := and_e nr6
  obtain ⟨nl8, nr8⟩ := and_e nr7
  obtain ⟨nl9, nr9⟩ := and_e nr8
  obtain ⟨nl10, nr10⟩ := and_e nr9
  obtain ⟨nl11, nr11⟩ := and_e nr10
  obtain ⟨nl12, nr12⟩ := and_e nr11
  obtain ⟨w_PartyKind_SMALL_MICRO, ev_w_PartyKind_SMALL_MICRO⟩ := exa_v nl1
  have S_w_PartyKind_SMALL_MICRO : Sta s s.heap "com/example/suretyline/suretyline/PartyKind" "SMALL_MICRO" "Lcom/example/suretyline/suretyline/PartyKind;" (.ref w_PartyKind_SMALL_MICRO) := Sta.start ev_w_PartyKind_SMALL_MICRO (Or.inr ⟨(hw _ (List.mem_of_getElem? (i := 2) rfl)), (hw _ (List.mem_of_getElem? (i := 3) rfl))⟩)
  have E_w_PartyKind_SMALL_MICRO : Exa s s.heap w_PartyKind_SMALL_MICRO "com/example/suretyline/suretyline/PartyKind" := Exa.start ev_w_PartyKind_SMALL_MICRO nl1
  obtain ⟨w_LiabilityWeight_1__SwitchMap_com_example_suretyline_suretyline_PartyKind, ev_w_LiabilityWeight_1__SwitchMap_com_example_suretyline_suretyline_PartyKind⟩ := arr_v nl2
  have S_w_LiabilityWeight_1__SwitchMap_com_example_suretyline_suretyline_PartyKind : Sta s s.heap "com/example/suretyline/suretyline/LiabilityWeight$1" "$SwitchMap$com$example$suretyline$suretyline$PartyKind" "[I" (.ref w_LiabilityWeight_1__SwitchMap_com_example_suretyline_suretyline_PartyKind) := Sta.start ev_w_LiabilityWeight_1__SwitchMap_com_example_suretyline_suretyline_PartyKind (Or.inr ⟨(hw _ (List.mem_of_getElem? (i := 13) rfl)), (hw _ (List.mem_of_getElem? (i := 14) rfl))⟩)
  obtain ⟨w_LiabilityWeight_INCLUSIVE_LOAN, ev_w_LiabilityWeight_INCLUSIVE_LOAN⟩ := exa_v nl6
  have S_w_LiabilityWeight_INCLUSIVE_LOAN : Sta s s.heap "com/example/suretyline/suretyline/LiabilityWeight" "INCLUSIVE_LOAN" "Lcom/example/suretyline/suretyline/LiabilityWeight;" (.ref w_LiabilityWeight_INCLUSIVE_LOAN) := Sta.start ev_w_LiabilityWeight_INCLUSIVE_LOAN (Or.inr ⟨(hw _ (List.mem_of_getElem? (i := 7) rfl)), (hw _ (List.mem_of_getElem? (i := 27) rfl))⟩)
  have E_w_LiabilityWeight_INCLUSIVE_LOAN : Exa s s.heap w_LiabilityWeight_INCLUSIVE_LOAN "com/example/suretyline/suretyline/LiabilityWeight" := Exa.start ev_w_LiabilityWeight_INCLUSIVE_LOAN nl6
  obtain ⟨w_PartyKind_OTHER, ev_w_PartyKind_OTHER⟩ := exa_v nl7
  have S_w_PartyKind_OTHER : Sta s s.heap "com/example/suretyline/suretyline/PartyKind" "OTHER" "Lcom/example/suretyline/suretyline/PartyKind;" (.ref w_PartyKind_OTHER) := Sta.start ev_w_PartyKind_OTHER (Or.inr ⟨(hw _ (List.mem_of_getElem? (i := 2) rfl)), (hw _ (List.mem_of_getElem? (i := 31) rfl))⟩)
  have E_w_PartyKind_OTHER : Exa s s.heap w_PartyKind_OTHER "com/example/suretyline/suretyline/PartyKind" := Exa.start ev_w_PartyKind_OTHER nl7
  obtain ⟨w_LiabilityWeight_LOAN, ev_w_LiabilityWeight_LOAN⟩ := exa_v nl10
  have S_w_LiabilityWeight_LOAN : Sta s s.heap "com/example/suretyline/suretyline/LiabilityWeight" "LOAN" "Lcom/example/suretyline/suretyline/LiabilityWeight;" (.ref w_LiabilityWeight_LOAN) := Sta.start ev_w_LiabilityWeight_LOAN (Or.inr ⟨(hw _ (List.mem_of_getElem? (i := 7) rfl)), (hw _ (List.mem_of_getElem? (i := 34) rfl))⟩)
  have E_w_LiabilityWeight_LOAN : Exa s s.heap w_LiabilityWeight_LOAN "com/example/suretyline/suretyline/LiabilityWeight" := Exa.start ev_w_LiabilityWeight_LOAN nl10
  obtain ⟨w_PartyKind_FARMER, ev_w_PartyKind_FARMER⟩ := exa_v nl11
  have S_w_PartyKind_FARMER : Sta s s.heap "com/example/suretyline/suretyline/PartyKind" "FARMER" "Lcom/example/suretyline/suretyline/PartyKind;" (.ref w_PartyKind_FARMER) := Sta.start ev_w_PartyKind_FARMER (Or.inr ⟨(hw _ (List.mem_of_getElem? (i := 2) rfl)), (hw _ (List.mem_of_getElem? (i := 37) rfl))⟩)
  have E_w_PartyKind_FARMER : Exa s s.heap w_PartyKind_FARMER "com/example/suretyline/suretyline/PartyKind" := Exa.start ev_w_PartyKind_FARMER nl11
  have F_ordinal_w_PartyKind_SMALL_MICRO : Fld s s.heap w_PartyKind_SMALL_MICRO "java/lang/Enum" "ordinal" "I" (.int (0 : Int32)) := own_fldI ev_w_PartyKind_SMALL_MICRO nl4
  have F_ordinal_w_PartyKind_OTHER : Fld s s.heap w_PartyKind_OTHER "java/lang/Enum" "ordinal" "I" (.int (2 : Int32)) := own_fldI ev_w_PartyKind_OTHER nl8
  have F_ordinal_w_PartyKind_FARMER : Fld s s.heap w_PartyKind_FARMER "java/lang/Enum" "ordinal" "I" (.int (1 : Int32)) := own_fldI ev_w_PartyKind_FARMER nl12
  obtain ⟨cl_w_LiabilityWeight_1__SwitchMap_com_example_suretyline_suretyline_PartyKind, A_w_LiabilityWeight_1__SwitchMap_com_example_suretyline_suretyline_PartyKind⟩ := Arr.start ev_w_LiabilityWeight_1__SwitchMap_com_example_suretyline_suretyline_PartyKind nl2
  have len_w_LiabilityWeight_1__SwitchMap_com_example_suretyline_suretyline_PartyKind := own_len ev_w_LiabilityWeight_1__SwitchMap_com_example_suretyline_suretyline_PartyKind A_w_LiabilityWeight_1__SwitchMap_com_example_suretyline_suretyline_PartyKind nl3
  have el0_w_LiabilityWeight_1__SwitchMap_com_example_suretyline_suretyline_PartyKind := (elem_in (own_stI nl5) ev_w_LiabilityWeight_1__SwitchMap_com_example_suretyline_suretyline_PartyKind rfl A_w_LiabilityWeight_1__SwitchMap_com_example_suretyline_suretyline_PartyKind.1).2
  have el1_w_LiabilityWeight_1__SwitchMap_com_example_suretyline_suretyline_PartyKind := (elem_in (own_stI nr12) ev_w_LiabilityWeight_1__SwitchMap_com_example_suretyline_suretyline_PartyKind rfl A_w_LiabilityWeight_1__SwitchMap_com_example_suretyline_suretyline_PartyKind.1).2
  have el2_w_LiabilityWeight_1__SwitchMap_com_example_suretyline_suretyline_PartyKind := (elem_in (own_stI nl9) ev_w_LiabilityWeight_1__SwitchMap_com_example_suretyline_suretyline_PartyKind rfl A_w_LiabilityWeight_1__SwitchMap_com_example_suretyline_suretyline_PartyKind.1).2
  obtain ⟨k_w_LiabilityWeight_1__SwitchMap_com_example_suretyline_suretyline_PartyKind, ek_w_LiabilityWeight_1__SwitchMap_com_example_suretyline_suretyline_PartyKind⟩ : ∃ z, z = cl_w_LiabilityWeight_1__SwitchMap_com_example_suretyline_suretyline_PartyKind.cls := ⟨_, rfl⟩
  have V_w_LiabilityWeight_1__SwitchMap_com_example_suretyline_suretyline_PartyKind : Arv s s.heap w_LiabilityWeight_1__SwitchMap_com_example_suretyline_suretyline_PartyKind k_w_LiabilityWeight_1__SwitchMap_com_example_suretyline_suretyline_PartyKind .int (3 : Int32) [(.int (1 : Int32)), (.int (2 : Int32)), (.int (3 : Int32))] (.int (0 : Int32)) := ek_w_LiabilityWeight_1__SwitchMap_com_example_suretyline_suretyline_PartyKind ▸ Arv.start hfit A_w_LiabilityWeight_1__SwitchMap_com_example_suretyline_suretyline_PartyKind len_w_LiabilityWeight_1__SwitchMap_com_example_suretyline_suretyline_PartyKind.1 len_w_LiabilityWeight_1__SwitchMap_com_example_suretyline_suretyline_PartyKind.2 (by decide) rfl ⟨el0_w_LiabilityWeight_1__SwitchMap_com_example_suretyline_suretyline_PartyKind, el1_w_LiabilityWeight_1__SwitchMap_com_example_suretyline_suretyline_PartyKind, el2_w_LiabilityWeight_1__SwitchMap_com_example_suretyline_suretyline_PartyKind, trivial⟩
  obtain ⟨n, o, h1, h2, h3, _, L, rfl, ⟨rfl, N⟩, hq⟩ := rm0 l s _ hw tables_1 i0 i1 i2 i3 w_PartyKind_SMALL_MICRO w_LiabilityWeight_1__SwitchMap_com_example_suretyline_suretyline_PartyKind w_LiabilityWeight_INCLUSIVE_LOAN w_PartyKind_OTHER w_LiabilityWeight_LOAN w_PartyKind_FARMER k_w_LiabilityWeight_1__SwitchMap_com_example_suretyline_suretyline_PartyKind s.heap s.heap.size (Old.start s) ⟨S_w_PartyKind_SMALL_MICRO, E_w_PartyKind_SMALL_MICRO, S_w_LiabilityWeight_1__SwitchMap_com_example_suretyline_suretyline_PartyKind, S_w_LiabilityWeight_INCLUSIVE_LOAN, E_w_LiabilityWeight_INCLUSIVE_LOAN, S_w_PartyKind_OTHER, E_w_PartyKind_OTHER, S_w_LiabilityWeight_LOAN, E_w_LiabilityWeight_LOAN, S_w_PartyKind_FARMER, E_w_PartyKind_FARMER, F_ordinal_w_PartyKind_SMALL_MICRO, F_ordinal_w_PartyKind_OTHER, F_ordinal_w_PartyKind_FARMER, V_w_LiabilityWeight_1__SwitchMap_com_example_suretyline_suretyline_PartyKind⟩ p e ha hc hk s m _ below hf ((Spec.applies_iff_loose hf).mp happ).1 ⟨rfl, State.Warmed39.refl s, rfl⟩ trivial
  refine ⟨n, _, h1, h2, h3, hpost _ _ _ _ _ _ ⟨Cond.after_iff.mpr rfl, Cond.after_iff.mpr (eq_i res_at (Term.int_eval (1)) rfl), trivial⟩ ⟨hq.1, hq.2.1, (hq.2.2.sift fun y hy => Or.inr (N y hy)).mono (by decide) (by decide)⟩⟩
theorem main_1_1 : Claimed_1_1 := comes_1 fun _ _ _ _ _ _ h hF => ⟨h.1, hF⟩
theorem main_1_2 : Claimed_1_2 := comes_1 fun _ _ _ _ _ _ h hF => ⟨h.2.1, hF⟩
end Jvm.Pilot.@@N@@
namespace Jvm.Pilot.@@N@@
open Jvm Jvm.ClassFile Sem Op Lib Jvm.Free Jvm.Stand Jvm.Pilot.@@N@@.Jvm.D
/-! MADE BY PROGRAM (witnessworld.py) out of the Statement's table words and the real class files: 15 classes; the members and pool entries that the words name. The judged class is class 1, her method 1. -/
namespace start1
open Jvm.ClassFile
def u (s : String) : CpInfo := .utf8 (stringToUtf16 s)
/-- a pool by its gaps: so many unusable entries, then the entry; so many at the end -/
def gap : Nat → List CpInfo → List CpInfo
  | 0, r => r
  | n + 1, r => .unusable :: gap n r
def poolList (es : List (Nat × CpInfo)) (last : Nat) : List CpInfo := es.foldr (fun e r => gap e.1 (e.2 :: r)) (gap last [])
def pool (es : List (Nat × CpInfo)) (last : Nat) : Array CpInfo := ⟨poolList es last⟩
def fileOf (pool : Array CpInfo) (this : Nat) (attrs : Array Attribute := #[]) (ms : Array MethodInfo := #[]) (fl : Nat := 33) (sup : Nat := 0) (ifs : Array Nat := #[]) (fds : Array FieldInfo := #[]) : ClassFile where
  minorVersion := 0
  majorVersion := 65
  constantPool := pool
  accessFlags := fl
  thisClass := this
  superClass := sup
  interfaces := ifs
  fields := fds
  methods := ms
  attributes := attrs
def plain (name : String) (sup : Option ClassId) : Class where
  name := name
  kind := .ordinary
  loader := none
  accessFlags := 33
  super := sup
  interfaces := #[]
  cf := none
  fields := #[]
  methods := #[]
  instanceTypes := #[]
  staticTypes := #[]
  resolved := #[]
  callSites := []
  init := .initialized
  statics := none
  mirror := none

def pool0 : Array CpInfo := pool [(5, u "<init>"), (0, u "()V"), (1, .class_ 10), (1, u "java/lang/Object")] 113

def k0m0 : Method := { name := "<init>", desc := "()V", sig := { parameters := [], returnType := none }, accessFlags := 1, code := none }
/-- java/lang/Object -/
def k0 : Class := { plain "java/lang/Object" none with
  accessFlags := 33
  interfaces := #[]
  cf := some (fileOf pool0 8 #[] #[{ accessFlags := 1, nameIndex := 5, descriptorIndex := 6, attributes := #[] }] 33 0 #[] #[])
  fields := #[]
  methods := #[k0m0]
  instanceTypes := #[]
  staticTypes := #[]
  resolved := Array.replicate 124 none
  statics := none }

def pool1 : Array CpInfo := pool [(2, .class_ 4), (1, u "java/lang/Object"), (0, u "<init>"), (0, u "()V"), (0, .integer 2147483647), (0, .fieldref 9 10), (0, .class_ 11), (0, .nameAndType 12 13), (0, u "com/example/suretyline/suretyline/PartyKind"), (0, u "SMALL_MICRO"), (0, u "Lcom/example/suretyline/suretyline/PartyKind;"), (0, .fieldref 9 15), (0, .nameAndType 16 13), (0, u "FARMER"), (0, .fieldref 9 18), (0, .nameAndType 19 13), (0, u "OTHER"), (2, .long 9223372036854775807), (1, .long 500000000), (1, .long 200000000), (1, .methodref 29 30), (0, .class_ 31), (0, .nameAndType 32 33), (0, u "com/example/suretyline/suretyline/LiabilityWeight"), (0, u "ofLoanInFen"), (0, u "(Lcom/example/suretyline/suretyline/PartyKind;J)Lcom/example/suretyline/suretyline/LiabilityWeight;"), (0, .fieldref 29 35), (0, .nameAndType 36 37), (0, u "INCLUSIVE_LOAN"), (0, u "Lcom/example/suretyline/suretyline/LiabilityWeight;"), (0, .fieldref 29 39), (0, .nameAndType 40 37), (0, u "LOAN"), (0, .class_ 42), (0, u "com/example/suretyline/suretyline/LiabilityWeightOfLoanInFenPinLaw"), (2, u "law"), (0, u "(IIJI)Z")] 3

def k1m0 : Method := { name := "<init>", desc := "()V", sig := { parameters := [], returnType := none }, accessFlags := 1, code := none }
def k1c1 : Code := { maxStack := 4, maxLocals := 12, code := code, exceptionTable := #[], attributes := #[] }
def k1m1 : Method := { name := "law", desc := "(IIJI)Z", sig := { parameters := [.int, .int, .long, .int], returnType := some .boolean }, accessFlags := 9, code := some k1c1 }
/-- com/example/suretyline/suretyline/LiabilityWeightOfLoanInFenPinLaw -/
def k1 : Class := { plain "com/example/suretyline/suretyline/LiabilityWeightOfLoanInFenPinLaw" (some 0) with
  accessFlags := 49
  interfaces := #[]
  cf := some (fileOf pool1 41 #[] #[{ accessFlags := 1, nameIndex := 5, descriptorIndex := 6, attributes := #[] }, { accessFlags := 9, nameIndex := 45, descriptorIndex := 46, attributes := #[] }] 49 2 #[] #[])
  fields := #[]
  methods := #[k1m0, k1m1]
  instanceTypes := #[]
  staticTypes := #[]
  resolved := Array.replicate 50 none
  statics := none }

def pool2 : Array CpInfo := pool [(1, .class_ 2), (0, u "java/lang/constant/Constable"), (0, .class_ 4), (0, u "java/lang/Object")] 6

/-- java/lang/constant/Constable -/
def k2 : Class := { plain "java/lang/constant/Constable" (some 0) with
  accessFlags := 1537
  interfaces := #[]
  cf := some (fileOf pool2 1 #[] #[] 1537 3 #[] #[])
  fields := #[]
  methods := #[]
  instanceTypes := #[]
  staticTypes := #[]
  resolved := Array.replicate 11 none
  statics := none }

def pool3 : Array CpInfo := pool [(1, .class_ 2), (0, u "java/lang/Comparable"), (0, .class_ 4), (0, u "java/lang/Object")] 7

/-- java/lang/Comparable -/
def k3 : Class := { plain "java/lang/Comparable" (some 0) with
  accessFlags := 1537
  interfaces := #[]
  cf := some (fileOf pool3 1 #[] #[] 1537 3 #[] #[])
  fields := #[]
  methods := #[]
  instanceTypes := #[]
  staticTypes := #[]
  resolved := Array.replicate 12 none
  statics := none }

def pool4 : Array CpInfo := pool [(1, .class_ 2), (0, u "java/io/Serializable"), (0, .class_ 4), (0, u "java/lang/Object")] 2

/-- java/io/Serializable -/
def k4 : Class := { plain "java/io/Serializable" (some 0) with
  accessFlags := 1537
  interfaces := #[]
  cf := some (fileOf pool4 1 #[] #[] 1537 3 #[] #[])
  fields := #[]
  methods := #[]
  instanceTypes := #[]
  staticTypes := #[]
  resolved := Array.replicate 7 none
  statics := none }

def pool5 : Array CpInfo := pool [(2, .class_ 4), (1, u "java/lang/Enum"), (0, u "name"), (0, u "Ljava/lang/String;"), (0, .fieldref 2 8), (0, .nameAndType 9 10), (0, u "ordinal"), (0, u "I"), (1, .class_ 14), (1, u "java/lang/Object"), (4, u "hash"), (86, .class_ 108), (1, u "java/lang/Enum$EnumDesc"), (2, .class_ 112), (0, u "java/lang/constant/Constable"), (0, .class_ 114), (0, u "java/lang/Comparable"), (0, .class_ 116), (0, u "java/io/Serializable"), (9, u "()I")] 77

def k5c0 : Code := { maxStack := 1, maxLocals := 1, code := jdk_37_method_2_code, exceptionTable := #[], attributes := #[] }
def k5m0 : Method := { name := "ordinal", desc := "()I", sig := { parameters := [], returnType := some .int }, accessFlags := 17, code := some k5c0 }
/-- java/lang/Enum -/
def k5 : Class := { plain "java/lang/Enum" (some 0) with
  accessFlags := 1057
  interfaces := #[2, 3, 4]
  cf := some (fileOf pool5 2 #[.nestMembers #[106]] #[{ accessFlags := 17, nameIndex := 9, descriptorIndex := 126, attributes := #[] }] 1057 12 #[111, 113, 115] #[{ accessFlags := 18, nameIndex := 5, descriptorIndex := 6, attributes := #[] }, { accessFlags := 18, nameIndex := 9, descriptorIndex := 10, attributes := #[] }, { accessFlags := 2, nameIndex := 19, descriptorIndex := 10, attributes := #[] }])
  fields := #[{ name := "name", type := (.object "java/lang/String"), accessFlags := 18, slot := 0, constantValue := 0 }, { name := "ordinal", type := .int, accessFlags := 18, slot := 1, constantValue := 0 }, { name := "hash", type := .int, accessFlags := 2, slot := 2, constantValue := 0 }]
  methods := #[k5m0]
  instanceTypes := #[(.object "java/lang/String"), .int, .int]
  staticTypes := #[]
  resolved := Array.replicate 204 none
  statics := none }

def pool6 : Array CpInfo := pool [(2, .class_ 4), (1, u "com/example/suretyline/suretyline/Coded$Constants"), (2, .class_ 8), (0, u "com/example/suretyline/suretyline/Coded"), (52, .class_ 62), (0, u "java/lang/Object"), (17, .class_ 81), (0, u "com/example/suretyline/suretyline/Coded$Constants$1")] 30

/-- com/example/suretyline/suretyline/Coded -/
def k6 : Class := { plain "com/example/suretyline/suretyline/Coded" (some 0) with
  accessFlags := 1536
  interfaces := #[]
  cf := some (fileOf pool6 7 #[.nestMembers #[2, 80]] #[] 1536 61 #[] #[])
  fields := #[]
  methods := #[]
  instanceTypes := #[]
  staticTypes := #[]
  resolved := Array.replicate 112 none
  statics := none }

def pool7 : Array CpInfo := pool [(1, .class_ 2), (0, u "com/example/suretyline/suretyline/PartyKind"), (2, u "SMALL_MICRO"), (0, u "Lcom/example/suretyline/suretyline/PartyKind;"), (2, u "FARMER"), (2, u "OTHER"), (2, u "$VALUES"), (0, u "[Lcom/example/suretyline/suretyline/PartyKind;"), (6, .class_ 25), (1, u "java/lang/Enum"), (8, u "code"), (0, u "Ljava/lang/String;"), (1, .class_ 39), (1, u "com/example/suretyline/suretyline/Coded")] 32

/-- com/example/suretyline/suretyline/PartyKind -/
def k7 : Class := { plain "com/example/suretyline/suretyline/PartyKind" (some 5) with
  accessFlags := 16433
  interfaces := #[6]
  cf := some (fileOf pool7 1 #[] #[] 16433 23 #[37] #[{ accessFlags := 16409, nameIndex := 5, descriptorIndex := 6, attributes := #[] }, { accessFlags := 16409, nameIndex := 9, descriptorIndex := 6, attributes := #[] }, { accessFlags := 16409, nameIndex := 12, descriptorIndex := 6, attributes := #[] }, { accessFlags := 18, nameIndex := 34, descriptorIndex := 35, attributes := #[] }, { accessFlags := 4122, nameIndex := 15, descriptorIndex := 16, attributes := #[] }])
  fields := #[{ name := "SMALL_MICRO", type := (.object "com/example/suretyline/suretyline/PartyKind"), accessFlags := 16409, slot := 0, constantValue := 0 }, { name := "FARMER", type := (.object "com/example/suretyline/suretyline/PartyKind"), accessFlags := 16409, slot := 1, constantValue := 0 }, { name := "OTHER", type := (.object "com/example/suretyline/suretyline/PartyKind"), accessFlags := 16409, slot := 2, constantValue := 0 }, { name := "code", type := (.object "java/lang/String"), accessFlags := 18, slot := 3, constantValue := 0 }, { name := "$VALUES", type := (.array (.object "com/example/suretyline/suretyline/PartyKind")), accessFlags := 4122, slot := 3, constantValue := 0 }]
  methods := #[]
  instanceTypes := #[(.object "java/lang/String"), .int, .int, (.object "java/lang/String")]
  staticTypes := #[(.object "com/example/suretyline/suretyline/PartyKind"), (.object "com/example/suretyline/suretyline/PartyKind"), (.object "com/example/suretyline/suretyline/PartyKind"), (.array (.object "com/example/suretyline/suretyline/PartyKind"))]
  resolved := Array.replicate 72 none
  statics := some 0 }

def pool8 : Array CpInfo := pool [(1, .class_ 2), (0, u "com/example/suretyline/suretyline/LiabilityWeight"), (0, .fieldref 1 4), (0, .nameAndType 5 6), (0, u "INCLUSIVE_LOAN"), (0, u "Lcom/example/suretyline/suretyline/LiabilityWeight;"), (0, .fieldref 1 8), (0, .nameAndType 9 6), (0, u "LOAN"), (2, u "HIGH_RATED_BOND"), (2, u "BOND"), (2, u "OTHER"), (2, u "$VALUES"), (0, u "[Lcom/example/suretyline/suretyline/LiabilityWeight;"), (6, .class_ 31), (1, u "java/lang/Enum"), (8, u "clause"), (0, u "Ljava/lang/String;"), (7, u "factor"), (0, u "Ljava/math/BigDecimal;"), (2, u "concentrationFactor"), (7, u "()I"), (2, u "percent"), (0, u "I"), (2, u "concentrationPercent"), (36, u "ofLoanInFen"), (0, u "(Lcom/example/suretyline/suretyline/PartyKind;J)Lcom/example/suretyline/suretyline/LiabilityWeight;"), (0, .methodref 1 108), (0, .nameAndType 109 110), (0, u "loanThreshold"), (0, u "(Lcom/example/suretyline/suretyline/PartyKind;)J"), (0, .long 18446744073709551615), (1, .fieldref 114 115), (0, .class_ 116), (0, .nameAndType 117 118), (0, u "com/example/suretyline/suretyline/LiabilityWeight$1"), (0, u "$SwitchMap$com$example$suretyline$suretyline$PartyKind"), (0, u "[I"), (0, .methodref 120 121), (0, .class_ 122), (0, .nameAndType 123 61), (0, u "com/example/suretyline/suretyline/PartyKind"), (0, u "ordinal"), (5, .long 500000000), (1, .long 200000000), (41, u "SMALL_MICRO_LOAN_THRESHOLD"), (0, u "J"), (1, u "FARMER_LOAN_THRESHOLD"), (0, u "NO_THRESHOLD")] 22

def k8c0 : Code := { maxStack := 4, maxLocals := 5, code := prog_27_method_11_code, exceptionTable := #[], attributes := #[] }
def k8m0 : Method := { name := "ofLoanInFen", desc := "(Lcom/example/suretyline/suretyline/PartyKind;J)Lcom/example/suretyline/suretyline/LiabilityWeight;", sig := { parameters := [(.object "com/example/suretyline/suretyline/PartyKind"), .long], returnType := some (.object "com/example/suretyline/suretyline/LiabilityWeight") }, accessFlags := 8, code := some k8c0 }
def k8c1 : Code := { maxStack := 4, maxLocals := 1, code := prog_27_method_12_code, exceptionTable := #[], attributes := #[] }
def k8m1 : Method := { name := "loanThreshold", desc := "(Lcom/example/suretyline/suretyline/PartyKind;)J", sig := { parameters := [(.object "com/example/suretyline/suretyline/PartyKind")], returnType := some .long }, accessFlags := 10, code := some k8c1 }
/-- com/example/suretyline/suretyline/LiabilityWeight -/
def k8 : Class := { plain "com/example/suretyline/suretyline/LiabilityWeight" (some 5) with
  accessFlags := 16433
  interfaces := #[]
  cf := some (fileOf pool8 1 #[.nestMembers #[114]] #[{ accessFlags := 8, nameIndex := 105, descriptorIndex := 106, attributes := #[] }, { accessFlags := 10, nameIndex := 109, descriptorIndex := 110, attributes := #[] }] 16433 29 #[] #[{ accessFlags := 16409, nameIndex := 5, descriptorIndex := 6, attributes := #[] }, { accessFlags := 16409, nameIndex := 9, descriptorIndex := 6, attributes := #[] }, { accessFlags := 16409, nameIndex := 12, descriptorIndex := 6, attributes := #[] }, { accessFlags := 16409, nameIndex := 15, descriptorIndex := 6, attributes := #[] }, { accessFlags := 16409, nameIndex := 18, descriptorIndex := 6, attributes := #[] }, { accessFlags := 26, nameIndex := 173, descriptorIndex := 174, attributes := #[] }, { accessFlags := 26, nameIndex := 176, descriptorIndex := 174, attributes := #[] }, { accessFlags := 26, nameIndex := 177, descriptorIndex := 174, attributes := #[] }, { accessFlags := 18, nameIndex := 40, descriptorIndex := 41, attributes := #[] }, { accessFlags := 18, nameIndex := 49, descriptorIndex := 50, attributes := #[] }, { accessFlags := 18, nameIndex := 53, descriptorIndex := 50, attributes := #[] }, { accessFlags := 18, nameIndex := 64, descriptorIndex := 65, attributes := #[] }, { accessFlags := 18, nameIndex := 68, descriptorIndex := 65, attributes := #[] }, { accessFlags := 4122, nameIndex := 21, descriptorIndex := 22, attributes := #[] }])
  fields := #[{ name := "INCLUSIVE_LOAN", type := (.object "com/example/suretyline/suretyline/LiabilityWeight"), accessFlags := 16409, slot := 0, constantValue := 0 }, { name := "LOAN", type := (.object "com/example/suretyline/suretyline/LiabilityWeight"), accessFlags := 16409, slot := 1, constantValue := 0 }, { name := "HIGH_RATED_BOND", type := (.object "com/example/suretyline/suretyline/LiabilityWeight"), accessFlags := 16409, slot := 2, constantValue := 0 }, { name := "BOND", type := (.object "com/example/suretyline/suretyline/LiabilityWeight"), accessFlags := 16409, slot := 3, constantValue := 0 }, { name := "OTHER", type := (.object "com/example/suretyline/suretyline/LiabilityWeight"), accessFlags := 16409, slot := 4, constantValue := 0 }, { name := "SMALL_MICRO_LOAN_THRESHOLD", type := .long, accessFlags := 26, slot := 5, constantValue := 0 }, { name := "FARMER_LOAN_THRESHOLD", type := .long, accessFlags := 26, slot := 6, constantValue := 0 }, { name := "NO_THRESHOLD", type := .long, accessFlags := 26, slot := 7, constantValue := 0 }, { name := "clause", type := (.object "java/lang/String"), accessFlags := 18, slot := 3, constantValue := 0 }, { name := "factor", type := (.object "java/math/BigDecimal"), accessFlags := 18, slot := 4, constantValue := 0 }, { name := "concentrationFactor", type := (.object "java/math/BigDecimal"), accessFlags := 18, slot := 5, constantValue := 0 }, { name := "percent", type := .int, accessFlags := 18, slot := 6, constantValue := 0 }, { name := "concentrationPercent", type := .int, accessFlags := 18, slot := 7, constantValue := 0 }, { name := "$VALUES", type := (.array (.object "com/example/suretyline/suretyline/LiabilityWeight")), accessFlags := 4122, slot := 8, constantValue := 0 }]
  methods := #[k8m0, k8m1]
  instanceTypes := #[(.object "java/lang/String"), .int, .int, (.object "java/lang/String"), (.object "java/math/BigDecimal"), (.object "java/math/BigDecimal"), .int, .int]
  staticTypes := #[(.object "com/example/suretyline/suretyline/LiabilityWeight"), (.object "com/example/suretyline/suretyline/LiabilityWeight"), (.object "com/example/suretyline/suretyline/LiabilityWeight"), (.object "com/example/suretyline/suretyline/LiabilityWeight"), (.object "com/example/suretyline/suretyline/LiabilityWeight"), .long, .long, .long, (.array (.object "com/example/suretyline/suretyline/LiabilityWeight"))]
  resolved := Array.replicate 200 none
  statics := some 1 }

def pool9 : Array CpInfo := pool [(8, .class_ 10), (1, u "com/example/suretyline/suretyline/LiabilityWeight$1"), (0, u "$SwitchMap$com$example$suretyline$suretyline$PartyKind"), (0, u "[I"), (16, .class_ 30), (0, u "java/lang/Object"), (8, .class_ 40), (0, u "com/example/suretyline/suretyline/LiabilityWeight")] 2

/-- com/example/suretyline/suretyline/LiabilityWeight$1 -/
def k9 : Class := { plain "com/example/suretyline/suretyline/LiabilityWeight$1" (some 0) with
  accessFlags := 4128
  interfaces := #[]
  cf := some (fileOf pool9 8 #[.nestHost 39] #[] 4128 29 #[] #[{ accessFlags := 4120, nameIndex := 11, descriptorIndex := 12, attributes := #[] }])
  fields := #[{ name := "$SwitchMap$com$example$suretyline$suretyline$PartyKind", type := (.array .int), accessFlags := 4120, slot := 0, constantValue := 0 }]
  methods := #[]
  instanceTypes := #[]
  staticTypes := #[(.array .int)]
  resolved := Array.replicate 43 none
  statics := some 2 }

def pool10 : Array CpInfo := pool [(1, u "java/lang/Cloneable"), (0, .class_ 1), (0, u "java/lang/Object"), (0, .class_ 3)] 3

/-- java/lang/Cloneable -/
def k10 : Class := { plain "java/lang/Cloneable" (some 0) with
  accessFlags := 1537
  interfaces := #[]
  cf := some (fileOf pool10 2 #[] #[] 1537 4 #[] #[])
  fields := #[]
  methods := #[]
  instanceTypes := #[]
  staticTypes := #[]
  resolved := Array.replicate 8 none
  statics := none }

/-- the primitive byte -/
def k11 : Class := { plain "byte" none with kind := .primitive 'B', accessFlags := 0x411 }
/-- [B -/
def k12 : Class := { plain "[B" (some 0) with kind := .array 11 .byte, interfaces := #[10, 4], accessFlags := 1041 }

/-- the primitive int -/
def k13 : Class := { plain "int" none with kind := .primitive 'I', accessFlags := 0x411 }
/-- [I -/
def k14 : Class := { plain "[I" (some 0) with kind := .array 13 .int, interfaces := #[10, 4], accessFlags := 1041 }

def heap : Heap := #[{ cls := 7, slots := #[.ref 3, .ref 8, .ref 6, .null], vm := .statics 7 },
  { cls := 8, slots := #[.ref 5, .ref 7, .null, .null, .null, .long 0, .long 0, .long 0, .null], vm := .statics 8 },
  { cls := 9, slots := #[.ref 4], vm := .statics 9 },
  { cls := 7, slots := #[.null, .int 0, .int 0, .null], vm := .none },
  { cls := 14, slots := #[.int 1, .int 2, .int 3], vm := .none },
  { cls := 8, slots := #[.null, .int 0, .int 0, .null, .null, .null, .int 0, .int 0], vm := .none },
  { cls := 7, slots := #[.null, .int 2, .int 0, .null], vm := .none },
  { cls := 8, slots := #[.null, .int 0, .int 0, .null, .null, .null, .int 0, .int 0], vm := .none },
  { cls := 7, slots := #[.null, .int 1, .int 0, .null], vm := .none }]
def classes : Array Class := #[k0, k1, k2, k3, k4, k5, k6, k7, k8, k9, k10, k11, k12, k13, k14]
def interned : List (Array UInt16 × Addr) := []
def slotsUsed : Nat := 45
def theMethod : MethodId := ⟨1, 1⟩
def args0 : Array Value := #[.int 5, .int 6, .long 7, .int 8]
def aboutOver (below : List Frame) : State where
  vm := { classes := classes, interned := interned.toArray }
  heap := heap
  slotsUsed := slotsUsed
  threads := #[{ frames := .invoking theMethod args0 :: below }]
def below0 : List Frame := [.native { method := ⟨0, 0⟩, args := #[] }]
def about1 : State := aboutOver below0
def p0 : Program := .bare "" "" ""
def e0 : Env := launch0.env 0 0 0
theorem w_frames : about1.frames = Frame.invoking theMethod args0 :: below0 := rfl
set_option maxRecDepth 65536 in
theorem w_args : argsFit about1.vm theMethod args0 = true := by decide +kernel
set_option maxRecDepth 65536 in
theorem w_heap : heapFits about1 = true := by decide +kernel
set_option maxRecDepth 65536 in
theorem w_runnable : about1.curStatus? = some .runnable := by decide +kernel
set_option maxRecDepth 65536 in
theorem w_alone : about1.alone = true := by decide +kernel
set_option maxRecDepth 65536 in
theorem w_named : about1.methodNamed? x = some theMethod := by decide +kernel
set_option maxRecDepth 65536 in
theorem w_hears : about1.hears theMethod below0 = true := by decide +kernel
set_option maxRecDepth 65536 in
theorem w_ripe : about1.ripe theMethod args0 below0 = true := by decide +kernel
theorem w_running : about1.status = .running := rfl
set_option maxRecDepth 65536 in
theorem w_room : about1.hasRoom e0.platform room_1 = true :=
  launch0.hasRoom_least _ room_1 (by decide +kernel) (by decide +kernel) (by decide +kernel) (by decide +kernel) (by decide +kernel) (by decide +kernel)
theorem allAtoms_all (ts : List Jvm.Cond) (a : Array Jvm.Value) (st : Jvm.State) : (allAtoms ts).before a st = ts.all (fun c => c.before a st) := by
  induction ts with
  | nil => rfl
  | cons c t ih =>
    show (Jvm.Cond.and c (allAtoms t)).before a st = _
    rw [Jvm.Cond.before_and, ih, List.all_cons]
def words1 : List Jvm.Cond := Jvm.Cond.code x code maxLocals ret :: tables_1
/-- a 'code' word, met by the world's own term for the bytes: nothing is compared byte by byte -/
theorem code_word {y : MethodName} {bytes : ByteArray} {mx : Nat} {rt : Option FieldType} {a : Array Value} {s : State} {m : MethodId} {meth : Method} {c : Code} (h1 : s.methodNamed? y = some m) (h2 : s.vm.method? m = some meth) (h3 : meth.code = some c) (h4 : c.code = bytes)
    (h5 : (c.maxLocals == mx && c.exceptionTable.isEmpty && decide (c.maxStack ≤ mostOperands) && decide (meth.sig.returnType = rt) && !meth.locks && decide (parseMethodDescriptor y.desc = some meth.sig)) = true) : (Jvm.Cond.code y bytes mx rt).before a s = true := by
  simp only [Bool.and_eq_true, beq_iff_eq, Bool.not_eq_true', decide_eq_true_eq] at h5
  obtain ⟨⟨⟨⟨⟨g1, g2⟩, g3⟩, g4⟩, g5⟩, g6⟩ := h5
  simp [Cond.before, Cond.holds, Cond.value, h1, h2, h3, h4, g1, g2, g3, g4, g5, g6]
def isCode : Jvm.Cond → Bool
  | .code _ _ _ _ => true
  | _ => false
theorem all_split {L : List Jvm.Cond} {P : Jvm.Cond → Bool} (h1 : L.all (fun c => isCode c || P c) = true) (h2 : ∀ c ∈ L.filter isCode, P c = true) : L.all P = true := by
  refine List.all_eq_true.mpr fun c hc => ?_
  have h := List.all_eq_true.mp h1 c hc
  rcases Bool.eq_false_or_eq_true (isCode c) with hi | hi
  · exact h2 c (List.mem_filter.mpr ⟨hc, hi⟩)
  · simpa [hi] using h
set_option maxRecDepth 65536 in
theorem w_c0 : (Jvm.Cond.code x code maxLocals ret).before args0 about1 = true := code_word (m := ⟨1, 1⟩) (meth := k1m1) (c := k1c1) (by decide +kernel) rfl rfl rfl (by decide +kernel)
set_option maxRecDepth 65536 in
theorem w_c1 : (Jvm.Cond.code ({ cls := "com/example/suretyline/suretyline/LiabilityWeight", name := "ofLoanInFen", desc := "(Lcom/example/suretyline/suretyline/PartyKind;J)Lcom/example/suretyline/suretyline/LiabilityWeight;" } : Jvm.MethodName) prog_27_method_11_code (5 : Nat) (Option.some (Jvm.ClassFile.FieldType.object "com/example/suretyline/suretyline/LiabilityWeight"))).before args0 about1 = true := code_word (m := ⟨8, 0⟩) (meth := k8m0) (c := k8c0) (by decide +kernel) rfl rfl rfl (by decide +kernel)
set_option maxRecDepth 65536 in
theorem w_c2 : (Jvm.Cond.code ({ cls := "com/example/suretyline/suretyline/LiabilityWeight", name := "loanThreshold", desc := "(Lcom/example/suretyline/suretyline/PartyKind;)J" } : Jvm.MethodName) prog_27_method_12_code (1 : Nat) (Option.some Jvm.ClassFile.FieldType.long)).before args0 about1 = true := code_word (m := ⟨8, 1⟩) (meth := k8m1) (c := k8c1) (by decide +kernel) rfl rfl rfl (by decide +kernel)
set_option maxRecDepth 65536 in
theorem w_c3 : (Jvm.Cond.code ({ cls := "java/lang/Enum", name := "ordinal", desc := "()I" } : Jvm.MethodName) jdk_37_method_2_code (1 : Nat) (Option.some Jvm.ClassFile.FieldType.int)).before args0 about1 = true := code_word (m := ⟨5, 0⟩) (meth := k5m0) (c := k5c0) (by decide +kernel) rfl rfl rfl (by decide +kernel)
def codes1 : List Jvm.Cond := [Jvm.Cond.code x code maxLocals ret, Jvm.Cond.code ({ cls := "com/example/suretyline/suretyline/LiabilityWeight", name := "ofLoanInFen", desc := "(Lcom/example/suretyline/suretyline/PartyKind;J)Lcom/example/suretyline/suretyline/LiabilityWeight;" } : Jvm.MethodName) prog_27_method_11_code (5 : Nat) (Option.some (Jvm.ClassFile.FieldType.object "com/example/suretyline/suretyline/LiabilityWeight")), Jvm.Cond.code ({ cls := "com/example/suretyline/suretyline/LiabilityWeight", name := "loanThreshold", desc := "(Lcom/example/suretyline/suretyline/PartyKind;)J" } : Jvm.MethodName) prog_27_method_12_code (1 : Nat) (Option.some Jvm.ClassFile.FieldType.long), Jvm.Cond.code ({ cls := "java/lang/Enum", name := "ordinal", desc := "()I" } : Jvm.MethodName) jdk_37_method_2_code (1 : Nat) (Option.some Jvm.ClassFile.FieldType.int)]
set_option maxRecDepth 65536 in
theorem codes_eq : words1.filter isCode = codes1 := rfl
theorem w_codes : ∀ c ∈ words1.filter isCode, c.before args0 about1 = true := by
  rw [codes_eq]
  intro c hc
  simp only [codes1, List.mem_cons, List.not_mem_nil, or_false] at hc
  rcases hc with rfl | rfl | rfl | rfl
  · exact w_c0
  · exact w_c1
  · exact w_c2
  · exact w_c3
set_option maxRecDepth 65536 in
theorem w_t1 : (words1.take 24).all (fun c => isCode c || c.before args0 about1) = true := by decide +kernel
set_option maxRecDepth 65536 in
theorem w_t2 : (words1.drop 24).all (fun c => isCode c || c.before args0 about1) = true := by decide +kernel
theorem w_tables : (allAtoms (Jvm.Cond.code x code maxLocals ret :: tables_1)).before args0 about1 = true := by
  rw [allAtoms_all]
  show words1.all (fun c => c.before args0 about1) = true
  refine all_split ?_ w_codes
  rw [← List.take_append_drop 24 words1, List.all_append, w_t1, w_t2]
  rfl
set_option maxRecDepth 65536 in
theorem w_case : (Jvm.Cond.and given_1 narrow_1).before args0 about1 = true := by decide +kernel
theorem w_applies : (headSpec (Jvm.Cond.code x code maxLocals ret :: tables_1) room_1).applies x e0.platform about1 = true :=
  (Spec.applies_iff w_frames).mpr ⟨w_running, w_runnable, w_alone, w_named, w_hears, w_ripe, w_room, w_tables⟩
theorem atStart : AtStart classFile x code maxLocals ret World_1 tables_1 room_1 Calls_1 rest_1 Pre_1 launch0 p0 e0 about1 theMethod args0 below0 :=
  ⟨lists_1, trivial, launch0.admits_env _ _ _, launch0.least_env, fairChoices_fair.cas, fairChoices_fair.clock, w_frames, w_args, w_heap, w_applies, trivial, trivial, w_case⟩
end start1
theorem witness_1 : WitnessClaimed_1 := ⟨start1.p0, start1.e0, start1.about1, start1.theMethod, start1.args0, start1.below0, start1.atStart⟩
end Jvm.Pilot.@@N@@
