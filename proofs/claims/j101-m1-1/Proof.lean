import JvmDerived
import JvmDerived.Pilot.@@N@@Statement
import JvmDerived.Pilot.@@N@@Code
set_option linter.unusedVariables false
set_option linter.unusedSimpArgs false
namespace Jvm.Pilot.@@N@@
open Jvm Jvm.ClassFile Sem Op Lib Jvm.Free Jvm.Stand Jvm.LawKit Jvm.RoadKit Bundle Jvm.Pilot.@@N@@.Jvm.D
/-- from T the run goes on to an end of which Qf says what it is -/
def Goes (tb : Tables) (e : Env) (below : List Frame) (Qf : Outcome → State → Prop) (T : State) : Prop := ∃ s₂ o, Steps tb e below T s₂ ∧ s₂.status = .running ∧ Ended s₂ below o ∧ Qf o s₂
theorem Goes.to {tb : Tables} {e : Env} {below : List Frame} {Qf : Outcome → State → Prop} {T T' : State} (k : ∀ t, Steps tb e below T' t → Steps tb e below T t) (h : Goes tb e below Qf T') : Goes tb e below Qf T := by
  obtain ⟨s, o, h1, h2⟩ := h; exact ⟨s, o, k s h1, h2⟩
theorem Goes.thru {tb : Tables} {e : Env} {below : List Frame} {Qf : Outcome → State → Prop} {T T' : State} (k : Steps tb e below T T') (h : Goes tb e below Qf T') : Goes tb e below Qf T := by
  obtain ⟨s, o, h1, h2⟩ := h; exact ⟨s, o, k.trans h1, h2⟩
theorem own_old {Z : State} {n0 : Nat} {h : Heap} (O : Old Z n0 h) : n0 ≤ h.size := O.1 ▸ O.2.1
theorem own_ext_keep {h h' : Heap} (K : Keep h h' []) : Ext h h' := ⟨K.1, fun a c q => K.2.1 a c q nin0⟩
theorem own_nsroot {Z : State} {a0 : Array Value} {O K : String} {n : Nat} (w : (Jvm.Cond.noSuperclass O).before a0 Z = true) (wk : (Jvm.Cond.instantiable K n).before a0 Z = true) (hn : O ≠ K) : NS Z O K := by
  obtain ⟨c, k, h1, h2, h3, -, -⟩ := Cond.noSuperclass_spec w
  obtain ⟨t, k2, g1, -⟩ := Cond.instantiable_spec wk
  have ne := ids_ne h1 g1 hn
  refine ⟨c, t, h1, g1, fun fuel => ?_⟩
  cases fuel with
  | zero => rfl
  | succ f => simp [Vm.isSubclassAux, ne, h2, h3]
theorem own_nsno {Z : State} {a0 : Array Value} {C S K : String} {n : Nat} (w : (Jvm.Cond.superclass C S).before a0 Z = true) (wk : (Jvm.Cond.instantiable K n).before a0 Z = true) (ns : NS Z C K) (hn : C ≠ K) : ∃ c t, Z.vm.findClass C = some c ∧ Z.vm.findClass K = some t ∧ Z.vm.assignable c t = false := by
  obtain ⟨c, t, h0, g0, n3⟩ := ns
  obtain ⟨p, k, kp, h1, h2, h3, h4, h5, -, h7⟩ := Cond.superclass_spec h0 w
  obtain ⟨t', k', g1, g2, g5, g7, -⟩ := Cond.instantiable_spec wk
  cases g0.symm.trans g1
  have ne := ids_ne h0 g0 hn
  refine ⟨c, t, h0, g0, ?_⟩
  show Z.vm.assignableAux (255 + 1) c t = false
  simp [Vm.assignableAux, ne, h2, g2, h5, g5, (Bool.or_eq_false_iff.mp g7).1, Vm.isSubclass, n3]
theorem own_selp {s : State} {args : Array Value} {y : MethodName} {n : Nat} (wi : (Jvm.Cond.instantiable y.cls n).before args s = true) (hp : (Jvm.Cond.privateMethod y).before args s = true) (hinst : (Jvm.Cond.instanceMethod y).before args s = true) (hy : y.cls ≠ "java/lang/invoke/MethodHandle" ∧ y.cls ≠ "java/lang/invoke/VarHandle") : (Jvm.Cond.selects y.cls y y).before args s = true := by
  obtain ⟨c, k, h1, h2, -, h4, -⟩ := Cond.instantiable_spec wi
  exact selects_self_of_private h1 h2 (Bool.or_eq_false_iff.mp h4).1 (Cond.privateMethod_at hp) hinst hy
theorem own_keep_ext {h h' : Heap} (E : Ext h h') : Keep h h' [] := (Keep.refl h []).ext E
theorem own_len {s : State} {args : Array Value} {t : Term} {a : Addr} {cl : Cell} {ty : FieldType} {k : Int32} (ht : t.eval args s none [] s = some (.ref a)) (A : Arr s s.heap a cl ty) (h : (Cond.eq (.length t) (.int k)).value args s none s [] = some true) : cl.slots.size < 2 ^ 31 ∧ cl.slots.size.toInt32 = k := by
  obtain ⟨x, y, e1, e2, -, k2⟩ := cmp_v (Or.inl h)
  obtain rfl : Value.int k = y := Option.some.inj e2
  obtain ⟨z, rfl⟩ := k2
  have q : (z = k) := gotT (P := z = k) (by simp [Cond.value, e1, e2]) h
  subst q
  have hA := A.fin (Vm.Alike.refl _)
  by_cases hl : cl.slots.size < 2 ^ 31
  · rw [len_f ht hA hl] at e1
    exact ⟨hl, by simpa using e1⟩
  · simp [Term.eval, ht, hA, hl] at e1
theorem own_stR {s : State} {args : Array Value} {t u : Term} {b : Addr} (h : (Cond.eq t u).value args s none s [] = some true) (hu : u.eval args s none [] s = some (.ref b)) : t.eval args s none [] s = some (.ref b) := by
  obtain ⟨x, y, e1, e2, k1, k2⟩ := cmp_v (Or.inl h)
  obtain rfl : y = Value.ref b := Option.some.inj (e2.symm.trans hu)
  have hx : x.isRef = true := by cases x <;> simp [Kin, Value.isRef] at k1 k2 ⊢
  have q : x = Value.ref b := gotT (eq_R e1 e2 hx rfl) h
  subst q; exact e1
theorem own_fldI {s : State} {args : Array Value} {t : Term} {a : Addr} {C n d : String} {k : Int32} (ht : t.eval args s none [] s = some (.ref a)) (h : (Cond.eq (.field t C n d) (.int k)).value args s none s [] = some true) : Fld s s.heap a C n d (.int k) := by
  obtain ⟨x, y, e1, e2, -, k2⟩ := cmp_v (Or.inl h)
  obtain rfl : Value.int k = y := Option.some.inj e2
  obtain ⟨z, rfl⟩ := k2
  have q : (z = k) := gotT (P := z = k) (by simp [Cond.value, e1, e2]) h
  subst q
  exact Fld.start (by rw [← fld_at ht]; exact e1)
theorem own_fldL {s : State} {args : Array Value} {t : Term} {a : Addr} {C n d : String} {k : Int64} (ht : t.eval args s none [] s = some (.ref a)) (h : (Cond.eq (.field t C n d) (.long k)).value args s none s [] = some true) : Fld s s.heap a C n d (.long k) := by
  obtain ⟨x, y, e1, e2, -, k2⟩ := cmp_v (Or.inl h)
  obtain rfl : Value.long k = y := Option.some.inj e2
  obtain ⟨z, rfl⟩ := k2
  have q : (z = k) := gotT (P := z = k) (by simp [Cond.value, e1, e2]) h
  subst q
  exact Fld.start (by rw [← fld_at ht]; exact e1)
theorem own_fldN {s : State} {args : Array Value} {t : Term} {a : Addr} {C n d : String} (ht : t.eval args s none [] s = some (.ref a)) (h : (Cond.eq (.field t C n d) .null).value args s none s [] = some true) : Fld s s.heap a C n d .null :=
  Fld.start (by rw [← fld_at ht]; exact null_v h)
theorem own_fldR {s : State} {args : Array Value} {t : Term} {a b : Addr} {C n d : String} (ht : t.eval args s none [] s = some (.ref a)) (h : (Term.field t C n d).eval args s none [] s = some (.ref b)) : Fld s s.heap a C n d (.ref b) :=
  Fld.start (by rw [← fld_at ht]; exact h)
theorem own_stI {s : State} {args : Array Value} {t : Term} {k : Int32} (h : (Cond.eq t (.int k)).value args s none s [] = some true) : t.eval args s none [] s = some (.int k) := by
  obtain ⟨x, y, e1, e2, -, k2⟩ := cmp_v (Or.inl h)
  obtain rfl : Value.int k = y := Option.some.inj e2
  obtain ⟨z, rfl⟩ := k2
  have q : (z = k) := gotT (P := z = k) (by simp [Cond.value, e1, e2]) h
  subst q; exact e1
def Nar (Z : State) (w_PointScheme_NATIVE : Addr) (w_PointScheme_KETAMA : Addr) : Prop := (Sta Z Z.heap "com/example/inman/inman/PointScheme" "NATIVE" "Lcom/example/inman/inman/PointScheme;" (.ref w_PointScheme_NATIVE)) ∧ (Exa Z Z.heap w_PointScheme_NATIVE "com/example/inman/inman/PointScheme$1") ∧ (Sta Z Z.heap "com/example/inman/inman/PointScheme" "KETAMA" "Lcom/example/inman/inman/PointScheme;" (.ref w_PointScheme_KETAMA)) ∧ (Exa Z Z.heap w_PointScheme_KETAMA "com/example/inman/inman/PointScheme$2") ∧ (Fld Z Z.heap w_PointScheme_NATIVE "com/example/inman/inman/PointScheme" "circleBits" "I" (.int (64 : Int32))) ∧ (Fld Z Z.heap w_PointScheme_KETAMA "com/example/inman/inman/PointScheme" "circleBits" "I" (.int (32 : Int32)))
theorem d1_0 : decode prog_9_method_9_code 0 = .ok (.ldc2_w 41, 3) := by decide +kernel
theorem d1_3 : decode prog_9_method_9_code 3 = .ok (.bipush 64, 2) := by decide +kernel
theorem d1_5 : decode prog_9_method_9_code 5 = .ok (.aload_n 0, 1) := by decide +kernel
theorem d1_6 : decode prog_9_method_9_code 6 = .ok (.getfield 33, 3) := by decide +kernel
theorem d1_9 : decode prog_9_method_9_code 9 = .ok (.isub, 1) := by decide +kernel
theorem d1_10 : decode prog_9_method_9_code 10 = .ok (.lushr, 1) := by decide +kernel
theorem d1_11 : decode prog_9_method_9_code 11 = .ok (.lreturn, 1) := by decide +kernel
theorem pn_1 : plainName "com/example/inman/inman/PointScheme" = true := by first | (simp [plainName, overriddenIn]; done) | decide +kernel
theorem ef_rmL64 (m : MethodId) (x0 : Addr) : entryFrame m #[(.ref x0)] 1 = mkF m 0 #[.val (.ref x0)] [] := by first | (simp [entryFrame, mkF, argsToLocals, Value.category]; done) | rfl
def Q_rmL64 (Z : State) (xa : Addr) (w_PointScheme_NATIVE : Addr) (w_PointScheme_KETAMA : Addr) (h0 : Heap) (n0 : Nat) (v : Option Value) (h : Heap) (L : List Loc) : Prop := v = some (.long (-1 : Int64)) ∧ Fr n0 L ∧ h = h0
set_option maxRecDepth 65536 in
set_option maxHeartbeats 40000000 in
theorem rmL64 (l : Launch) (Z : State) (a0 : Array Value) (hw : ∀ d ∈ tables_1, d.before a0 Z = true) (ws : List Jvm.Cond) (xa : Addr) (w_PointScheme_NATIVE : Addr) (w_PointScheme_KETAMA : Addr) (h0 : Heap) (n0 : Nat) (O0 : Old Z n0 h0) (NF : Nar Z w_PointScheme_NATIVE w_PointScheme_KETAMA) (F_circleBits_xa : Fld Z h0 xa "com/example/inman/inman/PointScheme" "circleBits" "I" (.int (64 : Int32))) :
    MetFree l (⟨"com/example/inman/inman/PointScheme", "lastPosition", "()J"⟩ : MethodName) (head1 (Jvm.Cond.code (⟨"com/example/inman/inman/PointScheme", "lastPosition", "()J"⟩ : MethodName) prog_9_method_9_code 1 (some .long) :: ws) ({ frames := 0, cells := 0, slots := 0, locals := 0 } : Room)) (fun a U => a = #[(.ref xa)] ∧ Z.Warmed39 U.vm ∧ U.heap = h0) (fun _ _ _ _ _ => True) (fun _ U o U' => ∃ v L, o = .returned v ∧ Q_rmL64 Z xa w_PointScheme_NATIVE w_PointScheme_KETAMA h0 n0 v U'.heap L ∧ FrameEnd U o U' L ({ frames := 0, cells := 0, slots := 0, locals := 0 } : Room).cells ({ frames := 0, cells := 0, slots := 0, locals := 0 } : Room).slots) := by
  refine MetFree.of_bodySF (plainFor_of_name pn_1) hisR ?_
  intro p e s m args below meth c s₁ Bd hml0 hP hK
  obtain ⟨rfl, hZ, hh⟩ := hP
  have hx := Bd.exec
  have hby := Bd.bytes
  have hml : c.maxLocals = 1 := hml0
  have hown : s.vm.findClass "com/example/inman/inman/PointScheme" = some m.cls := findClass_of_methodNamed Bd.named
  have hnm := (name_of_methodNamed Bd.named Bd.method).1
  have X0 : Stand p l e ({ frames := 0, cells := 0, slots := 0, locals := 0 } : Room) s m #[(.ref xa)] below meth c s₁ [] 0 0 := Stand.of_body Bd
  have e0 : s₁.heap = h0 := by rw [← hh, Bd.state]; rfl
  have N0 := Fr.nil n0
  suffices G : ∀ (Qf : Outcome → State → Prop), Qf = (fun (_ : Array Value) (U : State) (o : Outcome) (U' : State) => ∃ v L, o = .returned v ∧ Q_rmL64 Z xa w_PointScheme_NATIVE w_PointScheme_KETAMA h0 n0 v U'.heap L ∧ FrameEnd U o U' L ({ frames := 0, cells := 0, slots := 0, locals := 0 } : Room).cells ({ frames := 0, cells := 0, slots := 0, locals := 0 } : Room).slots) #[] s → Goes p.tables e below Qf (s₁.setTop (mkF m 0 #[.val (.ref xa)] [])) by
    obtain ⟨s₂, o, g1, g2, g3, g4⟩ := G _ rfl
    exact ⟨s₂, o, castTop (ef_rmL64 m _) g1, g2, g3, g4⟩
  intro Qf hQf
  obtain ⟨S_w_PointScheme_NATIVE, E_w_PointScheme_NATIVE, S_w_PointScheme_KETAMA, E_w_PointScheme_KETAMA, F_circleBits_w_PointScheme_NATIVE, F_circleBits_w_PointScheme_KETAMA⟩ := id NF
  refine Goes.to (T' := s₁.setTop (mkF m 3 #[.val (.ref xa)] [(.long (-1 : Int64))])) (X0.ldc2Long hx hown (mvT hZ (hw _ (List.mem_of_getElem? (i := 8) rfl))) (g := (mkF m 0 #[.val (.ref xa)] [])) rfl (hb hby d1_0)) ?_
  refine Goes.to (T' := s₁.setTop (mkF m 5 #[.val (.ref xa)] [(.int (64 : Int32)), (.long (-1 : Int64))])) (fun t k => XS.bipush X0.here hx rfl (hb hby d1_3) k) ?_
  refine Goes.to (T' := s₁.setTop (mkF m 6 #[.val (.ref xa)] [(.ref xa), (.int (64 : Int32)), (.long (-1 : Int64))])) (fun t k => XS.aloadN X0.here hx rfl (hb hby d1_5) rfl rfl k) ?_
  obtain ⟨T1, X1, e1, st1⟩ := getF X0 hx hZ hown (host := "") (Or.inl (hw _ (List.mem_of_getElem? (i := 9) rfl))) Via.refl e0 F_circleBits_xa (g := (mkF m 6 #[.val (.ref xa)] [(.ref xa), (.int (64 : Int32)), (.long (-1 : Int64))])) rfl rfl (hb hby d1_6)
  refine Goes.to (T' := T1.setTop (mkF m 9 #[.val (.ref xa)] [(.int (64 : Int32)), (.int (64 : Int32)), (.long (-1 : Int64))])) st1 ?_
  refine Goes.to (T' := T1.setTop (mkF m 10 #[.val (.ref xa)] [(.int ((64 : Int32) - (64 : Int32))), (.long (-1 : Int64))])) (fun t k => XS.isub X1.here hx rfl (hb hby d1_9) rfl k) ?_
  rw [show ((64 : Int32) - (64 : Int32)) = (0 : Int32) from by decide +kernel]
  refine Goes.to (T' := T1.setTop (mkF m 11 #[.val (.ref xa)] [(.long (((-1 : Int64).toUInt64 >>> ((0 : Int32) &&& 0x3f).toInt64.toUInt64).toInt64))])) (fun t k => XS.lushr X1.here hx rfl (hb hby d1_10) rfl k) ?_
  rw [show (((-1 : Int64).toUInt64 >>> ((0 : Int32) &&& 0x3f).toInt64.toUInt64).toInt64) = (-1 : Int64) from by decide +kernel]
  obtain ⟨fs, hrL, hrun, hended, hW, hsame⟩ := X1.leave (v := some (.long (-1 : Int64))) (fun h => by rw [Bd.returns] at h; cases h)
  subst hQf
  refine ⟨_, _, retOut X1 hx Bd.returns rfl (Or.inr (Or.inl ⟨rfl, rfl, _, rfl⟩)) (hb hby d1_11) hrL, hrun, hended, _, _, rfl, ?_, ⟨_, rfl⟩, hW, hsame.mono (by decide) (by decide)⟩
  show (fun (v : Option Value) (h : Heap) (L : List Loc) => v = some (.long (-1 : Int64)) ∧ Fr n0 L ∧ h = h0) (some (.long (-1 : Int64))) T1.heap _
  rw [e1]
  exact ⟨rfl, N0, rfl⟩
theorem ef_rmL32 (m : MethodId) (x0 : Addr) : entryFrame m #[(.ref x0)] 1 = mkF m 0 #[.val (.ref x0)] [] := by first | (simp [entryFrame, mkF, argsToLocals, Value.category]; done) | rfl
def Q_rmL32 (Z : State) (xa : Addr) (w_PointScheme_NATIVE : Addr) (w_PointScheme_KETAMA : Addr) (h0 : Heap) (n0 : Nat) (v : Option Value) (h : Heap) (L : List Loc) : Prop := v = some (.long (4294967295 : Int64)) ∧ Fr n0 L ∧ h = h0
set_option maxRecDepth 65536 in
set_option maxHeartbeats 40000000 in
theorem rmL32 (l : Launch) (Z : State) (a0 : Array Value) (hw : ∀ d ∈ tables_1, d.before a0 Z = true) (ws : List Jvm.Cond) (xa : Addr) (w_PointScheme_NATIVE : Addr) (w_PointScheme_KETAMA : Addr) (h0 : Heap) (n0 : Nat) (O0 : Old Z n0 h0) (NF : Nar Z w_PointScheme_NATIVE w_PointScheme_KETAMA) (F_circleBits_xa : Fld Z h0 xa "com/example/inman/inman/PointScheme" "circleBits" "I" (.int (32 : Int32))) :
    MetFree l (⟨"com/example/inman/inman/PointScheme", "lastPosition", "()J"⟩ : MethodName) (head1 (Jvm.Cond.code (⟨"com/example/inman/inman/PointScheme", "lastPosition", "()J"⟩ : MethodName) prog_9_method_9_code 1 (some .long) :: ws) ({ frames := 0, cells := 0, slots := 0, locals := 0 } : Room)) (fun a U => a = #[(.ref xa)] ∧ Z.Warmed39 U.vm ∧ U.heap = h0) (fun _ _ _ _ _ => True) (fun _ U o U' => ∃ v L, o = .returned v ∧ Q_rmL32 Z xa w_PointScheme_NATIVE w_PointScheme_KETAMA h0 n0 v U'.heap L ∧ FrameEnd U o U' L ({ frames := 0, cells := 0, slots := 0, locals := 0 } : Room).cells ({ frames := 0, cells := 0, slots := 0, locals := 0 } : Room).slots) := by
  refine MetFree.of_bodySF (plainFor_of_name pn_1) hisR ?_
  intro p e s m args below meth c s₁ Bd hml0 hP hK
  obtain ⟨rfl, hZ, hh⟩ := hP
  have hx := Bd.exec
  have hby := Bd.bytes
  have hml : c.maxLocals = 1 := hml0
  have hown : s.vm.findClass "com/example/inman/inman/PointScheme" = some m.cls := findClass_of_methodNamed Bd.named
  have hnm := (name_of_methodNamed Bd.named Bd.method).1
  have X0 : Stand p l e ({ frames := 0, cells := 0, slots := 0, locals := 0 } : Room) s m #[(.ref xa)] below meth c s₁ [] 0 0 := Stand.of_body Bd
  have e0 : s₁.heap = h0 := by rw [← hh, Bd.state]; rfl
  have N0 := Fr.nil n0
  suffices G : ∀ (Qf : Outcome → State → Prop), Qf = (fun (_ : Array Value) (U : State) (o : Outcome) (U' : State) => ∃ v L, o = .returned v ∧ Q_rmL32 Z xa w_PointScheme_NATIVE w_PointScheme_KETAMA h0 n0 v U'.heap L ∧ FrameEnd U o U' L ({ frames := 0, cells := 0, slots := 0, locals := 0 } : Room).cells ({ frames := 0, cells := 0, slots := 0, locals := 0 } : Room).slots) #[] s → Goes p.tables e below Qf (s₁.setTop (mkF m 0 #[.val (.ref xa)] [])) by
    obtain ⟨s₂, o, g1, g2, g3, g4⟩ := G _ rfl
    exact ⟨s₂, o, castTop (ef_rmL32 m _) g1, g2, g3, g4⟩
  intro Qf hQf
  obtain ⟨S_w_PointScheme_NATIVE, E_w_PointScheme_NATIVE, S_w_PointScheme_KETAMA, E_w_PointScheme_KETAMA, F_circleBits_w_PointScheme_NATIVE, F_circleBits_w_PointScheme_KETAMA⟩ := id NF
  refine Goes.to (T' := s₁.setTop (mkF m 3 #[.val (.ref xa)] [(.long (-1 : Int64))])) (X0.ldc2Long hx hown (mvT hZ (hw _ (List.mem_of_getElem? (i := 8) rfl))) (g := (mkF m 0 #[.val (.ref xa)] [])) rfl (hb hby d1_0)) ?_
  refine Goes.to (T' := s₁.setTop (mkF m 5 #[.val (.ref xa)] [(.int (64 : Int32)), (.long (-1 : Int64))])) (fun t k => XS.bipush X0.here hx rfl (hb hby d1_3) k) ?_
  refine Goes.to (T' := s₁.setTop (mkF m 6 #[.val (.ref xa)] [(.ref xa), (.int (64 : Int32)), (.long (-1 : Int64))])) (fun t k => XS.aloadN X0.here hx rfl (hb hby d1_5) rfl rfl k) ?_
  obtain ⟨T1, X1, e1, st1⟩ := getF X0 hx hZ hown (host := "") (Or.inl (hw _ (List.mem_of_getElem? (i := 9) rfl))) Via.refl e0 F_circleBits_xa (g := (mkF m 6 #[.val (.ref xa)] [(.ref xa), (.int (64 : Int32)), (.long (-1 : Int64))])) rfl rfl (hb hby d1_6)
  refine Goes.to (T' := T1.setTop (mkF m 9 #[.val (.ref xa)] [(.int (32 : Int32)), (.int (64 : Int32)), (.long (-1 : Int64))])) st1 ?_
  refine Goes.to (T' := T1.setTop (mkF m 10 #[.val (.ref xa)] [(.int ((64 : Int32) - (32 : Int32))), (.long (-1 : Int64))])) (fun t k => XS.isub X1.here hx rfl (hb hby d1_9) rfl k) ?_
  rw [show ((64 : Int32) - (32 : Int32)) = (32 : Int32) from by decide +kernel]
  refine Goes.to (T' := T1.setTop (mkF m 11 #[.val (.ref xa)] [(.long (((-1 : Int64).toUInt64 >>> ((32 : Int32) &&& 0x3f).toInt64.toUInt64).toInt64))])) (fun t k => XS.lushr X1.here hx rfl (hb hby d1_10) rfl k) ?_
  rw [show (((-1 : Int64).toUInt64 >>> ((32 : Int32) &&& 0x3f).toInt64.toUInt64).toInt64) = (4294967295 : Int64) from by decide +kernel]
  obtain ⟨fs, hrL, hrun, hended, hW, hsame⟩ := X1.leave (v := some (.long (4294967295 : Int64))) (fun h => by rw [Bd.returns] at h; cases h)
  subst hQf
  refine ⟨_, _, retOut X1 hx Bd.returns rfl (Or.inr (Or.inl ⟨rfl, rfl, _, rfl⟩)) (hb hby d1_11) hrL, hrun, hended, _, _, rfl, ?_, ⟨_, rfl⟩, hW, hsame.mono (by decide) (by decide)⟩
  show (fun (v : Option Value) (h : Heap) (L : List Loc) => v = some (.long (4294967295 : Int64)) ∧ Fr n0 L ∧ h = h0) (some (.long (4294967295 : Int64))) T1.heap _
  rw [e1]
  exact ⟨rfl, N0, rfl⟩
theorem d2_0 : decode prog_9_method_8_code 0 = .ok (.aload_n 0, 1) := by decide +kernel
theorem d2_1 : decode prog_9_method_8_code 1 = .ok (.getfield 33, 3) := by decide +kernel
theorem d2_4 : decode prog_9_method_8_code 4 = .ok (.ireturn, 1) := by decide +kernel
theorem pn_2 : plainName "com/example/inman/inman/PointScheme" = true := by first | (simp [plainName, overriddenIn]; done) | decide +kernel
theorem ef_rmC (m : MethodId) (x0 : Addr) : entryFrame m #[(.ref x0)] 1 = mkF m 0 #[.val (.ref x0)] [] := by first | (simp [entryFrame, mkF, argsToLocals, Value.category]; done) | rfl
def Q_rmC (Z : State) (xa : Addr) (w_PointScheme_NATIVE : Addr) (w_PointScheme_KETAMA : Addr) (r : Int32) (h0 : Heap) (n0 : Nat) (v : Option Value) (h : Heap) (L : List Loc) : Prop := v = some (.int r) ∧ Fr n0 L ∧ h = h0
set_option maxRecDepth 65536 in
set_option maxHeartbeats 40000000 in
theorem rmC (l : Launch) (Z : State) (a0 : Array Value) (hw : ∀ d ∈ tables_1, d.before a0 Z = true) (ws : List Jvm.Cond) (xa : Addr) (w_PointScheme_NATIVE : Addr) (w_PointScheme_KETAMA : Addr) (r : Int32) (h0 : Heap) (n0 : Nat) (O0 : Old Z n0 h0) (NF : Nar Z w_PointScheme_NATIVE w_PointScheme_KETAMA) (F_circleBits_xa : Fld Z h0 xa "com/example/inman/inman/PointScheme" "circleBits" "I" (.int r)) :
    MetFree l (⟨"com/example/inman/inman/PointScheme", "circleBits", "()I"⟩ : MethodName) (head1 (Jvm.Cond.code (⟨"com/example/inman/inman/PointScheme", "circleBits", "()I"⟩ : MethodName) prog_9_method_8_code 1 (some .int) :: ws) ({ frames := 0, cells := 0, slots := 0, locals := 0 } : Room)) (fun a U => a = #[(.ref xa)] ∧ Z.Warmed39 U.vm ∧ U.heap = h0) (fun _ _ _ _ _ => True) (fun _ U o U' => ∃ v L, o = .returned v ∧ Q_rmC Z xa w_PointScheme_NATIVE w_PointScheme_KETAMA r h0 n0 v U'.heap L ∧ FrameEnd U o U' L ({ frames := 0, cells := 0, slots := 0, locals := 0 } : Room).cells ({ frames := 0, cells := 0, slots := 0, locals := 0 } : Room).slots) := by
  refine MetFree.of_bodySF (plainFor_of_name pn_2) hisR ?_
  intro p e s m args below meth c s₁ Bd hml0 hP hK
  obtain ⟨rfl, hZ, hh⟩ := hP
  have hx := Bd.exec
  have hby := Bd.bytes
  have hml : c.maxLocals = 1 := hml0
  have hown : s.vm.findClass "com/example/inman/inman/PointScheme" = some m.cls := findClass_of_methodNamed Bd.named
  have hnm := (name_of_methodNamed Bd.named Bd.method).1
  have X0 : Stand p l e ({ frames := 0, cells := 0, slots := 0, locals := 0 } : Room) s m #[(.ref xa)] below meth c s₁ [] 0 0 := Stand.of_body Bd
  have e0 : s₁.heap = h0 := by rw [← hh, Bd.state]; rfl
  have N0 := Fr.nil n0
  suffices G : ∀ (Qf : Outcome → State → Prop), Qf = (fun (_ : Array Value) (U : State) (o : Outcome) (U' : State) => ∃ v L, o = .returned v ∧ Q_rmC Z xa w_PointScheme_NATIVE w_PointScheme_KETAMA r h0 n0 v U'.heap L ∧ FrameEnd U o U' L ({ frames := 0, cells := 0, slots := 0, locals := 0 } : Room).cells ({ frames := 0, cells := 0, slots := 0, locals := 0 } : Room).slots) #[] s → Goes p.tables e below Qf (s₁.setTop (mkF m 0 #[.val (.ref xa)] [])) by
    obtain ⟨s₂, o, g1, g2, g3, g4⟩ := G _ rfl
    exact ⟨s₂, o, castTop (ef_rmC m _) g1, g2, g3, g4⟩
  intro Qf hQf
  obtain ⟨S_w_PointScheme_NATIVE, E_w_PointScheme_NATIVE, S_w_PointScheme_KETAMA, E_w_PointScheme_KETAMA, F_circleBits_w_PointScheme_NATIVE, F_circleBits_w_PointScheme_KETAMA⟩ := id NF
  refine Goes.to (T' := s₁.setTop (mkF m 1 #[.val (.ref xa)] [(.ref xa)])) (fun t k => XS.aloadN X0.here hx rfl (hb hby d2_0) rfl rfl k) ?_
  obtain ⟨T1, X1, e1, st1⟩ := getF X0 hx hZ hown (host := "") (Or.inl (hw _ (List.mem_of_getElem? (i := 9) rfl))) Via.refl e0 F_circleBits_xa (g := (mkF m 1 #[.val (.ref xa)] [(.ref xa)])) rfl rfl (hb hby d2_1)
  refine Goes.to (T' := T1.setTop (mkF m 4 #[.val (.ref xa)] [(.int r)])) st1 ?_
  obtain ⟨fs, hrL, hrun, hended, hW, hsame⟩ := X1.leave (v := some (.int r)) (fun h => by rw [Bd.returns] at h; cases h)
  subst hQf
  refine ⟨_, _, retOut X1 hx Bd.returns rfl (Or.inl ⟨rfl, Or.inl rfl, _, rfl⟩) (hb hby d2_4) hrL, hrun, hended, _, _, rfl, ?_, ⟨_, rfl⟩, hW, hsame.mono (by decide) (by decide)⟩
  show (fun (v : Option Value) (h : Heap) (L : List Loc) => v = some (.int r) ∧ Fr n0 L ∧ h = h0) (some (.int r)) T1.heap _
  rw [e1]
  exact ⟨rfl, N0, rfl⟩
theorem pd_12 : parseMethodDescriptor "()J" = some ⟨[], some .long⟩ := by decide +kernel
theorem pd_13 : parseMethodDescriptor "()I" = some ⟨[], some .int⟩ := by decide +kernel
theorem pn_0 : plainName "com/example/inman/inman/PointSchemeLastPositionPinLaw" = true := by first | (simp [plainName, overriddenIn]; done) | decide +kernel
theorem ef_rm0 (m : MethodId) (x0 : Int32) : entryFrame m #[(.int x0)] maxLocals = mkF m 0 #[.val (.int x0), .unset, .unset, .unset, .unset, .unset, .unset, .unset, .unset] [] := by first | (simp [entryFrame, mkF, argsToLocals, Value.category, maxLocals]; done) | rfl
def Q_rm0 (Z : State) (p0 : Int32) (w_PointScheme_NATIVE : Addr) (w_PointScheme_KETAMA : Addr) (h0 : Heap) (n0 : Nat) (v : Option Value) (h : Heap) (L : List Loc) : Prop := v = some (.int 1) ∧ Fr n0 L
set_option maxRecDepth 65536 in
set_option maxHeartbeats 40000000 in
theorem rm0 (l : Launch) (Z : State) (a0 : Array Value) (hw : ∀ d ∈ tables_1, d.before a0 Z = true) (ws : List Jvm.Cond) (p0 : Int32) (w_PointScheme_NATIVE : Addr) (w_PointScheme_KETAMA : Addr) (h0 : Heap) (n0 : Nat) (O0 : Old Z n0 h0) (NF : Nar Z w_PointScheme_NATIVE w_PointScheme_KETAMA) :
    MetFree l x (head1 (Jvm.Cond.code x code maxLocals ret :: ws) room_1) (fun a U => a = #[(.int p0)] ∧ Z.Warmed39 U.vm ∧ U.heap = h0) (fun _ _ _ _ _ => True) (fun _ U o U' => ∃ v L, o = .returned v ∧ Q_rm0 Z p0 w_PointScheme_NATIVE w_PointScheme_KETAMA h0 n0 v U'.heap L ∧ FrameEnd U o U' L room_1.cells room_1.slots) := by
  refine MetFree.of_bodySF (plainFor_of_name pn_0) hisR ?_
  intro p e s m args below meth c s₁ Bd hml0 hP hK
  obtain ⟨rfl, hZ, hh⟩ := hP
  have hx := Bd.exec
  have hby := Bd.bytes
  have hml : c.maxLocals = 9 := hml0
  have hown : s.vm.findClass "com/example/inman/inman/PointSchemeLastPositionPinLaw" = some m.cls := findClass_of_methodNamed Bd.named
  have hnm := (name_of_methodNamed Bd.named Bd.method).1
  have X0 : Stand p l e room_1 s m #[(.int p0)] below meth c s₁ [] 0 0 := Stand.of_body Bd
  have e0 : s₁.heap = h0 := by rw [← hh, Bd.state]; rfl
  have N0 := Fr.nil n0
  suffices G : ∀ (Qf : Outcome → State → Prop), Qf = (fun (_ : Array Value) (U : State) (o : Outcome) (U' : State) => ∃ v L, o = .returned v ∧ Q_rm0 Z p0 w_PointScheme_NATIVE w_PointScheme_KETAMA h0 n0 v U'.heap L ∧ FrameEnd U o U' L room_1.cells room_1.slots) #[] s → Goes p.tables e below Qf (s₁.setTop (mkF m 0 #[.val (.int p0), .unset, .unset, .unset, .unset, .unset, .unset, .unset, .unset] [])) by
    obtain ⟨s₂, o, g1, g2, g3, g4⟩ := G _ rfl
    exact ⟨s₂, o, castTop (ef_rm0 m _) g1, g2, g3, g4⟩
  intro Qf hQf
  obtain ⟨S_w_PointScheme_NATIVE, E_w_PointScheme_NATIVE, S_w_PointScheme_KETAMA, E_w_PointScheme_KETAMA, F_circleBits_w_PointScheme_NATIVE, F_circleBits_w_PointScheme_KETAMA⟩ := id NF
  refine Goes.to (T' := s₁.setTop (mkF m 1 #[.val (.int p0), .unset, .unset, .unset, .unset, .unset, .unset, .unset, .unset] [(.int p0)])) (fun t k => XS.iloadN X0.here hx rfl (hb hby at_0) rfl k) ?_
  refine Goes.to (T' := s₁.setTop (mkF m 2 #[.val (.int p0), .unset, .unset, .unset, .unset, .unset, .unset, .unset, .unset] [(.int (1 : Int32)), (.int p0)])) (fun t k => XS.iconst X0.here hx rfl (hb hby at_1) k) ?_
  refine Goes.to (T' := s₁.setTop (mkF m 3 #[.val (.int p0), .unset, .unset, .unset, .unset, .unset, .unset, .unset, .unset] [(.int (p0 &&& (1 : Int32)))])) (fun t k => XS.iand X0.here hx rfl (hb hby at_2) rfl k) ?_
  rcases Decidable.em ((p0 &&& (1 : Int32)) = (0 : Int32)) with hc3_1 | hc3_1
  · skip
    refine Goes.to (T' := s₁.setTop (mkF m 10 #[.val (.int p0), .unset, .unset, .unset, .unset, .unset, .unset, .unset, .unset] [])) (fun t k => XS.ifYes X0.here hx rfl (pc0 := 3) (pc' := 10) rfl (hb hby at_3) rfl ((if0 _ _).trans (teq hc3_1).1) (by decide) (by decide) k) ?_
    refine Goes.to (T' := s₁.setTop (mkF m 11 #[.val (.int p0), .unset, .unset, .unset, .unset, .unset, .unset, .unset, .unset] [(.int (0 : Int32))])) (fun t k => XS.iconst X0.here hx rfl (hb hby at_10) k) ?_
    refine Goes.to (T' := s₁.setTop (mkF m 12 #[.val (.int p0), .val (.int (0 : Int32)), .unset, .unset, .unset, .unset, .unset, .unset, .unset] [])) (fun t k => XS.istoreN X0.here hx rfl (hb hby at_11) rfl (l' := #[.val (.int p0), .val (.int (0 : Int32)), .unset, .unset, .unset, .unset, .unset, .unset, .unset]) rfl k) ?_
    refine Goes.to (T' := s₁.setTop (mkF m 13 #[.val (.int p0), .val (.int (0 : Int32)), .unset, .unset, .unset, .unset, .unset, .unset, .unset] [(.int (0 : Int32))])) (fun t k => XS.iloadN X0.here hx rfl (hb hby at_12) rfl k) ?_
    refine Goes.to (T' := s₁.setTop (mkF m 22 #[.val (.int p0), .val (.int (0 : Int32)), .unset, .unset, .unset, .unset, .unset, .unset, .unset] [])) (fun t k => XS.ifYes X0.here hx rfl (pc0 := 13) (pc' := 22) rfl (hb hby at_13) rfl ((if0 _ _).trans (teq (by decide)).1) (by decide) (by decide) k) ?_
    obtain ⟨T2, X2, e2, st2⟩ := getS2 X0 hx hZ hown (host := "") (Or.inl (hw _ (List.mem_of_getElem? (i := 0) rfl))) Via.refl e0 (S_w_PointScheme_NATIVE.ext O0.2) (g := (mkF m 22 #[.val (.int p0), .val (.int (0 : Int32)), .unset, .unset, .unset, .unset, .unset, .unset, .unset] [])) rfl (hb hby at_22)
    refine Goes.to (T' := T2.setTop (mkF m 25 #[.val (.int p0), .val (.int (0 : Int32)), .unset, .unset, .unset, .unset, .unset, .unset, .unset] [(.ref w_PointScheme_NATIVE)])) st2 ?_
    refine Goes.to (T' := T2.setTop (mkF m 26 #[.val (.int p0), .val (.int (0 : Int32)), .val (.ref w_PointScheme_NATIVE), .unset, .unset, .unset, .unset, .unset, .unset] [])) (fun t k => XS.astoreN X2.here hx rfl (hb hby at_25) rfl rfl (l' := #[.val (.int p0), .val (.int (0 : Int32)), .val (.ref w_PointScheme_NATIVE), .unset, .unset, .unset, .unset, .unset, .unset]) rfl k) ?_
    refine Goes.to (T' := T2.setTop (mkF m 27 #[.val (.int p0), .val (.int (0 : Int32)), .val (.ref w_PointScheme_NATIVE), .unset, .unset, .unset, .unset, .unset, .unset] [(.ref w_PointScheme_NATIVE)])) (fun t k => XS.aloadN X2.here hx rfl (hb hby at_26) rfl rfl k) ?_
    obtain ⟨cq3, kq3, q3a, q3b, q3c⟩ := isOf hZ e2 (E_w_PointScheme_NATIVE.ext O0.2)
    obtain ⟨_, _, ⟨T3, L3, k3, n3⟩, -, X3, ⟨Lc3, hQ3, l3, y3, z3⟩, st3⟩ := X2.virtualBack hx (y := (⟨"com/example/inman/inman/PointScheme", "lastPosition", "()J"⟩ : MethodName)) (z := (⟨"com/example/inman/inman/PointScheme", "lastPosition", "()J"⟩ : MethodName)) hown (mvT hZ (hw _ (List.mem_of_getElem? (i := 3) rfl))) (mvT hZ (hw _ (List.mem_of_getElem? (i := 4) rfl))) (notFace_of_selects (args := #[]) (mvT hZ (hw _ (List.mem_of_getElem? (i := 6) rfl)))) (mvT hZ (hw _ (List.mem_of_getElem? (i := 6) rfl))) (mvT hZ (hw _ (List.mem_of_getElem? (i := 5) rfl))) (by decide) (backOf (W := 0) (rmL64 l Z a0 hw [] w_PointScheme_NATIVE w_PointScheme_NATIVE w_PointScheme_KETAMA  h0 n0 O0 NF (F_circleBits_w_PointScheme_NATIVE.ext O0.2)) hZ (hw _ (List.mem_of_getElem? (i := 7) rfl)) (hw _ (List.mem_of_getElem? (i := 1) rfl)) (by decide) (by decide)) q3a q3c (g := (mkF m 27 #[.val (.int p0), .val (.int (0 : Int32)), .val (.ref w_PointScheme_NATIVE), .unset, .unset, .unset, .unset, .unset, .unset] [(.ref w_PointScheme_NATIVE)])) rfl (by rw [hml]; rfl) (Steps.refl _) (argsL := []) (rest := []) (lenOf pd_12 rfl) rfl (by show 2 * 0 + _ ≤ _; exact Nat.le_of_eq rfl) (hb hby at_27) (fun _ _ => ⟨rfl, e2, (by decide : 0 + 0 ≤ _), (by decide : 0 + 0 ≤ _)⟩)
    dsimp only [Pt.U, Pt.locs, Pt.cells, Pt.slots] at X3 l3 y3 z3 st3 hQ3
    subst l3 y3 z3
    obtain ⟨rfl, Nq3, e3⟩ := hQ3
    have N3 := Fr.app N0 Nq3
    refine Goes.thru (T' := T3.setTop (mkF m 30 #[.val (.int p0), .val (.int (0 : Int32)), .val (.ref w_PointScheme_NATIVE), .unset, .unset, .unset, .unset, .unset, .unset] [(.long (-1 : Int64))])) st3 ?_
    refine Goes.to (T' := T3.setTop (mkF m 31 #[.val (.int p0), .val (.int (0 : Int32)), .val (.ref w_PointScheme_NATIVE), .val (.long (-1 : Int64)), .second, .unset, .unset, .unset, .unset] [])) (fun t k => XS.lstoreN X3.here hx rfl (hb hby at_30) rfl (l' := #[.val (.int p0), .val (.int (0 : Int32)), .val (.ref w_PointScheme_NATIVE), .val (.long (-1 : Int64)), .second, .unset, .unset, .unset, .unset]) rfl k) ?_
    refine Goes.to (T' := T3.setTop (mkF m 32 #[.val (.int p0), .val (.int (0 : Int32)), .val (.ref w_PointScheme_NATIVE), .val (.long (-1 : Int64)), .second, .unset, .unset, .unset, .unset] [(.int (0 : Int32))])) (fun t k => XS.iloadN X3.here hx rfl (hb hby at_31) rfl k) ?_
    refine Goes.to (T' := T3.setTop (mkF m 41 #[.val (.int p0), .val (.int (0 : Int32)), .val (.ref w_PointScheme_NATIVE), .val (.long (-1 : Int64)), .second, .unset, .unset, .unset, .unset] [])) (fun t k => XS.ifYes X3.here hx rfl (pc0 := 32) (pc' := 41) rfl (hb hby at_32) rfl ((if0 _ _).trans (teq (by decide)).1) (by decide) (by decide) k) ?_
    refine Goes.to (T' := T3.setTop (mkF m 44 #[.val (.int p0), .val (.int (0 : Int32)), .val (.ref w_PointScheme_NATIVE), .val (.long (-1 : Int64)), .second, .unset, .unset, .unset, .unset] [(.long (-1 : Int64))])) (X3.ldc2Long hx hown (mvT hZ (hw _ (List.mem_of_getElem? (i := 11) rfl))) (g := (mkF m 41 #[.val (.int p0), .val (.int (0 : Int32)), .val (.ref w_PointScheme_NATIVE), .val (.long (-1 : Int64)), .second, .unset, .unset, .unset, .unset] [])) rfl (hb hby at_41)) ?_
    refine Goes.to (T' := T3.setTop (mkF m 46 #[.val (.int p0), .val (.int (0 : Int32)), .val (.ref w_PointScheme_NATIVE), .val (.long (-1 : Int64)), .second, .val (.long (-1 : Int64)), .second, .unset, .unset] [])) (fun t k => XS.lstore X3.here hx rfl (hb hby at_44) rfl (l' := #[.val (.int p0), .val (.int (0 : Int32)), .val (.ref w_PointScheme_NATIVE), .val (.long (-1 : Int64)), .second, .val (.long (-1 : Int64)), .second, .unset, .unset]) rfl k) ?_
    refine Goes.to (T' := T3.setTop (mkF m 47 #[.val (.int p0), .val (.int (0 : Int32)), .val (.ref w_PointScheme_NATIVE), .val (.long (-1 : Int64)), .second, .val (.long (-1 : Int64)), .second, .unset, .unset] [(.ref w_PointScheme_NATIVE)])) (fun t k => XS.aloadN X3.here hx rfl (hb hby at_46) rfl rfl k) ?_
    obtain ⟨cq4, kq4, q4a, q4b, q4c⟩ := isOf hZ e3 (E_w_PointScheme_NATIVE.ext O0.2)
    obtain ⟨_, _, ⟨T4, L4, k4, n4⟩, -, X4, ⟨Lc4, hQ4, l4, y4, z4⟩, st4⟩ := X3.virtualBack hx (y := (⟨"com/example/inman/inman/PointScheme", "circleBits", "()I"⟩ : MethodName)) (z := (⟨"com/example/inman/inman/PointScheme", "circleBits", "()I"⟩ : MethodName)) hown (mvT hZ (hw _ (List.mem_of_getElem? (i := 12) rfl))) (mvT hZ (hw _ (List.mem_of_getElem? (i := 13) rfl))) (notFace_of_selects (args := #[]) (mvT hZ (hw _ (List.mem_of_getElem? (i := 15) rfl)))) (mvT hZ (hw _ (List.mem_of_getElem? (i := 15) rfl))) (mvT hZ (hw _ (List.mem_of_getElem? (i := 14) rfl))) (by decide) (backOf (W := 0) (rmC l Z a0 hw [] w_PointScheme_NATIVE w_PointScheme_NATIVE w_PointScheme_KETAMA (64 : Int32) h0 n0 O0 NF (F_circleBits_w_PointScheme_NATIVE.ext O0.2)) hZ (hw _ (List.mem_of_getElem? (i := 16) rfl)) (hw _ (List.mem_of_getElem? (i := 1) rfl)) (by decide) (by decide)) q4a q4c (g := (mkF m 47 #[.val (.int p0), .val (.int (0 : Int32)), .val (.ref w_PointScheme_NATIVE), .val (.long (-1 : Int64)), .second, .val (.long (-1 : Int64)), .second, .unset, .unset] [(.ref w_PointScheme_NATIVE)])) rfl (by rw [hml]; rfl) (Steps.refl _) (argsL := []) (rest := []) (lenOf pd_13 rfl) rfl (by show 2 * 0 + _ ≤ _; exact Nat.le_of_eq rfl) (hb hby at_47) (fun _ _ => ⟨rfl, e3, (by decide : 0 + 0 ≤ _), (by decide : 0 + 0 ≤ _)⟩)
    dsimp only [Pt.U, Pt.locs, Pt.cells, Pt.slots] at X4 l4 y4 z4 st4 hQ4
    subst l4 y4 z4
    obtain ⟨rfl, Nq4, e4⟩ := hQ4
    have N4 := Fr.app N3 Nq4
    refine Goes.thru (T' := T4.setTop (mkF m 50 #[.val (.int p0), .val (.int (0 : Int32)), .val (.ref w_PointScheme_NATIVE), .val (.long (-1 : Int64)), .second, .val (.long (-1 : Int64)), .second, .unset, .unset] [(.int (64 : Int32))])) st4 ?_
    refine Goes.to (T' := T4.setTop (mkF m 52 #[.val (.int p0), .val (.int (0 : Int32)), .val (.ref w_PointScheme_NATIVE), .val (.long (-1 : Int64)), .second, .val (.long (-1 : Int64)), .second, .val (.int (64 : Int32)), .unset] [])) (fun t k => XS.istore X4.here hx rfl (hb hby at_50) rfl (l' := #[.val (.int p0), .val (.int (0 : Int32)), .val (.ref w_PointScheme_NATIVE), .val (.long (-1 : Int64)), .second, .val (.long (-1 : Int64)), .second, .val (.int (64 : Int32)), .unset]) rfl k) ?_
    refine Goes.to (T' := T4.setTop (mkF m 54 #[.val (.int p0), .val (.int (0 : Int32)), .val (.ref w_PointScheme_NATIVE), .val (.long (-1 : Int64)), .second, .val (.long (-1 : Int64)), .second, .val (.int (64 : Int32)), .unset] [(.int (64 : Int32))])) (fun t k => XS.iload X4.here hx rfl (hb hby at_52) rfl k) ?_
    refine Goes.to (T' := T4.setTop (mkF m 56 #[.val (.int p0), .val (.int (0 : Int32)), .val (.ref w_PointScheme_NATIVE), .val (.long (-1 : Int64)), .second, .val (.long (-1 : Int64)), .second, .val (.int (64 : Int32)), .unset] [(.int (64 : Int32)), (.int (64 : Int32))])) (fun t k => XS.bipush X4.here hx rfl (hb hby at_54) k) ?_
    refine Goes.to (T' := T4.setTop (mkF m 59 #[.val (.int p0), .val (.int (0 : Int32)), .val (.ref w_PointScheme_NATIVE), .val (.long (-1 : Int64)), .second, .val (.long (-1 : Int64)), .second, .val (.int (64 : Int32)), .unset] [])) (fun t k => XS.icmpNo X4.here hx rfl (hb hby at_56) rfl (teq (by decide)).2 k) ?_
    refine Goes.to (T' := T4.setTop (mkF m 60 #[.val (.int p0), .val (.int (0 : Int32)), .val (.ref w_PointScheme_NATIVE), .val (.long (-1 : Int64)), .second, .val (.long (-1 : Int64)), .second, .val (.int (64 : Int32)), .unset] [(.long (-1 : Int64))])) (fun t k => XS.lloadN X4.here hx rfl (hb hby at_59) rfl k) ?_
    refine Goes.to (T' := T4.setTop (mkF m 63 #[.val (.int p0), .val (.int (0 : Int32)), .val (.ref w_PointScheme_NATIVE), .val (.long (-1 : Int64)), .second, .val (.long (-1 : Int64)), .second, .val (.int (64 : Int32)), .unset] [(.long (-1 : Int64)), (.long (-1 : Int64))])) (X4.ldc2Long hx hown (mvT hZ (hw _ (List.mem_of_getElem? (i := 11) rfl))) (g := (mkF m 60 #[.val (.int p0), .val (.int (0 : Int32)), .val (.ref w_PointScheme_NATIVE), .val (.long (-1 : Int64)), .second, .val (.long (-1 : Int64)), .second, .val (.int (64 : Int32)), .unset] [(.long (-1 : Int64))])) rfl (hb hby at_60)) ?_
    refine Goes.to (T' := T4.setTop (mkF m 64 #[.val (.int p0), .val (.int (0 : Int32)), .val (.ref w_PointScheme_NATIVE), .val (.long (-1 : Int64)), .second, .val (.long (-1 : Int64)), .second, .val (.int (64 : Int32)), .unset] [(.int (lcmpW (-1 : Int64) (-1 : Int64)))])) (fun t k => XS.lcmp X4.here hx rfl (hb hby at_63) rfl k) ?_
    refine Goes.to (T' := T4.setTop (mkF m 67 #[.val (.int p0), .val (.int (0 : Int32)), .val (.ref w_PointScheme_NATIVE), .val (.long (-1 : Int64)), .second, .val (.long (-1 : Int64)), .second, .val (.int (64 : Int32)), .unset] [])) (fun t k => XS.ifNo X4.here hx rfl (hb hby at_64) rfl ((if0 _ _).trans (teq (by decide)).2) k) ?_
    refine Goes.to (T' := T4.setTop (mkF m 68 #[.val (.int p0), .val (.int (0 : Int32)), .val (.ref w_PointScheme_NATIVE), .val (.long (-1 : Int64)), .second, .val (.long (-1 : Int64)), .second, .val (.int (64 : Int32)), .unset] [(.int (1 : Int32))])) (fun t k => XS.iconst X4.here hx rfl (hb hby at_67) k) ?_
    refine Goes.to (T' := T4.setTop (mkF m 91 #[.val (.int p0), .val (.int (0 : Int32)), .val (.ref w_PointScheme_NATIVE), .val (.long (-1 : Int64)), .second, .val (.long (-1 : Int64)), .second, .val (.int (64 : Int32)), .unset] [(.int (1 : Int32))])) (fun t k => XS.goto X4.here hx rfl (pc0 := 68) (pc' := 91) rfl (hb hby at_68) (by decide) (by decide) k) ?_
    refine Goes.to (T' := T4.setTop (mkF m 93 #[.val (.int p0), .val (.int (0 : Int32)), .val (.ref w_PointScheme_NATIVE), .val (.long (-1 : Int64)), .second, .val (.long (-1 : Int64)), .second, .val (.int (64 : Int32)), .val (.int (1 : Int32))] [])) (fun t k => XS.istore X4.here hx rfl (hb hby at_91) rfl (l' := #[.val (.int p0), .val (.int (0 : Int32)), .val (.ref w_PointScheme_NATIVE), .val (.long (-1 : Int64)), .second, .val (.long (-1 : Int64)), .second, .val (.int (64 : Int32)), .val (.int (1 : Int32))]) rfl k) ?_
    refine Goes.to (T' := T4.setTop (mkF m 94 #[.val (.int p0), .val (.int (0 : Int32)), .val (.ref w_PointScheme_NATIVE), .val (.long (-1 : Int64)), .second, .val (.long (-1 : Int64)), .second, .val (.int (64 : Int32)), .val (.int (1 : Int32))] [(.long (-1 : Int64))])) (fun t k => XS.lloadN X4.here hx rfl (hb hby at_93) rfl k) ?_
    refine Goes.to (T' := T4.setTop (mkF m 96 #[.val (.int p0), .val (.int (0 : Int32)), .val (.ref w_PointScheme_NATIVE), .val (.long (-1 : Int64)), .second, .val (.long (-1 : Int64)), .second, .val (.int (64 : Int32)), .val (.int (1 : Int32))] [(.long (-1 : Int64)), (.long (-1 : Int64))])) (fun t k => XS.lload X4.here hx rfl (hb hby at_94) rfl k) ?_
    refine Goes.to (T' := T4.setTop (mkF m 97 #[.val (.int p0), .val (.int (0 : Int32)), .val (.ref w_PointScheme_NATIVE), .val (.long (-1 : Int64)), .second, .val (.long (-1 : Int64)), .second, .val (.int (64 : Int32)), .val (.int (1 : Int32))] [(.int (lcmpW (-1 : Int64) (-1 : Int64)))])) (fun t k => XS.lcmp X4.here hx rfl (hb hby at_96) rfl k) ?_
    refine Goes.to (T' := T4.setTop (mkF m 100 #[.val (.int p0), .val (.int (0 : Int32)), .val (.ref w_PointScheme_NATIVE), .val (.long (-1 : Int64)), .second, .val (.long (-1 : Int64)), .second, .val (.int (64 : Int32)), .val (.int (1 : Int32))] [])) (fun t k => XS.ifNo X4.here hx rfl (hb hby at_97) rfl ((if0 _ _).trans (teq (by decide)).2) k) ?_
    refine Goes.to (T' := T4.setTop (mkF m 102 #[.val (.int p0), .val (.int (0 : Int32)), .val (.ref w_PointScheme_NATIVE), .val (.long (-1 : Int64)), .second, .val (.long (-1 : Int64)), .second, .val (.int (64 : Int32)), .val (.int (1 : Int32))] [(.int (1 : Int32))])) (fun t k => XS.iload X4.here hx rfl (hb hby at_100) rfl k) ?_
    refine Goes.to (T' := T4.setTop (mkF m 105 #[.val (.int p0), .val (.int (0 : Int32)), .val (.ref w_PointScheme_NATIVE), .val (.long (-1 : Int64)), .second, .val (.long (-1 : Int64)), .second, .val (.int (64 : Int32)), .val (.int (1 : Int32))] [])) (fun t k => XS.ifNo X4.here hx rfl (hb hby at_102) rfl ((if0 _ _).trans (feq (by decide)).1) k) ?_
    refine Goes.to (T' := T4.setTop (mkF m 106 #[.val (.int p0), .val (.int (0 : Int32)), .val (.ref w_PointScheme_NATIVE), .val (.long (-1 : Int64)), .second, .val (.long (-1 : Int64)), .second, .val (.int (64 : Int32)), .val (.int (1 : Int32))] [(.int (1 : Int32))])) (fun t k => XS.iconst X4.here hx rfl (hb hby at_105) k) ?_
    refine Goes.to (T' := T4.setTop (mkF m 110 #[.val (.int p0), .val (.int (0 : Int32)), .val (.ref w_PointScheme_NATIVE), .val (.long (-1 : Int64)), .second, .val (.long (-1 : Int64)), .second, .val (.int (64 : Int32)), .val (.int (1 : Int32))] [(.int (1 : Int32))])) (fun t k => XS.goto X4.here hx rfl (pc0 := 106) (pc' := 110) rfl (hb hby at_106) (by decide) (by decide) k) ?_
    obtain ⟨fs, hrL, hrun, hended, hW, hsame⟩ := X4.leave (v := some (.int (1 : Int32))) (fun h => by rw [Bd.returns] at h; cases h)
    subst hQf
    refine ⟨_, _, retN X4 hx (t := .boolean) Bd.returns (by simp) (hb hby at_110) hrL, hrun, hended, _, _, rfl, ?_, ⟨_, rfl⟩, hW, hsame.mono (by decide) (by decide)⟩
    show (fun (v : Option Value) (h : Heap) (L : List Loc) => v = some (.int 1) ∧ Fr n0 L) (some (.int (1 : Int32))) T4.heap _
    rw [e4]
    exact ⟨rfl, N4⟩
  · skip
    refine Goes.to (T' := s₁.setTop (mkF m 6 #[.val (.int p0), .unset, .unset, .unset, .unset, .unset, .unset, .unset, .unset] [])) (fun t k => XS.ifNo X0.here hx rfl (hb hby at_3) rfl ((if0 _ _).trans (feq hc3_1).1) k) ?_
    refine Goes.to (T' := s₁.setTop (mkF m 7 #[.val (.int p0), .unset, .unset, .unset, .unset, .unset, .unset, .unset, .unset] [(.int (1 : Int32))])) (fun t k => XS.iconst X0.here hx rfl (hb hby at_6) k) ?_
    refine Goes.to (T' := s₁.setTop (mkF m 11 #[.val (.int p0), .unset, .unset, .unset, .unset, .unset, .unset, .unset, .unset] [(.int (1 : Int32))])) (fun t k => XS.goto X0.here hx rfl (pc0 := 7) (pc' := 11) rfl (hb hby at_7) (by decide) (by decide) k) ?_
    refine Goes.to (T' := s₁.setTop (mkF m 12 #[.val (.int p0), .val (.int (1 : Int32)), .unset, .unset, .unset, .unset, .unset, .unset, .unset] [])) (fun t k => XS.istoreN X0.here hx rfl (hb hby at_11) rfl (l' := #[.val (.int p0), .val (.int (1 : Int32)), .unset, .unset, .unset, .unset, .unset, .unset, .unset]) rfl k) ?_
    refine Goes.to (T' := s₁.setTop (mkF m 13 #[.val (.int p0), .val (.int (1 : Int32)), .unset, .unset, .unset, .unset, .unset, .unset, .unset] [(.int (1 : Int32))])) (fun t k => XS.iloadN X0.here hx rfl (hb hby at_12) rfl k) ?_
    refine Goes.to (T' := s₁.setTop (mkF m 16 #[.val (.int p0), .val (.int (1 : Int32)), .unset, .unset, .unset, .unset, .unset, .unset, .unset] [])) (fun t k => XS.ifNo X0.here hx rfl (hb hby at_13) rfl ((if0 _ _).trans (feq (by decide)).1) k) ?_
    obtain ⟨T5, X5, e5, st5⟩ := getS2 X0 hx hZ hown (host := "") (Or.inl (hw _ (List.mem_of_getElem? (i := 17) rfl))) Via.refl e0 (S_w_PointScheme_KETAMA.ext O0.2) (g := (mkF m 16 #[.val (.int p0), .val (.int (1 : Int32)), .unset, .unset, .unset, .unset, .unset, .unset, .unset] [])) rfl (hb hby at_16)
    refine Goes.to (T' := T5.setTop (mkF m 19 #[.val (.int p0), .val (.int (1 : Int32)), .unset, .unset, .unset, .unset, .unset, .unset, .unset] [(.ref w_PointScheme_KETAMA)])) st5 ?_
    refine Goes.to (T' := T5.setTop (mkF m 25 #[.val (.int p0), .val (.int (1 : Int32)), .unset, .unset, .unset, .unset, .unset, .unset, .unset] [(.ref w_PointScheme_KETAMA)])) (fun t k => XS.goto X5.here hx rfl (pc0 := 19) (pc' := 25) rfl (hb hby at_19) (by decide) (by decide) k) ?_
    refine Goes.to (T' := T5.setTop (mkF m 26 #[.val (.int p0), .val (.int (1 : Int32)), .val (.ref w_PointScheme_KETAMA), .unset, .unset, .unset, .unset, .unset, .unset] [])) (fun t k => XS.astoreN X5.here hx rfl (hb hby at_25) rfl rfl (l' := #[.val (.int p0), .val (.int (1 : Int32)), .val (.ref w_PointScheme_KETAMA), .unset, .unset, .unset, .unset, .unset, .unset]) rfl k) ?_
    refine Goes.to (T' := T5.setTop (mkF m 27 #[.val (.int p0), .val (.int (1 : Int32)), .val (.ref w_PointScheme_KETAMA), .unset, .unset, .unset, .unset, .unset, .unset] [(.ref w_PointScheme_KETAMA)])) (fun t k => XS.aloadN X5.here hx rfl (hb hby at_26) rfl rfl k) ?_
    obtain ⟨cq6, kq6, q6a, q6b, q6c⟩ := isOf hZ e5 (E_w_PointScheme_KETAMA.ext O0.2)
    obtain ⟨_, _, ⟨T6, L6, k6, n6⟩, -, X6, ⟨Lc6, hQ6, l6, y6, z6⟩, st6⟩ := X5.virtualBack hx (y := (⟨"com/example/inman/inman/PointScheme", "lastPosition", "()J"⟩ : MethodName)) (z := (⟨"com/example/inman/inman/PointScheme", "lastPosition", "()J"⟩ : MethodName)) hown (mvT hZ (hw _ (List.mem_of_getElem? (i := 3) rfl))) (mvT hZ (hw _ (List.mem_of_getElem? (i := 4) rfl))) (notFace_of_selects (args := #[]) (mvT hZ (hw _ (List.mem_of_getElem? (i := 19) rfl)))) (mvT hZ (hw _ (List.mem_of_getElem? (i := 19) rfl))) (mvT hZ (hw _ (List.mem_of_getElem? (i := 5) rfl))) (by decide) (backOf (W := 0) (rmL32 l Z a0 hw [] w_PointScheme_KETAMA w_PointScheme_NATIVE w_PointScheme_KETAMA  h0 n0 O0 NF (F_circleBits_w_PointScheme_KETAMA.ext O0.2)) hZ (hw _ (List.mem_of_getElem? (i := 7) rfl)) (hw _ (List.mem_of_getElem? (i := 1) rfl)) (by decide) (by decide)) q6a q6c (g := (mkF m 27 #[.val (.int p0), .val (.int (1 : Int32)), .val (.ref w_PointScheme_KETAMA), .unset, .unset, .unset, .unset, .unset, .unset] [(.ref w_PointScheme_KETAMA)])) rfl (by rw [hml]; rfl) (Steps.refl _) (argsL := []) (rest := []) (lenOf pd_12 rfl) rfl (by show 2 * 0 + _ ≤ _; exact Nat.le_of_eq rfl) (hb hby at_27) (fun _ _ => ⟨rfl, e5, (by decide : 0 + 0 ≤ _), (by decide : 0 + 0 ≤ _)⟩)
    dsimp only [Pt.U, Pt.locs, Pt.cells, Pt.slots] at X6 l6 y6 z6 st6 hQ6
    subst l6 y6 z6
    obtain ⟨rfl, Nq6, e6⟩ := hQ6
    have N6 := Fr.app N0 Nq6
    refine Goes.thru (T' := T6.setTop (mkF m 30 #[.val (.int p0), .val (.int (1 : Int32)), .val (.ref w_PointScheme_KETAMA), .unset, .unset, .unset, .unset, .unset, .unset] [(.long (4294967295 : Int64))])) st6 ?_
    refine Goes.to (T' := T6.setTop (mkF m 31 #[.val (.int p0), .val (.int (1 : Int32)), .val (.ref w_PointScheme_KETAMA), .val (.long (4294967295 : Int64)), .second, .unset, .unset, .unset, .unset] [])) (fun t k => XS.lstoreN X6.here hx rfl (hb hby at_30) rfl (l' := #[.val (.int p0), .val (.int (1 : Int32)), .val (.ref w_PointScheme_KETAMA), .val (.long (4294967295 : Int64)), .second, .unset, .unset, .unset, .unset]) rfl k) ?_
    refine Goes.to (T' := T6.setTop (mkF m 32 #[.val (.int p0), .val (.int (1 : Int32)), .val (.ref w_PointScheme_KETAMA), .val (.long (4294967295 : Int64)), .second, .unset, .unset, .unset, .unset] [(.int (1 : Int32))])) (fun t k => XS.iloadN X6.here hx rfl (hb hby at_31) rfl k) ?_
    refine Goes.to (T' := T6.setTop (mkF m 35 #[.val (.int p0), .val (.int (1 : Int32)), .val (.ref w_PointScheme_KETAMA), .val (.long (4294967295 : Int64)), .second, .unset, .unset, .unset, .unset] [])) (fun t k => XS.ifNo X6.here hx rfl (hb hby at_32) rfl ((if0 _ _).trans (feq (by decide)).1) k) ?_
    refine Goes.to (T' := T6.setTop (mkF m 38 #[.val (.int p0), .val (.int (1 : Int32)), .val (.ref w_PointScheme_KETAMA), .val (.long (4294967295 : Int64)), .second, .unset, .unset, .unset, .unset] [(.long (4294967295 : Int64))])) (X6.ldc2Long hx hown (mvT hZ (hw _ (List.mem_of_getElem? (i := 21) rfl))) (g := (mkF m 35 #[.val (.int p0), .val (.int (1 : Int32)), .val (.ref w_PointScheme_KETAMA), .val (.long (4294967295 : Int64)), .second, .unset, .unset, .unset, .unset] [])) rfl (hb hby at_35)) ?_
    refine Goes.to (T' := T6.setTop (mkF m 44 #[.val (.int p0), .val (.int (1 : Int32)), .val (.ref w_PointScheme_KETAMA), .val (.long (4294967295 : Int64)), .second, .unset, .unset, .unset, .unset] [(.long (4294967295 : Int64))])) (fun t k => XS.goto X6.here hx rfl (pc0 := 38) (pc' := 44) rfl (hb hby at_38) (by decide) (by decide) k) ?_
    refine Goes.to (T' := T6.setTop (mkF m 46 #[.val (.int p0), .val (.int (1 : Int32)), .val (.ref w_PointScheme_KETAMA), .val (.long (4294967295 : Int64)), .second, .val (.long (4294967295 : Int64)), .second, .unset, .unset] [])) (fun t k => XS.lstore X6.here hx rfl (hb hby at_44) rfl (l' := #[.val (.int p0), .val (.int (1 : Int32)), .val (.ref w_PointScheme_KETAMA), .val (.long (4294967295 : Int64)), .second, .val (.long (4294967295 : Int64)), .second, .unset, .unset]) rfl k) ?_
    refine Goes.to (T' := T6.setTop (mkF m 47 #[.val (.int p0), .val (.int (1 : Int32)), .val (.ref w_PointScheme_KETAMA), .val (.long (4294967295 : Int64)), .second, .val (.long (4294967295 : Int64)), .second, .unset, .unset] [(.ref w_PointScheme_KETAMA)])) (fun t k => XS.aloadN X6.here hx rfl (hb hby at_46) rfl rfl k) ?_
    obtain ⟨cq7, kq7, q7a, q7b, q7c⟩ := isOf hZ e6 (E_w_PointScheme_KETAMA.ext O0.2)
    obtain ⟨_, _, ⟨T7, L7, k7, n7⟩, -, X7, ⟨Lc7, hQ7, l7, y7, z7⟩, st7⟩ := X6.virtualBack hx (y := (⟨"com/example/inman/inman/PointScheme", "circleBits", "()I"⟩ : MethodName)) (z := (⟨"com/example/inman/inman/PointScheme", "circleBits", "()I"⟩ : MethodName)) hown (mvT hZ (hw _ (List.mem_of_getElem? (i := 12) rfl))) (mvT hZ (hw _ (List.mem_of_getElem? (i := 13) rfl))) (notFace_of_selects (args := #[]) (mvT hZ (hw _ (List.mem_of_getElem? (i := 22) rfl)))) (mvT hZ (hw _ (List.mem_of_getElem? (i := 22) rfl))) (mvT hZ (hw _ (List.mem_of_getElem? (i := 14) rfl))) (by decide) (backOf (W := 0) (rmC l Z a0 hw [] w_PointScheme_KETAMA w_PointScheme_NATIVE w_PointScheme_KETAMA (32 : Int32) h0 n0 O0 NF (F_circleBits_w_PointScheme_KETAMA.ext O0.2)) hZ (hw _ (List.mem_of_getElem? (i := 16) rfl)) (hw _ (List.mem_of_getElem? (i := 1) rfl)) (by decide) (by decide)) q7a q7c (g := (mkF m 47 #[.val (.int p0), .val (.int (1 : Int32)), .val (.ref w_PointScheme_KETAMA), .val (.long (4294967295 : Int64)), .second, .val (.long (4294967295 : Int64)), .second, .unset, .unset] [(.ref w_PointScheme_KETAMA)])) rfl (by rw [hml]; rfl) (Steps.refl _) (argsL := []) (rest := []) (lenOf pd_13 rfl) rfl (by show 2 * 0 + _ ≤ _; exact Nat.le_of_eq rfl) (hb hby at_47) (fun _ _ => ⟨rfl, e6, (by decide : 0 + 0 ≤ _), (by decide : 0 + 0 ≤ _)⟩)
    dsimp only [Pt.U, Pt.locs, Pt.cells, Pt.slots] at X7 l7 y7 z7 st7 hQ7
    subst l7 y7 z7
    obtain ⟨rfl, Nq7, e7⟩ := hQ7
    have N7 := Fr.app N6 Nq7
    refine Goes.thru (T' := T7.setTop (mkF m 50 #[.val (.int p0), .val (.int (1 : Int32)), .val (.ref w_PointScheme_KETAMA), .val (.long (4294967295 : Int64)), .second, .val (.long (4294967295 : Int64)), .second, .unset, .unset] [(.int (32 : Int32))])) st7 ?_
    refine Goes.to (T' := T7.setTop (mkF m 52 #[.val (.int p0), .val (.int (1 : Int32)), .val (.ref w_PointScheme_KETAMA), .val (.long (4294967295 : Int64)), .second, .val (.long (4294967295 : Int64)), .second, .val (.int (32 : Int32)), .unset] [])) (fun t k => XS.istore X7.here hx rfl (hb hby at_50) rfl (l' := #[.val (.int p0), .val (.int (1 : Int32)), .val (.ref w_PointScheme_KETAMA), .val (.long (4294967295 : Int64)), .second, .val (.long (4294967295 : Int64)), .second, .val (.int (32 : Int32)), .unset]) rfl k) ?_
    refine Goes.to (T' := T7.setTop (mkF m 54 #[.val (.int p0), .val (.int (1 : Int32)), .val (.ref w_PointScheme_KETAMA), .val (.long (4294967295 : Int64)), .second, .val (.long (4294967295 : Int64)), .second, .val (.int (32 : Int32)), .unset] [(.int (32 : Int32))])) (fun t k => XS.iload X7.here hx rfl (hb hby at_52) rfl k) ?_
    refine Goes.to (T' := T7.setTop (mkF m 56 #[.val (.int p0), .val (.int (1 : Int32)), .val (.ref w_PointScheme_KETAMA), .val (.long (4294967295 : Int64)), .second, .val (.long (4294967295 : Int64)), .second, .val (.int (32 : Int32)), .unset] [(.int (64 : Int32)), (.int (32 : Int32))])) (fun t k => XS.bipush X7.here hx rfl (hb hby at_54) k) ?_
    refine Goes.to (T' := T7.setTop (mkF m 75 #[.val (.int p0), .val (.int (1 : Int32)), .val (.ref w_PointScheme_KETAMA), .val (.long (4294967295 : Int64)), .second, .val (.long (4294967295 : Int64)), .second, .val (.int (32 : Int32)), .unset] [])) (fun t k => XS.icmpYes X7.here hx rfl (pc0 := 56) (pc' := 75) rfl (hb hby at_56) rfl (feq (by decide)).2 (by decide) (by decide) k) ?_
    refine Goes.to (T' := T7.setTop (mkF m 76 #[.val (.int p0), .val (.int (1 : Int32)), .val (.ref w_PointScheme_KETAMA), .val (.long (4294967295 : Int64)), .second, .val (.long (4294967295 : Int64)), .second, .val (.int (32 : Int32)), .unset] [(.long (4294967295 : Int64))])) (fun t k => XS.lloadN X7.here hx rfl (hb hby at_75) rfl k) ?_
    refine Goes.to (T' := T7.setTop (mkF m 77 #[.val (.int p0), .val (.int (1 : Int32)), .val (.ref w_PointScheme_KETAMA), .val (.long (4294967295 : Int64)), .second, .val (.long (4294967295 : Int64)), .second, .val (.int (32 : Int32)), .unset] [(.long (1 : Int64)), (.long (4294967295 : Int64))])) (fun t k => XS.lconst X7.here hx rfl (hb hby at_76) k) ?_
    refine Goes.to (T' := T7.setTop (mkF m 79 #[.val (.int p0), .val (.int (1 : Int32)), .val (.ref w_PointScheme_KETAMA), .val (.long (4294967295 : Int64)), .second, .val (.long (4294967295 : Int64)), .second, .val (.int (32 : Int32)), .unset] [(.int (32 : Int32)), (.long (1 : Int64)), (.long (4294967295 : Int64))])) (fun t k => XS.iload X7.here hx rfl (hb hby at_77) rfl k) ?_
    refine Goes.to (T' := T7.setTop (mkF m 80 #[.val (.int p0), .val (.int (1 : Int32)), .val (.ref w_PointScheme_KETAMA), .val (.long (4294967295 : Int64)), .second, .val (.long (4294967295 : Int64)), .second, .val (.int (32 : Int32)), .unset] [(.long ((1 : Int64) <<< ((32 : Int32) &&& 0x3f).toInt64)), (.long (4294967295 : Int64))])) (fun t k => XS.lshl X7.here hx rfl (hb hby at_79) rfl k) ?_
    rw [show ((1 : Int64) <<< ((32 : Int32) &&& 0x3f).toInt64) = (4294967296 : Int64) from by decide +kernel]
    refine Goes.to (T' := T7.setTop (mkF m 81 #[.val (.int p0), .val (.int (1 : Int32)), .val (.ref w_PointScheme_KETAMA), .val (.long (4294967295 : Int64)), .second, .val (.long (4294967295 : Int64)), .second, .val (.int (32 : Int32)), .unset] [(.long (1 : Int64)), (.long (4294967296 : Int64)), (.long (4294967295 : Int64))])) (fun t k => XS.lconst X7.here hx rfl (hb hby at_80) k) ?_
    refine Goes.to (T' := T7.setTop (mkF m 82 #[.val (.int p0), .val (.int (1 : Int32)), .val (.ref w_PointScheme_KETAMA), .val (.long (4294967295 : Int64)), .second, .val (.long (4294967295 : Int64)), .second, .val (.int (32 : Int32)), .unset] [(.long ((4294967296 : Int64) - (1 : Int64))), (.long (4294967295 : Int64))])) (fun t k => XS.lsub X7.here hx rfl (hb hby at_81) rfl k) ?_
    rw [show ((4294967296 : Int64) - (1 : Int64)) = (4294967295 : Int64) from by decide +kernel]
    refine Goes.to (T' := T7.setTop (mkF m 83 #[.val (.int p0), .val (.int (1 : Int32)), .val (.ref w_PointScheme_KETAMA), .val (.long (4294967295 : Int64)), .second, .val (.long (4294967295 : Int64)), .second, .val (.int (32 : Int32)), .unset] [(.int (lcmpW (4294967295 : Int64) (4294967295 : Int64)))])) (fun t k => XS.lcmp X7.here hx rfl (hb hby at_82) rfl k) ?_
    refine Goes.to (T' := T7.setTop (mkF m 86 #[.val (.int p0), .val (.int (1 : Int32)), .val (.ref w_PointScheme_KETAMA), .val (.long (4294967295 : Int64)), .second, .val (.long (4294967295 : Int64)), .second, .val (.int (32 : Int32)), .unset] [])) (fun t k => XS.ifNo X7.here hx rfl (hb hby at_83) rfl ((if0 _ _).trans (teq (by decide)).2) k) ?_
    refine Goes.to (T' := T7.setTop (mkF m 87 #[.val (.int p0), .val (.int (1 : Int32)), .val (.ref w_PointScheme_KETAMA), .val (.long (4294967295 : Int64)), .second, .val (.long (4294967295 : Int64)), .second, .val (.int (32 : Int32)), .unset] [(.int (1 : Int32))])) (fun t k => XS.iconst X7.here hx rfl (hb hby at_86) k) ?_
    refine Goes.to (T' := T7.setTop (mkF m 91 #[.val (.int p0), .val (.int (1 : Int32)), .val (.ref w_PointScheme_KETAMA), .val (.long (4294967295 : Int64)), .second, .val (.long (4294967295 : Int64)), .second, .val (.int (32 : Int32)), .unset] [(.int (1 : Int32))])) (fun t k => XS.goto X7.here hx rfl (pc0 := 87) (pc' := 91) rfl (hb hby at_87) (by decide) (by decide) k) ?_
    refine Goes.to (T' := T7.setTop (mkF m 93 #[.val (.int p0), .val (.int (1 : Int32)), .val (.ref w_PointScheme_KETAMA), .val (.long (4294967295 : Int64)), .second, .val (.long (4294967295 : Int64)), .second, .val (.int (32 : Int32)), .val (.int (1 : Int32))] [])) (fun t k => XS.istore X7.here hx rfl (hb hby at_91) rfl (l' := #[.val (.int p0), .val (.int (1 : Int32)), .val (.ref w_PointScheme_KETAMA), .val (.long (4294967295 : Int64)), .second, .val (.long (4294967295 : Int64)), .second, .val (.int (32 : Int32)), .val (.int (1 : Int32))]) rfl k) ?_
    refine Goes.to (T' := T7.setTop (mkF m 94 #[.val (.int p0), .val (.int (1 : Int32)), .val (.ref w_PointScheme_KETAMA), .val (.long (4294967295 : Int64)), .second, .val (.long (4294967295 : Int64)), .second, .val (.int (32 : Int32)), .val (.int (1 : Int32))] [(.long (4294967295 : Int64))])) (fun t k => XS.lloadN X7.here hx rfl (hb hby at_93) rfl k) ?_
    refine Goes.to (T' := T7.setTop (mkF m 96 #[.val (.int p0), .val (.int (1 : Int32)), .val (.ref w_PointScheme_KETAMA), .val (.long (4294967295 : Int64)), .second, .val (.long (4294967295 : Int64)), .second, .val (.int (32 : Int32)), .val (.int (1 : Int32))] [(.long (4294967295 : Int64)), (.long (4294967295 : Int64))])) (fun t k => XS.lload X7.here hx rfl (hb hby at_94) rfl k) ?_
    refine Goes.to (T' := T7.setTop (mkF m 97 #[.val (.int p0), .val (.int (1 : Int32)), .val (.ref w_PointScheme_KETAMA), .val (.long (4294967295 : Int64)), .second, .val (.long (4294967295 : Int64)), .second, .val (.int (32 : Int32)), .val (.int (1 : Int32))] [(.int (lcmpW (4294967295 : Int64) (4294967295 : Int64)))])) (fun t k => XS.lcmp X7.here hx rfl (hb hby at_96) rfl k) ?_
    refine Goes.to (T' := T7.setTop (mkF m 100 #[.val (.int p0), .val (.int (1 : Int32)), .val (.ref w_PointScheme_KETAMA), .val (.long (4294967295 : Int64)), .second, .val (.long (4294967295 : Int64)), .second, .val (.int (32 : Int32)), .val (.int (1 : Int32))] [])) (fun t k => XS.ifNo X7.here hx rfl (hb hby at_97) rfl ((if0 _ _).trans (teq (by decide)).2) k) ?_
    refine Goes.to (T' := T7.setTop (mkF m 102 #[.val (.int p0), .val (.int (1 : Int32)), .val (.ref w_PointScheme_KETAMA), .val (.long (4294967295 : Int64)), .second, .val (.long (4294967295 : Int64)), .second, .val (.int (32 : Int32)), .val (.int (1 : Int32))] [(.int (1 : Int32))])) (fun t k => XS.iload X7.here hx rfl (hb hby at_100) rfl k) ?_
    refine Goes.to (T' := T7.setTop (mkF m 105 #[.val (.int p0), .val (.int (1 : Int32)), .val (.ref w_PointScheme_KETAMA), .val (.long (4294967295 : Int64)), .second, .val (.long (4294967295 : Int64)), .second, .val (.int (32 : Int32)), .val (.int (1 : Int32))] [])) (fun t k => XS.ifNo X7.here hx rfl (hb hby at_102) rfl ((if0 _ _).trans (feq (by decide)).1) k) ?_
    refine Goes.to (T' := T7.setTop (mkF m 106 #[.val (.int p0), .val (.int (1 : Int32)), .val (.ref w_PointScheme_KETAMA), .val (.long (4294967295 : Int64)), .second, .val (.long (4294967295 : Int64)), .second, .val (.int (32 : Int32)), .val (.int (1 : Int32))] [(.int (1 : Int32))])) (fun t k => XS.iconst X7.here hx rfl (hb hby at_105) k) ?_
    refine Goes.to (T' := T7.setTop (mkF m 110 #[.val (.int p0), .val (.int (1 : Int32)), .val (.ref w_PointScheme_KETAMA), .val (.long (4294967295 : Int64)), .second, .val (.long (4294967295 : Int64)), .second, .val (.int (32 : Int32)), .val (.int (1 : Int32))] [(.int (1 : Int32))])) (fun t k => XS.goto X7.here hx rfl (pc0 := 106) (pc' := 110) rfl (hb hby at_106) (by decide) (by decide) k) ?_
    obtain ⟨fs, hrL, hrun, hended, hW, hsame⟩ := X7.leave (v := some (.int (1 : Int32))) (fun h => by rw [Bd.returns] at h; cases h)
    subst hQf
    refine ⟨_, _, retN X7 hx (t := .boolean) Bd.returns (by simp) (hb hby at_110) hrL, hrun, hended, _, _, rfl, ?_, ⟨_, rfl⟩, hW, hsame.mono (by decide) (by decide)⟩
    show (fun (v : Option Value) (h : Heap) (L : List Loc) => v = some (.int 1) ∧ Fr n0 L) (some (.int (1 : Int32))) T7.heap _
    rw [e7]
    exact ⟨rfl, N7⟩
set_option maxRecDepth 65536 in
set_option maxHeartbeats 40000000 in
theorem comes_1 {Post : Tables → Env → Array Value → State → Outcome → State → Prop} (hpost : ∀ tb e args s v u, (limb_1_1.after args s (.returned v) u = true ∧ limb_1_2.after args s (.returned v) u = true ∧ True) → FrameEnd s (.returned v) u (Jvm.fieldLocs frame_1_writes args s ++ Jvm.arrayLocs frame_1_arrays args s ++ Jvm.staticLocs frame_1_statics s) 0 0 → Post tb e args s (.returned v) u) :
    ArmFor flags0 classFile x code maxLocals ret World_1 tables_1 room_1 Calls_1 rest_1 Pre_1 Post := by
  intro l hfl _ _ p e ha hc hk s m args below hf hA hF happ hP
  obtain ⟨hcalls, hrest, hpre⟩ := hP
  obtain ⟨-, -, -, hnamed, -, -, -, hat⟩ := (Spec.applies_iff hf).mp happ
  obtain ⟨hg, hn⟩ := and_e (Cond.before_iff.mp (show (Jvm.Cond.and given_1 narrow_1).before args s = true from hpre))
  obtain ⟨gc, gr0⟩ := and_e hg
  obtain ⟨w0, rfl⟩ : ∃ w0 : Value, args = #[w0] := by
    have hs : args.size = 1 := by simpa [Cond.value, given_1] using gc
    obtain ⟨L⟩ := args
    match L, hs with
    | [w0], _ => exact ⟨w0, rfl⟩
  have hw := fun d (hd : d ∈ tables_1) => atoms_spec (ws := Jvm.Cond.code x code maxLocals ret :: tables_1) hat d (List.mem_cons_of_mem _ hd)
  have hfit : Fit s := fun {y c} hc i hi => by
    obtain ⟨ha, rfl⟩ := Array.getElem?_eq_some_iff.mp hc
    have q := List.all_eq_true.mp ((Array.all_eq_true_iff_forall_mem.mp hF) _ (Array.getElem_mem ha)) i (List.mem_range.mpr hi)
    simpa [Array.getElem?_eq_getElem hi] using q
  obtain ⟨i0, ei0⟩ := is_v gr0
  obtain rfl : w0 = (.int i0) := Option.some.inj ei0
  obtain ⟨nl1, nr1⟩ := and_e hn
  obtain ⟨nl2, nr2⟩ := and_e nr1
  obtain ⟨nl3, nr3⟩ := and_e nr2
  obtain ⟨w_PointScheme_NATIVE, ev_w_PointScheme_NATIVE⟩ := exa_v nl1
  have S_w_PointScheme_NATIVE : Sta s s.heap "com/example/inman/inman/PointScheme" "NATIVE" "Lcom/example/inman/inman/PointScheme;" (.ref w_PointScheme_NATIVE) := Sta.start ev_w_PointScheme_NATIVE (Or.inr ⟨(hw _ (List.mem_of_getElem? (i := 1) rfl)), (hw _ (List.mem_of_getElem? (i := 2) rfl))⟩)
  have E_w_PointScheme_NATIVE : Exa s s.heap w_PointScheme_NATIVE "com/example/inman/inman/PointScheme$1" := Exa.start ev_w_PointScheme_NATIVE nl1
  obtain ⟨w_PointScheme_KETAMA, ev_w_PointScheme_KETAMA⟩ := exa_v nl3
  have S_w_PointScheme_KETAMA : Sta s s.heap "com/example/inman/inman/PointScheme" "KETAMA" "Lcom/example/inman/inman/PointScheme;" (.ref w_PointScheme_KETAMA) := Sta.start ev_w_PointScheme_KETAMA (Or.inr ⟨(hw _ (List.mem_of_getElem? (i := 1) rfl)), (hw _ (List.mem_of_getElem? (i := 18) rfl))⟩)
  have E_w_PointScheme_KETAMA : Exa s s.heap w_PointScheme_KETAMA "com/example/inman/inman/PointScheme$2" := Exa.start ev_w_PointScheme_KETAMA nl3
  have F_circleBits_w_PointScheme_NATIVE : Fld s s.heap w_PointScheme_NATIVE "com/example/inman/inman/PointScheme" "circleBits" "I" (.int (64 : Int32)) := own_fldI ev_w_PointScheme_NATIVE nl2
  have F_circleBits_w_PointScheme_KETAMA : Fld s s.heap w_PointScheme_KETAMA "com/example/inman/inman/PointScheme" "circleBits" "I" (.int (32 : Int32)) := own_fldI ev_w_PointScheme_KETAMA nr3
  obtain ⟨n, o, h1, h2, h3, _, L, rfl, ⟨rfl, N⟩, hq⟩ := rm0 l s _ hw tables_1 i0 w_PointScheme_NATIVE w_PointScheme_KETAMA s.heap s.heap.size (Old.start s) ⟨S_w_PointScheme_NATIVE, E_w_PointScheme_NATIVE, S_w_PointScheme_KETAMA, E_w_PointScheme_KETAMA, F_circleBits_w_PointScheme_NATIVE, F_circleBits_w_PointScheme_KETAMA⟩ p e ha hc hk s m _ below hf ((Spec.applies_iff_loose hf).mp happ).1 ⟨rfl, State.Warmed39.refl s, rfl⟩ trivial
  refine ⟨n, _, h1, h2, h3, hpost _ _ _ _ _ _ ⟨Cond.after_iff.mpr rfl, Cond.after_iff.mpr (eq_i res_at (Term.int_eval (1)) rfl), trivial⟩ ⟨hq.1, hq.2.1, (hq.2.2.sift fun y hy => Or.inr (N y hy)).mono (by decide) (by decide)⟩⟩
theorem main_1_1 : Claimed_1_1 := comes_1 fun _ _ _ _ _ _ h hF => ⟨h.1, hF⟩
theorem main_1_2 : Claimed_1_2 := comes_1 fun _ _ _ _ _ _ h hF => ⟨h.2.1, hF⟩
end Jvm.Pilot.@@N@@
namespace Jvm.Pilot.@@N@@
open Jvm Jvm.ClassFile Sem Op Lib Jvm.Free Jvm.Stand Jvm.Pilot.@@N@@.Jvm.D
/-! MADE BY PROGRAM (witnessworld.py) out of the Statement's table words and the real class files: 14 classes; the members and pool entries that the words name. The judged class is class 1, her method 1. -/
namespace start1
open Jvm.ClassFile
def u (s : String) : CpInfo := .utf8 (stringToUtf16 s)
/-- a pool by its gaps: so many unusable entries, then the entry; so many at the end -/
def gap : Nat → List CpInfo → List CpInfo
  | 0, r => r
  | n + 1, r => .unusable :: gap n r
def poolList (es : List (Nat × CpInfo)) (last : Nat) : List CpInfo := es.foldr (fun e r => gap e.1 (e.2 :: r)) (gap last [])
def pool (es : List (Nat × CpInfo)) (last : Nat) : Array CpInfo := ⟨poolList es last⟩
def fileOf (pool : Array CpInfo) (this : Nat) (attrs : Array Attribute := #[]) (ms : Array MethodInfo := #[]) (fl : Nat := 33) (sup : Nat := 0) (ifs : Array Nat := #[]) (fds : Array FieldInfo := #[]) : ClassFile where
  minorVersion := 0
  majorVersion := 65
  constantPool := pool
  accessFlags := fl
  thisClass := this
  superClass := sup
  interfaces := ifs
  fields := fds
  methods := ms
  attributes := attrs
def plain (name : String) (sup : Option ClassId) : Class where
  name := name
  kind := .ordinary
  loader := none
  accessFlags := 33
  super := sup
  interfaces := #[]
  cf := none
  fields := #[]
  methods := #[]
  instanceTypes := #[]
  staticTypes := #[]
  resolved := #[]
  callSites := []
  init := .initialized
  statics := none
  mirror := none

def pool0 : Array CpInfo := pool [(5, u "<init>"), (0, u "()V"), (1, .class_ 10), (1, u "java/lang/Object")] 113

def k0m0 : Method := { name := "<init>", desc := "()V", sig := { parameters := [], returnType := none }, accessFlags := 1, code := none }
/-- java/lang/Object -/
def k0 : Class := { plain "java/lang/Object" none with
  accessFlags := 33
  interfaces := #[]
  cf := some (fileOf pool0 8 #[] #[{ accessFlags := 1, nameIndex := 5, descriptorIndex := 6, attributes := #[] }] 33 0 #[] #[])
  fields := #[]
  methods := #[k0m0]
  instanceTypes := #[]
  staticTypes := #[]
  resolved := Array.replicate 124 none
  statics := none }

def pool1 : Array CpInfo := pool [(2, .class_ 4), (1, u "java/lang/Object"), (0, u "<init>"), (0, u "()V"), (0, .fieldref 8 9), (0, .class_ 10), (0, .nameAndType 11 12), (0, u "com/example/inman/inman/PointScheme"), (0, u "KETAMA"), (0, u "Lcom/example/inman/inman/PointScheme;"), (0, .fieldref 8 14), (0, .nameAndType 15 12), (0, u "NATIVE"), (0, .methodref 8 17), (0, .nameAndType 18 19), (0, u "lastPosition"), (0, u "()J"), (0, .long 4294967295), (1, .long 18446744073709551615), (1, .methodref 8 25), (0, .nameAndType 26 27), (0, u "circleBits"), (0, u "()I"), (0, .class_ 29), (0, u "com/example/inman/inman/PointSchemeLastPositionPinLaw"), (2, u "law"), (0, u "(I)Z")] 3

def k1m0 : Method := { name := "<init>", desc := "()V", sig := { parameters := [], returnType := none }, accessFlags := 1, code := none }
def k1c1 : Code := { maxStack := 6, maxLocals := 9, code := code, exceptionTable := #[], attributes := #[] }
def k1m1 : Method := { name := "law", desc := "(I)Z", sig := { parameters := [.int], returnType := some .boolean }, accessFlags := 9, code := some k1c1 }
/-- com/example/inman/inman/PointSchemeLastPositionPinLaw -/
def k1 : Class := { plain "com/example/inman/inman/PointSchemeLastPositionPinLaw" (some 0) with
  accessFlags := 49
  interfaces := #[]
  cf := some (fileOf pool1 28 #[] #[{ accessFlags := 1, nameIndex := 5, descriptorIndex := 6, attributes := #[] }, { accessFlags := 9, nameIndex := 32, descriptorIndex := 33, attributes := #[] }] 49 2 #[] #[])
  fields := #[]
  methods := #[k1m0, k1m1]
  instanceTypes := #[]
  staticTypes := #[]
  resolved := Array.replicate 37 none
  statics := none }

def pool2 : Array CpInfo := pool [(1, .class_ 2), (0, u "java/lang/constant/Constable"), (0, .class_ 4), (0, u "java/lang/Object")] 6

/-- java/lang/constant/Constable -/
def k2 : Class := { plain "java/lang/constant/Constable" (some 0) with
  accessFlags := 1537
  interfaces := #[]
  cf := some (fileOf pool2 1 #[] #[] 1537 3 #[] #[])
  fields := #[]
  methods := #[]
  instanceTypes := #[]
  staticTypes := #[]
  resolved := Array.replicate 11 none
  statics := none }

def pool3 : Array CpInfo := pool [(1, .class_ 2), (0, u "java/lang/Comparable"), (0, .class_ 4), (0, u "java/lang/Object")] 7

/-- java/lang/Comparable -/
def k3 : Class := { plain "java/lang/Comparable" (some 0) with
  accessFlags := 1537
  interfaces := #[]
  cf := some (fileOf pool3 1 #[] #[] 1537 3 #[] #[])
  fields := #[]
  methods := #[]
  instanceTypes := #[]
  staticTypes := #[]
  resolved := Array.replicate 12 none
  statics := none }

def pool4 : Array CpInfo := pool [(1, .class_ 2), (0, u "java/io/Serializable"), (0, .class_ 4), (0, u "java/lang/Object")] 2

/-- java/io/Serializable -/
def k4 : Class := { plain "java/io/Serializable" (some 0) with
  accessFlags := 1537
  interfaces := #[]
  cf := some (fileOf pool4 1 #[] #[] 1537 3 #[] #[])
  fields := #[]
  methods := #[]
  instanceTypes := #[]
  staticTypes := #[]
  resolved := Array.replicate 7 none
  statics := none }

def pool5 : Array CpInfo := pool [(2, .class_ 4), (1, u "java/lang/Enum"), (0, u "name"), (0, u "Ljava/lang/String;"), (2, u "ordinal"), (0, u "I"), (1, .class_ 14), (1, u "java/lang/Object"), (4, u "hash"), (86, .class_ 108), (1, u "java/lang/Enum$EnumDesc"), (2, .class_ 112), (0, u "java/lang/constant/Constable"), (0, .class_ 114), (0, u "java/lang/Comparable"), (0, .class_ 116), (0, u "java/io/Serializable")] 87

/-- java/lang/Enum -/
def k5 : Class := { plain "java/lang/Enum" (some 0) with
  accessFlags := 1057
  interfaces := #[2, 3, 4]
  cf := some (fileOf pool5 2 #[.nestMembers #[106]] #[] 1057 12 #[111, 113, 115] #[{ accessFlags := 18, nameIndex := 5, descriptorIndex := 6, attributes := #[] }, { accessFlags := 18, nameIndex := 9, descriptorIndex := 10, attributes := #[] }, { accessFlags := 2, nameIndex := 19, descriptorIndex := 10, attributes := #[] }])
  fields := #[{ name := "name", type := (.object "java/lang/String"), accessFlags := 18, slot := 0, constantValue := 0 }, { name := "ordinal", type := .int, accessFlags := 18, slot := 1, constantValue := 0 }, { name := "hash", type := .int, accessFlags := 2, slot := 2, constantValue := 0 }]
  methods := #[]
  instanceTypes := #[(.object "java/lang/String"), .int, .int]
  staticTypes := #[]
  resolved := Array.replicate 204 none
  statics := none }

def pool6 : Array CpInfo := pool [(1, .class_ 2), (0, u "com/example/inman/inman/PointScheme"), (2, u "NATIVE"), (0, u "Lcom/example/inman/inman/PointScheme;"), (2, u "KETAMA"), (2, u "$VALUES"), (0, u "[Lcom/example/inman/inman/PointScheme;"), (6, .class_ 22), (1, u "java/lang/Enum"), (8, u "label"), (0, u "Ljava/lang/String;"), (0, .fieldref 1 34), (0, .nameAndType 35 36), (0, u "circleBits"), (0, u "I"), (2, u "weighted"), (0, u "Z"), (0, .long 18446744073709551615), (5, u "lastPosition"), (0, u "()J"), (19, .class_ 69), (0, u "com/example/inman/inman/PointScheme$1"), (6, .class_ 77), (0, u "com/example/inman/inman/PointScheme$2"), (10, u "POINTS_PER_DIGEST"), (17, u "()I")] 33

def k6c0 : Code := { maxStack := 1, maxLocals := 1, code := prog_9_method_8_code, exceptionTable := #[], attributes := #[] }
def k6m0 : Method := { name := "circleBits", desc := "()I", sig := { parameters := [], returnType := some .int }, accessFlags := 0, code := some k6c0 }
def k6c1 : Code := { maxStack := 4, maxLocals := 1, code := prog_9_method_9_code, exceptionTable := #[], attributes := #[] }
def k6m1 : Method := { name := "lastPosition", desc := "()J", sig := { parameters := [], returnType := some .long }, accessFlags := 0, code := some k6c1 }
/-- com/example/inman/inman/PointScheme -/
def k6 : Class := { plain "com/example/inman/inman/PointScheme" (some 5) with
  accessFlags := 17440
  interfaces := #[]
  cf := some (fileOf pool6 1 #[.nestMembers #[76, 68]] #[{ accessFlags := 0, nameIndex := 35, descriptorIndex := 106, attributes := #[] }, { accessFlags := 0, nameIndex := 47, descriptorIndex := 48, attributes := #[] }] 17440 20 #[] #[{ accessFlags := 16409, nameIndex := 5, descriptorIndex := 6, attributes := #[] }, { accessFlags := 16409, nameIndex := 9, descriptorIndex := 6, attributes := #[] }, { accessFlags := 26, nameIndex := 88, descriptorIndex := 36, attributes := #[] }, { accessFlags := 18, nameIndex := 31, descriptorIndex := 32, attributes := #[] }, { accessFlags := 18, nameIndex := 35, descriptorIndex := 36, attributes := #[] }, { accessFlags := 18, nameIndex := 39, descriptorIndex := 40, attributes := #[] }, { accessFlags := 4122, nameIndex := 12, descriptorIndex := 13, attributes := #[] }])
  fields := #[{ name := "NATIVE", type := (.object "com/example/inman/inman/PointScheme"), accessFlags := 16409, slot := 0, constantValue := 0 }, { name := "KETAMA", type := (.object "com/example/inman/inman/PointScheme"), accessFlags := 16409, slot := 1, constantValue := 0 }, { name := "POINTS_PER_DIGEST", type := .int, accessFlags := 26, slot := 2, constantValue := 0 }, { name := "label", type := (.object "java/lang/String"), accessFlags := 18, slot := 3, constantValue := 0 }, { name := "circleBits", type := .int, accessFlags := 18, slot := 4, constantValue := 0 }, { name := "weighted", type := .boolean, accessFlags := 18, slot := 5, constantValue := 0 }, { name := "$VALUES", type := (.array (.object "com/example/inman/inman/PointScheme")), accessFlags := 4122, slot := 3, constantValue := 0 }]
  methods := #[k6m0, k6m1]
  instanceTypes := #[(.object "java/lang/String"), .int, .int, (.object "java/lang/String"), .int, .boolean]
  staticTypes := #[(.object "com/example/inman/inman/PointScheme"), (.object "com/example/inman/inman/PointScheme"), .int, (.array (.object "com/example/inman/inman/PointScheme"))]
  resolved := Array.replicate 140 none
  statics := some 0 }

def pool7 : Array CpInfo := pool [(2, .class_ 4), (1, u "com/example/inman/inman/PointScheme"), (31, .class_ 37), (0, u "com/example/inman/inman/PointScheme$1")] 45

/-- com/example/inman/inman/PointScheme$1 -/
def k7 : Class := { plain "com/example/inman/inman/PointScheme$1" (some 6) with
  accessFlags := 16432
  interfaces := #[]
  cf := some (fileOf pool7 36 #[.nestHost 2] #[] 16432 2 #[] #[])
  fields := #[]
  methods := #[]
  instanceTypes := #[(.object "java/lang/String"), .int, .int, (.object "java/lang/String"), .int, .boolean]
  staticTypes := #[]
  resolved := Array.replicate 83 none
  statics := none }

def pool8 : Array CpInfo := pool [(1, .class_ 2), (0, u "com/example/inman/inman/PointScheme"), (25, .class_ 30), (1, u "com/example/inman/inman/PointScheme$2")] 74

/-- com/example/inman/inman/PointScheme$2 -/
def k8 : Class := { plain "com/example/inman/inman/PointScheme$2" (some 6) with
  accessFlags := 16432
  interfaces := #[]
  cf := some (fileOf pool8 28 #[.nestHost 1] #[] 16432 1 #[] #[])
  fields := #[]
  methods := #[]
  instanceTypes := #[(.object "java/lang/String"), .int, .int, (.object "java/lang/String"), .int, .boolean]
  staticTypes := #[]
  resolved := Array.replicate 105 none
  statics := none }

def pool9 : Array CpInfo := pool [(1, u "java/lang/Cloneable"), (0, .class_ 1), (0, u "java/lang/Object"), (0, .class_ 3)] 3

/-- java/lang/Cloneable -/
def k9 : Class := { plain "java/lang/Cloneable" (some 0) with
  accessFlags := 1537
  interfaces := #[]
  cf := some (fileOf pool9 2 #[] #[] 1537 4 #[] #[])
  fields := #[]
  methods := #[]
  instanceTypes := #[]
  staticTypes := #[]
  resolved := Array.replicate 8 none
  statics := none }

/-- the primitive byte -/
def k10 : Class := { plain "byte" none with kind := .primitive 'B', accessFlags := 0x411 }
/-- [B -/
def k11 : Class := { plain "[B" (some 0) with kind := .array 10 .byte, interfaces := #[9, 4], accessFlags := 1041 }

/-- the primitive int -/
def k12 : Class := { plain "int" none with kind := .primitive 'I', accessFlags := 0x411 }
/-- [I -/
def k13 : Class := { plain "[I" (some 0) with kind := .array 12 .int, interfaces := #[9, 4], accessFlags := 1041 }

def heap : Heap := #[{ cls := 6, slots := #[.ref 1, .ref 2, .int 0, .null], vm := .statics 6 },
  { cls := 7, slots := #[.null, .int 0, .int 0, .null, .int 64, .int 0], vm := .none },
  { cls := 8, slots := #[.null, .int 0, .int 0, .null, .int 32, .int 0], vm := .none }]
def classes : Array Class := #[k0, k1, k2, k3, k4, k5, k6, k7, k8, k9, k10, k11, k12, k13]
def interned : List (Array UInt16 × Addr) := []
def slotsUsed : Nat := 16
def theMethod : MethodId := ⟨1, 1⟩
def args0 : Array Value := #[.int 5]
def aboutOver (below : List Frame) : State where
  vm := { classes := classes, interned := interned.toArray }
  heap := heap
  slotsUsed := slotsUsed
  threads := #[{ frames := .invoking theMethod args0 :: below }]
def below0 : List Frame := [.native { method := ⟨0, 0⟩, args := #[] }]
def about1 : State := aboutOver below0
def p0 : Program := .bare "" "" ""
def e0 : Env := launch0.env 0 0 0
theorem w_frames : about1.frames = Frame.invoking theMethod args0 :: below0 := rfl
set_option maxRecDepth 65536 in
theorem w_args : argsFit about1.vm theMethod args0 = true := by decide +kernel
set_option maxRecDepth 65536 in
theorem w_heap : heapFits about1 = true := by decide +kernel
set_option maxRecDepth 65536 in
theorem w_runnable : about1.curStatus? = some .runnable := by decide +kernel
set_option maxRecDepth 65536 in
theorem w_alone : about1.alone = true := by decide +kernel
set_option maxRecDepth 65536 in
theorem w_named : about1.methodNamed? x = some theMethod := by decide +kernel
set_option maxRecDepth 65536 in
theorem w_hears : about1.hears theMethod below0 = true := by decide +kernel
set_option maxRecDepth 65536 in
theorem w_ripe : about1.ripe theMethod args0 below0 = true := by decide +kernel
theorem w_running : about1.status = .running := rfl
set_option maxRecDepth 65536 in
theorem w_room : about1.hasRoom e0.platform room_1 = true :=
  launch0.hasRoom_least _ room_1 (by decide +kernel) (by decide +kernel) (by decide +kernel) (by decide +kernel) (by decide +kernel) (by decide +kernel)
theorem allAtoms_all (ts : List Jvm.Cond) (a : Array Jvm.Value) (st : Jvm.State) : (allAtoms ts).before a st = ts.all (fun c => c.before a st) := by
  induction ts with
  | nil => rfl
  | cons c t ih =>
    show (Jvm.Cond.and c (allAtoms t)).before a st = _
    rw [Jvm.Cond.before_and, ih, List.all_cons]
def words1 : List Jvm.Cond := Jvm.Cond.code x code maxLocals ret :: tables_1
/-- a 'code' word, met by the world's own term for the bytes: nothing is compared byte by byte -/
theorem code_word {y : MethodName} {bytes : ByteArray} {mx : Nat} {rt : Option FieldType} {a : Array Value} {s : State} {m : MethodId} {meth : Method} {c : Code} (h1 : s.methodNamed? y = some m) (h2 : s.vm.method? m = some meth) (h3 : meth.code = some c) (h4 : c.code = bytes)
    (h5 : (c.maxLocals == mx && c.exceptionTable.isEmpty && decide (c.maxStack ≤ mostOperands) && decide (meth.sig.returnType = rt) && !meth.locks && decide (parseMethodDescriptor y.desc = some meth.sig)) = true) : (Jvm.Cond.code y bytes mx rt).before a s = true := by
  simp only [Bool.and_eq_true, beq_iff_eq, Bool.not_eq_true', decide_eq_true_eq] at h5
  obtain ⟨⟨⟨⟨⟨g1, g2⟩, g3⟩, g4⟩, g5⟩, g6⟩ := h5
  simp [Cond.before, Cond.holds, Cond.value, h1, h2, h3, h4, g1, g2, g3, g4, g5, g6]
def isCode : Jvm.Cond → Bool
  | .code _ _ _ _ => true
  | _ => false
theorem all_split {L : List Jvm.Cond} {P : Jvm.Cond → Bool} (h1 : L.all (fun c => isCode c || P c) = true) (h2 : ∀ c ∈ L.filter isCode, P c = true) : L.all P = true := by
  refine List.all_eq_true.mpr fun c hc => ?_
  have h := List.all_eq_true.mp h1 c hc
  rcases Bool.eq_false_or_eq_true (isCode c) with hi | hi
  · exact h2 c (List.mem_filter.mpr ⟨hc, hi⟩)
  · simpa [hi] using h
set_option maxRecDepth 65536 in
theorem w_c0 : (Jvm.Cond.code x code maxLocals ret).before args0 about1 = true := code_word (m := ⟨1, 1⟩) (meth := k1m1) (c := k1c1) (by decide +kernel) rfl rfl rfl (by decide +kernel)
set_option maxRecDepth 65536 in
theorem w_c1 : (Jvm.Cond.code ({ cls := "com/example/inman/inman/PointScheme", name := "lastPosition", desc := "()J" } : Jvm.MethodName) prog_9_method_9_code (1 : Nat) (Option.some Jvm.ClassFile.FieldType.long)).before args0 about1 = true := code_word (m := ⟨6, 1⟩) (meth := k6m1) (c := k6c1) (by decide +kernel) rfl rfl rfl (by decide +kernel)
set_option maxRecDepth 65536 in
theorem w_c2 : (Jvm.Cond.code ({ cls := "com/example/inman/inman/PointScheme", name := "circleBits", desc := "()I" } : Jvm.MethodName) prog_9_method_8_code (1 : Nat) (Option.some Jvm.ClassFile.FieldType.int)).before args0 about1 = true := code_word (m := ⟨6, 0⟩) (meth := k6m0) (c := k6c0) (by decide +kernel) rfl rfl rfl (by decide +kernel)
def codes1 : List Jvm.Cond := [Jvm.Cond.code x code maxLocals ret, Jvm.Cond.code ({ cls := "com/example/inman/inman/PointScheme", name := "lastPosition", desc := "()J" } : Jvm.MethodName) prog_9_method_9_code (1 : Nat) (Option.some Jvm.ClassFile.FieldType.long), Jvm.Cond.code ({ cls := "com/example/inman/inman/PointScheme", name := "circleBits", desc := "()I" } : Jvm.MethodName) prog_9_method_8_code (1 : Nat) (Option.some Jvm.ClassFile.FieldType.int)]
set_option maxRecDepth 65536 in
theorem codes_eq : words1.filter isCode = codes1 := rfl
theorem w_codes : ∀ c ∈ words1.filter isCode, c.before args0 about1 = true := by
  rw [codes_eq]
  intro c hc
  simp only [codes1, List.mem_cons, List.not_mem_nil, or_false] at hc
  rcases hc with rfl | rfl | rfl
  · exact w_c0
  · exact w_c1
  · exact w_c2
set_option maxRecDepth 65536 in
theorem w_t1 : words1.all (fun c => isCode c || c.before args0 about1) = true := by decide +kernel
theorem w_tables : (allAtoms (Jvm.Cond.code x code maxLocals ret :: tables_1)).before args0 about1 = true := by
  rw [allAtoms_all]
  show words1.all (fun c => c.before args0 about1) = true
  refine all_split ?_ w_codes
  rw [w_t1]
set_option maxRecDepth 65536 in
theorem w_case : (Jvm.Cond.and given_1 narrow_1).before args0 about1 = true := by decide +kernel
theorem w_applies : (headSpec (Jvm.Cond.code x code maxLocals ret :: tables_1) room_1).applies x e0.platform about1 = true :=
  (Spec.applies_iff w_frames).mpr ⟨w_running, w_runnable, w_alone, w_named, w_hears, w_ripe, w_room, w_tables⟩
theorem atStart : AtStart classFile x code maxLocals ret World_1 tables_1 room_1 Calls_1 rest_1 Pre_1 launch0 p0 e0 about1 theMethod args0 below0 :=
  ⟨lists_1, trivial, launch0.admits_env _ _ _, launch0.least_env, fairChoices_fair.cas, fairChoices_fair.clock, w_frames, w_args, w_heap, w_applies, trivial, trivial, w_case⟩
end start1
theorem witness_1 : WitnessClaimed_1 := ⟨start1.p0, start1.e0, start1.about1, start1.theMethod, start1.args0, start1.below0, start1.atStart⟩
end Jvm.Pilot.@@N@@
