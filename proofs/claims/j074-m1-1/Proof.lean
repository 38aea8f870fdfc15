import JvmDerived
import JvmDerived.Pilot.@@N@@Statement
import JvmDerived.Pilot.@@N@@Code
set_option linter.unusedVariables false
set_option linter.unusedSimpArgs false
namespace Jvm.Pilot.@@N@@
open Jvm Jvm.ClassFile Sem Op Lib Jvm.Free Jvm.Stand Jvm.LawKit Jvm.RoadKit Bundle Jvm.Pilot.@@N@@.Jvm.D
/-- from T the run goes on to an end of which Qf says what it is -/
def Goes (tb : Tables) (e : Env) (below : List Frame) (Qf : Outcome → State → Prop) (T : State) : Prop := ∃ s₂ o, Steps tb e below T s₂ ∧ s₂.status = .running ∧ Ended s₂ below o ∧ Qf o s₂
theorem Goes.to {tb : Tables} {e : Env} {below : List Frame} {Qf : Outcome → State → Prop} {T T' : State} (k : ∀ t, Steps tb e below T' t → Steps tb e below T t) (h : Goes tb e below Qf T') : Goes tb e below Qf T := by
  obtain ⟨s, o, h1, h2⟩ := h; exact ⟨s, o, k s h1, h2⟩
theorem Goes.thru {tb : Tables} {e : Env} {below : List Frame} {Qf : Outcome → State → Prop} {T T' : State} (k : Steps tb e below T T') (h : Goes tb e below Qf T') : Goes tb e below Qf T := by
  obtain ⟨s, o, h1, h2⟩ := h; exact ⟨s, o, k.trans h1, h2⟩
theorem own_old {Z : State} {n0 : Nat} {h : Heap} (O : Old Z n0 h) : n0 ≤ h.size := O.1 ▸ O.2.1
theorem own_ext_keep {h h' : Heap} (K : Keep h h' []) : Ext h h' := ⟨K.1, fun a c q => K.2.1 a c q nin0⟩
theorem own_nsroot {Z : State} {a0 : Array Value} {O K : String} {n : Nat} (w : (Jvm.Cond.noSuperclass O).before a0 Z = true) (wk : (Jvm.Cond.instantiable K n).before a0 Z = true) (hn : O ≠ K) : NS Z O K := by
  obtain ⟨c, k, h1, h2, h3, -, -⟩ := Cond.noSuperclass_spec w
  obtain ⟨t, k2, g1, -⟩ := Cond.instantiable_spec wk
  have ne := ids_ne h1 g1 hn
  refine ⟨c, t, h1, g1, fun fuel => ?_⟩
  cases fuel with
  | zero => rfl
  | succ f => simp [Vm.isSubclassAux, ne, h2, h3]
theorem own_nsno {Z : State} {a0 : Array Value} {C S K : String} {n : Nat} (w : (Jvm.Cond.superclass C S).before a0 Z = true) (wk : (Jvm.Cond.instantiable K n).before a0 Z = true) (ns : NS Z C K) (hn : C ≠ K) : ∃ c t, Z.vm.findClass C = some c ∧ Z.vm.findClass K = some t ∧ Z.vm.assignable c t = false := by
  obtain ⟨c, t, h0, g0, n3⟩ := ns
  obtain ⟨p, k, kp, h1, h2, h3, h4, h5, -, h7⟩ := Cond.superclass_spec h0 w
  obtain ⟨t', k', g1, g2, g5, g7, -⟩ := Cond.instantiable_spec wk
  cases g0.symm.trans g1
  have ne := ids_ne h0 g0 hn
  refine ⟨c, t, h0, g0, ?_⟩
  show Z.vm.assignableAux (255 + 1) c t = false
  simp [Vm.assignableAux, ne, h2, g2, h5, g5, (Bool.or_eq_false_iff.mp g7).1, Vm.isSubclass, n3]
theorem own_selp {s : State} {args : Array Value} {y : MethodName} {n : Nat} (wi : (Jvm.Cond.instantiable y.cls n).before args s = true) (hp : (Jvm.Cond.privateMethod y).before args s = true) (hinst : (Jvm.Cond.instanceMethod y).before args s = true) (hy : y.cls ≠ "java/lang/invoke/MethodHandle" ∧ y.cls ≠ "java/lang/invoke/VarHandle") : (Jvm.Cond.selects y.cls y y).before args s = true := by
  obtain ⟨c, k, h1, h2, -, h4, -⟩ := Cond.instantiable_spec wi
  exact selects_self_of_private h1 h2 (Bool.or_eq_false_iff.mp h4).1 (Cond.privateMethod_at hp) hinst hy
theorem own_keep_ext {h h' : Heap} (E : Ext h h') : Keep h h' [] := (Keep.refl h []).ext E
theorem d1_0 : decode prog_52_method_1_code 0 = .ok (.aload_n 0, 1) := by decide +kernel
theorem d1_1 : decode prog_52_method_1_code 1 = .ok (.invokespecial 1, 3) := by decide +kernel
theorem d1_4 : decode prog_52_method_1_code 4 = .ok (.lload_n 1, 1) := by decide +kernel
theorem d1_5 : decode prog_52_method_1_code 5 = .ok (.lconst 0, 1) := by decide +kernel
theorem d1_6 : decode prog_52_method_1_code 6 = .ok (.lcmp, 1) := by decide +kernel
theorem d1_7 : decode prog_52_method_1_code 7 = .ok (.ifCond .lt 38, 3) := by decide +kernel
theorem d1_10 : decode prog_52_method_1_code 10 = .ok (.dload_n 3, 1) := by decide +kernel
theorem d1_11 : decode prog_52_method_1_code 11 = .ok (.dconst 1, 1) := by decide +kernel
theorem d1_12 : decode prog_52_method_1_code 12 = .ok (.dcmp .l, 1) := by decide +kernel
theorem d1_13 : decode prog_52_method_1_code 13 = .ok (.ifCond .lt 32, 3) := by decide +kernel
theorem d1_16 : decode prog_52_method_1_code 16 = .ok (.lload 5, 2) := by decide +kernel
theorem d1_18 : decode prog_52_method_1_code 18 = .ok (.ldc2_w 9, 3) := by decide +kernel
theorem d1_21 : decode prog_52_method_1_code 21 = .ok (.lcmp, 1) := by decide +kernel
theorem d1_22 : decode prog_52_method_1_code 22 = .ok (.ifCond .lt 23, 3) := by decide +kernel
theorem d1_25 : decode prog_52_method_1_code 25 = .ok (.dload 7, 2) := by decide +kernel
theorem d1_27 : decode prog_52_method_1_code 27 = .ok (.dconst 0, 1) := by decide +kernel
theorem d1_28 : decode prog_52_method_1_code 28 = .ok (.dcmp .l, 1) := by decide +kernel
theorem d1_29 : decode prog_52_method_1_code 29 = .ok (.ifCond .lt 16, 3) := by decide +kernel
theorem d1_32 : decode prog_52_method_1_code 32 = .ok (.dload 7, 2) := by decide +kernel
theorem d1_34 : decode prog_52_method_1_code 34 = .ok (.dconst 1, 1) := by decide +kernel
theorem d1_35 : decode prog_52_method_1_code 35 = .ok (.dcmp .g, 1) := by decide +kernel
theorem d1_36 : decode prog_52_method_1_code 36 = .ok (.ifCond .ge 9, 3) := by decide +kernel
theorem d1_39 : decode prog_52_method_1_code 39 = .ok (.iload 9, 2) := by decide +kernel
theorem d1_41 : decode prog_52_method_1_code 41 = .ok (.iconst (-1), 1) := by decide +kernel
theorem d1_42 : decode prog_52_method_1_code 42 = .ok (.if_icmp .ge 13, 3) := by decide +kernel
theorem d1_55 : decode prog_52_method_1_code 55 = .ok (.aload_n 0, 1) := by decide +kernel
theorem d1_56 : decode prog_52_method_1_code 56 = .ok (.lload_n 1, 1) := by decide +kernel
theorem d1_57 : decode prog_52_method_1_code 57 = .ok (.putfield 18, 3) := by decide +kernel
theorem d1_60 : decode prog_52_method_1_code 60 = .ok (.aload_n 0, 1) := by decide +kernel
theorem d1_61 : decode prog_52_method_1_code 61 = .ok (.dload_n 3, 1) := by decide +kernel
theorem d1_62 : decode prog_52_method_1_code 62 = .ok (.putfield 22, 3) := by decide +kernel
theorem d1_65 : decode prog_52_method_1_code 65 = .ok (.aload_n 0, 1) := by decide +kernel
theorem d1_66 : decode prog_52_method_1_code 66 = .ok (.lload 5, 2) := by decide +kernel
theorem d1_68 : decode prog_52_method_1_code 68 = .ok (.putfield 26, 3) := by decide +kernel
theorem d1_71 : decode prog_52_method_1_code 71 = .ok (.aload_n 0, 1) := by decide +kernel
theorem d1_72 : decode prog_52_method_1_code 72 = .ok (.dload 7, 2) := by decide +kernel
theorem d1_74 : decode prog_52_method_1_code 74 = .ok (.putfield 29, 3) := by decide +kernel
theorem d1_77 : decode prog_52_method_1_code 77 = .ok (.aload_n 0, 1) := by decide +kernel
theorem d1_78 : decode prog_52_method_1_code 78 = .ok (.iload 9, 2) := by decide +kernel
theorem d1_80 : decode prog_52_method_1_code 80 = .ok (.putfield 32, 3) := by decide +kernel
theorem d1_83 : decode prog_52_method_1_code 83 = .ok (.return_, 1) := by decide +kernel
theorem pn_1 : plainName "com/example/ferryline/ferryline/RedeliveryPolicy" = true := by first | (simp [plainName, overriddenIn]; done) | decide +kernel
theorem ef_rmI (m : MethodId) (x0 : Addr) (x1 : Int64) (x2 : UInt64) (x3 : Int64) (x4 : UInt64) (x5 : Int32) : entryFrame m #[(.ref x0), (.long x1), (.double x2), (.long x3), (.double x4), (.int x5)] 10 = mkF m 0 #[.val (.ref x0), .val (.long x1), .second, .val (.double x2), .second, .val (.long x3), .second, .val (.double x4), .second, .val (.int x5)] [] := by first | (simp [entryFrame, mkF, argsToLocals, Value.category]; done) | rfl
def Q_rmI (Z : State) (xa : Addr) (lim : Int32) (h0 : Heap) (n0 : Nat) (v : Option Value) (h : Heap) (L : List Loc) : Prop := v = none ∧ Fr n0 L ∧ Keep h0 h [xa] ∧ Fld Z h xa "com/example/ferryline/ferryline/RedeliveryPolicy" "maxRedeliveries" "I" (.int lim)
set_option maxRecDepth 65536 in
set_option maxHeartbeats 40000000 in
theorem rmI (l : Launch) (Z : State) (a0 : Array Value) (hw : ∀ d ∈ tables_1, d.before a0 Z = true) (ws : List Jvm.Cond) (xa : Addr) (lim : Int32) (h0 : Heap) (n0 : Nat) (O0 : Old Z n0 h0) (E_xa : Exa Z h0 xa "com/example/ferryline/ferryline/RedeliveryPolicy") (F_delayMillis_xa : Fld Z h0 xa "com/example/ferryline/ferryline/RedeliveryPolicy" "delayMillis" "J" (.long (0 : Int64))) (F_multiplier_xa : Fld Z h0 xa "com/example/ferryline/ferryline/RedeliveryPolicy" "multiplier" "D" (.double (0 : UInt64))) (F_maxDelayMillis_xa : Fld Z h0 xa "com/example/ferryline/ferryline/RedeliveryPolicy" "maxDelayMillis" "J" (.long (0 : Int64))) (F_jitter_xa : Fld Z h0 xa "com/example/ferryline/ferryline/RedeliveryPolicy" "jitter" "D" (.double (0 : UInt64))) (F_maxRedeliveries_xa : Fld Z h0 xa "com/example/ferryline/ferryline/RedeliveryPolicy" "maxRedeliveries" "I" (.int (0 : Int32))) (g_xa : n0 ≤ xa) (hlim : ¬ lim < (-1 : Int32)) :
    MetFree l (⟨"com/example/ferryline/ferryline/RedeliveryPolicy", "<init>", "(JDJDI)V"⟩ : MethodName) (head1 (Jvm.Cond.code (⟨"com/example/ferryline/ferryline/RedeliveryPolicy", "<init>", "(JDJDI)V"⟩ : MethodName) prog_52_method_1_code 10 none :: ws) ({ frames := 1, cells := 0, slots := 0, locals := 12 } : Room)) (fun a U => a = #[(.ref xa), (.long (0 : Int64)), (.double FP.dconst1), (.long (-1 : Int64)), (.double FP.dconst0), (.int lim)] ∧ Z.Warmed39 U.vm ∧ U.heap = h0) (fun _ _ _ _ _ => True) (fun _ U o U' => ∃ v L, o = .returned v ∧ Q_rmI Z xa lim h0 n0 v U'.heap L ∧ FrameEnd U o U' L ({ frames := 1, cells := 0, slots := 0, locals := 12 } : Room).cells ({ frames := 1, cells := 0, slots := 0, locals := 12 } : Room).slots) := by
  refine MetFree.of_bodySF (plainFor_of_name pn_1) hisR ?_
  intro p e s m args below meth c s₁ Bd hml0 hP hK
  obtain ⟨rfl, hZ, hh⟩ := hP
  have hx := Bd.exec
  have hby := Bd.bytes
  have hml : c.maxLocals = 10 := hml0
  have hown : s.vm.findClass "com/example/ferryline/ferryline/RedeliveryPolicy" = some m.cls := findClass_of_methodNamed Bd.named
  have hnm := (name_of_methodNamed Bd.named Bd.method).1
  have X0 : Stand p l e ({ frames := 1, cells := 0, slots := 0, locals := 12 } : Room) s m #[(.ref xa), (.long (0 : Int64)), (.double FP.dconst1), (.long (-1 : Int64)), (.double FP.dconst0), (.int lim)] below meth c s₁ [] 0 0 := Stand.of_body Bd
  have e0 : s₁.heap = h0 := by rw [← hh, Bd.state]; rfl
  have N0 := Fr.nil n0
  have K0 := Keep.refl h0 [xa]
  suffices G : ∀ (Qf : Outcome → State → Prop), Qf = (fun (_ : Array Value) (U : State) (o : Outcome) (U' : State) => ∃ v L, o = .returned v ∧ Q_rmI Z xa lim h0 n0 v U'.heap L ∧ FrameEnd U o U' L ({ frames := 1, cells := 0, slots := 0, locals := 12 } : Room).cells ({ frames := 1, cells := 0, slots := 0, locals := 12 } : Room).slots) #[] s → Goes p.tables e below Qf (s₁.setTop (mkF m 0 #[.val (.ref xa), .val (.long (0 : Int64)), .second, .val (.double FP.dconst1), .second, .val (.long (-1 : Int64)), .second, .val (.double FP.dconst0), .second, .val (.int lim)] [])) by
    obtain ⟨s₂, o, g1, g2, g3, g4⟩ := G _ rfl
    exact ⟨s₂, o, castTop (ef_rmI m _ _ _ _ _ _) g1, g2, g3, g4⟩
  intro Qf hQf
  refine Goes.to (T' := s₁.setTop (mkF m 1 #[.val (.ref xa), .val (.long (0 : Int64)), .second, .val (.double FP.dconst1), .second, .val (.long (-1 : Int64)), .second, .val (.double FP.dconst0), .second, .val (.int lim)] [(.ref xa)])) (fun t k => XS.aloadN X0.here hx rfl (hb hby d1_0) rfl rfl k) ?_
  obtain ⟨T1, X1, e1, st1⟩ := initO X0 hx hZ hown (hw _ (List.mem_of_getElem? (i := 7) rfl)) (hw _ (List.mem_of_getElem? (i := 8) rfl)) (hw _ (List.mem_of_getElem? (i := 9) rfl)) e0 (g := (mkF m 1 #[.val (.ref xa), .val (.long (0 : Int64)), .second, .val (.double FP.dconst1), .second, .val (.long (-1 : Int64)), .second, .val (.double FP.dconst0), .second, .val (.int lim)] [(.ref xa)])) rfl (by rw [hml]; rfl) rfl (hb hby d1_1) (by decide) (W := 0) (by show 2 * 0 + _ ≤ _; exact Nat.le_of_eq rfl) (by decide)
  refine Goes.to (T' := T1.setTop (mkF m 4 #[.val (.ref xa), .val (.long (0 : Int64)), .second, .val (.double FP.dconst1), .second, .val (.long (-1 : Int64)), .second, .val (.double FP.dconst0), .second, .val (.int lim)] [])) st1 ?_
  refine Goes.to (T' := T1.setTop (mkF m 5 #[.val (.ref xa), .val (.long (0 : Int64)), .second, .val (.double FP.dconst1), .second, .val (.long (-1 : Int64)), .second, .val (.double FP.dconst0), .second, .val (.int lim)] [(.long (0 : Int64))])) (fun t k => XS.lloadN X1.here hx rfl (hb hby d1_4) rfl k) ?_
  refine Goes.to (T' := T1.setTop (mkF m 6 #[.val (.ref xa), .val (.long (0 : Int64)), .second, .val (.double FP.dconst1), .second, .val (.long (-1 : Int64)), .second, .val (.double FP.dconst0), .second, .val (.int lim)] [(.long (0 : Int64)), (.long (0 : Int64))])) (fun t k => XS.lconst X1.here hx rfl (hb hby d1_5) k) ?_
  refine Goes.to (T' := T1.setTop (mkF m 7 #[.val (.ref xa), .val (.long (0 : Int64)), .second, .val (.double FP.dconst1), .second, .val (.long (-1 : Int64)), .second, .val (.double FP.dconst0), .second, .val (.int lim)] [(.int (lcmpW (0 : Int64) (0 : Int64)))])) (fun t k => XS.lcmp X1.here hx rfl (hb hby d1_6) rfl k) ?_
  refine Goes.to (T' := T1.setTop (mkF m 10 #[.val (.ref xa), .val (.long (0 : Int64)), .second, .val (.double FP.dconst1), .second, .val (.long (-1 : Int64)), .second, .val (.double FP.dconst0), .second, .val (.int lim)] [])) (fun t k => XS.ifNo X1.here hx rfl (hb hby d1_7) rfl ((if0 _ _).trans (flt (by decide)).1) k) ?_
  refine Goes.to (T' := T1.setTop (mkF m 11 #[.val (.ref xa), .val (.long (0 : Int64)), .second, .val (.double FP.dconst1), .second, .val (.long (-1 : Int64)), .second, .val (.double FP.dconst0), .second, .val (.int lim)] [(.double FP.dconst1)])) (fun t k => XS.dloadN X1.here hx rfl (hb hby d1_10) rfl k) ?_
  refine Goes.to (T' := T1.setTop (mkF m 12 #[.val (.ref xa), .val (.long (0 : Int64)), .second, .val (.double FP.dconst1), .second, .val (.long (-1 : Int64)), .second, .val (.double FP.dconst0), .second, .val (.int lim)] [(.double FP.dconst1), (.double FP.dconst1)])) (fun t k => XS.dconst1 X1.here hx rfl (hb hby d1_11) rfl k) ?_
  refine Goes.to (T' := T1.setTop (mkF m 13 #[.val (.ref xa), .val (.long (0 : Int64)), .second, .val (.double FP.dconst1), .second, .val (.long (-1 : Int64)), .second, .val (.double FP.dconst0), .second, .val (.int lim)] [(.int (0 : Int32))])) (fun t k => XS.dcmpS X1.here hx rfl (hb hby d1_12) rfl (v := (0 : Int32)) (by decide +kernel) k) ?_
  refine Goes.to (T' := T1.setTop (mkF m 16 #[.val (.ref xa), .val (.long (0 : Int64)), .second, .val (.double FP.dconst1), .second, .val (.long (-1 : Int64)), .second, .val (.double FP.dconst0), .second, .val (.int lim)] [])) (fun t k => XS.ifNo X1.here hx rfl (hb hby d1_13) rfl ((if0 _ _).trans (flt (by decide)).1) k) ?_
  refine Goes.to (T' := T1.setTop (mkF m 18 #[.val (.ref xa), .val (.long (0 : Int64)), .second, .val (.double FP.dconst1), .second, .val (.long (-1 : Int64)), .second, .val (.double FP.dconst0), .second, .val (.int lim)] [(.long (-1 : Int64))])) (fun t k => XS.lload X1.here hx rfl (hb hby d1_16) rfl k) ?_
  refine Goes.to (T' := T1.setTop (mkF m 21 #[.val (.ref xa), .val (.long (0 : Int64)), .second, .val (.double FP.dconst1), .second, .val (.long (-1 : Int64)), .second, .val (.double FP.dconst0), .second, .val (.int lim)] [(.long (-1 : Int64)), (.long (-1 : Int64))])) (X1.ldc2Long hx hown (mvT hZ (hw _ (List.mem_of_getElem? (i := 10) rfl))) (g := (mkF m 18 #[.val (.ref xa), .val (.long (0 : Int64)), .second, .val (.double FP.dconst1), .second, .val (.long (-1 : Int64)), .second, .val (.double FP.dconst0), .second, .val (.int lim)] [(.long (-1 : Int64))])) rfl (hb hby d1_18)) ?_
  refine Goes.to (T' := T1.setTop (mkF m 22 #[.val (.ref xa), .val (.long (0 : Int64)), .second, .val (.double FP.dconst1), .second, .val (.long (-1 : Int64)), .second, .val (.double FP.dconst0), .second, .val (.int lim)] [(.int (lcmpW (-1 : Int64) (-1 : Int64)))])) (fun t k => XS.lcmp X1.here hx rfl (hb hby d1_21) rfl k) ?_
  refine Goes.to (T' := T1.setTop (mkF m 25 #[.val (.ref xa), .val (.long (0 : Int64)), .second, .val (.double FP.dconst1), .second, .val (.long (-1 : Int64)), .second, .val (.double FP.dconst0), .second, .val (.int lim)] [])) (fun t k => XS.ifNo X1.here hx rfl (hb hby d1_22) rfl ((if0 _ _).trans (flt (by decide)).1) k) ?_
  refine Goes.to (T' := T1.setTop (mkF m 27 #[.val (.ref xa), .val (.long (0 : Int64)), .second, .val (.double FP.dconst1), .second, .val (.long (-1 : Int64)), .second, .val (.double FP.dconst0), .second, .val (.int lim)] [(.double FP.dconst0)])) (fun t k => XS.dload X1.here hx rfl (hb hby d1_25) rfl k) ?_
  refine Goes.to (T' := T1.setTop (mkF m 28 #[.val (.ref xa), .val (.long (0 : Int64)), .second, .val (.double FP.dconst1), .second, .val (.long (-1 : Int64)), .second, .val (.double FP.dconst0), .second, .val (.int lim)] [(.double FP.dconst0), (.double FP.dconst0)])) (fun t k => XS.dconst0 X1.here hx rfl (hb hby d1_27) rfl k) ?_
  refine Goes.to (T' := T1.setTop (mkF m 29 #[.val (.ref xa), .val (.long (0 : Int64)), .second, .val (.double FP.dconst1), .second, .val (.long (-1 : Int64)), .second, .val (.double FP.dconst0), .second, .val (.int lim)] [(.int (0 : Int32))])) (fun t k => XS.dcmpS X1.here hx rfl (hb hby d1_28) rfl (v := (0 : Int32)) (by decide +kernel) k) ?_
  refine Goes.to (T' := T1.setTop (mkF m 32 #[.val (.ref xa), .val (.long (0 : Int64)), .second, .val (.double FP.dconst1), .second, .val (.long (-1 : Int64)), .second, .val (.double FP.dconst0), .second, .val (.int lim)] [])) (fun t k => XS.ifNo X1.here hx rfl (hb hby d1_29) rfl ((if0 _ _).trans (flt (by decide)).1) k) ?_
  refine Goes.to (T' := T1.setTop (mkF m 34 #[.val (.ref xa), .val (.long (0 : Int64)), .second, .val (.double FP.dconst1), .second, .val (.long (-1 : Int64)), .second, .val (.double FP.dconst0), .second, .val (.int lim)] [(.double FP.dconst0)])) (fun t k => XS.dload X1.here hx rfl (hb hby d1_32) rfl k) ?_
  refine Goes.to (T' := T1.setTop (mkF m 35 #[.val (.ref xa), .val (.long (0 : Int64)), .second, .val (.double FP.dconst1), .second, .val (.long (-1 : Int64)), .second, .val (.double FP.dconst0), .second, .val (.int lim)] [(.double FP.dconst1), (.double FP.dconst0)])) (fun t k => XS.dconst1 X1.here hx rfl (hb hby d1_34) rfl k) ?_
  refine Goes.to (T' := T1.setTop (mkF m 36 #[.val (.ref xa), .val (.long (0 : Int64)), .second, .val (.double FP.dconst1), .second, .val (.long (-1 : Int64)), .second, .val (.double FP.dconst0), .second, .val (.int lim)] [(.int (-1 : Int32))])) (fun t k => XS.dcmpS X1.here hx rfl (hb hby d1_35) rfl (v := (-1 : Int32)) (by decide +kernel) k) ?_
  refine Goes.to (T' := T1.setTop (mkF m 39 #[.val (.ref xa), .val (.long (0 : Int64)), .second, .val (.double FP.dconst1), .second, .val (.long (-1 : Int64)), .second, .val (.double FP.dconst0), .second, .val (.int lim)] [])) (fun t k => XS.ifNo X1.here hx rfl (hb hby d1_36) rfl ((if0 _ _).trans (tlt (by decide)).2.1) k) ?_
  refine Goes.to (T' := T1.setTop (mkF m 41 #[.val (.ref xa), .val (.long (0 : Int64)), .second, .val (.double FP.dconst1), .second, .val (.long (-1 : Int64)), .second, .val (.double FP.dconst0), .second, .val (.int lim)] [(.int lim)])) (fun t k => XS.iload X1.here hx rfl (hb hby d1_39) rfl k) ?_
  refine Goes.to (T' := T1.setTop (mkF m 42 #[.val (.ref xa), .val (.long (0 : Int64)), .second, .val (.double FP.dconst1), .second, .val (.long (-1 : Int64)), .second, .val (.double FP.dconst0), .second, .val (.int lim)] [(.int (-1 : Int32)), (.int lim)])) (fun t k => XS.iconst X1.here hx rfl (hb hby d1_41) k) ?_
  refine Goes.to (T' := T1.setTop (mkF m 55 #[.val (.ref xa), .val (.long (0 : Int64)), .second, .val (.double FP.dconst1), .second, .val (.long (-1 : Int64)), .second, .val (.double FP.dconst0), .second, .val (.int lim)] [])) (fun t k => XS.icmpYes X1.here hx rfl (pc0 := 42) (pc' := 55) rfl (hb hby d1_42) rfl (flt hlim).2.1 (by decide) (by decide) k) ?_
  refine Goes.to (T' := T1.setTop (mkF m 56 #[.val (.ref xa), .val (.long (0 : Int64)), .second, .val (.double FP.dconst1), .second, .val (.long (-1 : Int64)), .second, .val (.double FP.dconst0), .second, .val (.int lim)] [(.ref xa)])) (fun t k => XS.aloadN X1.here hx rfl (hb hby d1_55) rfl rfl k) ?_
  refine Goes.to (T' := T1.setTop (mkF m 57 #[.val (.ref xa), .val (.long (0 : Int64)), .second, .val (.double FP.dconst1), .second, .val (.long (-1 : Int64)), .second, .val (.double FP.dconst0), .second, .val (.int lim)] [(.long (0 : Int64)), (.ref xa)])) (fun t k => XS.lloadN X1.here hx rfl (hb hby d1_56) rfl k) ?_
  obtain ⟨T2, h2, X2, e2, W2, st2⟩ := putF X1 hx hZ hown (host := "") (Or.inl (hw _ (List.mem_of_getElem? (i := 11) rfl))) Via.refl e1 F_delayMillis_xa E_xa (Or.inr ⟨(hw _ (List.mem_of_getElem? (i := 12) rfl)), rfl, hnm⟩) (hw _ (List.mem_of_getElem? (i := 1) rfl)) (ty := .long) (by decide) rfl rfl (g := (mkF m 57 #[.val (.ref xa), .val (.long (0 : Int64)), .second, .val (.double FP.dconst1), .second, .val (.long (-1 : Int64)), .second, .val (.double FP.dconst0), .second, .val (.int lim)] [(.long (0 : Int64)), (.ref xa)])) rfl rfl (hb hby d1_57)
  have F_delayMillis_xa := F_delayMillis_xa.same W2
  have E_xa := E_xa.wr W2
  have F_multiplier_xa := F_multiplier_xa.other W2 (Or.inr (slot_ne (Or.inr (hw _ (List.mem_of_getElem? (i := 14) rfl))) (Or.inr (hw _ (List.mem_of_getElem? (i := 12) rfl))) (by decide) (t := .double) (t' := .long) (by decide) (by decide)))
  have F_maxDelayMillis_xa := F_maxDelayMillis_xa.other W2 (Or.inr (slot_ne (Or.inr (hw _ (List.mem_of_getElem? (i := 16) rfl))) (Or.inr (hw _ (List.mem_of_getElem? (i := 12) rfl))) (by decide) (t := .long) (t' := .long) (by decide) (by decide)))
  have F_jitter_xa := F_jitter_xa.other W2 (Or.inr (slot_ne (Or.inr (hw _ (List.mem_of_getElem? (i := 18) rfl))) (Or.inr (hw _ (List.mem_of_getElem? (i := 12) rfl))) (by decide) (t := .double) (t' := .long) (by decide) (by decide)))
  have F_maxRedeliveries_xa := F_maxRedeliveries_xa.other W2 (Or.inr (slot_ne (Or.inr (hw _ (List.mem_of_getElem? (i := 20) rfl))) (Or.inr (hw _ (List.mem_of_getElem? (i := 12) rfl))) (by decide) (t := .int) (t' := .long) (by decide) (by decide)))
  have O0 := O0.wr W2 g_xa
  have K0 := K0.wr W2 (Or.inl (List.mem_of_getElem? (i := 0) rfl))
  have N2 := Fr.snoc X2 N0 g_xa
  refine Goes.to (T' := T2.setTop (mkF m 60 #[.val (.ref xa), .val (.long (0 : Int64)), .second, .val (.double FP.dconst1), .second, .val (.long (-1 : Int64)), .second, .val (.double FP.dconst0), .second, .val (.int lim)] [])) st2 ?_
  refine Goes.to (T' := T2.setTop (mkF m 61 #[.val (.ref xa), .val (.long (0 : Int64)), .second, .val (.double FP.dconst1), .second, .val (.long (-1 : Int64)), .second, .val (.double FP.dconst0), .second, .val (.int lim)] [(.ref xa)])) (fun t k => XS.aloadN X2.here hx rfl (hb hby d1_60) rfl rfl k) ?_
  refine Goes.to (T' := T2.setTop (mkF m 62 #[.val (.ref xa), .val (.long (0 : Int64)), .second, .val (.double FP.dconst1), .second, .val (.long (-1 : Int64)), .second, .val (.double FP.dconst0), .second, .val (.int lim)] [(.double FP.dconst1), (.ref xa)])) (fun t k => XS.dloadN X2.here hx rfl (hb hby d1_61) rfl k) ?_
  obtain ⟨T3, h3, X3, e3, W3, st3⟩ := putF X2 hx hZ hown (host := "") (Or.inl (hw _ (List.mem_of_getElem? (i := 13) rfl))) Via.refl e2 F_multiplier_xa E_xa (Or.inr ⟨(hw _ (List.mem_of_getElem? (i := 14) rfl)), rfl, hnm⟩) (hw _ (List.mem_of_getElem? (i := 1) rfl)) (ty := .double) (by decide) rfl rfl (g := (mkF m 62 #[.val (.ref xa), .val (.long (0 : Int64)), .second, .val (.double FP.dconst1), .second, .val (.long (-1 : Int64)), .second, .val (.double FP.dconst0), .second, .val (.int lim)] [(.double FP.dconst1), (.ref xa)])) rfl rfl (hb hby d1_62)
  have F_multiplier_xa := F_multiplier_xa.same W3
  have E_xa := E_xa.wr W3
  have F_delayMillis_xa := F_delayMillis_xa.other W3 (Or.inr (slot_ne (Or.inr (hw _ (List.mem_of_getElem? (i := 12) rfl))) (Or.inr (hw _ (List.mem_of_getElem? (i := 14) rfl))) (by decide) (t := .long) (t' := .double) (by decide) (by decide)))
  have F_maxDelayMillis_xa := F_maxDelayMillis_xa.other W3 (Or.inr (slot_ne (Or.inr (hw _ (List.mem_of_getElem? (i := 16) rfl))) (Or.inr (hw _ (List.mem_of_getElem? (i := 14) rfl))) (by decide) (t := .long) (t' := .double) (by decide) (by decide)))
  have F_jitter_xa := F_jitter_xa.other W3 (Or.inr (slot_ne (Or.inr (hw _ (List.mem_of_getElem? (i := 18) rfl))) (Or.inr (hw _ (List.mem_of_getElem? (i := 14) rfl))) (by decide) (t := .double) (t' := .double) (by decide) (by decide)))
  have F_maxRedeliveries_xa := F_maxRedeliveries_xa.other W3 (Or.inr (slot_ne (Or.inr (hw _ (List.mem_of_getElem? (i := 20) rfl))) (Or.inr (hw _ (List.mem_of_getElem? (i := 14) rfl))) (by decide) (t := .int) (t' := .double) (by decide) (by decide)))
  have O0 := O0.wr W3 g_xa
  have K0 := K0.wr W3 (Or.inl (List.mem_of_getElem? (i := 0) rfl))
  have N3 := Fr.snoc X3 N2 g_xa
  refine Goes.to (T' := T3.setTop (mkF m 65 #[.val (.ref xa), .val (.long (0 : Int64)), .second, .val (.double FP.dconst1), .second, .val (.long (-1 : Int64)), .second, .val (.double FP.dconst0), .second, .val (.int lim)] [])) st3 ?_
  refine Goes.to (T' := T3.setTop (mkF m 66 #[.val (.ref xa), .val (.long (0 : Int64)), .second, .val (.double FP.dconst1), .second, .val (.long (-1 : Int64)), .second, .val (.double FP.dconst0), .second, .val (.int lim)] [(.ref xa)])) (fun t k => XS.aloadN X3.here hx rfl (hb hby d1_65) rfl rfl k) ?_
  refine Goes.to (T' := T3.setTop (mkF m 68 #[.val (.ref xa), .val (.long (0 : Int64)), .second, .val (.double FP.dconst1), .second, .val (.long (-1 : Int64)), .second, .val (.double FP.dconst0), .second, .val (.int lim)] [(.long (-1 : Int64)), (.ref xa)])) (fun t k => XS.lload X3.here hx rfl (hb hby d1_66) rfl k) ?_
  obtain ⟨T4, h4, X4, e4, W4, st4⟩ := putF X3 hx hZ hown (host := "") (Or.inl (hw _ (List.mem_of_getElem? (i := 15) rfl))) Via.refl e3 F_maxDelayMillis_xa E_xa (Or.inr ⟨(hw _ (List.mem_of_getElem? (i := 16) rfl)), rfl, hnm⟩) (hw _ (List.mem_of_getElem? (i := 1) rfl)) (ty := .long) (by decide) rfl rfl (g := (mkF m 68 #[.val (.ref xa), .val (.long (0 : Int64)), .second, .val (.double FP.dconst1), .second, .val (.long (-1 : Int64)), .second, .val (.double FP.dconst0), .second, .val (.int lim)] [(.long (-1 : Int64)), (.ref xa)])) rfl rfl (hb hby d1_68)
  have F_maxDelayMillis_xa := F_maxDelayMillis_xa.same W4
  have E_xa := E_xa.wr W4
  have F_delayMillis_xa := F_delayMillis_xa.other W4 (Or.inr (slot_ne (Or.inr (hw _ (List.mem_of_getElem? (i := 12) rfl))) (Or.inr (hw _ (List.mem_of_getElem? (i := 16) rfl))) (by decide) (t := .long) (t' := .long) (by decide) (by decide)))
  have F_multiplier_xa := F_multiplier_xa.other W4 (Or.inr (slot_ne (Or.inr (hw _ (List.mem_of_getElem? (i := 14) rfl))) (Or.inr (hw _ (List.mem_of_getElem? (i := 16) rfl))) (by decide) (t := .double) (t' := .long) (by decide) (by decide)))
  have F_jitter_xa := F_jitter_xa.other W4 (Or.inr (slot_ne (Or.inr (hw _ (List.mem_of_getElem? (i := 18) rfl))) (Or.inr (hw _ (List.mem_of_getElem? (i := 16) rfl))) (by decide) (t := .double) (t' := .long) (by decide) (by decide)))
  have F_maxRedeliveries_xa := F_maxRedeliveries_xa.other W4 (Or.inr (slot_ne (Or.inr (hw _ (List.mem_of_getElem? (i := 20) rfl))) (Or.inr (hw _ (List.mem_of_getElem? (i := 16) rfl))) (by decide) (t := .int) (t' := .long) (by decide) (by decide)))
  have O0 := O0.wr W4 g_xa
  have K0 := K0.wr W4 (Or.inl (List.mem_of_getElem? (i := 0) rfl))
  have N4 := Fr.snoc X4 N3 g_xa
  refine Goes.to (T' := T4.setTop (mkF m 71 #[.val (.ref xa), .val (.long (0 : Int64)), .second, .val (.double FP.dconst1), .second, .val (.long (-1 : Int64)), .second, .val (.double FP.dconst0), .second, .val (.int lim)] [])) st4 ?_
  refine Goes.to (T' := T4.setTop (mkF m 72 #[.val (.ref xa), .val (.long (0 : Int64)), .second, .val (.double FP.dconst1), .second, .val (.long (-1 : Int64)), .second, .val (.double FP.dconst0), .second, .val (.int lim)] [(.ref xa)])) (fun t k => XS.aloadN X4.here hx rfl (hb hby d1_71) rfl rfl k) ?_
  refine Goes.to (T' := T4.setTop (mkF m 74 #[.val (.ref xa), .val (.long (0 : Int64)), .second, .val (.double FP.dconst1), .second, .val (.long (-1 : Int64)), .second, .val (.double FP.dconst0), .second, .val (.int lim)] [(.double FP.dconst0), (.ref xa)])) (fun t k => XS.dload X4.here hx rfl (hb hby d1_72) rfl k) ?_
  obtain ⟨T5, h5, X5, e5, W5, st5⟩ := putF X4 hx hZ hown (host := "") (Or.inl (hw _ (List.mem_of_getElem? (i := 17) rfl))) Via.refl e4 F_jitter_xa E_xa (Or.inr ⟨(hw _ (List.mem_of_getElem? (i := 18) rfl)), rfl, hnm⟩) (hw _ (List.mem_of_getElem? (i := 1) rfl)) (ty := .double) (by decide) rfl rfl (g := (mkF m 74 #[.val (.ref xa), .val (.long (0 : Int64)), .second, .val (.double FP.dconst1), .second, .val (.long (-1 : Int64)), .second, .val (.double FP.dconst0), .second, .val (.int lim)] [(.double FP.dconst0), (.ref xa)])) rfl rfl (hb hby d1_74)
  have F_jitter_xa := F_jitter_xa.same W5
  have E_xa := E_xa.wr W5
  have F_delayMillis_xa := F_delayMillis_xa.other W5 (Or.inr (slot_ne (Or.inr (hw _ (List.mem_of_getElem? (i := 12) rfl))) (Or.inr (hw _ (List.mem_of_getElem? (i := 18) rfl))) (by decide) (t := .long) (t' := .double) (by decide) (by decide)))
  have F_multiplier_xa := F_multiplier_xa.other W5 (Or.inr (slot_ne (Or.inr (hw _ (List.mem_of_getElem? (i := 14) rfl))) (Or.inr (hw _ (List.mem_of_getElem? (i := 18) rfl))) (by decide) (t := .double) (t' := .double) (by decide) (by decide)))
  have F_maxDelayMillis_xa := F_maxDelayMillis_xa.other W5 (Or.inr (slot_ne (Or.inr (hw _ (List.mem_of_getElem? (i := 16) rfl))) (Or.inr (hw _ (List.mem_of_getElem? (i := 18) rfl))) (by decide) (t := .long) (t' := .double) (by decide) (by decide)))
  have F_maxRedeliveries_xa := F_maxRedeliveries_xa.other W5 (Or.inr (slot_ne (Or.inr (hw _ (List.mem_of_getElem? (i := 20) rfl))) (Or.inr (hw _ (List.mem_of_getElem? (i := 18) rfl))) (by decide) (t := .int) (t' := .double) (by decide) (by decide)))
  have O0 := O0.wr W5 g_xa
  have K0 := K0.wr W5 (Or.inl (List.mem_of_getElem? (i := 0) rfl))
  have N5 := Fr.snoc X5 N4 g_xa
  refine Goes.to (T' := T5.setTop (mkF m 77 #[.val (.ref xa), .val (.long (0 : Int64)), .second, .val (.double FP.dconst1), .second, .val (.long (-1 : Int64)), .second, .val (.double FP.dconst0), .second, .val (.int lim)] [])) st5 ?_
  refine Goes.to (T' := T5.setTop (mkF m 78 #[.val (.ref xa), .val (.long (0 : Int64)), .second, .val (.double FP.dconst1), .second, .val (.long (-1 : Int64)), .second, .val (.double FP.dconst0), .second, .val (.int lim)] [(.ref xa)])) (fun t k => XS.aloadN X5.here hx rfl (hb hby d1_77) rfl rfl k) ?_
  refine Goes.to (T' := T5.setTop (mkF m 80 #[.val (.ref xa), .val (.long (0 : Int64)), .second, .val (.double FP.dconst1), .second, .val (.long (-1 : Int64)), .second, .val (.double FP.dconst0), .second, .val (.int lim)] [(.int lim), (.ref xa)])) (fun t k => XS.iload X5.here hx rfl (hb hby d1_78) rfl k) ?_
  obtain ⟨T6, h6, X6, e6, W6, st6⟩ := putF X5 hx hZ hown (host := "") (Or.inl (hw _ (List.mem_of_getElem? (i := 19) rfl))) Via.refl e5 F_maxRedeliveries_xa E_xa (Or.inr ⟨(hw _ (List.mem_of_getElem? (i := 20) rfl)), rfl, hnm⟩) (hw _ (List.mem_of_getElem? (i := 1) rfl)) (ty := .int) (by decide) rfl rfl (g := (mkF m 80 #[.val (.ref xa), .val (.long (0 : Int64)), .second, .val (.double FP.dconst1), .second, .val (.long (-1 : Int64)), .second, .val (.double FP.dconst0), .second, .val (.int lim)] [(.int lim), (.ref xa)])) rfl rfl (hb hby d1_80)
  have F_maxRedeliveries_xa := F_maxRedeliveries_xa.same W6
  have E_xa := E_xa.wr W6
  have F_delayMillis_xa := F_delayMillis_xa.other W6 (Or.inr (slot_ne (Or.inr (hw _ (List.mem_of_getElem? (i := 12) rfl))) (Or.inr (hw _ (List.mem_of_getElem? (i := 20) rfl))) (by decide) (t := .long) (t' := .int) (by decide) (by decide)))
  have F_multiplier_xa := F_multiplier_xa.other W6 (Or.inr (slot_ne (Or.inr (hw _ (List.mem_of_getElem? (i := 14) rfl))) (Or.inr (hw _ (List.mem_of_getElem? (i := 20) rfl))) (by decide) (t := .double) (t' := .int) (by decide) (by decide)))
  have F_maxDelayMillis_xa := F_maxDelayMillis_xa.other W6 (Or.inr (slot_ne (Or.inr (hw _ (List.mem_of_getElem? (i := 16) rfl))) (Or.inr (hw _ (List.mem_of_getElem? (i := 20) rfl))) (by decide) (t := .long) (t' := .int) (by decide) (by decide)))
  have F_jitter_xa := F_jitter_xa.other W6 (Or.inr (slot_ne (Or.inr (hw _ (List.mem_of_getElem? (i := 18) rfl))) (Or.inr (hw _ (List.mem_of_getElem? (i := 20) rfl))) (by decide) (t := .double) (t' := .int) (by decide) (by decide)))
  have O0 := O0.wr W6 g_xa
  have K0 := K0.wr W6 (Or.inl (List.mem_of_getElem? (i := 0) rfl))
  have N6 := Fr.snoc X6 N5 g_xa
  refine Goes.to (T' := T6.setTop (mkF m 83 #[.val (.ref xa), .val (.long (0 : Int64)), .second, .val (.double FP.dconst1), .second, .val (.long (-1 : Int64)), .second, .val (.double FP.dconst0), .second, .val (.int lim)] [])) st6 ?_
  obtain ⟨fs, hrL, hrun, hended, hW, hsame⟩ := X6.leave (v := none) (fun _ => rfl)
  subst hQf
  refine ⟨_, _, X6.returnOut hx Bd.returns (hb hby d1_83) hrL, hrun, hended, _, _, rfl, ?_, ⟨_, rfl⟩, hW, hsame.mono (by decide) (by decide)⟩
  show (fun (v : Option Value) (h : Heap) (L : List Loc) => v = none ∧ Fr n0 L ∧ Keep h0 h [xa] ∧ Fld Z h xa "com/example/ferryline/ferryline/RedeliveryPolicy" "maxRedeliveries" "I" (.int lim)) (none) T6.heap _
  rw [e6]
  exact ⟨rfl, N6, K0, F_maxRedeliveries_xa⟩
theorem d3_0 : decode prog_52_method_4_code 0 = .ok (.aload_n 0, 1) := by decide +kernel
theorem d3_1 : decode prog_52_method_4_code 1 = .ok (.getfield 32, 3) := by decide +kernel
theorem d3_4 : decode prog_52_method_4_code 4 = .ok (.iconst (-1), 1) := by decide +kernel
theorem d3_5 : decode prog_52_method_4_code 5 = .ok (.if_icmp .eq 15, 3) := by decide +kernel
theorem d3_8 : decode prog_52_method_4_code 8 = .ok (.iload_n 1, 1) := by decide +kernel
theorem d3_9 : decode prog_52_method_4_code 9 = .ok (.aload_n 0, 1) := by decide +kernel
theorem d3_10 : decode prog_52_method_4_code 10 = .ok (.getfield 32, 3) := by decide +kernel
theorem d3_13 : decode prog_52_method_4_code 13 = .ok (.if_icmp .le 7, 3) := by decide +kernel
theorem d3_16 : decode prog_52_method_4_code 16 = .ok (.iconst 1, 1) := by decide +kernel
theorem d3_17 : decode prog_52_method_4_code 17 = .ok (.goto 4, 3) := by decide +kernel
theorem d3_20 : decode prog_52_method_4_code 20 = .ok (.iconst 0, 1) := by decide +kernel
theorem d3_21 : decode prog_52_method_4_code 21 = .ok (.ireturn, 1) := by decide +kernel
theorem pn_3 : plainName "com/example/ferryline/ferryline/RedeliveryPolicy" = true := by first | (simp [plainName, overriddenIn]; done) | decide +kernel
theorem ef_rmE (m : MethodId) (x0 : Addr) (x1 : Int32) : entryFrame m #[(.ref x0), (.int x1)] 2 = mkF m 0 #[.val (.ref x0), .val (.int x1)] [] := by first | (simp [entryFrame, mkF, argsToLocals, Value.category]; done) | rfl
def Q_rmE (Z : State) (xa : Addr) (cc : Int32) (lim : Int32) (r : Int32) (h0 : Heap) (n0 : Nat) (v : Option Value) (h : Heap) (L : List Loc) : Prop := v = some (.int r) ∧ Fr n0 L ∧ h = h0
set_option maxRecDepth 65536 in
set_option maxHeartbeats 40000000 in
theorem rmE (l : Launch) (Z : State) (a0 : Array Value) (hw : ∀ d ∈ tables_1, d.before a0 Z = true) (ws : List Jvm.Cond) (xa : Addr) (cc : Int32) (lim : Int32) (r : Int32) (h0 : Heap) (n0 : Nat) (O0 : Old Z n0 h0) (F_maxRedeliveries_xa : Fld Z h0 xa "com/example/ferryline/ferryline/RedeliveryPolicy" "maxRedeliveries" "I" (.int lim)) (hr : r = if lim = -1 then 0 else if lim < cc then 1 else 0) :
    MetFree l (⟨"com/example/ferryline/ferryline/RedeliveryPolicy", "exhausted", "(I)Z"⟩ : MethodName) (head1 (Jvm.Cond.code (⟨"com/example/ferryline/ferryline/RedeliveryPolicy", "exhausted", "(I)Z"⟩ : MethodName) prog_52_method_4_code 2 (some .boolean) :: ws) ({ frames := 0, cells := 0, slots := 0, locals := 0 } : Room)) (fun a U => a = #[(.ref xa), (.int cc)] ∧ Z.Warmed39 U.vm ∧ U.heap = h0) (fun _ _ _ _ _ => True) (fun _ U o U' => ∃ v L, o = .returned v ∧ Q_rmE Z xa cc lim r h0 n0 v U'.heap L ∧ FrameEnd U o U' L ({ frames := 0, cells := 0, slots := 0, locals := 0 } : Room).cells ({ frames := 0, cells := 0, slots := 0, locals := 0 } : Room).slots) := by
  refine MetFree.of_bodySF (plainFor_of_name pn_3) hisR ?_
  intro p e s m args below meth c s₁ Bd hml0 hP hK
  obtain ⟨rfl, hZ, hh⟩ := hP
  have hx := Bd.exec
  have hby := Bd.bytes
  have hml : c.maxLocals = 2 := hml0
  have hown : s.vm.findClass "com/example/ferryline/ferryline/RedeliveryPolicy" = some m.cls := findClass_of_methodNamed Bd.named
  have hnm := (name_of_methodNamed Bd.named Bd.method).1
  have X0 : Stand p l e ({ frames := 0, cells := 0, slots := 0, locals := 0 } : Room) s m #[(.ref xa), (.int cc)] below meth c s₁ [] 0 0 := Stand.of_body Bd
  have e0 : s₁.heap = h0 := by rw [← hh, Bd.state]; rfl
  have N0 := Fr.nil n0
  suffices G : ∀ (Qf : Outcome → State → Prop), Qf = (fun (_ : Array Value) (U : State) (o : Outcome) (U' : State) => ∃ v L, o = .returned v ∧ Q_rmE Z xa cc lim r h0 n0 v U'.heap L ∧ FrameEnd U o U' L ({ frames := 0, cells := 0, slots := 0, locals := 0 } : Room).cells ({ frames := 0, cells := 0, slots := 0, locals := 0 } : Room).slots) #[] s → Goes p.tables e below Qf (s₁.setTop (mkF m 0 #[.val (.ref xa), .val (.int cc)] [])) by
    obtain ⟨s₂, o, g1, g2, g3, g4⟩ := G _ rfl
    exact ⟨s₂, o, castTop (ef_rmE m _ _) g1, g2, g3, g4⟩
  intro Qf hQf
  refine Goes.to (T' := s₁.setTop (mkF m 1 #[.val (.ref xa), .val (.int cc)] [(.ref xa)])) (fun t k => XS.aloadN X0.here hx rfl (hb hby d3_0) rfl rfl k) ?_
  obtain ⟨T1, X1, e1, st1⟩ := getF X0 hx hZ hown (host := "") (Or.inl (hw _ (List.mem_of_getElem? (i := 19) rfl))) Via.refl e0 F_maxRedeliveries_xa (g := (mkF m 1 #[.val (.ref xa), .val (.int cc)] [(.ref xa)])) rfl rfl (hb hby d3_1)
  refine Goes.to (T' := T1.setTop (mkF m 4 #[.val (.ref xa), .val (.int cc)] [(.int lim)])) st1 ?_
  refine Goes.to (T' := T1.setTop (mkF m 5 #[.val (.ref xa), .val (.int cc)] [(.int (-1 : Int32)), (.int lim)])) (fun t k => XS.iconst X1.here hx rfl (hb hby d3_4) k) ?_
  rcases Decidable.em (lim = (-1 : Int32)) with hc5_2 | hc5_2
  · skip
    refine Goes.to (T' := T1.setTop (mkF m 20 #[.val (.ref xa), .val (.int cc)] [])) (fun t k => XS.icmpYes X1.here hx rfl (pc0 := 5) (pc' := 20) rfl (hb hby d3_5) rfl (teq hc5_2).1 (by decide) (by decide) k) ?_
    refine Goes.to (T' := T1.setTop (mkF m 21 #[.val (.ref xa), .val (.int cc)] [(.int (0 : Int32))])) (fun t k => XS.iconst X1.here hx rfl (hb hby d3_20) k) ?_
    obtain ⟨fs, hrL, hrun, hended, hW, hsame⟩ := X1.leave (v := some (.int (0 : Int32))) (fun h => by rw [Bd.returns] at h; cases h)
    subst hQf
    refine ⟨_, _, retN X1 hx (t := .boolean) Bd.returns (by simp) (hb hby d3_21) hrL, hrun, hended, _, _, rfl, ?_, ⟨_, rfl⟩, hW, hsame.mono (by decide) (by decide)⟩
    show (fun (v : Option Value) (h : Heap) (L : List Loc) => v = some (.int r) ∧ Fr n0 L ∧ h = h0) (some (.int (0 : Int32))) T1.heap _
    rw [e1]
    have hv : ((0 : Int32) : Int32) = r := by rw [hr]; first | (simp [hc5_2]; done) | ((repeat' split) <;> first | rfl | contradiction | simp_all)
    exact ⟨by rw [hv], N0, rfl⟩
  · skip
    refine Goes.to (T' := T1.setTop (mkF m 8 #[.val (.ref xa), .val (.int cc)] [])) (fun t k => XS.icmpNo X1.here hx rfl (hb hby d3_5) rfl (feq hc5_2).1 k) ?_
    refine Goes.to (T' := T1.setTop (mkF m 9 #[.val (.ref xa), .val (.int cc)] [(.int cc)])) (fun t k => XS.iloadN X1.here hx rfl (hb hby d3_8) rfl k) ?_
    refine Goes.to (T' := T1.setTop (mkF m 10 #[.val (.ref xa), .val (.int cc)] [(.ref xa), (.int cc)])) (fun t k => XS.aloadN X1.here hx rfl (hb hby d3_9) rfl rfl k) ?_
    obtain ⟨T3, X3, e3, st3⟩ := getF X1 hx hZ hown (host := "") (Or.inl (hw _ (List.mem_of_getElem? (i := 19) rfl))) Via.refl e1 F_maxRedeliveries_xa (g := (mkF m 10 #[.val (.ref xa), .val (.int cc)] [(.ref xa), (.int cc)])) rfl rfl (hb hby d3_10)
    refine Goes.to (T' := T3.setTop (mkF m 13 #[.val (.ref xa), .val (.int cc)] [(.int lim), (.int cc)])) st3 ?_
    rcases Decidable.em (lim < cc) with hc13_4 | hc13_4
    · skip
      refine Goes.to (T' := T3.setTop (mkF m 16 #[.val (.ref xa), .val (.int cc)] [])) (fun t k => XS.icmpNo X3.here hx rfl (hb hby d3_13) rfl (tlt hc13_4).2.2.2 k) ?_
      refine Goes.to (T' := T3.setTop (mkF m 17 #[.val (.ref xa), .val (.int cc)] [(.int (1 : Int32))])) (fun t k => XS.iconst X3.here hx rfl (hb hby d3_16) k) ?_
      refine Goes.to (T' := T3.setTop (mkF m 21 #[.val (.ref xa), .val (.int cc)] [(.int (1 : Int32))])) (fun t k => XS.goto X3.here hx rfl (pc0 := 17) (pc' := 21) rfl (hb hby d3_17) (by decide) (by decide) k) ?_
      obtain ⟨fs, hrL, hrun, hended, hW, hsame⟩ := X3.leave (v := some (.int (1 : Int32))) (fun h => by rw [Bd.returns] at h; cases h)
      subst hQf
      refine ⟨_, _, retN X3 hx (t := .boolean) Bd.returns (by simp) (hb hby d3_21) hrL, hrun, hended, _, _, rfl, ?_, ⟨_, rfl⟩, hW, hsame.mono (by decide) (by decide)⟩
      show (fun (v : Option Value) (h : Heap) (L : List Loc) => v = some (.int r) ∧ Fr n0 L ∧ h = h0) (some (.int (1 : Int32))) T3.heap _
      rw [e3]
      have hv : ((1 : Int32) : Int32) = r := by rw [hr]; first | (simp [hc5_2, hc13_4]; done) | ((repeat' split) <;> first | rfl | contradiction | simp_all)
      exact ⟨by rw [hv], N0, rfl⟩
    · skip
      refine Goes.to (T' := T3.setTop (mkF m 20 #[.val (.ref xa), .val (.int cc)] [])) (fun t k => XS.icmpYes X3.here hx rfl (pc0 := 13) (pc' := 20) rfl (hb hby d3_13) rfl (flt hc13_4).2.2.2 (by decide) (by decide) k) ?_
      refine Goes.to (T' := T3.setTop (mkF m 21 #[.val (.ref xa), .val (.int cc)] [(.int (0 : Int32))])) (fun t k => XS.iconst X3.here hx rfl (hb hby d3_20) k) ?_
      obtain ⟨fs, hrL, hrun, hended, hW, hsame⟩ := X3.leave (v := some (.int (0 : Int32))) (fun h => by rw [Bd.returns] at h; cases h)
      subst hQf
      refine ⟨_, _, retN X3 hx (t := .boolean) Bd.returns (by simp) (hb hby d3_21) hrL, hrun, hended, _, _, rfl, ?_, ⟨_, rfl⟩, hW, hsame.mono (by decide) (by decide)⟩
      show (fun (v : Option Value) (h : Heap) (L : List Loc) => v = some (.int r) ∧ Fr n0 L ∧ h = h0) (some (.int (0 : Int32))) T3.heap _
      rw [e3]
      have hv : ((0 : Int32) : Int32) = r := by rw [hr]; first | (simp [hc5_2, hc13_4]; done) | ((repeat' split) <;> first | rfl | contradiction | simp_all)
      exact ⟨by rw [hv], N0, rfl⟩
theorem own_lim1 (x : Int32) : ¬ (x &&& (7 : Int32)) < (-1 : Int32) ∧ ¬ (x &&& (7 : Int32)) = (-1 : Int32) := by
  have h := c_mask x 7 3 (by decide) (by decide)
  have e1 : (-1 : Int32).toInt = -1 := rfl
  rw [Int32.lt_iff_toInt_lt, ← Int32.toInt_inj, h, e1]; omega
theorem own_lim2 (x : Int32) : ¬ (x &&& (2147483647 : Int32)) < (-1 : Int32) ∧ ¬ (x &&& (2147483647 : Int32)) = (-1 : Int32) := by
  have h := c_mask x 2147483647 31 (by decide) (by decide)
  have e1 : (-1 : Int32).toInt = -1 := rfl
  rw [Int32.lt_iff_toInt_lt, ← Int32.toInt_inj, h, e1]; omega
theorem own_sub (x y : Int32) : x.toInt64 - y.toInt64 < (1 : Int64) ↔ ¬ y < x := by
  have h := c_lsub x.toInt64 y.toInt64
  have r1 := rng32 x
  have r2 := rng32 y
  have r3 := rng64 (x.toInt64 - y.toInt64)
  rw [c_i2l, c_i2l] at h
  have e1 : (1 : Int64).toInt = 1 := rfl
  rw [Int64.lt_iff_toInt_lt, Int32.lt_iff_toInt_lt, e1]; omega
theorem pd_55 : parseMethodDescriptor "(JDJDI)V" = some ⟨[.long, .double, .long, .double, .int], none⟩ := by decide +kernel
theorem pd_56 : parseMethodDescriptor "(I)Z" = some ⟨[.int], some .boolean⟩ := by decide +kernel
theorem pn_0 : plainName "com/example/ferryline/ferryline/RedeliveryPolicyExhaustedPinLaw" = true := by first | (simp [plainName, overriddenIn]; done) | decide +kernel
theorem ef_rm0 (m : MethodId) (x0 : Int32) (x1 : Int32) (x2 : Int32) (x3 : Int32) : entryFrame m #[(.int x0), (.int x1), (.int x2), (.int x3)] maxLocals = mkF m 0 #[.val (.int x0), .val (.int x1), .val (.int x2), .val (.int x3), .unset, .unset, .unset, .unset, .unset, .unset, .unset] [] := by first | (simp [entryFrame, mkF, argsToLocals, Value.category, maxLocals]; done) | rfl
def Q_rm0 (Z : State) (p0 : Int32) (p1 : Int32) (p2 : Int32) (p3 : Int32) (h0 : Heap) (n0 : Nat) (v : Option Value) (h : Heap) (L : List Loc) : Prop := v = some (.int 1) ∧ Fr n0 L
set_option maxRecDepth 65536 in
set_option maxHeartbeats 40000000 in
theorem rm0 (l : Launch) (Z : State) (a0 : Array Value) (hw : ∀ d ∈ tables_1, d.before a0 Z = true) (ws : List Jvm.Cond) (p0 : Int32) (p1 : Int32) (p2 : Int32) (p3 : Int32) (h0 : Heap) (n0 : Nat) (O0 : Old Z n0 h0) :
    MetFree l x (head1 (Jvm.Cond.code x code maxLocals ret :: ws) room_1) (fun a U => a = #[(.int p0), (.int p1), (.int p2), (.int p3)] ∧ Z.Warmed39 U.vm ∧ U.heap = h0) (fun _ _ _ _ _ => True) (fun _ U o U' => ∃ v L, o = .returned v ∧ Q_rm0 Z p0 p1 p2 p3 h0 n0 v U'.heap L ∧ FrameEnd U o U' L room_1.cells room_1.slots) := by
  refine MetFree.of_bodySF (plainFor_of_name pn_0) hisR ?_
  intro p e s m args below meth c s₁ Bd hml0 hP hK
  obtain ⟨rfl, hZ, hh⟩ := hP
  have hx := Bd.exec
  have hby := Bd.bytes
  have hml : c.maxLocals = 11 := hml0
  have hown : s.vm.findClass "com/example/ferryline/ferryline/RedeliveryPolicyExhaustedPinLaw" = some m.cls := findClass_of_methodNamed Bd.named
  have hnm := (name_of_methodNamed Bd.named Bd.method).1
  have X0 : Stand p l e room_1 s m #[(.int p0), (.int p1), (.int p2), (.int p3)] below meth c s₁ [] 0 0 := Stand.of_body Bd
  have e0 : s₁.heap = h0 := by rw [← hh, Bd.state]; rfl
  have N0 := Fr.nil n0
  suffices G : ∀ (Qf : Outcome → State → Prop), Qf = (fun (_ : Array Value) (U : State) (o : Outcome) (U' : State) => ∃ v L, o = .returned v ∧ Q_rm0 Z p0 p1 p2 p3 h0 n0 v U'.heap L ∧ FrameEnd U o U' L room_1.cells room_1.slots) #[] s → Goes p.tables e below Qf (s₁.setTop (mkF m 0 #[.val (.int p0), .val (.int p1), .val (.int p2), .val (.int p3), .unset, .unset, .unset, .unset, .unset, .unset, .unset] [])) by
    obtain ⟨s₂, o, g1, g2, g3, g4⟩ := G _ rfl
    exact ⟨s₂, o, castTop (ef_rm0 m _ _ _ _) g1, g2, g3, g4⟩
  intro Qf hQf
  have J57 : ∀ (TJ1 : State) (locsJ1 : List Loc) (nn : Int32) (sm : Int32) (lim : Int32) (XJ1 : Stand p l e room_1 s m #[(.int p0), (.int p1), (.int p2), (.int p3)] below meth c TJ1 locsJ1 0 0) (eJ1 : TJ1.heap = h0) (NJ1 : Fr n0 locsJ1) (hlim : ¬ lim < (-1 : Int32)) (hnn : (nn = 1 ∧ lim = -1) ∨ (nn = 0 ∧ ¬ lim = -1)), Goes p.tables e below Qf (TJ1.setTop (mkF m 57 #[.val (.int p0), .val (.int p1), .val (.int p2), .val (.int p3), .val (.int nn), .val (.int sm), .val (.int lim), .unset, .unset, .unset, .unset] [])) := by
    intro TJ1 locsJ1 nn sm lim XJ1 eJ1 NJ1 hlim hnn
    have J90 : ∀ (TJ2 : State) (locsJ2 : List Loc) (wc : Int32) (cc : Int32) (XJ2 : Stand p l e room_1 s m #[(.int p0), (.int p1), (.int p2), (.int p3)] below meth c TJ2 locsJ2 0 0) (eJ2 : TJ2.heap = h0) (NJ2 : Fr n0 locsJ2), Goes p.tables e below Qf (TJ2.setTop (mkF m 90 #[.val (.int p0), .val (.int p1), .val (.int p2), .val (.int p3), .val (.int nn), .val (.int sm), .val (.int lim), .val (.int wc), .val (.int cc), .unset, .unset] [])) := by
      intro TJ2 locsJ2 wc cc XJ2 eJ2 NJ2 
      rcases hnn with ⟨hn1, hn2⟩ | ⟨hn1, hn2⟩
      · subst hn1
        rcases Decidable.em (lim < cc) with hk3 | hk3
        · skip
          obtain ⟨T4, h4, X4, e4, E4, A4, D4, -, st4⟩ := newO XJ2 hx hZ hown (hw _ (List.mem_of_getElem? (i := 0) rfl)) (hw _ (List.mem_of_getElem? (i := 1) rfl)) (hw _ (List.mem_of_getElem? (i := 2) rfl)) eJ2 (g := (mkF m 90 #[.val (.int p0), .val (.int p1), .val (.int p2), .val (.int p3), .val (.int (1 : Int32)), .val (.int sm), .val (.int lim), .val (.int wc), .val (.int cc), .unset, .unset] [])) rfl (hb hby at_90) (by decide) (by decide)
          obtain ⟨b4, g4⟩ : ∃ z, z = h0.size := ⟨_, rfl⟩
          rw [← g4] at A4 D4 st4
          have g_b4 : n0 ≤ b4 := Nat.le_trans (own_old O0) (Nat.le_of_eq g4.symm)
          have O0 := O0.ext E4
          have E_b4 := A4
          have F_delayMillis_b4 : Fld Z h4 b4 "com/example/ferryline/ferryline/RedeliveryPolicy" "delayMillis" "J" (.long (0 : Int64)) := D4 (Or.inr (hw _ (List.mem_of_getElem? (i := 12) rfl))) (ty := .long) (by decide)
          have F_multiplier_b4 : Fld Z h4 b4 "com/example/ferryline/ferryline/RedeliveryPolicy" "multiplier" "D" (.double (0 : UInt64)) := D4 (Or.inr (hw _ (List.mem_of_getElem? (i := 14) rfl))) (ty := .double) (by decide)
          have F_maxDelayMillis_b4 : Fld Z h4 b4 "com/example/ferryline/ferryline/RedeliveryPolicy" "maxDelayMillis" "J" (.long (0 : Int64)) := D4 (Or.inr (hw _ (List.mem_of_getElem? (i := 16) rfl))) (ty := .long) (by decide)
          have F_jitter_b4 : Fld Z h4 b4 "com/example/ferryline/ferryline/RedeliveryPolicy" "jitter" "D" (.double (0 : UInt64)) := D4 (Or.inr (hw _ (List.mem_of_getElem? (i := 18) rfl))) (ty := .double) (by decide)
          have F_maxRedeliveries_b4 : Fld Z h4 b4 "com/example/ferryline/ferryline/RedeliveryPolicy" "maxRedeliveries" "I" (.int (0 : Int32)) := D4 (Or.inr (hw _ (List.mem_of_getElem? (i := 20) rfl))) (ty := .int) (by decide)
          refine Goes.to (T' := T4.setTop (mkF m 93 #[.val (.int p0), .val (.int p1), .val (.int p2), .val (.int p3), .val (.int (1 : Int32)), .val (.int sm), .val (.int lim), .val (.int wc), .val (.int cc), .unset, .unset] [(.ref b4)])) st4 ?_
          refine Goes.to (T' := T4.setTop (mkF m 94 #[.val (.int p0), .val (.int p1), .val (.int p2), .val (.int p3), .val (.int (1 : Int32)), .val (.int sm), .val (.int lim), .val (.int wc), .val (.int cc), .unset, .unset] [(.ref b4), (.ref b4)])) (fun t k => XS.dup X4.here hx rfl (hb hby at_93) rfl rfl k) ?_
          refine Goes.to (T' := T4.setTop (mkF m 95 #[.val (.int p0), .val (.int p1), .val (.int p2), .val (.int p3), .val (.int (1 : Int32)), .val (.int sm), .val (.int lim), .val (.int wc), .val (.int cc), .unset, .unset] [(.long (0 : Int64)), (.ref b4), (.ref b4)])) (fun t k => XS.lconst X4.here hx rfl (hb hby at_94) k) ?_
          refine Goes.to (T' := T4.setTop (mkF m 96 #[.val (.int p0), .val (.int p1), .val (.int p2), .val (.int p3), .val (.int (1 : Int32)), .val (.int sm), .val (.int lim), .val (.int wc), .val (.int cc), .unset, .unset] [(.double FP.dconst1), (.long (0 : Int64)), (.ref b4), (.ref b4)])) (fun t k => XS.dconst1 X4.here hx rfl (hb hby at_95) rfl k) ?_
          refine Goes.to (T' := T4.setTop (mkF m 99 #[.val (.int p0), .val (.int p1), .val (.int p2), .val (.int p3), .val (.int (1 : Int32)), .val (.int sm), .val (.int lim), .val (.int wc), .val (.int cc), .unset, .unset] [(.long (-1 : Int64)), (.double FP.dconst1), (.long (0 : Int64)), (.ref b4), (.ref b4)])) (X4.ldc2Long hx hown (mvT hZ (hw _ (List.mem_of_getElem? (i := 3) rfl))) (g := (mkF m 96 #[.val (.int p0), .val (.int p1), .val (.int p2), .val (.int p3), .val (.int (1 : Int32)), .val (.int sm), .val (.int lim), .val (.int wc), .val (.int cc), .unset, .unset] [(.double FP.dconst1), (.long (0 : Int64)), (.ref b4), (.ref b4)])) rfl (hb hby at_96)) ?_
          refine Goes.to (T' := T4.setTop (mkF m 100 #[.val (.int p0), .val (.int p1), .val (.int p2), .val (.int p3), .val (.int (1 : Int32)), .val (.int sm), .val (.int lim), .val (.int wc), .val (.int cc), .unset, .unset] [(.double FP.dconst0), (.long (-1 : Int64)), (.double FP.dconst1), (.long (0 : Int64)), (.ref b4), (.ref b4)])) (fun t k => XS.dconst0 X4.here hx rfl (hb hby at_99) rfl k) ?_
          refine Goes.to (T' := T4.setTop (mkF m 102 #[.val (.int p0), .val (.int p1), .val (.int p2), .val (.int p3), .val (.int (1 : Int32)), .val (.int sm), .val (.int lim), .val (.int wc), .val (.int cc), .unset, .unset] [(.int lim), (.double FP.dconst0), (.long (-1 : Int64)), (.double FP.dconst1), (.long (0 : Int64)), (.ref b4), (.ref b4)])) (fun t k => XS.iload X4.here hx rfl (hb hby at_100) rfl k) ?_
          obtain ⟨_, _, ⟨T5, L5, k5, n5⟩, -, X5, ⟨Lc5, hQ5, l5, y5, z5⟩, st5⟩ := X4.specialBack hx (y := (⟨"com/example/ferryline/ferryline/RedeliveryPolicy", "<init>", "(JDJDI)V"⟩ : MethodName)) rfl hown (mvT hZ (hw _ (List.mem_of_getElem? (i := 4) rfl))) (mvT hZ (hw _ (List.mem_of_getElem? (i := 5) rfl))) (mvT hZ (hw _ (List.mem_of_getElem? (i := 6) rfl))) (by decide) (backOf (W := 1) (rmI l Z a0 hw [] b4 lim   h4 n0 O0  E_b4 F_delayMillis_b4 F_multiplier_b4 F_maxDelayMillis_b4 F_jitter_b4 F_maxRedeliveries_b4 g_b4 hlim) hZ (hw _ (List.mem_of_getElem? (i := 6) rfl)) (hw _ (List.mem_of_getElem? (i := 2) rfl)) (by decide) (by decide)) (g := (mkF m 102 #[.val (.int p0), .val (.int p1), .val (.int p2), .val (.int p3), .val (.int (1 : Int32)), .val (.int sm), .val (.int lim), .val (.int wc), .val (.int cc), .unset, .unset] [(.int lim), (.double FP.dconst0), (.long (-1 : Int64)), (.double FP.dconst1), (.long (0 : Int64)), (.ref b4), (.ref b4)])) rfl (by rw [hml]; rfl) (Steps.refl _) (a := b4) (argsL := [(.long (0 : Int64)), (.double FP.dconst1), (.long (-1 : Int64)), (.double FP.dconst0), (.int lim)]) (rest := [(.ref b4)]) (lenOf pd_55 rfl) rfl (by show 2 * 0 + _ ≤ _; exact Nat.le_of_eq rfl) (hb hby at_102) (fun _ _ => ⟨rfl, e4, (by decide : 1 + 0 ≤ _), (by decide : 5 + 0 ≤ _)⟩)
          dsimp only [Pt.U, Pt.locs, Pt.cells, Pt.slots] at X5 l5 y5 z5 st5 hQ5
          subst l5 y5 z5
          obtain ⟨rfl, Nq5, K5, Fm5⟩ := hQ5
          have N5 := Fr.app NJ2 Nq5
          have E_b4 := E_b4.keep K5
          have O0 := O0.keep K5 (allS g_b4 all0)
          have F_maxRedeliveries_b4 := Fm5
          refine Goes.thru (T' := T5.setTop (mkF m 105 #[.val (.int p0), .val (.int p1), .val (.int p2), .val (.int p3), .val (.int (1 : Int32)), .val (.int sm), .val (.int lim), .val (.int wc), .val (.int cc), .unset, .unset] [(.ref b4)])) st5 ?_
          refine Goes.to (T' := T5.setTop (mkF m 107 #[.val (.int p0), .val (.int p1), .val (.int p2), .val (.int p3), .val (.int (1 : Int32)), .val (.int sm), .val (.int lim), .val (.int wc), .val (.int cc), .val (.ref b4), .unset] [])) (fun t k => XS.astore X5.here hx rfl (hb hby at_105) rfl rfl (l' := #[.val (.int p0), .val (.int p1), .val (.int p2), .val (.int p3), .val (.int (1 : Int32)), .val (.int sm), .val (.int lim), .val (.int wc), .val (.int cc), .val (.ref b4), .unset]) rfl k) ?_
          refine Goes.to (T' := T5.setTop (mkF m 109 #[.val (.int p0), .val (.int p1), .val (.int p2), .val (.int p3), .val (.int (1 : Int32)), .val (.int sm), .val (.int lim), .val (.int wc), .val (.int cc), .val (.ref b4), .unset] [(.int (1 : Int32))])) (fun t k => XS.iload X5.here hx rfl (hb hby at_107) rfl k) ?_
          refine Goes.to (T' := T5.setTop (mkF m 128 #[.val (.int p0), .val (.int p1), .val (.int p2), .val (.int p3), .val (.int (1 : Int32)), .val (.int sm), .val (.int lim), .val (.int wc), .val (.int cc), .val (.ref b4), .unset] [])) (fun t k => XS.ifYes X5.here hx rfl (pc0 := 109) (pc' := 128) rfl (hb hby at_109) rfl ((if0 _ _).trans (feq (by decide)).2) (by decide) (by decide) k) ?_
          refine Goes.to (T' := T5.setTop (mkF m 129 #[.val (.int p0), .val (.int p1), .val (.int p2), .val (.int p3), .val (.int (1 : Int32)), .val (.int sm), .val (.int lim), .val (.int wc), .val (.int cc), .val (.ref b4), .unset] [(.int (0 : Int32))])) (fun t k => XS.iconst X5.here hx rfl (hb hby at_128) k) ?_
          refine Goes.to (T' := T5.setTop (mkF m 131 #[.val (.int p0), .val (.int p1), .val (.int p2), .val (.int p3), .val (.int (1 : Int32)), .val (.int sm), .val (.int lim), .val (.int wc), .val (.int cc), .val (.ref b4), .val (.int (0 : Int32))] [])) (fun t k => XS.istore X5.here hx rfl (hb hby at_129) rfl (l' := #[.val (.int p0), .val (.int p1), .val (.int p2), .val (.int p3), .val (.int (1 : Int32)), .val (.int sm), .val (.int lim), .val (.int wc), .val (.int cc), .val (.ref b4), .val (.int (0 : Int32))]) rfl k) ?_
          refine Goes.to (T' := T5.setTop (mkF m 133 #[.val (.int p0), .val (.int p1), .val (.int p2), .val (.int p3), .val (.int (1 : Int32)), .val (.int sm), .val (.int lim), .val (.int wc), .val (.int cc), .val (.ref b4), .val (.int (0 : Int32))] [(.ref b4)])) (fun t k => XS.aload X5.here hx rfl (hb hby at_131) rfl rfl k) ?_
          refine Goes.to (T' := T5.setTop (mkF m 135 #[.val (.int p0), .val (.int p1), .val (.int p2), .val (.int p3), .val (.int (1 : Int32)), .val (.int sm), .val (.int lim), .val (.int wc), .val (.int cc), .val (.ref b4), .val (.int (0 : Int32))] [(.int cc), (.ref b4)])) (fun t k => XS.iload X5.here hx rfl (hb hby at_133) rfl k) ?_
          obtain ⟨cq6, kq6, q6a, q6b, q6c⟩ := isOf hZ rfl E_b4
          obtain ⟨_, _, ⟨T6, L6, k6, n6⟩, -, X6, ⟨Lc6, hQ6, l6, y6, z6⟩, st6⟩ := X5.virtualBack hx (y := (⟨"com/example/ferryline/ferryline/RedeliveryPolicy", "exhausted", "(I)Z"⟩ : MethodName)) (z := (⟨"com/example/ferryline/ferryline/RedeliveryPolicy", "exhausted", "(I)Z"⟩ : MethodName)) hown (mvT hZ (hw _ (List.mem_of_getElem? (i := 21) rfl))) (mvT hZ (hw _ (List.mem_of_getElem? (i := 22) rfl))) (notFace_of_selects (args := #[]) (mvT hZ (hw _ (List.mem_of_getElem? (i := 24) rfl)))) (mvT hZ (hw _ (List.mem_of_getElem? (i := 24) rfl))) (mvT hZ (hw _ (List.mem_of_getElem? (i := 23) rfl))) (by decide) (backOf (W := 0) (rmE l Z a0 hw [] b4 cc  lim (0 : Int32) T5.heap n0 O0  F_maxRedeliveries_b4 (by first | (simp [hn2, hk3]; done) | ((repeat' split) <;> first | rfl | contradiction | simp_all))) hZ (hw _ (List.mem_of_getElem? (i := 25) rfl)) (hw _ (List.mem_of_getElem? (i := 2) rfl)) (by decide) (by decide)) q6a q6c (g := (mkF m 135 #[.val (.int p0), .val (.int p1), .val (.int p2), .val (.int p3), .val (.int (1 : Int32)), .val (.int sm), .val (.int lim), .val (.int wc), .val (.int cc), .val (.ref b4), .val (.int (0 : Int32))] [(.int cc), (.ref b4)])) rfl (by rw [hml]; rfl) (Steps.refl _) (argsL := [(.int cc)]) (rest := []) (lenOf pd_56 rfl) rfl (by show 2 * 0 + _ ≤ _; exact Nat.le_of_eq rfl) (hb hby at_135) (fun _ _ => ⟨rfl, rfl, (by decide : 1 + 0 ≤ _), (by decide : 5 + 0 ≤ _)⟩)
          dsimp only [Pt.U, Pt.locs, Pt.cells, Pt.slots] at X6 l6 y6 z6 st6 hQ6
          subst l6 y6 z6
          obtain ⟨rfl, Nq6, e6⟩ := hQ6
          have N6 := Fr.app N5 Nq6
          refine Goes.thru (T' := T6.setTop (mkF m 138 #[.val (.int p0), .val (.int p1), .val (.int p2), .val (.int p3), .val (.int (1 : Int32)), .val (.int sm), .val (.int lim), .val (.int wc), .val (.int cc), .val (.ref b4), .val (.int (0 : Int32))] [(.int (0 : Int32))])) st6 ?_
          refine Goes.to (T' := T6.setTop (mkF m 140 #[.val (.int p0), .val (.int p1), .val (.int p2), .val (.int p3), .val (.int (1 : Int32)), .val (.int sm), .val (.int lim), .val (.int wc), .val (.int cc), .val (.ref b4), .val (.int (0 : Int32))] [(.int (0 : Int32)), (.int (0 : Int32))])) (fun t k => XS.iload X6.here hx rfl (hb hby at_138) rfl k) ?_
          refine Goes.to (T' := T6.setTop (mkF m 143 #[.val (.int p0), .val (.int p1), .val (.int p2), .val (.int p3), .val (.int (1 : Int32)), .val (.int sm), .val (.int lim), .val (.int wc), .val (.int cc), .val (.ref b4), .val (.int (0 : Int32))] [])) (fun t k => XS.icmpNo X6.here hx rfl (hb hby at_140) rfl (teq (by decide)).2 k) ?_
          refine Goes.to (T' := T6.setTop (mkF m 144 #[.val (.int p0), .val (.int p1), .val (.int p2), .val (.int p3), .val (.int (1 : Int32)), .val (.int sm), .val (.int lim), .val (.int wc), .val (.int cc), .val (.ref b4), .val (.int (0 : Int32))] [(.int (1 : Int32))])) (fun t k => XS.iconst X6.here hx rfl (hb hby at_143) k) ?_
          refine Goes.to (T' := T6.setTop (mkF m 148 #[.val (.int p0), .val (.int p1), .val (.int p2), .val (.int p3), .val (.int (1 : Int32)), .val (.int sm), .val (.int lim), .val (.int wc), .val (.int cc), .val (.ref b4), .val (.int (0 : Int32))] [(.int (1 : Int32))])) (fun t k => XS.goto X6.here hx rfl (pc0 := 144) (pc' := 148) rfl (hb hby at_144) (by decide) (by decide) k) ?_
          obtain ⟨fs, hrL, hrun, hended, hW, hsame⟩ := X6.leave (v := some (.int (1 : Int32))) (fun h => by rw [Bd.returns] at h; cases h)
          subst hQf
          refine ⟨_, _, retN X6 hx (t := .boolean) Bd.returns (by simp) (hb hby at_148) hrL, hrun, hended, _, _, rfl, ?_, ⟨_, rfl⟩, hW, hsame.mono (by decide) (by decide)⟩
          show (fun (v : Option Value) (h : Heap) (L : List Loc) => v = some (.int 1) ∧ Fr n0 L) (some (.int (1 : Int32))) T6.heap _
          rw [e6]
          exact ⟨rfl, N6⟩
        · skip
          obtain ⟨T7, h7, X7, e7, E7, A7, D7, -, st7⟩ := newO XJ2 hx hZ hown (hw _ (List.mem_of_getElem? (i := 0) rfl)) (hw _ (List.mem_of_getElem? (i := 1) rfl)) (hw _ (List.mem_of_getElem? (i := 2) rfl)) eJ2 (g := (mkF m 90 #[.val (.int p0), .val (.int p1), .val (.int p2), .val (.int p3), .val (.int (1 : Int32)), .val (.int sm), .val (.int lim), .val (.int wc), .val (.int cc), .unset, .unset] [])) rfl (hb hby at_90) (by decide) (by decide)
          obtain ⟨b7, g7⟩ : ∃ z, z = h0.size := ⟨_, rfl⟩
          rw [← g7] at A7 D7 st7
          have g_b7 : n0 ≤ b7 := Nat.le_trans (own_old O0) (Nat.le_of_eq g7.symm)
          have O0 := O0.ext E7
          have E_b7 := A7
          have F_delayMillis_b7 : Fld Z h7 b7 "com/example/ferryline/ferryline/RedeliveryPolicy" "delayMillis" "J" (.long (0 : Int64)) := D7 (Or.inr (hw _ (List.mem_of_getElem? (i := 12) rfl))) (ty := .long) (by decide)
          have F_multiplier_b7 : Fld Z h7 b7 "com/example/ferryline/ferryline/RedeliveryPolicy" "multiplier" "D" (.double (0 : UInt64)) := D7 (Or.inr (hw _ (List.mem_of_getElem? (i := 14) rfl))) (ty := .double) (by decide)
          have F_maxDelayMillis_b7 : Fld Z h7 b7 "com/example/ferryline/ferryline/RedeliveryPolicy" "maxDelayMillis" "J" (.long (0 : Int64)) := D7 (Or.inr (hw _ (List.mem_of_getElem? (i := 16) rfl))) (ty := .long) (by decide)
          have F_jitter_b7 : Fld Z h7 b7 "com/example/ferryline/ferryline/RedeliveryPolicy" "jitter" "D" (.double (0 : UInt64)) := D7 (Or.inr (hw _ (List.mem_of_getElem? (i := 18) rfl))) (ty := .double) (by decide)
          have F_maxRedeliveries_b7 : Fld Z h7 b7 "com/example/ferryline/ferryline/RedeliveryPolicy" "maxRedeliveries" "I" (.int (0 : Int32)) := D7 (Or.inr (hw _ (List.mem_of_getElem? (i := 20) rfl))) (ty := .int) (by decide)
          refine Goes.to (T' := T7.setTop (mkF m 93 #[.val (.int p0), .val (.int p1), .val (.int p2), .val (.int p3), .val (.int (1 : Int32)), .val (.int sm), .val (.int lim), .val (.int wc), .val (.int cc), .unset, .unset] [(.ref b7)])) st7 ?_
          refine Goes.to (T' := T7.setTop (mkF m 94 #[.val (.int p0), .val (.int p1), .val (.int p2), .val (.int p3), .val (.int (1 : Int32)), .val (.int sm), .val (.int lim), .val (.int wc), .val (.int cc), .unset, .unset] [(.ref b7), (.ref b7)])) (fun t k => XS.dup X7.here hx rfl (hb hby at_93) rfl rfl k) ?_
          refine Goes.to (T' := T7.setTop (mkF m 95 #[.val (.int p0), .val (.int p1), .val (.int p2), .val (.int p3), .val (.int (1 : Int32)), .val (.int sm), .val (.int lim), .val (.int wc), .val (.int cc), .unset, .unset] [(.long (0 : Int64)), (.ref b7), (.ref b7)])) (fun t k => XS.lconst X7.here hx rfl (hb hby at_94) k) ?_
          refine Goes.to (T' := T7.setTop (mkF m 96 #[.val (.int p0), .val (.int p1), .val (.int p2), .val (.int p3), .val (.int (1 : Int32)), .val (.int sm), .val (.int lim), .val (.int wc), .val (.int cc), .unset, .unset] [(.double FP.dconst1), (.long (0 : Int64)), (.ref b7), (.ref b7)])) (fun t k => XS.dconst1 X7.here hx rfl (hb hby at_95) rfl k) ?_
          refine Goes.to (T' := T7.setTop (mkF m 99 #[.val (.int p0), .val (.int p1), .val (.int p2), .val (.int p3), .val (.int (1 : Int32)), .val (.int sm), .val (.int lim), .val (.int wc), .val (.int cc), .unset, .unset] [(.long (-1 : Int64)), (.double FP.dconst1), (.long (0 : Int64)), (.ref b7), (.ref b7)])) (X7.ldc2Long hx hown (mvT hZ (hw _ (List.mem_of_getElem? (i := 3) rfl))) (g := (mkF m 96 #[.val (.int p0), .val (.int p1), .val (.int p2), .val (.int p3), .val (.int (1 : Int32)), .val (.int sm), .val (.int lim), .val (.int wc), .val (.int cc), .unset, .unset] [(.double FP.dconst1), (.long (0 : Int64)), (.ref b7), (.ref b7)])) rfl (hb hby at_96)) ?_
          refine Goes.to (T' := T7.setTop (mkF m 100 #[.val (.int p0), .val (.int p1), .val (.int p2), .val (.int p3), .val (.int (1 : Int32)), .val (.int sm), .val (.int lim), .val (.int wc), .val (.int cc), .unset, .unset] [(.double FP.dconst0), (.long (-1 : Int64)), (.double FP.dconst1), (.long (0 : Int64)), (.ref b7), (.ref b7)])) (fun t k => XS.dconst0 X7.here hx rfl (hb hby at_99) rfl k) ?_
          refine Goes.to (T' := T7.setTop (mkF m 102 #[.val (.int p0), .val (.int p1), .val (.int p2), .val (.int p3), .val (.int (1 : Int32)), .val (.int sm), .val (.int lim), .val (.int wc), .val (.int cc), .unset, .unset] [(.int lim), (.double FP.dconst0), (.long (-1 : Int64)), (.double FP.dconst1), (.long (0 : Int64)), (.ref b7), (.ref b7)])) (fun t k => XS.iload X7.here hx rfl (hb hby at_100) rfl k) ?_
          obtain ⟨_, _, ⟨T8, L8, k8, n8⟩, -, X8, ⟨Lc8, hQ8, l8, y8, z8⟩, st8⟩ := X7.specialBack hx (y := (⟨"com/example/ferryline/ferryline/RedeliveryPolicy", "<init>", "(JDJDI)V"⟩ : MethodName)) rfl hown (mvT hZ (hw _ (List.mem_of_getElem? (i := 4) rfl))) (mvT hZ (hw _ (List.mem_of_getElem? (i := 5) rfl))) (mvT hZ (hw _ (List.mem_of_getElem? (i := 6) rfl))) (by decide) (backOf (W := 1) (rmI l Z a0 hw [] b7 lim   h7 n0 O0  E_b7 F_delayMillis_b7 F_multiplier_b7 F_maxDelayMillis_b7 F_jitter_b7 F_maxRedeliveries_b7 g_b7 hlim) hZ (hw _ (List.mem_of_getElem? (i := 6) rfl)) (hw _ (List.mem_of_getElem? (i := 2) rfl)) (by decide) (by decide)) (g := (mkF m 102 #[.val (.int p0), .val (.int p1), .val (.int p2), .val (.int p3), .val (.int (1 : Int32)), .val (.int sm), .val (.int lim), .val (.int wc), .val (.int cc), .unset, .unset] [(.int lim), (.double FP.dconst0), (.long (-1 : Int64)), (.double FP.dconst1), (.long (0 : Int64)), (.ref b7), (.ref b7)])) rfl (by rw [hml]; rfl) (Steps.refl _) (a := b7) (argsL := [(.long (0 : Int64)), (.double FP.dconst1), (.long (-1 : Int64)), (.double FP.dconst0), (.int lim)]) (rest := [(.ref b7)]) (lenOf pd_55 rfl) rfl (by show 2 * 0 + _ ≤ _; exact Nat.le_of_eq rfl) (hb hby at_102) (fun _ _ => ⟨rfl, e7, (by decide : 1 + 0 ≤ _), (by decide : 5 + 0 ≤ _)⟩)
          dsimp only [Pt.U, Pt.locs, Pt.cells, Pt.slots] at X8 l8 y8 z8 st8 hQ8
          subst l8 y8 z8
          obtain ⟨rfl, Nq8, K8, Fm8⟩ := hQ8
          have N8 := Fr.app NJ2 Nq8
          have E_b7 := E_b7.keep K8
          have O0 := O0.keep K8 (allS g_b7 all0)
          have F_maxRedeliveries_b7 := Fm8
          refine Goes.thru (T' := T8.setTop (mkF m 105 #[.val (.int p0), .val (.int p1), .val (.int p2), .val (.int p3), .val (.int (1 : Int32)), .val (.int sm), .val (.int lim), .val (.int wc), .val (.int cc), .unset, .unset] [(.ref b7)])) st8 ?_
          refine Goes.to (T' := T8.setTop (mkF m 107 #[.val (.int p0), .val (.int p1), .val (.int p2), .val (.int p3), .val (.int (1 : Int32)), .val (.int sm), .val (.int lim), .val (.int wc), .val (.int cc), .val (.ref b7), .unset] [])) (fun t k => XS.astore X8.here hx rfl (hb hby at_105) rfl rfl (l' := #[.val (.int p0), .val (.int p1), .val (.int p2), .val (.int p3), .val (.int (1 : Int32)), .val (.int sm), .val (.int lim), .val (.int wc), .val (.int cc), .val (.ref b7), .unset]) rfl k) ?_
          refine Goes.to (T' := T8.setTop (mkF m 109 #[.val (.int p0), .val (.int p1), .val (.int p2), .val (.int p3), .val (.int (1 : Int32)), .val (.int sm), .val (.int lim), .val (.int wc), .val (.int cc), .val (.ref b7), .unset] [(.int (1 : Int32))])) (fun t k => XS.iload X8.here hx rfl (hb hby at_107) rfl k) ?_
          refine Goes.to (T' := T8.setTop (mkF m 128 #[.val (.int p0), .val (.int p1), .val (.int p2), .val (.int p3), .val (.int (1 : Int32)), .val (.int sm), .val (.int lim), .val (.int wc), .val (.int cc), .val (.ref b7), .unset] [])) (fun t k => XS.ifYes X8.here hx rfl (pc0 := 109) (pc' := 128) rfl (hb hby at_109) rfl ((if0 _ _).trans (feq (by decide)).2) (by decide) (by decide) k) ?_
          refine Goes.to (T' := T8.setTop (mkF m 129 #[.val (.int p0), .val (.int p1), .val (.int p2), .val (.int p3), .val (.int (1 : Int32)), .val (.int sm), .val (.int lim), .val (.int wc), .val (.int cc), .val (.ref b7), .unset] [(.int (0 : Int32))])) (fun t k => XS.iconst X8.here hx rfl (hb hby at_128) k) ?_
          refine Goes.to (T' := T8.setTop (mkF m 131 #[.val (.int p0), .val (.int p1), .val (.int p2), .val (.int p3), .val (.int (1 : Int32)), .val (.int sm), .val (.int lim), .val (.int wc), .val (.int cc), .val (.ref b7), .val (.int (0 : Int32))] [])) (fun t k => XS.istore X8.here hx rfl (hb hby at_129) rfl (l' := #[.val (.int p0), .val (.int p1), .val (.int p2), .val (.int p3), .val (.int (1 : Int32)), .val (.int sm), .val (.int lim), .val (.int wc), .val (.int cc), .val (.ref b7), .val (.int (0 : Int32))]) rfl k) ?_
          refine Goes.to (T' := T8.setTop (mkF m 133 #[.val (.int p0), .val (.int p1), .val (.int p2), .val (.int p3), .val (.int (1 : Int32)), .val (.int sm), .val (.int lim), .val (.int wc), .val (.int cc), .val (.ref b7), .val (.int (0 : Int32))] [(.ref b7)])) (fun t k => XS.aload X8.here hx rfl (hb hby at_131) rfl rfl k) ?_
          refine Goes.to (T' := T8.setTop (mkF m 135 #[.val (.int p0), .val (.int p1), .val (.int p2), .val (.int p3), .val (.int (1 : Int32)), .val (.int sm), .val (.int lim), .val (.int wc), .val (.int cc), .val (.ref b7), .val (.int (0 : Int32))] [(.int cc), (.ref b7)])) (fun t k => XS.iload X8.here hx rfl (hb hby at_133) rfl k) ?_
          obtain ⟨cq9, kq9, q9a, q9b, q9c⟩ := isOf hZ rfl E_b7
          obtain ⟨_, _, ⟨T9, L9, k9, n9⟩, -, X9, ⟨Lc9, hQ9, l9, y9, z9⟩, st9⟩ := X8.virtualBack hx (y := (⟨"com/example/ferryline/ferryline/RedeliveryPolicy", "exhausted", "(I)Z"⟩ : MethodName)) (z := (⟨"com/example/ferryline/ferryline/RedeliveryPolicy", "exhausted", "(I)Z"⟩ : MethodName)) hown (mvT hZ (hw _ (List.mem_of_getElem? (i := 21) rfl))) (mvT hZ (hw _ (List.mem_of_getElem? (i := 22) rfl))) (notFace_of_selects (args := #[]) (mvT hZ (hw _ (List.mem_of_getElem? (i := 24) rfl)))) (mvT hZ (hw _ (List.mem_of_getElem? (i := 24) rfl))) (mvT hZ (hw _ (List.mem_of_getElem? (i := 23) rfl))) (by decide) (backOf (W := 0) (rmE l Z a0 hw [] b7 cc  lim (0 : Int32) T8.heap n0 O0  F_maxRedeliveries_b7 (by first | (simp [hn2, hk3]; done) | ((repeat' split) <;> first | rfl | contradiction | simp_all))) hZ (hw _ (List.mem_of_getElem? (i := 25) rfl)) (hw _ (List.mem_of_getElem? (i := 2) rfl)) (by decide) (by decide)) q9a q9c (g := (mkF m 135 #[.val (.int p0), .val (.int p1), .val (.int p2), .val (.int p3), .val (.int (1 : Int32)), .val (.int sm), .val (.int lim), .val (.int wc), .val (.int cc), .val (.ref b7), .val (.int (0 : Int32))] [(.int cc), (.ref b7)])) rfl (by rw [hml]; rfl) (Steps.refl _) (argsL := [(.int cc)]) (rest := []) (lenOf pd_56 rfl) rfl (by show 2 * 0 + _ ≤ _; exact Nat.le_of_eq rfl) (hb hby at_135) (fun _ _ => ⟨rfl, rfl, (by decide : 1 + 0 ≤ _), (by decide : 5 + 0 ≤ _)⟩)
          dsimp only [Pt.U, Pt.locs, Pt.cells, Pt.slots] at X9 l9 y9 z9 st9 hQ9
          subst l9 y9 z9
          obtain ⟨rfl, Nq9, e9⟩ := hQ9
          have N9 := Fr.app N8 Nq9
          refine Goes.thru (T' := T9.setTop (mkF m 138 #[.val (.int p0), .val (.int p1), .val (.int p2), .val (.int p3), .val (.int (1 : Int32)), .val (.int sm), .val (.int lim), .val (.int wc), .val (.int cc), .val (.ref b7), .val (.int (0 : Int32))] [(.int (0 : Int32))])) st9 ?_
          refine Goes.to (T' := T9.setTop (mkF m 140 #[.val (.int p0), .val (.int p1), .val (.int p2), .val (.int p3), .val (.int (1 : Int32)), .val (.int sm), .val (.int lim), .val (.int wc), .val (.int cc), .val (.ref b7), .val (.int (0 : Int32))] [(.int (0 : Int32)), (.int (0 : Int32))])) (fun t k => XS.iload X9.here hx rfl (hb hby at_138) rfl k) ?_
          refine Goes.to (T' := T9.setTop (mkF m 143 #[.val (.int p0), .val (.int p1), .val (.int p2), .val (.int p3), .val (.int (1 : Int32)), .val (.int sm), .val (.int lim), .val (.int wc), .val (.int cc), .val (.ref b7), .val (.int (0 : Int32))] [])) (fun t k => XS.icmpNo X9.here hx rfl (hb hby at_140) rfl (teq (by decide)).2 k) ?_
          refine Goes.to (T' := T9.setTop (mkF m 144 #[.val (.int p0), .val (.int p1), .val (.int p2), .val (.int p3), .val (.int (1 : Int32)), .val (.int sm), .val (.int lim), .val (.int wc), .val (.int cc), .val (.ref b7), .val (.int (0 : Int32))] [(.int (1 : Int32))])) (fun t k => XS.iconst X9.here hx rfl (hb hby at_143) k) ?_
          refine Goes.to (T' := T9.setTop (mkF m 148 #[.val (.int p0), .val (.int p1), .val (.int p2), .val (.int p3), .val (.int (1 : Int32)), .val (.int sm), .val (.int lim), .val (.int wc), .val (.int cc), .val (.ref b7), .val (.int (0 : Int32))] [(.int (1 : Int32))])) (fun t k => XS.goto X9.here hx rfl (pc0 := 144) (pc' := 148) rfl (hb hby at_144) (by decide) (by decide) k) ?_
          obtain ⟨fs, hrL, hrun, hended, hW, hsame⟩ := X9.leave (v := some (.int (1 : Int32))) (fun h => by rw [Bd.returns] at h; cases h)
          subst hQf
          refine ⟨_, _, retN X9 hx (t := .boolean) Bd.returns (by simp) (hb hby at_148) hrL, hrun, hended, _, _, rfl, ?_, ⟨_, rfl⟩, hW, hsame.mono (by decide) (by decide)⟩
          show (fun (v : Option Value) (h : Heap) (L : List Loc) => v = some (.int 1) ∧ Fr n0 L) (some (.int (1 : Int32))) T9.heap _
          rw [e9]
          exact ⟨rfl, N9⟩
      · subst hn1
        rcases Decidable.em (lim < cc) with hk10 | hk10
        · skip
          obtain ⟨T11, h11, X11, e11, E11, A11, D11, -, st11⟩ := newO XJ2 hx hZ hown (hw _ (List.mem_of_getElem? (i := 0) rfl)) (hw _ (List.mem_of_getElem? (i := 1) rfl)) (hw _ (List.mem_of_getElem? (i := 2) rfl)) eJ2 (g := (mkF m 90 #[.val (.int p0), .val (.int p1), .val (.int p2), .val (.int p3), .val (.int (0 : Int32)), .val (.int sm), .val (.int lim), .val (.int wc), .val (.int cc), .unset, .unset] [])) rfl (hb hby at_90) (by decide) (by decide)
          obtain ⟨b11, g11⟩ : ∃ z, z = h0.size := ⟨_, rfl⟩
          rw [← g11] at A11 D11 st11
          have g_b11 : n0 ≤ b11 := Nat.le_trans (own_old O0) (Nat.le_of_eq g11.symm)
          have O0 := O0.ext E11
          have E_b11 := A11
          have F_delayMillis_b11 : Fld Z h11 b11 "com/example/ferryline/ferryline/RedeliveryPolicy" "delayMillis" "J" (.long (0 : Int64)) := D11 (Or.inr (hw _ (List.mem_of_getElem? (i := 12) rfl))) (ty := .long) (by decide)
          have F_multiplier_b11 : Fld Z h11 b11 "com/example/ferryline/ferryline/RedeliveryPolicy" "multiplier" "D" (.double (0 : UInt64)) := D11 (Or.inr (hw _ (List.mem_of_getElem? (i := 14) rfl))) (ty := .double) (by decide)
          have F_maxDelayMillis_b11 : Fld Z h11 b11 "com/example/ferryline/ferryline/RedeliveryPolicy" "maxDelayMillis" "J" (.long (0 : Int64)) := D11 (Or.inr (hw _ (List.mem_of_getElem? (i := 16) rfl))) (ty := .long) (by decide)
          have F_jitter_b11 : Fld Z h11 b11 "com/example/ferryline/ferryline/RedeliveryPolicy" "jitter" "D" (.double (0 : UInt64)) := D11 (Or.inr (hw _ (List.mem_of_getElem? (i := 18) rfl))) (ty := .double) (by decide)
          have F_maxRedeliveries_b11 : Fld Z h11 b11 "com/example/ferryline/ferryline/RedeliveryPolicy" "maxRedeliveries" "I" (.int (0 : Int32)) := D11 (Or.inr (hw _ (List.mem_of_getElem? (i := 20) rfl))) (ty := .int) (by decide)
          refine Goes.to (T' := T11.setTop (mkF m 93 #[.val (.int p0), .val (.int p1), .val (.int p2), .val (.int p3), .val (.int (0 : Int32)), .val (.int sm), .val (.int lim), .val (.int wc), .val (.int cc), .unset, .unset] [(.ref b11)])) st11 ?_
          refine Goes.to (T' := T11.setTop (mkF m 94 #[.val (.int p0), .val (.int p1), .val (.int p2), .val (.int p3), .val (.int (0 : Int32)), .val (.int sm), .val (.int lim), .val (.int wc), .val (.int cc), .unset, .unset] [(.ref b11), (.ref b11)])) (fun t k => XS.dup X11.here hx rfl (hb hby at_93) rfl rfl k) ?_
          refine Goes.to (T' := T11.setTop (mkF m 95 #[.val (.int p0), .val (.int p1), .val (.int p2), .val (.int p3), .val (.int (0 : Int32)), .val (.int sm), .val (.int lim), .val (.int wc), .val (.int cc), .unset, .unset] [(.long (0 : Int64)), (.ref b11), (.ref b11)])) (fun t k => XS.lconst X11.here hx rfl (hb hby at_94) k) ?_
          refine Goes.to (T' := T11.setTop (mkF m 96 #[.val (.int p0), .val (.int p1), .val (.int p2), .val (.int p3), .val (.int (0 : Int32)), .val (.int sm), .val (.int lim), .val (.int wc), .val (.int cc), .unset, .unset] [(.double FP.dconst1), (.long (0 : Int64)), (.ref b11), (.ref b11)])) (fun t k => XS.dconst1 X11.here hx rfl (hb hby at_95) rfl k) ?_
          refine Goes.to (T' := T11.setTop (mkF m 99 #[.val (.int p0), .val (.int p1), .val (.int p2), .val (.int p3), .val (.int (0 : Int32)), .val (.int sm), .val (.int lim), .val (.int wc), .val (.int cc), .unset, .unset] [(.long (-1 : Int64)), (.double FP.dconst1), (.long (0 : Int64)), (.ref b11), (.ref b11)])) (X11.ldc2Long hx hown (mvT hZ (hw _ (List.mem_of_getElem? (i := 3) rfl))) (g := (mkF m 96 #[.val (.int p0), .val (.int p1), .val (.int p2), .val (.int p3), .val (.int (0 : Int32)), .val (.int sm), .val (.int lim), .val (.int wc), .val (.int cc), .unset, .unset] [(.double FP.dconst1), (.long (0 : Int64)), (.ref b11), (.ref b11)])) rfl (hb hby at_96)) ?_
          refine Goes.to (T' := T11.setTop (mkF m 100 #[.val (.int p0), .val (.int p1), .val (.int p2), .val (.int p3), .val (.int (0 : Int32)), .val (.int sm), .val (.int lim), .val (.int wc), .val (.int cc), .unset, .unset] [(.double FP.dconst0), (.long (-1 : Int64)), (.double FP.dconst1), (.long (0 : Int64)), (.ref b11), (.ref b11)])) (fun t k => XS.dconst0 X11.here hx rfl (hb hby at_99) rfl k) ?_
          refine Goes.to (T' := T11.setTop (mkF m 102 #[.val (.int p0), .val (.int p1), .val (.int p2), .val (.int p3), .val (.int (0 : Int32)), .val (.int sm), .val (.int lim), .val (.int wc), .val (.int cc), .unset, .unset] [(.int lim), (.double FP.dconst0), (.long (-1 : Int64)), (.double FP.dconst1), (.long (0 : Int64)), (.ref b11), (.ref b11)])) (fun t k => XS.iload X11.here hx rfl (hb hby at_100) rfl k) ?_
          obtain ⟨_, _, ⟨T12, L12, k12, n12⟩, -, X12, ⟨Lc12, hQ12, l12, y12, z12⟩, st12⟩ := X11.specialBack hx (y := (⟨"com/example/ferryline/ferryline/RedeliveryPolicy", "<init>", "(JDJDI)V"⟩ : MethodName)) rfl hown (mvT hZ (hw _ (List.mem_of_getElem? (i := 4) rfl))) (mvT hZ (hw _ (List.mem_of_getElem? (i := 5) rfl))) (mvT hZ (hw _ (List.mem_of_getElem? (i := 6) rfl))) (by decide) (backOf (W := 1) (rmI l Z a0 hw [] b11 lim   h11 n0 O0  E_b11 F_delayMillis_b11 F_multiplier_b11 F_maxDelayMillis_b11 F_jitter_b11 F_maxRedeliveries_b11 g_b11 hlim) hZ (hw _ (List.mem_of_getElem? (i := 6) rfl)) (hw _ (List.mem_of_getElem? (i := 2) rfl)) (by decide) (by decide)) (g := (mkF m 102 #[.val (.int p0), .val (.int p1), .val (.int p2), .val (.int p3), .val (.int (0 : Int32)), .val (.int sm), .val (.int lim), .val (.int wc), .val (.int cc), .unset, .unset] [(.int lim), (.double FP.dconst0), (.long (-1 : Int64)), (.double FP.dconst1), (.long (0 : Int64)), (.ref b11), (.ref b11)])) rfl (by rw [hml]; rfl) (Steps.refl _) (a := b11) (argsL := [(.long (0 : Int64)), (.double FP.dconst1), (.long (-1 : Int64)), (.double FP.dconst0), (.int lim)]) (rest := [(.ref b11)]) (lenOf pd_55 rfl) rfl (by show 2 * 0 + _ ≤ _; exact Nat.le_of_eq rfl) (hb hby at_102) (fun _ _ => ⟨rfl, e11, (by decide : 1 + 0 ≤ _), (by decide : 5 + 0 ≤ _)⟩)
          dsimp only [Pt.U, Pt.locs, Pt.cells, Pt.slots] at X12 l12 y12 z12 st12 hQ12
          subst l12 y12 z12
          obtain ⟨rfl, Nq12, K12, Fm12⟩ := hQ12
          have N12 := Fr.app NJ2 Nq12
          have E_b11 := E_b11.keep K12
          have O0 := O0.keep K12 (allS g_b11 all0)
          have F_maxRedeliveries_b11 := Fm12
          refine Goes.thru (T' := T12.setTop (mkF m 105 #[.val (.int p0), .val (.int p1), .val (.int p2), .val (.int p3), .val (.int (0 : Int32)), .val (.int sm), .val (.int lim), .val (.int wc), .val (.int cc), .unset, .unset] [(.ref b11)])) st12 ?_
          refine Goes.to (T' := T12.setTop (mkF m 107 #[.val (.int p0), .val (.int p1), .val (.int p2), .val (.int p3), .val (.int (0 : Int32)), .val (.int sm), .val (.int lim), .val (.int wc), .val (.int cc), .val (.ref b11), .unset] [])) (fun t k => XS.astore X12.here hx rfl (hb hby at_105) rfl rfl (l' := #[.val (.int p0), .val (.int p1), .val (.int p2), .val (.int p3), .val (.int (0 : Int32)), .val (.int sm), .val (.int lim), .val (.int wc), .val (.int cc), .val (.ref b11), .unset]) rfl k) ?_
          refine Goes.to (T' := T12.setTop (mkF m 109 #[.val (.int p0), .val (.int p1), .val (.int p2), .val (.int p3), .val (.int (0 : Int32)), .val (.int sm), .val (.int lim), .val (.int wc), .val (.int cc), .val (.ref b11), .unset] [(.int (0 : Int32))])) (fun t k => XS.iload X12.here hx rfl (hb hby at_107) rfl k) ?_
          refine Goes.to (T' := T12.setTop (mkF m 112 #[.val (.int p0), .val (.int p1), .val (.int p2), .val (.int p3), .val (.int (0 : Int32)), .val (.int sm), .val (.int lim), .val (.int wc), .val (.int cc), .val (.ref b11), .unset] [])) (fun t k => XS.ifNo X12.here hx rfl (hb hby at_109) rfl ((if0 _ _).trans (teq (by decide)).2) k) ?_
          refine Goes.to (T' := T12.setTop (mkF m 114 #[.val (.int p0), .val (.int p1), .val (.int p2), .val (.int p3), .val (.int (0 : Int32)), .val (.int sm), .val (.int lim), .val (.int wc), .val (.int cc), .val (.ref b11), .unset] [(.int cc)])) (fun t k => XS.iload X12.here hx rfl (hb hby at_112) rfl k) ?_
          refine Goes.to (T' := T12.setTop (mkF m 115 #[.val (.int p0), .val (.int p1), .val (.int p2), .val (.int p3), .val (.int (0 : Int32)), .val (.int sm), .val (.int lim), .val (.int wc), .val (.int cc), .val (.ref b11), .unset] [(.long (cc.toInt64))])) (fun t k => XS.i2l X12.here hx rfl (hb hby at_114) rfl k) ?_
          refine Goes.to (T' := T12.setTop (mkF m 117 #[.val (.int p0), .val (.int p1), .val (.int p2), .val (.int p3), .val (.int (0 : Int32)), .val (.int sm), .val (.int lim), .val (.int wc), .val (.int cc), .val (.ref b11), .unset] [(.int lim), (.long (cc.toInt64))])) (fun t k => XS.iload X12.here hx rfl (hb hby at_115) rfl k) ?_
          refine Goes.to (T' := T12.setTop (mkF m 118 #[.val (.int p0), .val (.int p1), .val (.int p2), .val (.int p3), .val (.int (0 : Int32)), .val (.int sm), .val (.int lim), .val (.int wc), .val (.int cc), .val (.ref b11), .unset] [(.long (lim.toInt64)), (.long (cc.toInt64))])) (fun t k => XS.i2l X12.here hx rfl (hb hby at_117) rfl k) ?_
          refine Goes.to (T' := T12.setTop (mkF m 119 #[.val (.int p0), .val (.int p1), .val (.int p2), .val (.int p3), .val (.int (0 : Int32)), .val (.int sm), .val (.int lim), .val (.int wc), .val (.int cc), .val (.ref b11), .unset] [(.long ((cc.toInt64) - (lim.toInt64)))])) (fun t k => XS.lsub X12.here hx rfl (hb hby at_118) rfl k) ?_
          refine Goes.to (T' := T12.setTop (mkF m 120 #[.val (.int p0), .val (.int p1), .val (.int p2), .val (.int p3), .val (.int (0 : Int32)), .val (.int sm), .val (.int lim), .val (.int wc), .val (.int cc), .val (.ref b11), .unset] [(.long (1 : Int64)), (.long ((cc.toInt64) - (lim.toInt64)))])) (fun t k => XS.lconst X12.here hx rfl (hb hby at_119) k) ?_
          refine Goes.to (T' := T12.setTop (mkF m 121 #[.val (.int p0), .val (.int p1), .val (.int p2), .val (.int p3), .val (.int (0 : Int32)), .val (.int sm), .val (.int lim), .val (.int wc), .val (.int cc), .val (.ref b11), .unset] [(.int (lcmpW ((cc.toInt64) - (lim.toInt64)) (1 : Int64)))])) (fun t k => XS.lcmp X12.here hx rfl (hb hby at_120) rfl k) ?_
          have hc121_13 : ¬ (((cc.toInt64) - (lim.toInt64)) < (1 : Int64)) := (fun q => (own_sub cc lim).mp q hk10)
          refine Goes.to (T' := T12.setTop (mkF m 124 #[.val (.int p0), .val (.int p1), .val (.int p2), .val (.int p3), .val (.int (0 : Int32)), .val (.int sm), .val (.int lim), .val (.int wc), .val (.int cc), .val (.ref b11), .unset] [])) (fun t k => XS.ifNo X12.here hx rfl (hb hby at_121) rfl ((if0 _ _).trans (flt (fun q => hc121_13 ((lw_lt ((cc.toInt64) - (lim.toInt64)) (1 : Int64)).mp q))).1) k) ?_
          refine Goes.to (T' := T12.setTop (mkF m 125 #[.val (.int p0), .val (.int p1), .val (.int p2), .val (.int p3), .val (.int (0 : Int32)), .val (.int sm), .val (.int lim), .val (.int wc), .val (.int cc), .val (.ref b11), .unset] [(.int (1 : Int32))])) (fun t k => XS.iconst X12.here hx rfl (hb hby at_124) k) ?_
          refine Goes.to (T' := T12.setTop (mkF m 129 #[.val (.int p0), .val (.int p1), .val (.int p2), .val (.int p3), .val (.int (0 : Int32)), .val (.int sm), .val (.int lim), .val (.int wc), .val (.int cc), .val (.ref b11), .unset] [(.int (1 : Int32))])) (fun t k => XS.goto X12.here hx rfl (pc0 := 125) (pc' := 129) rfl (hb hby at_125) (by decide) (by decide) k) ?_
          refine Goes.to (T' := T12.setTop (mkF m 131 #[.val (.int p0), .val (.int p1), .val (.int p2), .val (.int p3), .val (.int (0 : Int32)), .val (.int sm), .val (.int lim), .val (.int wc), .val (.int cc), .val (.ref b11), .val (.int (1 : Int32))] [])) (fun t k => XS.istore X12.here hx rfl (hb hby at_129) rfl (l' := #[.val (.int p0), .val (.int p1), .val (.int p2), .val (.int p3), .val (.int (0 : Int32)), .val (.int sm), .val (.int lim), .val (.int wc), .val (.int cc), .val (.ref b11), .val (.int (1 : Int32))]) rfl k) ?_
          refine Goes.to (T' := T12.setTop (mkF m 133 #[.val (.int p0), .val (.int p1), .val (.int p2), .val (.int p3), .val (.int (0 : Int32)), .val (.int sm), .val (.int lim), .val (.int wc), .val (.int cc), .val (.ref b11), .val (.int (1 : Int32))] [(.ref b11)])) (fun t k => XS.aload X12.here hx rfl (hb hby at_131) rfl rfl k) ?_
          refine Goes.to (T' := T12.setTop (mkF m 135 #[.val (.int p0), .val (.int p1), .val (.int p2), .val (.int p3), .val (.int (0 : Int32)), .val (.int sm), .val (.int lim), .val (.int wc), .val (.int cc), .val (.ref b11), .val (.int (1 : Int32))] [(.int cc), (.ref b11)])) (fun t k => XS.iload X12.here hx rfl (hb hby at_133) rfl k) ?_
          obtain ⟨cq14, kq14, q14a, q14b, q14c⟩ := isOf hZ rfl E_b11
          obtain ⟨_, _, ⟨T14, L14, k14, n14⟩, -, X14, ⟨Lc14, hQ14, l14, y14, z14⟩, st14⟩ := X12.virtualBack hx (y := (⟨"com/example/ferryline/ferryline/RedeliveryPolicy", "exhausted", "(I)Z"⟩ : MethodName)) (z := (⟨"com/example/ferryline/ferryline/RedeliveryPolicy", "exhausted", "(I)Z"⟩ : MethodName)) hown (mvT hZ (hw _ (List.mem_of_getElem? (i := 21) rfl))) (mvT hZ (hw _ (List.mem_of_getElem? (i := 22) rfl))) (notFace_of_selects (args := #[]) (mvT hZ (hw _ (List.mem_of_getElem? (i := 24) rfl)))) (mvT hZ (hw _ (List.mem_of_getElem? (i := 24) rfl))) (mvT hZ (hw _ (List.mem_of_getElem? (i := 23) rfl))) (by decide) (backOf (W := 0) (rmE l Z a0 hw [] b11 cc  lim (1 : Int32) T12.heap n0 O0  F_maxRedeliveries_b11 (by first | (simp [hn2, hk10]; done) | ((repeat' split) <;> first | rfl | contradiction | simp_all))) hZ (hw _ (List.mem_of_getElem? (i := 25) rfl)) (hw _ (List.mem_of_getElem? (i := 2) rfl)) (by decide) (by decide)) q14a q14c (g := (mkF m 135 #[.val (.int p0), .val (.int p1), .val (.int p2), .val (.int p3), .val (.int (0 : Int32)), .val (.int sm), .val (.int lim), .val (.int wc), .val (.int cc), .val (.ref b11), .val (.int (1 : Int32))] [(.int cc), (.ref b11)])) rfl (by rw [hml]; rfl) (Steps.refl _) (argsL := [(.int cc)]) (rest := []) (lenOf pd_56 rfl) rfl (by show 2 * 0 + _ ≤ _; exact Nat.le_of_eq rfl) (hb hby at_135) (fun _ _ => ⟨rfl, rfl, (by decide : 1 + 0 ≤ _), (by decide : 5 + 0 ≤ _)⟩)
          dsimp only [Pt.U, Pt.locs, Pt.cells, Pt.slots] at X14 l14 y14 z14 st14 hQ14
          subst l14 y14 z14
          obtain ⟨rfl, Nq14, e14⟩ := hQ14
          have N14 := Fr.app N12 Nq14
          refine Goes.thru (T' := T14.setTop (mkF m 138 #[.val (.int p0), .val (.int p1), .val (.int p2), .val (.int p3), .val (.int (0 : Int32)), .val (.int sm), .val (.int lim), .val (.int wc), .val (.int cc), .val (.ref b11), .val (.int (1 : Int32))] [(.int (1 : Int32))])) st14 ?_
          refine Goes.to (T' := T14.setTop (mkF m 140 #[.val (.int p0), .val (.int p1), .val (.int p2), .val (.int p3), .val (.int (0 : Int32)), .val (.int sm), .val (.int lim), .val (.int wc), .val (.int cc), .val (.ref b11), .val (.int (1 : Int32))] [(.int (1 : Int32)), (.int (1 : Int32))])) (fun t k => XS.iload X14.here hx rfl (hb hby at_138) rfl k) ?_
          refine Goes.to (T' := T14.setTop (mkF m 143 #[.val (.int p0), .val (.int p1), .val (.int p2), .val (.int p3), .val (.int (0 : Int32)), .val (.int sm), .val (.int lim), .val (.int wc), .val (.int cc), .val (.ref b11), .val (.int (1 : Int32))] [])) (fun t k => XS.icmpNo X14.here hx rfl (hb hby at_140) rfl (teq (by decide)).2 k) ?_
          refine Goes.to (T' := T14.setTop (mkF m 144 #[.val (.int p0), .val (.int p1), .val (.int p2), .val (.int p3), .val (.int (0 : Int32)), .val (.int sm), .val (.int lim), .val (.int wc), .val (.int cc), .val (.ref b11), .val (.int (1 : Int32))] [(.int (1 : Int32))])) (fun t k => XS.iconst X14.here hx rfl (hb hby at_143) k) ?_
          refine Goes.to (T' := T14.setTop (mkF m 148 #[.val (.int p0), .val (.int p1), .val (.int p2), .val (.int p3), .val (.int (0 : Int32)), .val (.int sm), .val (.int lim), .val (.int wc), .val (.int cc), .val (.ref b11), .val (.int (1 : Int32))] [(.int (1 : Int32))])) (fun t k => XS.goto X14.here hx rfl (pc0 := 144) (pc' := 148) rfl (hb hby at_144) (by decide) (by decide) k) ?_
          obtain ⟨fs, hrL, hrun, hended, hW, hsame⟩ := X14.leave (v := some (.int (1 : Int32))) (fun h => by rw [Bd.returns] at h; cases h)
          subst hQf
          refine ⟨_, _, retN X14 hx (t := .boolean) Bd.returns (by simp) (hb hby at_148) hrL, hrun, hended, _, _, rfl, ?_, ⟨_, rfl⟩, hW, hsame.mono (by decide) (by decide)⟩
          show (fun (v : Option Value) (h : Heap) (L : List Loc) => v = some (.int 1) ∧ Fr n0 L) (some (.int (1 : Int32))) T14.heap _
          rw [e14]
          exact ⟨rfl, N14⟩
        · skip
          obtain ⟨T15, h15, X15, e15, E15, A15, D15, -, st15⟩ := newO XJ2 hx hZ hown (hw _ (List.mem_of_getElem? (i := 0) rfl)) (hw _ (List.mem_of_getElem? (i := 1) rfl)) (hw _ (List.mem_of_getElem? (i := 2) rfl)) eJ2 (g := (mkF m 90 #[.val (.int p0), .val (.int p1), .val (.int p2), .val (.int p3), .val (.int (0 : Int32)), .val (.int sm), .val (.int lim), .val (.int wc), .val (.int cc), .unset, .unset] [])) rfl (hb hby at_90) (by decide) (by decide)
          obtain ⟨b15, g15⟩ : ∃ z, z = h0.size := ⟨_, rfl⟩
          rw [← g15] at A15 D15 st15
          have g_b15 : n0 ≤ b15 := Nat.le_trans (own_old O0) (Nat.le_of_eq g15.symm)
          have O0 := O0.ext E15
          have E_b15 := A15
          have F_delayMillis_b15 : Fld Z h15 b15 "com/example/ferryline/ferryline/RedeliveryPolicy" "delayMillis" "J" (.long (0 : Int64)) := D15 (Or.inr (hw _ (List.mem_of_getElem? (i := 12) rfl))) (ty := .long) (by decide)
          have F_multiplier_b15 : Fld Z h15 b15 "com/example/ferryline/ferryline/RedeliveryPolicy" "multiplier" "D" (.double (0 : UInt64)) := D15 (Or.inr (hw _ (List.mem_of_getElem? (i := 14) rfl))) (ty := .double) (by decide)
          have F_maxDelayMillis_b15 : Fld Z h15 b15 "com/example/ferryline/ferryline/RedeliveryPolicy" "maxDelayMillis" "J" (.long (0 : Int64)) := D15 (Or.inr (hw _ (List.mem_of_getElem? (i := 16) rfl))) (ty := .long) (by decide)
          have F_jitter_b15 : Fld Z h15 b15 "com/example/ferryline/ferryline/RedeliveryPolicy" "jitter" "D" (.double (0 : UInt64)) := D15 (Or.inr (hw _ (List.mem_of_getElem? (i := 18) rfl))) (ty := .double) (by decide)
          have F_maxRedeliveries_b15 : Fld Z h15 b15 "com/example/ferryline/ferryline/RedeliveryPolicy" "maxRedeliveries" "I" (.int (0 : Int32)) := D15 (Or.inr (hw _ (List.mem_of_getElem? (i := 20) rfl))) (ty := .int) (by decide)
          refine Goes.to (T' := T15.setTop (mkF m 93 #[.val (.int p0), .val (.int p1), .val (.int p2), .val (.int p3), .val (.int (0 : Int32)), .val (.int sm), .val (.int lim), .val (.int wc), .val (.int cc), .unset, .unset] [(.ref b15)])) st15 ?_
          refine Goes.to (T' := T15.setTop (mkF m 94 #[.val (.int p0), .val (.int p1), .val (.int p2), .val (.int p3), .val (.int (0 : Int32)), .val (.int sm), .val (.int lim), .val (.int wc), .val (.int cc), .unset, .unset] [(.ref b15), (.ref b15)])) (fun t k => XS.dup X15.here hx rfl (hb hby at_93) rfl rfl k) ?_
          refine Goes.to (T' := T15.setTop (mkF m 95 #[.val (.int p0), .val (.int p1), .val (.int p2), .val (.int p3), .val (.int (0 : Int32)), .val (.int sm), .val (.int lim), .val (.int wc), .val (.int cc), .unset, .unset] [(.long (0 : Int64)), (.ref b15), (.ref b15)])) (fun t k => XS.lconst X15.here hx rfl (hb hby at_94) k) ?_
          refine Goes.to (T' := T15.setTop (mkF m 96 #[.val (.int p0), .val (.int p1), .val (.int p2), .val (.int p3), .val (.int (0 : Int32)), .val (.int sm), .val (.int lim), .val (.int wc), .val (.int cc), .unset, .unset] [(.double FP.dconst1), (.long (0 : Int64)), (.ref b15), (.ref b15)])) (fun t k => XS.dconst1 X15.here hx rfl (hb hby at_95) rfl k) ?_
          refine Goes.to (T' := T15.setTop (mkF m 99 #[.val (.int p0), .val (.int p1), .val (.int p2), .val (.int p3), .val (.int (0 : Int32)), .val (.int sm), .val (.int lim), .val (.int wc), .val (.int cc), .unset, .unset] [(.long (-1 : Int64)), (.double FP.dconst1), (.long (0 : Int64)), (.ref b15), (.ref b15)])) (X15.ldc2Long hx hown (mvT hZ (hw _ (List.mem_of_getElem? (i := 3) rfl))) (g := (mkF m 96 #[.val (.int p0), .val (.int p1), .val (.int p2), .val (.int p3), .val (.int (0 : Int32)), .val (.int sm), .val (.int lim), .val (.int wc), .val (.int cc), .unset, .unset] [(.double FP.dconst1), (.long (0 : Int64)), (.ref b15), (.ref b15)])) rfl (hb hby at_96)) ?_
          refine Goes.to (T' := T15.setTop (mkF m 100 #[.val (.int p0), .val (.int p1), .val (.int p2), .val (.int p3), .val (.int (0 : Int32)), .val (.int sm), .val (.int lim), .val (.int wc), .val (.int cc), .unset, .unset] [(.double FP.dconst0), (.long (-1 : Int64)), (.double FP.dconst1), (.long (0 : Int64)), (.ref b15), (.ref b15)])) (fun t k => XS.dconst0 X15.here hx rfl (hb hby at_99) rfl k) ?_
          refine Goes.to (T' := T15.setTop (mkF m 102 #[.val (.int p0), .val (.int p1), .val (.int p2), .val (.int p3), .val (.int (0 : Int32)), .val (.int sm), .val (.int lim), .val (.int wc), .val (.int cc), .unset, .unset] [(.int lim), (.double FP.dconst0), (.long (-1 : Int64)), (.double FP.dconst1), (.long (0 : Int64)), (.ref b15), (.ref b15)])) (fun t k => XS.iload X15.here hx rfl (hb hby at_100) rfl k) ?_
          obtain ⟨_, _, ⟨T16, L16, k16, n16⟩, -, X16, ⟨Lc16, hQ16, l16, y16, z16⟩, st16⟩ := X15.specialBack hx (y := (⟨"com/example/ferryline/ferryline/RedeliveryPolicy", "<init>", "(JDJDI)V"⟩ : MethodName)) rfl hown (mvT hZ (hw _ (List.mem_of_getElem? (i := 4) rfl))) (mvT hZ (hw _ (List.mem_of_getElem? (i := 5) rfl))) (mvT hZ (hw _ (List.mem_of_getElem? (i := 6) rfl))) (by decide) (backOf (W := 1) (rmI l Z a0 hw [] b15 lim   h15 n0 O0  E_b15 F_delayMillis_b15 F_multiplier_b15 F_maxDelayMillis_b15 F_jitter_b15 F_maxRedeliveries_b15 g_b15 hlim) hZ (hw _ (List.mem_of_getElem? (i := 6) rfl)) (hw _ (List.mem_of_getElem? (i := 2) rfl)) (by decide) (by decide)) (g := (mkF m 102 #[.val (.int p0), .val (.int p1), .val (.int p2), .val (.int p3), .val (.int (0 : Int32)), .val (.int sm), .val (.int lim), .val (.int wc), .val (.int cc), .unset, .unset] [(.int lim), (.double FP.dconst0), (.long (-1 : Int64)), (.double FP.dconst1), (.long (0 : Int64)), (.ref b15), (.ref b15)])) rfl (by rw [hml]; rfl) (Steps.refl _) (a := b15) (argsL := [(.long (0 : Int64)), (.double FP.dconst1), (.long (-1 : Int64)), (.double FP.dconst0), (.int lim)]) (rest := [(.ref b15)]) (lenOf pd_55 rfl) rfl (by show 2 * 0 + _ ≤ _; exact Nat.le_of_eq rfl) (hb hby at_102) (fun _ _ => ⟨rfl, e15, (by decide : 1 + 0 ≤ _), (by decide : 5 + 0 ≤ _)⟩)
          dsimp only [Pt.U, Pt.locs, Pt.cells, Pt.slots] at X16 l16 y16 z16 st16 hQ16
          subst l16 y16 z16
          obtain ⟨rfl, Nq16, K16, Fm16⟩ := hQ16
          have N16 := Fr.app NJ2 Nq16
          have E_b15 := E_b15.keep K16
          have O0 := O0.keep K16 (allS g_b15 all0)
          have F_maxRedeliveries_b15 := Fm16
          refine Goes.thru (T' := T16.setTop (mkF m 105 #[.val (.int p0), .val (.int p1), .val (.int p2), .val (.int p3), .val (.int (0 : Int32)), .val (.int sm), .val (.int lim), .val (.int wc), .val (.int cc), .unset, .unset] [(.ref b15)])) st16 ?_
          refine Goes.to (T' := T16.setTop (mkF m 107 #[.val (.int p0), .val (.int p1), .val (.int p2), .val (.int p3), .val (.int (0 : Int32)), .val (.int sm), .val (.int lim), .val (.int wc), .val (.int cc), .val (.ref b15), .unset] [])) (fun t k => XS.astore X16.here hx rfl (hb hby at_105) rfl rfl (l' := #[.val (.int p0), .val (.int p1), .val (.int p2), .val (.int p3), .val (.int (0 : Int32)), .val (.int sm), .val (.int lim), .val (.int wc), .val (.int cc), .val (.ref b15), .unset]) rfl k) ?_
          refine Goes.to (T' := T16.setTop (mkF m 109 #[.val (.int p0), .val (.int p1), .val (.int p2), .val (.int p3), .val (.int (0 : Int32)), .val (.int sm), .val (.int lim), .val (.int wc), .val (.int cc), .val (.ref b15), .unset] [(.int (0 : Int32))])) (fun t k => XS.iload X16.here hx rfl (hb hby at_107) rfl k) ?_
          refine Goes.to (T' := T16.setTop (mkF m 112 #[.val (.int p0), .val (.int p1), .val (.int p2), .val (.int p3), .val (.int (0 : Int32)), .val (.int sm), .val (.int lim), .val (.int wc), .val (.int cc), .val (.ref b15), .unset] [])) (fun t k => XS.ifNo X16.here hx rfl (hb hby at_109) rfl ((if0 _ _).trans (teq (by decide)).2) k) ?_
          refine Goes.to (T' := T16.setTop (mkF m 114 #[.val (.int p0), .val (.int p1), .val (.int p2), .val (.int p3), .val (.int (0 : Int32)), .val (.int sm), .val (.int lim), .val (.int wc), .val (.int cc), .val (.ref b15), .unset] [(.int cc)])) (fun t k => XS.iload X16.here hx rfl (hb hby at_112) rfl k) ?_
          refine Goes.to (T' := T16.setTop (mkF m 115 #[.val (.int p0), .val (.int p1), .val (.int p2), .val (.int p3), .val (.int (0 : Int32)), .val (.int sm), .val (.int lim), .val (.int wc), .val (.int cc), .val (.ref b15), .unset] [(.long (cc.toInt64))])) (fun t k => XS.i2l X16.here hx rfl (hb hby at_114) rfl k) ?_
          refine Goes.to (T' := T16.setTop (mkF m 117 #[.val (.int p0), .val (.int p1), .val (.int p2), .val (.int p3), .val (.int (0 : Int32)), .val (.int sm), .val (.int lim), .val (.int wc), .val (.int cc), .val (.ref b15), .unset] [(.int lim), (.long (cc.toInt64))])) (fun t k => XS.iload X16.here hx rfl (hb hby at_115) rfl k) ?_
          refine Goes.to (T' := T16.setTop (mkF m 118 #[.val (.int p0), .val (.int p1), .val (.int p2), .val (.int p3), .val (.int (0 : Int32)), .val (.int sm), .val (.int lim), .val (.int wc), .val (.int cc), .val (.ref b15), .unset] [(.long (lim.toInt64)), (.long (cc.toInt64))])) (fun t k => XS.i2l X16.here hx rfl (hb hby at_117) rfl k) ?_
          refine Goes.to (T' := T16.setTop (mkF m 119 #[.val (.int p0), .val (.int p1), .val (.int p2), .val (.int p3), .val (.int (0 : Int32)), .val (.int sm), .val (.int lim), .val (.int wc), .val (.int cc), .val (.ref b15), .unset] [(.long ((cc.toInt64) - (lim.toInt64)))])) (fun t k => XS.lsub X16.here hx rfl (hb hby at_118) rfl k) ?_
          refine Goes.to (T' := T16.setTop (mkF m 120 #[.val (.int p0), .val (.int p1), .val (.int p2), .val (.int p3), .val (.int (0 : Int32)), .val (.int sm), .val (.int lim), .val (.int wc), .val (.int cc), .val (.ref b15), .unset] [(.long (1 : Int64)), (.long ((cc.toInt64) - (lim.toInt64)))])) (fun t k => XS.lconst X16.here hx rfl (hb hby at_119) k) ?_
          refine Goes.to (T' := T16.setTop (mkF m 121 #[.val (.int p0), .val (.int p1), .val (.int p2), .val (.int p3), .val (.int (0 : Int32)), .val (.int sm), .val (.int lim), .val (.int wc), .val (.int cc), .val (.ref b15), .unset] [(.int (lcmpW ((cc.toInt64) - (lim.toInt64)) (1 : Int64)))])) (fun t k => XS.lcmp X16.here hx rfl (hb hby at_120) rfl k) ?_
          have hc121_17 : ((cc.toInt64) - (lim.toInt64)) < (1 : Int64) := ((own_sub cc lim).mpr hk10)
          refine Goes.to (T' := T16.setTop (mkF m 128 #[.val (.int p0), .val (.int p1), .val (.int p2), .val (.int p3), .val (.int (0 : Int32)), .val (.int sm), .val (.int lim), .val (.int wc), .val (.int cc), .val (.ref b15), .unset] [])) (fun t k => XS.ifYes X16.here hx rfl (pc0 := 121) (pc' := 128) rfl (hb hby at_121) rfl ((if0 _ _).trans (tlt ((lw_lt ((cc.toInt64) - (lim.toInt64)) (1 : Int64)).mpr hc121_17)).1) (by decide) (by decide) k) ?_
          refine Goes.to (T' := T16.setTop (mkF m 129 #[.val (.int p0), .val (.int p1), .val (.int p2), .val (.int p3), .val (.int (0 : Int32)), .val (.int sm), .val (.int lim), .val (.int wc), .val (.int cc), .val (.ref b15), .unset] [(.int (0 : Int32))])) (fun t k => XS.iconst X16.here hx rfl (hb hby at_128) k) ?_
          refine Goes.to (T' := T16.setTop (mkF m 131 #[.val (.int p0), .val (.int p1), .val (.int p2), .val (.int p3), .val (.int (0 : Int32)), .val (.int sm), .val (.int lim), .val (.int wc), .val (.int cc), .val (.ref b15), .val (.int (0 : Int32))] [])) (fun t k => XS.istore X16.here hx rfl (hb hby at_129) rfl (l' := #[.val (.int p0), .val (.int p1), .val (.int p2), .val (.int p3), .val (.int (0 : Int32)), .val (.int sm), .val (.int lim), .val (.int wc), .val (.int cc), .val (.ref b15), .val (.int (0 : Int32))]) rfl k) ?_
          refine Goes.to (T' := T16.setTop (mkF m 133 #[.val (.int p0), .val (.int p1), .val (.int p2), .val (.int p3), .val (.int (0 : Int32)), .val (.int sm), .val (.int lim), .val (.int wc), .val (.int cc), .val (.ref b15), .val (.int (0 : Int32))] [(.ref b15)])) (fun t k => XS.aload X16.here hx rfl (hb hby at_131) rfl rfl k) ?_
          refine Goes.to (T' := T16.setTop (mkF m 135 #[.val (.int p0), .val (.int p1), .val (.int p2), .val (.int p3), .val (.int (0 : Int32)), .val (.int sm), .val (.int lim), .val (.int wc), .val (.int cc), .val (.ref b15), .val (.int (0 : Int32))] [(.int cc), (.ref b15)])) (fun t k => XS.iload X16.here hx rfl (hb hby at_133) rfl k) ?_
          obtain ⟨cq18, kq18, q18a, q18b, q18c⟩ := isOf hZ rfl E_b15
          obtain ⟨_, _, ⟨T18, L18, k18, n18⟩, -, X18, ⟨Lc18, hQ18, l18, y18, z18⟩, st18⟩ := X16.virtualBack hx (y := (⟨"com/example/ferryline/ferryline/RedeliveryPolicy", "exhausted", "(I)Z"⟩ : MethodName)) (z := (⟨"com/example/ferryline/ferryline/RedeliveryPolicy", "exhausted", "(I)Z"⟩ : MethodName)) hown (mvT hZ (hw _ (List.mem_of_getElem? (i := 21) rfl))) (mvT hZ (hw _ (List.mem_of_getElem? (i := 22) rfl))) (notFace_of_selects (args := #[]) (mvT hZ (hw _ (List.mem_of_getElem? (i := 24) rfl)))) (mvT hZ (hw _ (List.mem_of_getElem? (i := 24) rfl))) (mvT hZ (hw _ (List.mem_of_getElem? (i := 23) rfl))) (by decide) (backOf (W := 0) (rmE l Z a0 hw [] b15 cc  lim (0 : Int32) T16.heap n0 O0  F_maxRedeliveries_b15 (by first | (simp [hn2, hk10]; done) | ((repeat' split) <;> first | rfl | contradiction | simp_all))) hZ (hw _ (List.mem_of_getElem? (i := 25) rfl)) (hw _ (List.mem_of_getElem? (i := 2) rfl)) (by decide) (by decide)) q18a q18c (g := (mkF m 135 #[.val (.int p0), .val (.int p1), .val (.int p2), .val (.int p3), .val (.int (0 : Int32)), .val (.int sm), .val (.int lim), .val (.int wc), .val (.int cc), .val (.ref b15), .val (.int (0 : Int32))] [(.int cc), (.ref b15)])) rfl (by rw [hml]; rfl) (Steps.refl _) (argsL := [(.int cc)]) (rest := []) (lenOf pd_56 rfl) rfl (by show 2 * 0 + _ ≤ _; exact Nat.le_of_eq rfl) (hb hby at_135) (fun _ _ => ⟨rfl, rfl, (by decide : 1 + 0 ≤ _), (by decide : 5 + 0 ≤ _)⟩)
          dsimp only [Pt.U, Pt.locs, Pt.cells, Pt.slots] at X18 l18 y18 z18 st18 hQ18
          subst l18 y18 z18
          obtain ⟨rfl, Nq18, e18⟩ := hQ18
          have N18 := Fr.app N16 Nq18
          refine Goes.thru (T' := T18.setTop (mkF m 138 #[.val (.int p0), .val (.int p1), .val (.int p2), .val (.int p3), .val (.int (0 : Int32)), .val (.int sm), .val (.int lim), .val (.int wc), .val (.int cc), .val (.ref b15), .val (.int (0 : Int32))] [(.int (0 : Int32))])) st18 ?_
          refine Goes.to (T' := T18.setTop (mkF m 140 #[.val (.int p0), .val (.int p1), .val (.int p2), .val (.int p3), .val (.int (0 : Int32)), .val (.int sm), .val (.int lim), .val (.int wc), .val (.int cc), .val (.ref b15), .val (.int (0 : Int32))] [(.int (0 : Int32)), (.int (0 : Int32))])) (fun t k => XS.iload X18.here hx rfl (hb hby at_138) rfl k) ?_
          refine Goes.to (T' := T18.setTop (mkF m 143 #[.val (.int p0), .val (.int p1), .val (.int p2), .val (.int p3), .val (.int (0 : Int32)), .val (.int sm), .val (.int lim), .val (.int wc), .val (.int cc), .val (.ref b15), .val (.int (0 : Int32))] [])) (fun t k => XS.icmpNo X18.here hx rfl (hb hby at_140) rfl (teq (by decide)).2 k) ?_
          refine Goes.to (T' := T18.setTop (mkF m 144 #[.val (.int p0), .val (.int p1), .val (.int p2), .val (.int p3), .val (.int (0 : Int32)), .val (.int sm), .val (.int lim), .val (.int wc), .val (.int cc), .val (.ref b15), .val (.int (0 : Int32))] [(.int (1 : Int32))])) (fun t k => XS.iconst X18.here hx rfl (hb hby at_143) k) ?_
          refine Goes.to (T' := T18.setTop (mkF m 148 #[.val (.int p0), .val (.int p1), .val (.int p2), .val (.int p3), .val (.int (0 : Int32)), .val (.int sm), .val (.int lim), .val (.int wc), .val (.int cc), .val (.ref b15), .val (.int (0 : Int32))] [(.int (1 : Int32))])) (fun t k => XS.goto X18.here hx rfl (pc0 := 144) (pc' := 148) rfl (hb hby at_144) (by decide) (by decide) k) ?_
          obtain ⟨fs, hrL, hrun, hended, hW, hsame⟩ := X18.leave (v := some (.int (1 : Int32))) (fun h => by rw [Bd.returns] at h; cases h)
          subst hQf
          refine ⟨_, _, retN X18 hx (t := .boolean) Bd.returns (by simp) (hb hby at_148) hrL, hrun, hended, _, _, rfl, ?_, ⟨_, rfl⟩, hW, hsame.mono (by decide) (by decide)⟩
          show (fun (v : Option Value) (h : Heap) (L : List Loc) => v = some (.int 1) ∧ Fr n0 L) (some (.int (1 : Int32))) T18.heap _
          rw [e18]
          exact ⟨rfl, N18⟩
    refine Goes.to (T' := TJ1.setTop (mkF m 58 #[.val (.int p0), .val (.int p1), .val (.int p2), .val (.int p3), .val (.int nn), .val (.int sm), .val (.int lim), .unset, .unset, .unset, .unset] [(.int p3)])) (fun t k => XS.iloadN XJ1.here hx rfl (hb hby at_57) rfl k) ?_
    refine Goes.to (T' := TJ1.setTop (mkF m 59 #[.val (.int p0), .val (.int p1), .val (.int p2), .val (.int p3), .val (.int nn), .val (.int sm), .val (.int lim), .unset, .unset, .unset, .unset] [(.int (2 : Int32)), (.int p3)])) (fun t k => XS.iconst XJ1.here hx rfl (hb hby at_58) k) ?_
    refine Goes.to (T' := TJ1.setTop (mkF m 60 #[.val (.int p0), .val (.int p1), .val (.int p2), .val (.int p3), .val (.int nn), .val (.int sm), .val (.int lim), .unset, .unset, .unset, .unset] [(.int (p3 &&& (2 : Int32)))])) (fun t k => XS.iand XJ1.here hx rfl (hb hby at_59) rfl k) ?_
    rcases Decidable.em ((p3 &&& (2 : Int32)) = (0 : Int32)) with hc60_19 | hc60_19
    · skip
      refine Goes.to (T' := TJ1.setTop (mkF m 67 #[.val (.int p0), .val (.int p1), .val (.int p2), .val (.int p3), .val (.int nn), .val (.int sm), .val (.int lim), .unset, .unset, .unset, .unset] [])) (fun t k => XS.ifYes XJ1.here hx rfl (pc0 := 60) (pc' := 67) rfl (hb hby at_60) rfl ((if0 _ _).trans (teq hc60_19).1) (by decide) (by decide) k) ?_
      refine Goes.to (T' := TJ1.setTop (mkF m 68 #[.val (.int p0), .val (.int p1), .val (.int p2), .val (.int p3), .val (.int nn), .val (.int sm), .val (.int lim), .unset, .unset, .unset, .unset] [(.int (0 : Int32))])) (fun t k => XS.iconst XJ1.here hx rfl (hb hby at_67) k) ?_
      refine Goes.to (T' := TJ1.setTop (mkF m 70 #[.val (.int p0), .val (.int p1), .val (.int p2), .val (.int p3), .val (.int nn), .val (.int sm), .val (.int lim), .val (.int (0 : Int32)), .unset, .unset, .unset] [])) (fun t k => XS.istore XJ1.here hx rfl (hb hby at_68) rfl (l' := #[.val (.int p0), .val (.int p1), .val (.int p2), .val (.int p3), .val (.int nn), .val (.int sm), .val (.int lim), .val (.int (0 : Int32)), .unset, .unset, .unset]) rfl k) ?_
      refine Goes.to (T' := TJ1.setTop (mkF m 72 #[.val (.int p0), .val (.int p1), .val (.int p2), .val (.int p3), .val (.int nn), .val (.int sm), .val (.int lim), .val (.int (0 : Int32)), .unset, .unset, .unset] [(.int (0 : Int32))])) (fun t k => XS.iload XJ1.here hx rfl (hb hby at_70) rfl k) ?_
      refine Goes.to (T' := TJ1.setTop (mkF m 79 #[.val (.int p0), .val (.int p1), .val (.int p2), .val (.int p3), .val (.int nn), .val (.int sm), .val (.int lim), .val (.int (0 : Int32)), .unset, .unset, .unset] [])) (fun t k => XS.ifYes XJ1.here hx rfl (pc0 := 72) (pc' := 79) rfl (hb hby at_72) rfl ((if0 _ _).trans (teq (by decide)).1) (by decide) (by decide) k) ?_
      refine Goes.to (T' := TJ1.setTop (mkF m 81 #[.val (.int p0), .val (.int p1), .val (.int p2), .val (.int p3), .val (.int nn), .val (.int sm), .val (.int lim), .val (.int (0 : Int32)), .unset, .unset, .unset] [(.int lim)])) (fun t k => XS.iload XJ1.here hx rfl (hb hby at_79) rfl k) ?_
      refine Goes.to (T' := TJ1.setTop (mkF m 82 #[.val (.int p0), .val (.int p1), .val (.int p2), .val (.int p3), .val (.int nn), .val (.int sm), .val (.int lim), .val (.int (0 : Int32)), .unset, .unset, .unset] [(.int p2), (.int lim)])) (fun t k => XS.iloadN XJ1.here hx rfl (hb hby at_81) rfl k) ?_
      refine Goes.to (T' := TJ1.setTop (mkF m 84 #[.val (.int p0), .val (.int p1), .val (.int p2), .val (.int p3), .val (.int nn), .val (.int sm), .val (.int lim), .val (.int (0 : Int32)), .unset, .unset, .unset] [(.int (7 : Int32)), (.int p2), (.int lim)])) (fun t k => XS.bipush XJ1.here hx rfl (hb hby at_82) k) ?_
      refine Goes.to (T' := TJ1.setTop (mkF m 85 #[.val (.int p0), .val (.int p1), .val (.int p2), .val (.int p3), .val (.int nn), .val (.int sm), .val (.int lim), .val (.int (0 : Int32)), .unset, .unset, .unset] [(.int (p2 &&& (7 : Int32))), (.int lim)])) (fun t k => XS.iand XJ1.here hx rfl (hb hby at_84) rfl k) ?_
      refine Goes.to (T' := TJ1.setTop (mkF m 86 #[.val (.int p0), .val (.int p1), .val (.int p2), .val (.int p3), .val (.int nn), .val (.int sm), .val (.int lim), .val (.int (0 : Int32)), .unset, .unset, .unset] [(.int (4 : Int32)), (.int (p2 &&& (7 : Int32))), (.int lim)])) (fun t k => XS.iconst XJ1.here hx rfl (hb hby at_85) k) ?_
      refine Goes.to (T' := TJ1.setTop (mkF m 87 #[.val (.int p0), .val (.int p1), .val (.int p2), .val (.int p3), .val (.int nn), .val (.int sm), .val (.int lim), .val (.int (0 : Int32)), .unset, .unset, .unset] [(.int ((p2 &&& (7 : Int32)) - (4 : Int32))), (.int lim)])) (fun t k => XS.isub XJ1.here hx rfl (hb hby at_86) rfl k) ?_
      refine Goes.to (T' := TJ1.setTop (mkF m 88 #[.val (.int p0), .val (.int p1), .val (.int p2), .val (.int p3), .val (.int nn), .val (.int sm), .val (.int lim), .val (.int (0 : Int32)), .unset, .unset, .unset] [(.int (lim + ((p2 &&& (7 : Int32)) - (4 : Int32))))])) (fun t k => XS.iadd XJ1.here hx rfl (hb hby at_87) rfl k) ?_
      refine Goes.to (T' := TJ1.setTop (mkF m 90 #[.val (.int p0), .val (.int p1), .val (.int p2), .val (.int p3), .val (.int nn), .val (.int sm), .val (.int lim), .val (.int (0 : Int32)), .val (.int (lim + ((p2 &&& (7 : Int32)) - (4 : Int32)))), .unset, .unset] [])) (fun t k => XS.istore XJ1.here hx rfl (hb hby at_88) rfl (l' := #[.val (.int p0), .val (.int p1), .val (.int p2), .val (.int p3), .val (.int nn), .val (.int sm), .val (.int lim), .val (.int (0 : Int32)), .val (.int (lim + ((p2 &&& (7 : Int32)) - (4 : Int32)))), .unset, .unset]) rfl k) ?_
      exact J90 _ _ (0 : Int32) (lim + ((p2 &&& (7 : Int32)) - (4 : Int32))) XJ1 eJ1 NJ1 
    · skip
      refine Goes.to (T' := TJ1.setTop (mkF m 63 #[.val (.int p0), .val (.int p1), .val (.int p2), .val (.int p3), .val (.int nn), .val (.int sm), .val (.int lim), .unset, .unset, .unset, .unset] [])) (fun t k => XS.ifNo XJ1.here hx rfl (hb hby at_60) rfl ((if0 _ _).trans (feq hc60_19).1) k) ?_
      refine Goes.to (T' := TJ1.setTop (mkF m 64 #[.val (.int p0), .val (.int p1), .val (.int p2), .val (.int p3), .val (.int nn), .val (.int sm), .val (.int lim), .unset, .unset, .unset, .unset] [(.int (1 : Int32))])) (fun t k => XS.iconst XJ1.here hx rfl (hb hby at_63) k) ?_
      refine Goes.to (T' := TJ1.setTop (mkF m 68 #[.val (.int p0), .val (.int p1), .val (.int p2), .val (.int p3), .val (.int nn), .val (.int sm), .val (.int lim), .unset, .unset, .unset, .unset] [(.int (1 : Int32))])) (fun t k => XS.goto XJ1.here hx rfl (pc0 := 64) (pc' := 68) rfl (hb hby at_64) (by decide) (by decide) k) ?_
      refine Goes.to (T' := TJ1.setTop (mkF m 70 #[.val (.int p0), .val (.int p1), .val (.int p2), .val (.int p3), .val (.int nn), .val (.int sm), .val (.int lim), .val (.int (1 : Int32)), .unset, .unset, .unset] [])) (fun t k => XS.istore XJ1.here hx rfl (hb hby at_68) rfl (l' := #[.val (.int p0), .val (.int p1), .val (.int p2), .val (.int p3), .val (.int nn), .val (.int sm), .val (.int lim), .val (.int (1 : Int32)), .unset, .unset, .unset]) rfl k) ?_
      refine Goes.to (T' := TJ1.setTop (mkF m 72 #[.val (.int p0), .val (.int p1), .val (.int p2), .val (.int p3), .val (.int nn), .val (.int sm), .val (.int lim), .val (.int (1 : Int32)), .unset, .unset, .unset] [(.int (1 : Int32))])) (fun t k => XS.iload XJ1.here hx rfl (hb hby at_70) rfl k) ?_
      refine Goes.to (T' := TJ1.setTop (mkF m 75 #[.val (.int p0), .val (.int p1), .val (.int p2), .val (.int p3), .val (.int nn), .val (.int sm), .val (.int lim), .val (.int (1 : Int32)), .unset, .unset, .unset] [])) (fun t k => XS.ifNo XJ1.here hx rfl (hb hby at_72) rfl ((if0 _ _).trans (feq (by decide)).1) k) ?_
      refine Goes.to (T' := TJ1.setTop (mkF m 76 #[.val (.int p0), .val (.int p1), .val (.int p2), .val (.int p3), .val (.int nn), .val (.int sm), .val (.int lim), .val (.int (1 : Int32)), .unset, .unset, .unset] [(.int p1)])) (fun t k => XS.iloadN XJ1.here hx rfl (hb hby at_75) rfl k) ?_
      refine Goes.to (T' := TJ1.setTop (mkF m 88 #[.val (.int p0), .val (.int p1), .val (.int p2), .val (.int p3), .val (.int nn), .val (.int sm), .val (.int lim), .val (.int (1 : Int32)), .unset, .unset, .unset] [(.int p1)])) (fun t k => XS.goto XJ1.here hx rfl (pc0 := 76) (pc' := 88) rfl (hb hby at_76) (by decide) (by decide) k) ?_
      refine Goes.to (T' := TJ1.setTop (mkF m 90 #[.val (.int p0), .val (.int p1), .val (.int p2), .val (.int p3), .val (.int nn), .val (.int sm), .val (.int lim), .val (.int (1 : Int32)), .val (.int p1), .unset, .unset] [])) (fun t k => XS.istore XJ1.here hx rfl (hb hby at_88) rfl (l' := #[.val (.int p0), .val (.int p1), .val (.int p2), .val (.int p3), .val (.int nn), .val (.int sm), .val (.int lim), .val (.int (1 : Int32)), .val (.int p1), .unset, .unset]) rfl k) ?_
      exact J90 _ _ (1 : Int32) p1 XJ1 eJ1 NJ1 
  refine Goes.to (T' := s₁.setTop (mkF m 1 #[.val (.int p0), .val (.int p1), .val (.int p2), .val (.int p3), .unset, .unset, .unset, .unset, .unset, .unset, .unset] [(.int p3)])) (fun t k => XS.iloadN X0.here hx rfl (hb hby at_0) rfl k) ?_
  refine Goes.to (T' := s₁.setTop (mkF m 2 #[.val (.int p0), .val (.int p1), .val (.int p2), .val (.int p3), .unset, .unset, .unset, .unset, .unset, .unset, .unset] [(.int (1 : Int32)), (.int p3)])) (fun t k => XS.iconst X0.here hx rfl (hb hby at_1) k) ?_
  refine Goes.to (T' := s₁.setTop (mkF m 3 #[.val (.int p0), .val (.int p1), .val (.int p2), .val (.int p3), .unset, .unset, .unset, .unset, .unset, .unset, .unset] [(.int (p3 &&& (1 : Int32)))])) (fun t k => XS.iand X0.here hx rfl (hb hby at_2) rfl k) ?_
  rcases Decidable.em ((p3 &&& (1 : Int32)) = (0 : Int32)) with hc3_20 | hc3_20
  · skip
    refine Goes.to (T' := s₁.setTop (mkF m 10 #[.val (.int p0), .val (.int p1), .val (.int p2), .val (.int p3), .unset, .unset, .unset, .unset, .unset, .unset, .unset] [])) (fun t k => XS.ifYes X0.here hx rfl (pc0 := 3) (pc' := 10) rfl (hb hby at_3) rfl ((if0 _ _).trans (teq hc3_20).1) (by decide) (by decide) k) ?_
    refine Goes.to (T' := s₁.setTop (mkF m 11 #[.val (.int p0), .val (.int p1), .val (.int p2), .val (.int p3), .unset, .unset, .unset, .unset, .unset, .unset, .unset] [(.int (0 : Int32))])) (fun t k => XS.iconst X0.here hx rfl (hb hby at_10) k) ?_
    refine Goes.to (T' := s₁.setTop (mkF m 13 #[.val (.int p0), .val (.int p1), .val (.int p2), .val (.int p3), .val (.int (0 : Int32)), .unset, .unset, .unset, .unset, .unset, .unset] [])) (fun t k => XS.istore X0.here hx rfl (hb hby at_11) rfl (l' := #[.val (.int p0), .val (.int p1), .val (.int p2), .val (.int p3), .val (.int (0 : Int32)), .unset, .unset, .unset, .unset, .unset, .unset]) rfl k) ?_
    refine Goes.to (T' := s₁.setTop (mkF m 14 #[.val (.int p0), .val (.int p1), .val (.int p2), .val (.int p3), .val (.int (0 : Int32)), .unset, .unset, .unset, .unset, .unset, .unset] [(.int p3)])) (fun t k => XS.iloadN X0.here hx rfl (hb hby at_13) rfl k) ?_
    refine Goes.to (T' := s₁.setTop (mkF m 15 #[.val (.int p0), .val (.int p1), .val (.int p2), .val (.int p3), .val (.int (0 : Int32)), .unset, .unset, .unset, .unset, .unset, .unset] [(.int (4 : Int32)), (.int p3)])) (fun t k => XS.iconst X0.here hx rfl (hb hby at_14) k) ?_
    refine Goes.to (T' := s₁.setTop (mkF m 16 #[.val (.int p0), .val (.int p1), .val (.int p2), .val (.int p3), .val (.int (0 : Int32)), .unset, .unset, .unset, .unset, .unset, .unset] [(.int (p3 &&& (4 : Int32)))])) (fun t k => XS.iand X0.here hx rfl (hb hby at_15) rfl k) ?_
    rcases Decidable.em ((p3 &&& (4 : Int32)) = (0 : Int32)) with hc16_21 | hc16_21
    · skip
      refine Goes.to (T' := s₁.setTop (mkF m 23 #[.val (.int p0), .val (.int p1), .val (.int p2), .val (.int p3), .val (.int (0 : Int32)), .unset, .unset, .unset, .unset, .unset, .unset] [])) (fun t k => XS.ifYes X0.here hx rfl (pc0 := 16) (pc' := 23) rfl (hb hby at_16) rfl ((if0 _ _).trans (teq hc16_21).1) (by decide) (by decide) k) ?_
      refine Goes.to (T' := s₁.setTop (mkF m 24 #[.val (.int p0), .val (.int p1), .val (.int p2), .val (.int p3), .val (.int (0 : Int32)), .unset, .unset, .unset, .unset, .unset, .unset] [(.int (0 : Int32))])) (fun t k => XS.iconst X0.here hx rfl (hb hby at_23) k) ?_
      refine Goes.to (T' := s₁.setTop (mkF m 26 #[.val (.int p0), .val (.int p1), .val (.int p2), .val (.int p3), .val (.int (0 : Int32)), .val (.int (0 : Int32)), .unset, .unset, .unset, .unset, .unset] [])) (fun t k => XS.istore X0.here hx rfl (hb hby at_24) rfl (l' := #[.val (.int p0), .val (.int p1), .val (.int p2), .val (.int p3), .val (.int (0 : Int32)), .val (.int (0 : Int32)), .unset, .unset, .unset, .unset, .unset]) rfl k) ?_
      refine Goes.to (T' := s₁.setTop (mkF m 28 #[.val (.int p0), .val (.int p1), .val (.int p2), .val (.int p3), .val (.int (0 : Int32)), .val (.int (0 : Int32)), .unset, .unset, .unset, .unset, .unset] [(.int (0 : Int32))])) (fun t k => XS.iload X0.here hx rfl (hb hby at_26) rfl k) ?_
      refine Goes.to (T' := s₁.setTop (mkF m 37 #[.val (.int p0), .val (.int p1), .val (.int p2), .val (.int p3), .val (.int (0 : Int32)), .val (.int (0 : Int32)), .unset, .unset, .unset, .unset, .unset] [])) (fun t k => XS.ifYes X0.here hx rfl (pc0 := 28) (pc' := 37) rfl (hb hby at_28) rfl ((if0 _ _).trans (teq (by decide)).1) (by decide) (by decide) k) ?_
      refine Goes.to (T' := s₁.setTop (mkF m 39 #[.val (.int p0), .val (.int p1), .val (.int p2), .val (.int p3), .val (.int (0 : Int32)), .val (.int (0 : Int32)), .unset, .unset, .unset, .unset, .unset] [(.int (0 : Int32))])) (fun t k => XS.iload X0.here hx rfl (hb hby at_37) rfl k) ?_
      refine Goes.to (T' := s₁.setTop (mkF m 51 #[.val (.int p0), .val (.int p1), .val (.int p2), .val (.int p3), .val (.int (0 : Int32)), .val (.int (0 : Int32)), .unset, .unset, .unset, .unset, .unset] [])) (fun t k => XS.ifYes X0.here hx rfl (pc0 := 39) (pc' := 51) rfl (hb hby at_39) rfl ((if0 _ _).trans (teq (by decide)).1) (by decide) (by decide) k) ?_
      refine Goes.to (T' := s₁.setTop (mkF m 52 #[.val (.int p0), .val (.int p1), .val (.int p2), .val (.int p3), .val (.int (0 : Int32)), .val (.int (0 : Int32)), .unset, .unset, .unset, .unset, .unset] [(.int p0)])) (fun t k => XS.iloadN X0.here hx rfl (hb hby at_51) rfl k) ?_
      refine Goes.to (T' := s₁.setTop (mkF m 54 #[.val (.int p0), .val (.int p1), .val (.int p2), .val (.int p3), .val (.int (0 : Int32)), .val (.int (0 : Int32)), .unset, .unset, .unset, .unset, .unset] [(.int (2147483647 : Int32)), (.int p0)])) (X0.ldcInt hx hown (mvT hZ (hw _ (List.mem_of_getElem? (i := 26) rfl))) (g := (mkF m 52 #[.val (.int p0), .val (.int p1), .val (.int p2), .val (.int p3), .val (.int (0 : Int32)), .val (.int (0 : Int32)), .unset, .unset, .unset, .unset, .unset] [(.int p0)])) rfl (hb hby at_52)) ?_
      refine Goes.to (T' := s₁.setTop (mkF m 55 #[.val (.int p0), .val (.int p1), .val (.int p2), .val (.int p3), .val (.int (0 : Int32)), .val (.int (0 : Int32)), .unset, .unset, .unset, .unset, .unset] [(.int (p0 &&& (2147483647 : Int32)))])) (fun t k => XS.iand X0.here hx rfl (hb hby at_54) rfl k) ?_
      refine Goes.to (T' := s₁.setTop (mkF m 57 #[.val (.int p0), .val (.int p1), .val (.int p2), .val (.int p3), .val (.int (0 : Int32)), .val (.int (0 : Int32)), .val (.int (p0 &&& (2147483647 : Int32))), .unset, .unset, .unset, .unset] [])) (fun t k => XS.istore X0.here hx rfl (hb hby at_55) rfl (l' := #[.val (.int p0), .val (.int p1), .val (.int p2), .val (.int p3), .val (.int (0 : Int32)), .val (.int (0 : Int32)), .val (.int (p0 &&& (2147483647 : Int32))), .unset, .unset, .unset, .unset]) rfl k) ?_
      exact J57 _ _ (0 : Int32) (0 : Int32) (p0 &&& (2147483647 : Int32)) X0 e0 N0 (own_lim2 p0).1 (Or.inr ⟨rfl, (own_lim2 p0).2⟩)
    · skip
      refine Goes.to (T' := s₁.setTop (mkF m 19 #[.val (.int p0), .val (.int p1), .val (.int p2), .val (.int p3), .val (.int (0 : Int32)), .unset, .unset, .unset, .unset, .unset, .unset] [])) (fun t k => XS.ifNo X0.here hx rfl (hb hby at_16) rfl ((if0 _ _).trans (feq hc16_21).1) k) ?_
      refine Goes.to (T' := s₁.setTop (mkF m 20 #[.val (.int p0), .val (.int p1), .val (.int p2), .val (.int p3), .val (.int (0 : Int32)), .unset, .unset, .unset, .unset, .unset, .unset] [(.int (1 : Int32))])) (fun t k => XS.iconst X0.here hx rfl (hb hby at_19) k) ?_
      refine Goes.to (T' := s₁.setTop (mkF m 24 #[.val (.int p0), .val (.int p1), .val (.int p2), .val (.int p3), .val (.int (0 : Int32)), .unset, .unset, .unset, .unset, .unset, .unset] [(.int (1 : Int32))])) (fun t k => XS.goto X0.here hx rfl (pc0 := 20) (pc' := 24) rfl (hb hby at_20) (by decide) (by decide) k) ?_
      refine Goes.to (T' := s₁.setTop (mkF m 26 #[.val (.int p0), .val (.int p1), .val (.int p2), .val (.int p3), .val (.int (0 : Int32)), .val (.int (1 : Int32)), .unset, .unset, .unset, .unset, .unset] [])) (fun t k => XS.istore X0.here hx rfl (hb hby at_24) rfl (l' := #[.val (.int p0), .val (.int p1), .val (.int p2), .val (.int p3), .val (.int (0 : Int32)), .val (.int (1 : Int32)), .unset, .unset, .unset, .unset, .unset]) rfl k) ?_
      refine Goes.to (T' := s₁.setTop (mkF m 28 #[.val (.int p0), .val (.int p1), .val (.int p2), .val (.int p3), .val (.int (0 : Int32)), .val (.int (1 : Int32)), .unset, .unset, .unset, .unset, .unset] [(.int (0 : Int32))])) (fun t k => XS.iload X0.here hx rfl (hb hby at_26) rfl k) ?_
      refine Goes.to (T' := s₁.setTop (mkF m 37 #[.val (.int p0), .val (.int p1), .val (.int p2), .val (.int p3), .val (.int (0 : Int32)), .val (.int (1 : Int32)), .unset, .unset, .unset, .unset, .unset] [])) (fun t k => XS.ifYes X0.here hx rfl (pc0 := 28) (pc' := 37) rfl (hb hby at_28) rfl ((if0 _ _).trans (teq (by decide)).1) (by decide) (by decide) k) ?_
      refine Goes.to (T' := s₁.setTop (mkF m 39 #[.val (.int p0), .val (.int p1), .val (.int p2), .val (.int p3), .val (.int (0 : Int32)), .val (.int (1 : Int32)), .unset, .unset, .unset, .unset, .unset] [(.int (1 : Int32))])) (fun t k => XS.iload X0.here hx rfl (hb hby at_37) rfl k) ?_
      refine Goes.to (T' := s₁.setTop (mkF m 42 #[.val (.int p0), .val (.int p1), .val (.int p2), .val (.int p3), .val (.int (0 : Int32)), .val (.int (1 : Int32)), .unset, .unset, .unset, .unset, .unset] [])) (fun t k => XS.ifNo X0.here hx rfl (hb hby at_39) rfl ((if0 _ _).trans (feq (by decide)).1) k) ?_
      refine Goes.to (T' := s₁.setTop (mkF m 43 #[.val (.int p0), .val (.int p1), .val (.int p2), .val (.int p3), .val (.int (0 : Int32)), .val (.int (1 : Int32)), .unset, .unset, .unset, .unset, .unset] [(.int p0)])) (fun t k => XS.iloadN X0.here hx rfl (hb hby at_42) rfl k) ?_
      refine Goes.to (T' := s₁.setTop (mkF m 45 #[.val (.int p0), .val (.int p1), .val (.int p2), .val (.int p3), .val (.int (0 : Int32)), .val (.int (1 : Int32)), .unset, .unset, .unset, .unset, .unset] [(.int (7 : Int32)), (.int p0)])) (fun t k => XS.bipush X0.here hx rfl (hb hby at_43) k) ?_
      refine Goes.to (T' := s₁.setTop (mkF m 46 #[.val (.int p0), .val (.int p1), .val (.int p2), .val (.int p3), .val (.int (0 : Int32)), .val (.int (1 : Int32)), .unset, .unset, .unset, .unset, .unset] [(.int (p0 &&& (7 : Int32)))])) (fun t k => XS.iand X0.here hx rfl (hb hby at_45) rfl k) ?_
      refine Goes.to (T' := s₁.setTop (mkF m 48 #[.val (.int p0), .val (.int p1), .val (.int p2), .val (.int p3), .val (.int (0 : Int32)), .val (.int (1 : Int32)), .val (.int (p0 &&& (7 : Int32))), .unset, .unset, .unset, .unset] [])) (fun t k => XS.istore X0.here hx rfl (hb hby at_46) rfl (l' := #[.val (.int p0), .val (.int p1), .val (.int p2), .val (.int p3), .val (.int (0 : Int32)), .val (.int (1 : Int32)), .val (.int (p0 &&& (7 : Int32))), .unset, .unset, .unset, .unset]) rfl k) ?_
      refine Goes.to (T' := s₁.setTop (mkF m 57 #[.val (.int p0), .val (.int p1), .val (.int p2), .val (.int p3), .val (.int (0 : Int32)), .val (.int (1 : Int32)), .val (.int (p0 &&& (7 : Int32))), .unset, .unset, .unset, .unset] [])) (fun t k => XS.goto X0.here hx rfl (pc0 := 48) (pc' := 57) rfl (hb hby at_48) (by decide) (by decide) k) ?_
      exact J57 _ _ (0 : Int32) (1 : Int32) (p0 &&& (7 : Int32)) X0 e0 N0 (own_lim1 p0).1 (Or.inr ⟨rfl, (own_lim1 p0).2⟩)
  · skip
    refine Goes.to (T' := s₁.setTop (mkF m 6 #[.val (.int p0), .val (.int p1), .val (.int p2), .val (.int p3), .unset, .unset, .unset, .unset, .unset, .unset, .unset] [])) (fun t k => XS.ifNo X0.here hx rfl (hb hby at_3) rfl ((if0 _ _).trans (feq hc3_20).1) k) ?_
    refine Goes.to (T' := s₁.setTop (mkF m 7 #[.val (.int p0), .val (.int p1), .val (.int p2), .val (.int p3), .unset, .unset, .unset, .unset, .unset, .unset, .unset] [(.int (1 : Int32))])) (fun t k => XS.iconst X0.here hx rfl (hb hby at_6) k) ?_
    refine Goes.to (T' := s₁.setTop (mkF m 11 #[.val (.int p0), .val (.int p1), .val (.int p2), .val (.int p3), .unset, .unset, .unset, .unset, .unset, .unset, .unset] [(.int (1 : Int32))])) (fun t k => XS.goto X0.here hx rfl (pc0 := 7) (pc' := 11) rfl (hb hby at_7) (by decide) (by decide) k) ?_
    refine Goes.to (T' := s₁.setTop (mkF m 13 #[.val (.int p0), .val (.int p1), .val (.int p2), .val (.int p3), .val (.int (1 : Int32)), .unset, .unset, .unset, .unset, .unset, .unset] [])) (fun t k => XS.istore X0.here hx rfl (hb hby at_11) rfl (l' := #[.val (.int p0), .val (.int p1), .val (.int p2), .val (.int p3), .val (.int (1 : Int32)), .unset, .unset, .unset, .unset, .unset, .unset]) rfl k) ?_
    refine Goes.to (T' := s₁.setTop (mkF m 14 #[.val (.int p0), .val (.int p1), .val (.int p2), .val (.int p3), .val (.int (1 : Int32)), .unset, .unset, .unset, .unset, .unset, .unset] [(.int p3)])) (fun t k => XS.iloadN X0.here hx rfl (hb hby at_13) rfl k) ?_
    refine Goes.to (T' := s₁.setTop (mkF m 15 #[.val (.int p0), .val (.int p1), .val (.int p2), .val (.int p3), .val (.int (1 : Int32)), .unset, .unset, .unset, .unset, .unset, .unset] [(.int (4 : Int32)), (.int p3)])) (fun t k => XS.iconst X0.here hx rfl (hb hby at_14) k) ?_
    refine Goes.to (T' := s₁.setTop (mkF m 16 #[.val (.int p0), .val (.int p1), .val (.int p2), .val (.int p3), .val (.int (1 : Int32)), .unset, .unset, .unset, .unset, .unset, .unset] [(.int (p3 &&& (4 : Int32)))])) (fun t k => XS.iand X0.here hx rfl (hb hby at_15) rfl k) ?_
    rcases Decidable.em ((p3 &&& (4 : Int32)) = (0 : Int32)) with hc16_22 | hc16_22
    · skip
      refine Goes.to (T' := s₁.setTop (mkF m 23 #[.val (.int p0), .val (.int p1), .val (.int p2), .val (.int p3), .val (.int (1 : Int32)), .unset, .unset, .unset, .unset, .unset, .unset] [])) (fun t k => XS.ifYes X0.here hx rfl (pc0 := 16) (pc' := 23) rfl (hb hby at_16) rfl ((if0 _ _).trans (teq hc16_22).1) (by decide) (by decide) k) ?_
      refine Goes.to (T' := s₁.setTop (mkF m 24 #[.val (.int p0), .val (.int p1), .val (.int p2), .val (.int p3), .val (.int (1 : Int32)), .unset, .unset, .unset, .unset, .unset, .unset] [(.int (0 : Int32))])) (fun t k => XS.iconst X0.here hx rfl (hb hby at_23) k) ?_
      refine Goes.to (T' := s₁.setTop (mkF m 26 #[.val (.int p0), .val (.int p1), .val (.int p2), .val (.int p3), .val (.int (1 : Int32)), .val (.int (0 : Int32)), .unset, .unset, .unset, .unset, .unset] [])) (fun t k => XS.istore X0.here hx rfl (hb hby at_24) rfl (l' := #[.val (.int p0), .val (.int p1), .val (.int p2), .val (.int p3), .val (.int (1 : Int32)), .val (.int (0 : Int32)), .unset, .unset, .unset, .unset, .unset]) rfl k) ?_
      refine Goes.to (T' := s₁.setTop (mkF m 28 #[.val (.int p0), .val (.int p1), .val (.int p2), .val (.int p3), .val (.int (1 : Int32)), .val (.int (0 : Int32)), .unset, .unset, .unset, .unset, .unset] [(.int (1 : Int32))])) (fun t k => XS.iload X0.here hx rfl (hb hby at_26) rfl k) ?_
      refine Goes.to (T' := s₁.setTop (mkF m 31 #[.val (.int p0), .val (.int p1), .val (.int p2), .val (.int p3), .val (.int (1 : Int32)), .val (.int (0 : Int32)), .unset, .unset, .unset, .unset, .unset] [])) (fun t k => XS.ifNo X0.here hx rfl (hb hby at_28) rfl ((if0 _ _).trans (feq (by decide)).1) k) ?_
      refine Goes.to (T' := s₁.setTop (mkF m 32 #[.val (.int p0), .val (.int p1), .val (.int p2), .val (.int p3), .val (.int (1 : Int32)), .val (.int (0 : Int32)), .unset, .unset, .unset, .unset, .unset] [(.int (-1 : Int32))])) (fun t k => XS.iconst X0.here hx rfl (hb hby at_31) k) ?_
      refine Goes.to (T' := s₁.setTop (mkF m 34 #[.val (.int p0), .val (.int p1), .val (.int p2), .val (.int p3), .val (.int (1 : Int32)), .val (.int (0 : Int32)), .val (.int (-1 : Int32)), .unset, .unset, .unset, .unset] [])) (fun t k => XS.istore X0.here hx rfl (hb hby at_32) rfl (l' := #[.val (.int p0), .val (.int p1), .val (.int p2), .val (.int p3), .val (.int (1 : Int32)), .val (.int (0 : Int32)), .val (.int (-1 : Int32)), .unset, .unset, .unset, .unset]) rfl k) ?_
      refine Goes.to (T' := s₁.setTop (mkF m 57 #[.val (.int p0), .val (.int p1), .val (.int p2), .val (.int p3), .val (.int (1 : Int32)), .val (.int (0 : Int32)), .val (.int (-1 : Int32)), .unset, .unset, .unset, .unset] [])) (fun t k => XS.goto X0.here hx rfl (pc0 := 34) (pc' := 57) rfl (hb hby at_34) (by decide) (by decide) k) ?_
      exact J57 _ _ (1 : Int32) (0 : Int32) (-1 : Int32) X0 e0 N0 (by decide) (Or.inl ⟨rfl, rfl⟩)
    · skip
      refine Goes.to (T' := s₁.setTop (mkF m 19 #[.val (.int p0), .val (.int p1), .val (.int p2), .val (.int p3), .val (.int (1 : Int32)), .unset, .unset, .unset, .unset, .unset, .unset] [])) (fun t k => XS.ifNo X0.here hx rfl (hb hby at_16) rfl ((if0 _ _).trans (feq hc16_22).1) k) ?_
      refine Goes.to (T' := s₁.setTop (mkF m 20 #[.val (.int p0), .val (.int p1), .val (.int p2), .val (.int p3), .val (.int (1 : Int32)), .unset, .unset, .unset, .unset, .unset, .unset] [(.int (1 : Int32))])) (fun t k => XS.iconst X0.here hx rfl (hb hby at_19) k) ?_
      refine Goes.to (T' := s₁.setTop (mkF m 24 #[.val (.int p0), .val (.int p1), .val (.int p2), .val (.int p3), .val (.int (1 : Int32)), .unset, .unset, .unset, .unset, .unset, .unset] [(.int (1 : Int32))])) (fun t k => XS.goto X0.here hx rfl (pc0 := 20) (pc' := 24) rfl (hb hby at_20) (by decide) (by decide) k) ?_
      refine Goes.to (T' := s₁.setTop (mkF m 26 #[.val (.int p0), .val (.int p1), .val (.int p2), .val (.int p3), .val (.int (1 : Int32)), .val (.int (1 : Int32)), .unset, .unset, .unset, .unset, .unset] [])) (fun t k => XS.istore X0.here hx rfl (hb hby at_24) rfl (l' := #[.val (.int p0), .val (.int p1), .val (.int p2), .val (.int p3), .val (.int (1 : Int32)), .val (.int (1 : Int32)), .unset, .unset, .unset, .unset, .unset]) rfl k) ?_
      refine Goes.to (T' := s₁.setTop (mkF m 28 #[.val (.int p0), .val (.int p1), .val (.int p2), .val (.int p3), .val (.int (1 : Int32)), .val (.int (1 : Int32)), .unset, .unset, .unset, .unset, .unset] [(.int (1 : Int32))])) (fun t k => XS.iload X0.here hx rfl (hb hby at_26) rfl k) ?_
      refine Goes.to (T' := s₁.setTop (mkF m 31 #[.val (.int p0), .val (.int p1), .val (.int p2), .val (.int p3), .val (.int (1 : Int32)), .val (.int (1 : Int32)), .unset, .unset, .unset, .unset, .unset] [])) (fun t k => XS.ifNo X0.here hx rfl (hb hby at_28) rfl ((if0 _ _).trans (feq (by decide)).1) k) ?_
      refine Goes.to (T' := s₁.setTop (mkF m 32 #[.val (.int p0), .val (.int p1), .val (.int p2), .val (.int p3), .val (.int (1 : Int32)), .val (.int (1 : Int32)), .unset, .unset, .unset, .unset, .unset] [(.int (-1 : Int32))])) (fun t k => XS.iconst X0.here hx rfl (hb hby at_31) k) ?_
      refine Goes.to (T' := s₁.setTop (mkF m 34 #[.val (.int p0), .val (.int p1), .val (.int p2), .val (.int p3), .val (.int (1 : Int32)), .val (.int (1 : Int32)), .val (.int (-1 : Int32)), .unset, .unset, .unset, .unset] [])) (fun t k => XS.istore X0.here hx rfl (hb hby at_32) rfl (l' := #[.val (.int p0), .val (.int p1), .val (.int p2), .val (.int p3), .val (.int (1 : Int32)), .val (.int (1 : Int32)), .val (.int (-1 : Int32)), .unset, .unset, .unset, .unset]) rfl k) ?_
      refine Goes.to (T' := s₁.setTop (mkF m 57 #[.val (.int p0), .val (.int p1), .val (.int p2), .val (.int p3), .val (.int (1 : Int32)), .val (.int (1 : Int32)), .val (.int (-1 : Int32)), .unset, .unset, .unset, .unset] [])) (fun t k => XS.goto X0.here hx rfl (pc0 := 34) (pc' := 57) rfl (hb hby at_34) (by decide) (by decide) k) ?_
      exact J57 _ _ (1 : Int32) (1 : Int32) (-1 : Int32) X0 e0 N0 (by decide) (Or.inl ⟨rfl, rfl⟩)
set_option maxRecDepth 65536 in
set_option maxHeartbeats 40000000 in
theorem comes_1 {Post : Tables → Env → Array Value → State → Outcome → State → Prop} (hpost : ∀ tb e args s v u, (limb_1_1.after args s (.returned v) u = true ∧ limb_1_2.after args s (.returned v) u = true ∧ True) → FrameEnd s (.returned v) u (Jvm.fieldLocs frame_1_writes args s ++ Jvm.arrayLocs frame_1_arrays args s ++ Jvm.staticLocs frame_1_statics s) 16 128 → Post tb e args s (.returned v) u) :
    ArmFor flags0 classFile x code maxLocals ret World_1 tables_1 room_1 Calls_1 rest_1 Pre_1 Post := by
  intro l hfl _ _ p e ha hc hk s m args below hf hA hF happ hP
  obtain ⟨hcalls, hrest, hpre⟩ := hP
  obtain ⟨-, -, -, hnamed, -, -, -, hat⟩ := (Spec.applies_iff hf).mp happ
  obtain ⟨hg, hn⟩ := and_e (Cond.before_iff.mp (show (Jvm.Cond.and given_1 narrow_1).before args s = true from hpre))
  obtain ⟨gc, gr0⟩ := and_e hg
  obtain ⟨w0, w1, w2, w3, rfl⟩ : ∃ w0 w1 w2 w3 : Value, args = #[w0, w1, w2, w3] := by
    have hs : args.size = 4 := by simpa [Cond.value, given_1] using gc
    obtain ⟨L⟩ := args
    match L, hs with
    | [w0, w1, w2, w3], _ => exact ⟨w0, w1, w2, w3, rfl⟩
  have hw := fun d (hd : d ∈ tables_1) => atoms_spec (ws := Jvm.Cond.code x code maxLocals ret :: tables_1) hat d (List.mem_cons_of_mem _ hd)
  have hfit : Fit s := fun {y c} hc i hi => by
    obtain ⟨ha, rfl⟩ := Array.getElem?_eq_some_iff.mp hc
    have q := List.all_eq_true.mp ((Array.all_eq_true_iff_forall_mem.mp hF) _ (Array.getElem_mem ha)) i (List.mem_range.mpr hi)
    simpa [Array.getElem?_eq_getElem hi] using q
  obtain ⟨gv0, gr1⟩ := and_e gr0
  obtain ⟨i0, ei0⟩ := is_v gv0
  obtain rfl : w0 = (.int i0) := Option.some.inj ei0
  obtain ⟨gv1, gr2⟩ := and_e gr1
  obtain ⟨i1, ei1⟩ := is_v gv1
  obtain rfl : w1 = (.int i1) := Option.some.inj ei1
  obtain ⟨gv2, gr3⟩ := and_e gr2
  obtain ⟨i2, ei2⟩ := is_v gv2
  obtain rfl : w2 = (.int i2) := Option.some.inj ei2
  obtain ⟨i3, ei3⟩ := is_v gr3
  obtain rfl : w3 = (.int i3) := Option.some.inj ei3
  obtain ⟨n, o, h1, h2, h3, _, L, rfl, ⟨rfl, N⟩, hq⟩ := rm0 l s _ hw tables_1 i0 i1 i2 i3 s.heap s.heap.size (Old.start s) p e ha hc hk s m _ below hf ((Spec.applies_iff_loose hf).mp happ).1 ⟨rfl, State.Warmed39.refl s, rfl⟩ trivial
  refine ⟨n, _, h1, h2, h3, hpost _ _ _ _ _ _ ⟨Cond.after_iff.mpr rfl, Cond.after_iff.mpr (eq_i res_at (Term.int_eval (1)) rfl), trivial⟩ ⟨hq.1, hq.2.1, (hq.2.2.sift fun y hy => Or.inr (N y hy)).mono (by decide) (by decide)⟩⟩
theorem main_1_1 : Claimed_1_1 := comes_1 fun _ _ _ _ _ _ h hF => ⟨h.1, hF⟩
theorem main_1_2 : Claimed_1_2 := comes_1 fun _ _ _ _ _ _ h hF => ⟨h.2.1, hF⟩
end Jvm.Pilot.@@N@@
namespace Jvm.Pilot.@@N@@
open Jvm Jvm.ClassFile Sem Op Lib Jvm.Free Jvm.Stand Jvm.Pilot.@@N@@.Jvm.D
/-! MADE BY PROGRAM (witnessworld.py) out of the Statement's table words and the real class files: 9 classes; the members and pool entries that the words name. The judged class is class 1, her method 1. -/
namespace start1
open Jvm.ClassFile
def u (s : String) : CpInfo := .utf8 (stringToUtf16 s)
/-- a pool by its gaps: so many unusable entries, then the entry; so many at the end -/
def gap : Nat → List CpInfo → List CpInfo
  | 0, r => r
  | n + 1, r => .unusable :: gap n r
def poolList (es : List (Nat × CpInfo)) (last : Nat) : List CpInfo := es.foldr (fun e r => gap e.1 (e.2 :: r)) (gap last [])
def pool (es : List (Nat × CpInfo)) (last : Nat) : Array CpInfo := ⟨poolList es last⟩
def fileOf (pool : Array CpInfo) (this : Nat) (attrs : Array Attribute := #[]) (ms : Array MethodInfo := #[]) (fl : Nat := 33) (sup : Nat := 0) (ifs : Array Nat := #[]) (fds : Array FieldInfo := #[]) : ClassFile where
  minorVersion := 0
  majorVersion := 65
  constantPool := pool
  accessFlags := fl
  thisClass := this
  superClass := sup
  interfaces := ifs
  fields := fds
  methods := ms
  attributes := attrs
def plain (name : String) (sup : Option ClassId) : Class where
  name := name
  kind := .ordinary
  loader := none
  accessFlags := 33
  super := sup
  interfaces := #[]
  cf := none
  fields := #[]
  methods := #[]
  instanceTypes := #[]
  staticTypes := #[]
  resolved := #[]
  callSites := []
  init := .initialized
  statics := none
  mirror := none

def pool0 : Array CpInfo := pool [(5, u "<init>"), (0, u "()V"), (1, .class_ 10), (1, u "java/lang/Object")] 113

def k0c0 : Code := { maxStack := 0, maxLocals := 1, code := object_method_1_code, exceptionTable := #[], attributes := #[] }
def k0m0 : Method := { name := "<init>", desc := "()V", sig := { parameters := [], returnType := none }, accessFlags := 1, code := some k0c0 }
/-- java/lang/Object -/
def k0 : Class := { plain "java/lang/Object" none with
  accessFlags := 33
  interfaces := #[]
  cf := some (fileOf pool0 8 #[] #[{ accessFlags := 1, nameIndex := 5, descriptorIndex := 6, attributes := #[] }] 33 0 #[] #[])
  fields := #[]
  methods := #[k0m0]
  instanceTypes := #[]
  staticTypes := #[]
  resolved := Array.replicate 124 none
  statics := none }

def pool1 : Array CpInfo := pool [(2, .class_ 4), (1, u "java/lang/Object"), (0, u "<init>"), (0, u "()V"), (0, .class_ 8), (0, u "com/example/ferryline/ferryline/RedeliveryPolicy"), (0, .integer 2147483647), (0, .long 18446744073709551615), (1, .methodref 7 13), (0, .nameAndType 5 14), (0, u "(JDJDI)V"), (0, .methodref 7 16), (0, .nameAndType 17 18), (0, u "exhausted"), (0, u "(I)Z"), (0, .class_ 20), (0, u "com/example/ferryline/ferryline/RedeliveryPolicyExhaustedPinLaw"), (2, u "law"), (0, u "(IIII)Z")] 3

def k1m0 : Method := { name := "<init>", desc := "()V", sig := { parameters := [], returnType := none }, accessFlags := 2, code := none }
def k1c1 : Code := { maxStack := 11, maxLocals := 11, code := code, exceptionTable := #[], attributes := #[] }
def k1m1 : Method := { name := "law", desc := "(IIII)Z", sig := { parameters := [.int, .int, .int, .int], returnType := some .boolean }, accessFlags := 9, code := some k1c1 }
/-- com/example/ferryline/ferryline/RedeliveryPolicyExhaustedPinLaw -/
def k1 : Class := { plain "com/example/ferryline/ferryline/RedeliveryPolicyExhaustedPinLaw" (some 0) with
  accessFlags := 49
  interfaces := #[]
  cf := some (fileOf pool1 19 #[] #[{ accessFlags := 2, nameIndex := 5, descriptorIndex := 6, attributes := #[] }, { accessFlags := 9, nameIndex := 23, descriptorIndex := 24, attributes := #[] }] 49 2 #[] #[])
  fields := #[]
  methods := #[k1m0, k1m1]
  instanceTypes := #[]
  staticTypes := #[]
  resolved := Array.replicate 28 none
  statics := none }

def pool2 : Array CpInfo := pool [(1, .methodref 2 3), (0, .class_ 4), (0, .nameAndType 5 6), (0, u "java/lang/Object"), (0, u "<init>"), (0, u "()V"), (0, .class_ 8), (0, u "com/example/ferryline/ferryline/RedeliveryPolicy"), (0, .long 18446744073709551615), (8, .fieldref 7 19), (0, .nameAndType 20 21), (0, u "delayMillis"), (0, u "J"), (0, .fieldref 7 23), (0, .nameAndType 24 25), (0, u "multiplier"), (0, u "D"), (0, .fieldref 7 27), (0, .nameAndType 28 21), (0, u "maxDelayMillis"), (0, .fieldref 7 30), (0, .nameAndType 31 25), (0, u "jitter"), (0, .fieldref 7 33), (0, .nameAndType 34 35), (0, u "maxRedeliveries"), (0, u "I"), (25, u "(JDJDI)V"), (2, u "DEFAULT"), (0, u "Lcom/example/ferryline/ferryline/RedeliveryPolicy;"), (0, u "NONE"), (2, u "DEFAULT_DELAY_MILLIS"), (1, u "DEFAULT_MAX_REDELIVERIES"), (6, u "exhausted"), (0, u "(I)Z")] 3

def k2c0 : Code := { maxStack := 4, maxLocals := 10, code := prog_52_method_1_code, exceptionTable := #[], attributes := #[] }
def k2m0 : Method := { name := "<init>", desc := "(JDJDI)V", sig := { parameters := [.long, .double, .long, .double, .int], returnType := none }, accessFlags := 0, code := some k2c0 }
def k2c1 : Code := { maxStack := 2, maxLocals := 2, code := prog_52_method_4_code, exceptionTable := #[], attributes := #[] }
def k2m1 : Method := { name := "exhausted", desc := "(I)Z", sig := { parameters := [.int], returnType := some .boolean }, accessFlags := 0, code := some k2c1 }
/-- com/example/ferryline/ferryline/RedeliveryPolicy -/
def k2 : Class := { plain "com/example/ferryline/ferryline/RedeliveryPolicy" (some 0) with
  accessFlags := 48
  interfaces := #[]
  cf := some (fileOf pool2 7 #[] #[{ accessFlags := 0, nameIndex := 5, descriptorIndex := 61, attributes := #[] }, { accessFlags := 0, nameIndex := 78, descriptorIndex := 79, attributes := #[] }] 48 2 #[] #[{ accessFlags := 24, nameIndex := 66, descriptorIndex := 35, attributes := #[] }, { accessFlags := 24, nameIndex := 69, descriptorIndex := 35, attributes := #[] }, { accessFlags := 24, nameIndex := 71, descriptorIndex := 35, attributes := #[] }, { accessFlags := 24, nameIndex := 64, descriptorIndex := 65, attributes := #[] }, { accessFlags := 18, nameIndex := 20, descriptorIndex := 21, attributes := #[] }, { accessFlags := 18, nameIndex := 24, descriptorIndex := 25, attributes := #[] }, { accessFlags := 18, nameIndex := 28, descriptorIndex := 21, attributes := #[] }, { accessFlags := 18, nameIndex := 31, descriptorIndex := 25, attributes := #[] }, { accessFlags := 18, nameIndex := 34, descriptorIndex := 35, attributes := #[] }])
  fields := #[{ name := "NONE", type := .int, accessFlags := 24, slot := 0, constantValue := 0 }, { name := "DEFAULT_DELAY_MILLIS", type := .int, accessFlags := 24, slot := 1, constantValue := 0 }, { name := "DEFAULT_MAX_REDELIVERIES", type := .int, accessFlags := 24, slot := 2, constantValue := 0 }, { name := "DEFAULT", type := (.object "com/example/ferryline/ferryline/RedeliveryPolicy"), accessFlags := 24, slot := 3, constantValue := 0 }, { name := "delayMillis", type := .long, accessFlags := 18, slot := 0, constantValue := 0 }, { name := "multiplier", type := .double, accessFlags := 18, slot := 1, constantValue := 0 }, { name := "maxDelayMillis", type := .long, accessFlags := 18, slot := 2, constantValue := 0 }, { name := "jitter", type := .double, accessFlags := 18, slot := 3, constantValue := 0 }, { name := "maxRedeliveries", type := .int, accessFlags := 18, slot := 4, constantValue := 0 }]
  methods := #[k2m0, k2m1]
  instanceTypes := #[.long, .double, .long, .double, .int]
  staticTypes := #[.int, .int, .int, (.object "com/example/ferryline/ferryline/RedeliveryPolicy")]
  resolved := Array.replicate 83 none
  statics := none }

def pool3 : Array CpInfo := pool [(1, u "java/lang/Cloneable"), (0, .class_ 1), (0, u "java/lang/Object"), (0, .class_ 3)] 3

/-- java/lang/Cloneable -/
def k3 : Class := { plain "java/lang/Cloneable" (some 0) with
  accessFlags := 1537
  interfaces := #[]
  cf := some (fileOf pool3 2 #[] #[] 1537 4 #[] #[])
  fields := #[]
  methods := #[]
  instanceTypes := #[]
  staticTypes := #[]
  resolved := Array.replicate 8 none
  statics := none }

def pool4 : Array CpInfo := pool [(1, u "java/io/Serializable"), (0, .class_ 1), (0, u "java/lang/Object"), (0, .class_ 3)] 3

/-- java/io/Serializable -/
def k4 : Class := { plain "java/io/Serializable" (some 0) with
  accessFlags := 1537
  interfaces := #[]
  cf := some (fileOf pool4 2 #[] #[] 1537 4 #[] #[])
  fields := #[]
  methods := #[]
  instanceTypes := #[]
  staticTypes := #[]
  resolved := Array.replicate 8 none
  statics := none }

/-- the primitive byte -/
def k5 : Class := { plain "byte" none with kind := .primitive 'B', accessFlags := 0x411 }
/-- [B -/
def k6 : Class := { plain "[B" (some 0) with kind := .array 5 .byte, interfaces := #[3, 4], accessFlags := 1041 }

/-- the primitive int -/
def k7 : Class := { plain "int" none with kind := .primitive 'I', accessFlags := 0x411 }
/-- [I -/
def k8 : Class := { plain "[I" (some 0) with kind := .array 7 .int, interfaces := #[3, 4], accessFlags := 1041 }

def heap : Heap := #[]
def classes : Array Class := #[k0, k1, k2, k3, k4, k5, k6, k7, k8]
def interned : List (Array UInt16 × Addr) := []
def slotsUsed : Nat := 0
def theMethod : MethodId := ⟨1, 1⟩
def args0 : Array Value := #[.int 5, .int 6, .int 7, .int 8]
def aboutOver (below : List Frame) : State where
  vm := { classes := classes, interned := interned.toArray }
  heap := heap
  slotsUsed := slotsUsed
  threads := #[{ frames := .invoking theMethod args0 :: below }]
def below0 : List Frame := [.native { method := ⟨0, 0⟩, args := #[] }]
def about1 : State := aboutOver below0
def p0 : Program := .bare "" "" ""
def e0 : Env := launch0.env 0 0 0
theorem w_frames : about1.frames = Frame.invoking theMethod args0 :: below0 := rfl
set_option maxRecDepth 65536 in
theorem w_args : argsFit about1.vm theMethod args0 = true := by decide +kernel
set_option maxRecDepth 65536 in
theorem w_heap : heapFits about1 = true := by decide +kernel
set_option maxRecDepth 65536 in
theorem w_runnable : about1.curStatus? = some .runnable := by decide +kernel
set_option maxRecDepth 65536 in
theorem w_alone : about1.alone = true := by decide +kernel
set_option maxRecDepth 65536 in
theorem w_named : about1.methodNamed? x = some theMethod := by decide +kernel
set_option maxRecDepth 65536 in
theorem w_hears : about1.hears theMethod below0 = true := by decide +kernel
set_option maxRecDepth 65536 in
theorem w_ripe : about1.ripe theMethod args0 below0 = true := by decide +kernel
theorem w_running : about1.status = .running := rfl
set_option maxRecDepth 65536 in
theorem w_room : about1.hasRoom e0.platform room_1 = true :=
  launch0.hasRoom_least _ room_1 (by decide +kernel) (by decide +kernel) (by decide +kernel) (by decide +kernel) (by decide +kernel) (by decide +kernel)
theorem allAtoms_all (ts : List Jvm.Cond) (a : Array Jvm.Value) (st : Jvm.State) : (allAtoms ts).before a st = ts.all (fun c => c.before a st) := by
  induction ts with
  | nil => rfl
  | cons c t ih =>
    show (Jvm.Cond.and c (allAtoms t)).before a st = _
    rw [Jvm.Cond.before_and, ih, List.all_cons]
def words1 : List Jvm.Cond := Jvm.Cond.code x code maxLocals ret :: tables_1
/-- a 'code' word, met by the world's own term for the bytes: nothing is compared byte by byte -/
theorem code_word {y : MethodName} {bytes : ByteArray} {mx : Nat} {rt : Option FieldType} {a : Array Value} {s : State} {m : MethodId} {meth : Method} {c : Code} (h1 : s.methodNamed? y = some m) (h2 : s.vm.method? m = some meth) (h3 : meth.code = some c) (h4 : c.code = bytes)
    (h5 : (c.maxLocals == mx && c.exceptionTable.isEmpty && decide (c.maxStack ≤ mostOperands) && decide (meth.sig.returnType = rt) && !meth.locks && decide (parseMethodDescriptor y.desc = some meth.sig)) = true) : (Jvm.Cond.code y bytes mx rt).before a s = true := by
  simp only [Bool.and_eq_true, beq_iff_eq, Bool.not_eq_true', decide_eq_true_eq] at h5
  obtain ⟨⟨⟨⟨⟨g1, g2⟩, g3⟩, g4⟩, g5⟩, g6⟩ := h5
  simp [Cond.before, Cond.holds, Cond.value, h1, h2, h3, h4, g1, g2, g3, g4, g5, g6]
def isCode : Jvm.Cond → Bool
  | .code _ _ _ _ => true
  | _ => false
theorem all_split {L : List Jvm.Cond} {P : Jvm.Cond → Bool} (h1 : L.all (fun c => isCode c || P c) = true) (h2 : ∀ c ∈ L.filter isCode, P c = true) : L.all P = true := by
  refine List.all_eq_true.mpr fun c hc => ?_
  have h := List.all_eq_true.mp h1 c hc
  rcases Bool.eq_false_or_eq_true (isCode c) with hi | hi
  · exact h2 c (List.mem_filter.mpr ⟨hc, hi⟩)
  · simpa [hi] using h
set_option maxRecDepth 65536 in
theorem w_c0 : (Jvm.Cond.code x code maxLocals ret).before args0 about1 = true := code_word (m := ⟨1, 1⟩) (meth := k1m1) (c := k1c1) (by decide +kernel) rfl rfl rfl (by decide +kernel)
set_option maxRecDepth 65536 in
theorem w_c1 : (Jvm.Cond.code ({ cls := "com/example/ferryline/ferryline/RedeliveryPolicy", name := "<init>", desc := "(JDJDI)V" } : Jvm.MethodName) prog_52_method_1_code (10 : Nat) (Option.none : Option Jvm.ClassFile.FieldType)).before args0 about1 = true := code_word (m := ⟨2, 0⟩) (meth := k2m0) (c := k2c0) (by decide +kernel) rfl rfl rfl (by decide +kernel)
set_option maxRecDepth 65536 in
theorem w_c2 : (Jvm.Cond.code ({ cls := "java/lang/Object", name := "<init>", desc := "()V" } : Jvm.MethodName) object_method_1_code (1 : Nat) (Option.none : Option Jvm.ClassFile.FieldType)).before args0 about1 = true := code_word (m := ⟨0, 0⟩) (meth := k0m0) (c := k0c0) (by decide +kernel) rfl rfl rfl (by decide +kernel)
set_option maxRecDepth 65536 in
theorem w_c3 : (Jvm.Cond.code ({ cls := "com/example/ferryline/ferryline/RedeliveryPolicy", name := "exhausted", desc := "(I)Z" } : Jvm.MethodName) prog_52_method_4_code (2 : Nat) (Option.some Jvm.ClassFile.FieldType.boolean)).before args0 about1 = true := code_word (m := ⟨2, 1⟩) (meth := k2m1) (c := k2c1) (by decide +kernel) rfl rfl rfl (by decide +kernel)
def codes1 : List Jvm.Cond := [Jvm.Cond.code x code maxLocals ret, Jvm.Cond.code ({ cls := "com/example/ferryline/ferryline/RedeliveryPolicy", name := "<init>", desc := "(JDJDI)V" } : Jvm.MethodName) prog_52_method_1_code (10 : Nat) (Option.none : Option Jvm.ClassFile.FieldType), Jvm.Cond.code ({ cls := "java/lang/Object", name := "<init>", desc := "()V" } : Jvm.MethodName) object_method_1_code (1 : Nat) (Option.none : Option Jvm.ClassFile.FieldType), Jvm.Cond.code ({ cls := "com/example/ferryline/ferryline/RedeliveryPolicy", name := "exhausted", desc := "(I)Z" } : Jvm.MethodName) prog_52_method_4_code (2 : Nat) (Option.some Jvm.ClassFile.FieldType.boolean)]
set_option maxRecDepth 65536 in
theorem codes_eq : words1.filter isCode = codes1 := rfl
theorem w_codes : ∀ c ∈ words1.filter isCode, c.before args0 about1 = true := by
  rw [codes_eq]
  intro c hc
  simp only [codes1, List.mem_cons, List.not_mem_nil, or_false] at hc
  rcases hc with rfl | rfl | rfl | rfl
  · exact w_c0
  · exact w_c1
  · exact w_c2
  · exact w_c3
set_option maxRecDepth 65536 in
theorem w_t1 : (words1.take 24).all (fun c => isCode c || c.before args0 about1) = true := by decide +kernel
set_option maxRecDepth 65536 in
theorem w_t2 : (words1.drop 24).all (fun c => isCode c || c.before args0 about1) = true := by decide +kernel
theorem w_tables : (allAtoms (Jvm.Cond.code x code maxLocals ret :: tables_1)).before args0 about1 = true := by
  rw [allAtoms_all]
  show words1.all (fun c => c.before args0 about1) = true
  refine all_split ?_ w_codes
  rw [← List.take_append_drop 24 words1, List.all_append, w_t1, w_t2]
  rfl
set_option maxRecDepth 65536 in
theorem w_case : (Jvm.Cond.and given_1 narrow_1).before args0 about1 = true := by decide +kernel
theorem w_applies : (headSpec (Jvm.Cond.code x code maxLocals ret :: tables_1) room_1).applies x e0.platform about1 = true :=
  (Spec.applies_iff w_frames).mpr ⟨w_running, w_runnable, w_alone, w_named, w_hears, w_ripe, w_room, w_tables⟩
theorem atStart : AtStart classFile x code maxLocals ret World_1 tables_1 room_1 Calls_1 rest_1 Pre_1 launch0 p0 e0 about1 theMethod args0 below0 :=
  ⟨lists_1, trivial, launch0.admits_env _ _ _, launch0.least_env, fairChoices_fair.cas, fairChoices_fair.clock, w_frames, w_args, w_heap, w_applies, trivial, trivial, w_case⟩
end start1
theorem witness_1 : WitnessClaimed_1 := ⟨start1.p0, start1.e0, start1.about1, start1.theMethod, start1.args0, start1.below0, start1.atStart⟩
end Jvm.Pilot.@@N@@
