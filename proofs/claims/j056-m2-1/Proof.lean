import JvmDerived
import JvmDerived.Pilot.@@N@@Statement
import JvmDerived.Pilot.@@N@@Code
set_option linter.unusedVariables false
set_option linter.unusedSimpArgs false
namespace Jvm.Pilot.@@N@@
open Jvm Jvm.ClassFile Sem Op Lib Jvm.Free Jvm.Stand Jvm.LawKit Jvm.RoadKit Bundle Jvm.Pilot.@@N@@.Jvm.D
/-- from T the run goes on to an end of which Qf says what it is -/
def Goes (tb : Tables) (e : Env) (below : List Frame) (Qf : Outcome → State → Prop) (T : State) : Prop := ∃ s₂ o, Steps tb e below T s₂ ∧ s₂.status = .running ∧ Ended s₂ below o ∧ Qf o s₂
theorem Goes.to {tb : Tables} {e : Env} {below : List Frame} {Qf : Outcome → State → Prop} {T T' : State} (k : ∀ t, Steps tb e below T' t → Steps tb e below T t) (h : Goes tb e below Qf T') : Goes tb e below Qf T := by
  obtain ⟨s, o, h1, h2⟩ := h; exact ⟨s, o, k s h1, h2⟩
theorem Goes.thru {tb : Tables} {e : Env} {below : List Frame} {Qf : Outcome → State → Prop} {T T' : State} (k : Steps tb e below T T') (h : Goes tb e below Qf T') : Goes tb e below Qf T := by
  obtain ⟨s, o, h1, h2⟩ := h; exact ⟨s, o, k.trans h1, h2⟩
theorem own_old {Z : State} {n0 : Nat} {h : Heap} (O : Old Z n0 h) : n0 ≤ h.size := O.1 ▸ O.2.1
theorem own_ext_keep {h h' : Heap} (K : Keep h h' []) : Ext h h' := ⟨K.1, fun a c q => K.2.1 a c q nin0⟩
theorem own_nsroot {Z : State} {a0 : Array Value} {O K : String} {n : Nat} (w : (Jvm.Cond.noSuperclass O).before a0 Z = true) (wk : (Jvm.Cond.instantiable K n).before a0 Z = true) (hn : O ≠ K) : NS Z O K := by
  obtain ⟨c, k, h1, h2, h3, -, -⟩ := Cond.noSuperclass_spec w
  obtain ⟨t, k2, g1, -⟩ := Cond.instantiable_spec wk
  have ne := ids_ne h1 g1 hn
  refine ⟨c, t, h1, g1, fun fuel => ?_⟩
  cases fuel with
  | zero => rfl
  | succ f => simp [Vm.isSubclassAux, ne, h2, h3]
theorem own_nsno {Z : State} {a0 : Array Value} {C S K : String} {n : Nat} (w : (Jvm.Cond.superclass C S).before a0 Z = true) (wk : (Jvm.Cond.instantiable K n).before a0 Z = true) (ns : NS Z C K) (hn : C ≠ K) : ∃ c t, Z.vm.findClass C = some c ∧ Z.vm.findClass K = some t ∧ Z.vm.assignable c t = false := by
  obtain ⟨c, t, h0, g0, n3⟩ := ns
  obtain ⟨p, k, kp, h1, h2, h3, h4, h5, -, h7⟩ := Cond.superclass_spec h0 w
  obtain ⟨t', k', g1, g2, g5, g7, -⟩ := Cond.instantiable_spec wk
  cases g0.symm.trans g1
  have ne := ids_ne h0 g0 hn
  refine ⟨c, t, h0, g0, ?_⟩
  show Z.vm.assignableAux (255 + 1) c t = false
  simp [Vm.assignableAux, ne, h2, g2, h5, g5, (Bool.or_eq_false_iff.mp g7).1, Vm.isSubclass, n3]
theorem own_selp {s : State} {args : Array Value} {y : MethodName} {n : Nat} (wi : (Jvm.Cond.instantiable y.cls n).before args s = true) (hp : (Jvm.Cond.privateMethod y).before args s = true) (hinst : (Jvm.Cond.instanceMethod y).before args s = true) (hy : y.cls ≠ "java/lang/invoke/MethodHandle" ∧ y.cls ≠ "java/lang/invoke/VarHandle") : (Jvm.Cond.selects y.cls y y).before args s = true := by
  obtain ⟨c, k, h1, h2, -, h4, -⟩ := Cond.instantiable_spec wi
  exact selects_self_of_private h1 h2 (Bool.or_eq_false_iff.mp h4).1 (Cond.privateMethod_at hp) hinst hy
theorem own_keep_ext {h h' : Heap} (E : Ext h h') : Keep h h' [] := (Keep.refl h []).ext E
theorem own_len {s : State} {args : Array Value} {t : Term} {a : Addr} {cl : Cell} {ty : FieldType} {k : Int32} (ht : t.eval args s none [] s = some (.ref a)) (A : Arr s s.heap a cl ty) (h : (Cond.eq (.length t) (.int k)).value args s none s [] = some true) : cl.slots.size < 2 ^ 31 ∧ cl.slots.size.toInt32 = k := by
  obtain ⟨x, y, e1, e2, -, k2⟩ := cmp_v (Or.inl h)
  obtain rfl : Value.int k = y := Option.some.inj e2
  obtain ⟨z, rfl⟩ := k2
  have q : (z = k) := gotT (P := z = k) (by simp [Cond.value, e1, e2]) h
  subst q
  have hA := A.fin (Vm.Alike.refl _)
  by_cases hl : cl.slots.size < 2 ^ 31
  · rw [len_f ht hA hl] at e1
    exact ⟨hl, by simpa using e1⟩
  · simp [Term.eval, ht, hA, hl] at e1
theorem own_stR {s : State} {args : Array Value} {t u : Term} {b : Addr} (h : (Cond.eq t u).value args s none s [] = some true) (hu : u.eval args s none [] s = some (.ref b)) : t.eval args s none [] s = some (.ref b) := by
  obtain ⟨x, y, e1, e2, k1, k2⟩ := cmp_v (Or.inl h)
  obtain rfl : y = Value.ref b := Option.some.inj (e2.symm.trans hu)
  have hx : x.isRef = true := by cases x <;> simp [Kin, Value.isRef] at k1 k2 ⊢
  have q : x = Value.ref b := gotT (eq_R e1 e2 hx rfl) h
  subst q; exact e1
theorem own_fldI {s : State} {args : Array Value} {t : Term} {a : Addr} {C n d : String} {k : Int32} (ht : t.eval args s none [] s = some (.ref a)) (h : (Cond.eq (.field t C n d) (.int k)).value args s none s [] = some true) : Fld s s.heap a C n d (.int k) := by
  obtain ⟨x, y, e1, e2, -, k2⟩ := cmp_v (Or.inl h)
  obtain rfl : Value.int k = y := Option.some.inj e2
  obtain ⟨z, rfl⟩ := k2
  have q : (z = k) := gotT (P := z = k) (by simp [Cond.value, e1, e2]) h
  subst q
  exact Fld.start (by rw [← fld_at ht]; exact e1)
theorem own_fldL {s : State} {args : Array Value} {t : Term} {a : Addr} {C n d : String} {k : Int64} (ht : t.eval args s none [] s = some (.ref a)) (h : (Cond.eq (.field t C n d) (.long k)).value args s none s [] = some true) : Fld s s.heap a C n d (.long k) := by
  obtain ⟨x, y, e1, e2, -, k2⟩ := cmp_v (Or.inl h)
  obtain rfl : Value.long k = y := Option.some.inj e2
  obtain ⟨z, rfl⟩ := k2
  have q : (z = k) := gotT (P := z = k) (by simp [Cond.value, e1, e2]) h
  subst q
  exact Fld.start (by rw [← fld_at ht]; exact e1)
theorem own_fldN {s : State} {args : Array Value} {t : Term} {a : Addr} {C n d : String} (ht : t.eval args s none [] s = some (.ref a)) (h : (Cond.eq (.field t C n d) .null).value args s none s [] = some true) : Fld s s.heap a C n d .null :=
  Fld.start (by rw [← fld_at ht]; exact null_v h)
theorem own_fldR {s : State} {args : Array Value} {t : Term} {a b : Addr} {C n d : String} (ht : t.eval args s none [] s = some (.ref a)) (h : (Term.field t C n d).eval args s none [] s = some (.ref b)) : Fld s s.heap a C n d (.ref b) :=
  Fld.start (by rw [← fld_at ht]; exact h)
theorem own_stI {s : State} {args : Array Value} {t : Term} {k : Int32} (h : (Cond.eq t (.int k)).value args s none s [] = some true) : t.eval args s none [] s = some (.int k) := by
  obtain ⟨x, y, e1, e2, -, k2⟩ := cmp_v (Or.inl h)
  obtain rfl : Value.int k = y := Option.some.inj e2
  obtain ⟨z, rfl⟩ := k2
  have q : (z = k) := gotT (P := z = k) (by simp [Cond.value, e1, e2]) h
  subst q; exact e1
theorem own_mod8 (x : Int32) : ((x &&& (2147483647 : Int32)) % (8 : Int32)) = (0 : Int32) ∨ ((x &&& (2147483647 : Int32)) % (8 : Int32)) = (1 : Int32) ∨ ((x &&& (2147483647 : Int32)) % (8 : Int32)) = (2 : Int32) ∨ ((x &&& (2147483647 : Int32)) % (8 : Int32)) = (3 : Int32) ∨ ((x &&& (2147483647 : Int32)) % (8 : Int32)) = (4 : Int32) ∨ ((x &&& (2147483647 : Int32)) % (8 : Int32)) = (5 : Int32) ∨ ((x &&& (2147483647 : Int32)) % (8 : Int32)) = (6 : Int32) ∨ ((x &&& (2147483647 : Int32)) % (8 : Int32)) = (7 : Int32) := by
  have h := c_mask x 2147483647 31 (by decide) (by decide)
  have h2 := (c_irem (x &&& (2147483647 : Int32)) 8 8 rfl).1 (by rw [h]; omega)
  have e0 : (0 : Int32).toInt = 0 := rfl
  have e1 : (1 : Int32).toInt = 1 := rfl
  have e2 : (2 : Int32).toInt = 2 := rfl
  have e3 : (3 : Int32).toInt = 3 := rfl
  have e4 : (4 : Int32).toInt = 4 := rfl
  have e5 : (5 : Int32).toInt = 5 := rfl
  have e6 : (6 : Int32).toInt = 6 := rfl
  have e7 : (7 : Int32).toInt = 7 := rfl
  simp only [← Int32.toInt_inj, h2, e0, e1, e2, e3, e4, e5, e6, e7]
  omega
def Nar (Z : State) (w_Topic_INPUT : Addr) (w_Topic_INPUT_defaultName : Addr) (w_Topic_REJECTED : Addr) (w_Topic_REJECTED_defaultName : Addr) (w_Topic_BLOCK_LIST : Addr) (w_Topic_BLOCK_LIST_suffix : Addr) (w_Topic_DECIDED : Addr) (w_Topic_DECIDED_suffix : Addr) (w_Topic_ALERT : Addr) (w_Topic_ALERT_defaultName : Addr) (w_Topic_DECISION : Addr) (w_Topic_DECISION_defaultName : Addr) (w_Topic_REFUSED : Addr) (w_Topic_REFUSED_defaultName : Addr) (w_Topic_HISTORY : Addr) (w_Topic_HISTORY_suffix : Addr) : Prop := (Sta Z Z.heap "com/example/issuer/issuer/kafka/Topic" "INPUT" "Lcom/example/issuer/issuer/kafka/Topic;" (.ref w_Topic_INPUT)) ∧ (Exa Z Z.heap w_Topic_INPUT "com/example/issuer/issuer/kafka/Topic") ∧ (Fld Z Z.heap w_Topic_INPUT "com/example/issuer/issuer/kafka/Topic" "defaultName" "Ljava/lang/String;" (.ref w_Topic_INPUT_defaultName)) ∧ (Exa Z Z.heap w_Topic_INPUT_defaultName "java/lang/String") ∧ (Sta Z Z.heap "com/example/issuer/issuer/kafka/Topic" "REJECTED" "Lcom/example/issuer/issuer/kafka/Topic;" (.ref w_Topic_REJECTED)) ∧ (Exa Z Z.heap w_Topic_REJECTED "com/example/issuer/issuer/kafka/Topic") ∧ (Fld Z Z.heap w_Topic_REJECTED "com/example/issuer/issuer/kafka/Topic" "defaultName" "Ljava/lang/String;" (.ref w_Topic_REJECTED_defaultName)) ∧ (Exa Z Z.heap w_Topic_REJECTED_defaultName "java/lang/String") ∧ (Sta Z Z.heap "com/example/issuer/issuer/kafka/Topic" "BLOCK_LIST" "Lcom/example/issuer/issuer/kafka/Topic;" (.ref w_Topic_BLOCK_LIST)) ∧ (Exa Z Z.heap w_Topic_BLOCK_LIST "com/example/issuer/issuer/kafka/Topic") ∧ (Fld Z Z.heap w_Topic_BLOCK_LIST "com/example/issuer/issuer/kafka/Topic" "suffix" "Ljava/lang/String;" (.ref w_Topic_BLOCK_LIST_suffix)) ∧ (Exa Z Z.heap w_Topic_BLOCK_LIST_suffix "java/lang/String") ∧ (Sta Z Z.heap "com/example/issuer/issuer/kafka/Topic" "DECIDED" "Lcom/example/issuer/issuer/kafka/Topic;" (.ref w_Topic_DECIDED)) ∧ (Exa Z Z.heap w_Topic_DECIDED "com/example/issuer/issuer/kafka/Topic") ∧ (Fld Z Z.heap w_Topic_DECIDED "com/example/issuer/issuer/kafka/Topic" "suffix" "Ljava/lang/String;" (.ref w_Topic_DECIDED_suffix)) ∧ (Exa Z Z.heap w_Topic_DECIDED_suffix "java/lang/String") ∧ (Sta Z Z.heap "com/example/issuer/issuer/kafka/Topic" "ALERT" "Lcom/example/issuer/issuer/kafka/Topic;" (.ref w_Topic_ALERT)) ∧ (Exa Z Z.heap w_Topic_ALERT "com/example/issuer/issuer/kafka/Topic") ∧ (Fld Z Z.heap w_Topic_ALERT "com/example/issuer/issuer/kafka/Topic" "defaultName" "Ljava/lang/String;" (.ref w_Topic_ALERT_defaultName)) ∧ (Exa Z Z.heap w_Topic_ALERT_defaultName "java/lang/String") ∧ (Sta Z Z.heap "com/example/issuer/issuer/kafka/Topic" "DECISION" "Lcom/example/issuer/issuer/kafka/Topic;" (.ref w_Topic_DECISION)) ∧ (Exa Z Z.heap w_Topic_DECISION "com/example/issuer/issuer/kafka/Topic") ∧ (Fld Z Z.heap w_Topic_DECISION "com/example/issuer/issuer/kafka/Topic" "defaultName" "Ljava/lang/String;" (.ref w_Topic_DECISION_defaultName)) ∧ (Exa Z Z.heap w_Topic_DECISION_defaultName "java/lang/String") ∧ (Sta Z Z.heap "com/example/issuer/issuer/kafka/Topic" "REFUSED" "Lcom/example/issuer/issuer/kafka/Topic;" (.ref w_Topic_REFUSED)) ∧ (Exa Z Z.heap w_Topic_REFUSED "com/example/issuer/issuer/kafka/Topic") ∧ (Fld Z Z.heap w_Topic_REFUSED "com/example/issuer/issuer/kafka/Topic" "defaultName" "Ljava/lang/String;" (.ref w_Topic_REFUSED_defaultName)) ∧ (Exa Z Z.heap w_Topic_REFUSED_defaultName "java/lang/String") ∧ (Sta Z Z.heap "com/example/issuer/issuer/kafka/Topic" "HISTORY" "Lcom/example/issuer/issuer/kafka/Topic;" (.ref w_Topic_HISTORY)) ∧ (Exa Z Z.heap w_Topic_HISTORY "com/example/issuer/issuer/kafka/Topic") ∧ (Fld Z Z.heap w_Topic_HISTORY "com/example/issuer/issuer/kafka/Topic" "suffix" "Ljava/lang/String;" (.ref w_Topic_HISTORY_suffix)) ∧ (Exa Z Z.heap w_Topic_HISTORY_suffix "java/lang/String") ∧ (Fld Z Z.heap w_Topic_INPUT "com/example/issuer/issuer/kafka/Topic" "suffix" "Ljava/lang/String;" .null) ∧ (Fld Z Z.heap w_Topic_REJECTED "com/example/issuer/issuer/kafka/Topic" "suffix" "Ljava/lang/String;" .null) ∧ (Fld Z Z.heap w_Topic_BLOCK_LIST "com/example/issuer/issuer/kafka/Topic" "defaultName" "Ljava/lang/String;" .null) ∧ (Fld Z Z.heap w_Topic_DECIDED "com/example/issuer/issuer/kafka/Topic" "defaultName" "Ljava/lang/String;" .null) ∧ (Fld Z Z.heap w_Topic_ALERT "com/example/issuer/issuer/kafka/Topic" "suffix" "Ljava/lang/String;" .null) ∧ (Fld Z Z.heap w_Topic_DECISION "com/example/issuer/issuer/kafka/Topic" "suffix" "Ljava/lang/String;" .null) ∧ (Fld Z Z.heap w_Topic_REFUSED "com/example/issuer/issuer/kafka/Topic" "suffix" "Ljava/lang/String;" .null) ∧ (Fld Z Z.heap w_Topic_HISTORY "com/example/issuer/issuer/kafka/Topic" "defaultName" "Ljava/lang/String;" .null)
theorem d1_0 : decode method_2_code 0 = .ok (.iload_n 0, 1) := by decide +kernel
theorem d1_1 : decode method_2_code 1 = .ok (.ifCond .ne 7, 3) := by decide +kernel
theorem d1_4 : decode method_2_code 4 = .ok (.getstatic 7, 3) := by decide +kernel
theorem d1_7 : decode method_2_code 7 = .ok (.areturn, 1) := by decide +kernel
theorem d1_8 : decode method_2_code 8 = .ok (.iload_n 0, 1) := by decide +kernel
theorem d1_9 : decode method_2_code 9 = .ok (.iconst 1, 1) := by decide +kernel
theorem d1_10 : decode method_2_code 10 = .ok (.if_icmp .ne 7, 3) := by decide +kernel
theorem d1_13 : decode method_2_code 13 = .ok (.getstatic 13, 3) := by decide +kernel
theorem d1_16 : decode method_2_code 16 = .ok (.areturn, 1) := by decide +kernel
theorem d1_17 : decode method_2_code 17 = .ok (.iload_n 0, 1) := by decide +kernel
theorem d1_18 : decode method_2_code 18 = .ok (.iconst 2, 1) := by decide +kernel
theorem d1_19 : decode method_2_code 19 = .ok (.if_icmp .ne 7, 3) := by decide +kernel
theorem d1_22 : decode method_2_code 22 = .ok (.getstatic 16, 3) := by decide +kernel
theorem d1_25 : decode method_2_code 25 = .ok (.areturn, 1) := by decide +kernel
theorem d1_26 : decode method_2_code 26 = .ok (.iload_n 0, 1) := by decide +kernel
theorem d1_27 : decode method_2_code 27 = .ok (.iconst 3, 1) := by decide +kernel
theorem d1_28 : decode method_2_code 28 = .ok (.if_icmp .ne 7, 3) := by decide +kernel
theorem d1_31 : decode method_2_code 31 = .ok (.getstatic 19, 3) := by decide +kernel
theorem d1_34 : decode method_2_code 34 = .ok (.areturn, 1) := by decide +kernel
theorem d1_35 : decode method_2_code 35 = .ok (.iload_n 0, 1) := by decide +kernel
theorem d1_36 : decode method_2_code 36 = .ok (.iconst 4, 1) := by decide +kernel
theorem d1_37 : decode method_2_code 37 = .ok (.if_icmp .ne 7, 3) := by decide +kernel
theorem d1_40 : decode method_2_code 40 = .ok (.getstatic 22, 3) := by decide +kernel
theorem d1_43 : decode method_2_code 43 = .ok (.areturn, 1) := by decide +kernel
theorem d1_44 : decode method_2_code 44 = .ok (.iload_n 0, 1) := by decide +kernel
theorem d1_45 : decode method_2_code 45 = .ok (.iconst 5, 1) := by decide +kernel
theorem d1_46 : decode method_2_code 46 = .ok (.if_icmp .ne 7, 3) := by decide +kernel
theorem d1_49 : decode method_2_code 49 = .ok (.getstatic 25, 3) := by decide +kernel
theorem d1_52 : decode method_2_code 52 = .ok (.areturn, 1) := by decide +kernel
theorem d1_53 : decode method_2_code 53 = .ok (.iload_n 0, 1) := by decide +kernel
theorem d1_54 : decode method_2_code 54 = .ok (.bipush 6, 2) := by decide +kernel
theorem d1_56 : decode method_2_code 56 = .ok (.if_icmp .ne 7, 3) := by decide +kernel
theorem d1_59 : decode method_2_code 59 = .ok (.getstatic 28, 3) := by decide +kernel
theorem d1_62 : decode method_2_code 62 = .ok (.areturn, 1) := by decide +kernel
theorem d1_63 : decode method_2_code 63 = .ok (.getstatic 31, 3) := by decide +kernel
theorem d1_66 : decode method_2_code 66 = .ok (.areturn, 1) := by decide +kernel
theorem pn_1 : plainName "com/example/issuer/issuer/kafka/TopicIsKeptPinLaw" = true := by first | (simp [plainName, overriddenIn]; done) | decide +kernel
theorem ef_rmP (m : MethodId) (x0 : Int32) : entryFrame m #[(.int x0)] 1 = mkF m 0 #[.val (.int x0)] [] := by first | (simp [entryFrame, mkF, argsToLocals, Value.category]; done) | rfl
def Q_rmP (Z : State) (p0 : Int32) (w_Topic_INPUT : Addr) (w_Topic_INPUT_defaultName : Addr) (w_Topic_REJECTED : Addr) (w_Topic_REJECTED_defaultName : Addr) (w_Topic_BLOCK_LIST : Addr) (w_Topic_BLOCK_LIST_suffix : Addr) (w_Topic_DECIDED : Addr) (w_Topic_DECIDED_suffix : Addr) (w_Topic_ALERT : Addr) (w_Topic_ALERT_defaultName : Addr) (w_Topic_DECISION : Addr) (w_Topic_DECISION_defaultName : Addr) (w_Topic_REFUSED : Addr) (w_Topic_REFUSED_defaultName : Addr) (w_Topic_HISTORY : Addr) (w_Topic_HISTORY_suffix : Addr) (r : Addr) (h0 : Heap) (n0 : Nat) (v : Option Value) (h : Heap) (L : List Loc) : Prop := v = some (.ref r) ∧ Fr n0 L ∧ h = h0
set_option maxRecDepth 65536 in
set_option maxHeartbeats 40000000 in
theorem rmP (l : Launch) (Z : State) (a0 : Array Value) (hw : ∀ d ∈ tables_1, d.before a0 Z = true) (ws : List Jvm.Cond) (p0 : Int32) (w_Topic_INPUT : Addr) (w_Topic_INPUT_defaultName : Addr) (w_Topic_REJECTED : Addr) (w_Topic_REJECTED_defaultName : Addr) (w_Topic_BLOCK_LIST : Addr) (w_Topic_BLOCK_LIST_suffix : Addr) (w_Topic_DECIDED : Addr) (w_Topic_DECIDED_suffix : Addr) (w_Topic_ALERT : Addr) (w_Topic_ALERT_defaultName : Addr) (w_Topic_DECISION : Addr) (w_Topic_DECISION_defaultName : Addr) (w_Topic_REFUSED : Addr) (w_Topic_REFUSED_defaultName : Addr) (w_Topic_HISTORY : Addr) (w_Topic_HISTORY_suffix : Addr) (r : Addr) (h0 : Heap) (n0 : Nat) (O0 : Old Z n0 h0) (NF : Nar Z w_Topic_INPUT w_Topic_INPUT_defaultName w_Topic_REJECTED w_Topic_REJECTED_defaultName w_Topic_BLOCK_LIST w_Topic_BLOCK_LIST_suffix w_Topic_DECIDED w_Topic_DECIDED_suffix w_Topic_ALERT w_Topic_ALERT_defaultName w_Topic_DECISION w_Topic_DECISION_defaultName w_Topic_REFUSED w_Topic_REFUSED_defaultName w_Topic_HISTORY w_Topic_HISTORY_suffix) (hr : r = if p0 = 0 then w_Topic_INPUT else if p0 = 1 then w_Topic_DECISION else if p0 = 2 then w_Topic_ALERT else if p0 = 3 then w_Topic_REJECTED else if p0 = 4 then w_Topic_REFUSED else if p0 = 5 then w_Topic_HISTORY else if p0 = 6 then w_Topic_BLOCK_LIST else w_Topic_DECIDED) :
    MetFree l (⟨"com/example/issuer/issuer/kafka/TopicIsKeptPinLaw", "pick", "(I)Lcom/example/issuer/issuer/kafka/Topic;"⟩ : MethodName) (head1 (Jvm.Cond.code (⟨"com/example/issuer/issuer/kafka/TopicIsKeptPinLaw", "pick", "(I)Lcom/example/issuer/issuer/kafka/Topic;"⟩ : MethodName) method_2_code 1 (some (.object "com/example/issuer/issuer/kafka/Topic")) :: ws) ({ frames := 0, cells := 0, slots := 0, locals := 0 } : Room)) (fun a U => a = #[(.int p0)] ∧ Z.Warmed39 U.vm ∧ U.heap = h0) (fun _ _ _ _ _ => True) (fun _ U o U' => ∃ v L, o = .returned v ∧ Q_rmP Z p0 w_Topic_INPUT w_Topic_INPUT_defaultName w_Topic_REJECTED w_Topic_REJECTED_defaultName w_Topic_BLOCK_LIST w_Topic_BLOCK_LIST_suffix w_Topic_DECIDED w_Topic_DECIDED_suffix w_Topic_ALERT w_Topic_ALERT_defaultName w_Topic_DECISION w_Topic_DECISION_defaultName w_Topic_REFUSED w_Topic_REFUSED_defaultName w_Topic_HISTORY w_Topic_HISTORY_suffix r h0 n0 v U'.heap L ∧ FrameEnd U o U' L ({ frames := 0, cells := 0, slots := 0, locals := 0 } : Room).cells ({ frames := 0, cells := 0, slots := 0, locals := 0 } : Room).slots) := by
  refine MetFree.of_bodySF (plainFor_of_name pn_1) hisR ?_
  intro p e s m args below meth c s₁ Bd hml0 hP hK
  obtain ⟨rfl, hZ, hh⟩ := hP
  have hx := Bd.exec
  have hby := Bd.bytes
  have hml : c.maxLocals = 1 := hml0
  have hown : s.vm.findClass "com/example/issuer/issuer/kafka/TopicIsKeptPinLaw" = some m.cls := findClass_of_methodNamed Bd.named
  have hnm := (name_of_methodNamed Bd.named Bd.method).1
  have X0 : Stand p l e ({ frames := 0, cells := 0, slots := 0, locals := 0 } : Room) s m #[(.int p0)] below meth c s₁ [] 0 0 := Stand.of_body Bd
  have e0 : s₁.heap = h0 := by rw [← hh, Bd.state]; rfl
  have N0 := Fr.nil n0
  suffices G : ∀ (Qf : Outcome → State → Prop), Qf = (fun (_ : Array Value) (U : State) (o : Outcome) (U' : State) => ∃ v L, o = .returned v ∧ Q_rmP Z p0 w_Topic_INPUT w_Topic_INPUT_defaultName w_Topic_REJECTED w_Topic_REJECTED_defaultName w_Topic_BLOCK_LIST w_Topic_BLOCK_LIST_suffix w_Topic_DECIDED w_Topic_DECIDED_suffix w_Topic_ALERT w_Topic_ALERT_defaultName w_Topic_DECISION w_Topic_DECISION_defaultName w_Topic_REFUSED w_Topic_REFUSED_defaultName w_Topic_HISTORY w_Topic_HISTORY_suffix r h0 n0 v U'.heap L ∧ FrameEnd U o U' L ({ frames := 0, cells := 0, slots := 0, locals := 0 } : Room).cells ({ frames := 0, cells := 0, slots := 0, locals := 0 } : Room).slots) #[] s → Goes p.tables e below Qf (s₁.setTop (mkF m 0 #[.val (.int p0)] [])) by
    obtain ⟨s₂, o, g1, g2, g3, g4⟩ := G _ rfl
    exact ⟨s₂, o, castTop (ef_rmP m _) g1, g2, g3, g4⟩
  intro Qf hQf
  obtain ⟨S_w_Topic_INPUT, E_w_Topic_INPUT, F_defaultName_w_Topic_INPUT, E_w_Topic_INPUT_defaultName, S_w_Topic_REJECTED, E_w_Topic_REJECTED, F_defaultName_w_Topic_REJECTED, E_w_Topic_REJECTED_defaultName, S_w_Topic_BLOCK_LIST, E_w_Topic_BLOCK_LIST, F_suffix_w_Topic_BLOCK_LIST, E_w_Topic_BLOCK_LIST_suffix, S_w_Topic_DECIDED, E_w_Topic_DECIDED, F_suffix_w_Topic_DECIDED, E_w_Topic_DECIDED_suffix, S_w_Topic_ALERT, E_w_Topic_ALERT, F_defaultName_w_Topic_ALERT, E_w_Topic_ALERT_defaultName, S_w_Topic_DECISION, E_w_Topic_DECISION, F_defaultName_w_Topic_DECISION, E_w_Topic_DECISION_defaultName, S_w_Topic_REFUSED, E_w_Topic_REFUSED, F_defaultName_w_Topic_REFUSED, E_w_Topic_REFUSED_defaultName, S_w_Topic_HISTORY, E_w_Topic_HISTORY, F_suffix_w_Topic_HISTORY, E_w_Topic_HISTORY_suffix, F_suffix_w_Topic_INPUT, F_suffix_w_Topic_REJECTED, F_defaultName_w_Topic_BLOCK_LIST, F_defaultName_w_Topic_DECIDED, F_suffix_w_Topic_ALERT, F_suffix_w_Topic_DECISION, F_suffix_w_Topic_REFUSED, F_defaultName_w_Topic_HISTORY⟩ := id NF
  refine Goes.to (T' := s₁.setTop (mkF m 1 #[.val (.int p0)] [(.int p0)])) (fun t k => XS.iloadN X0.here hx rfl (hb hby d1_0) rfl k) ?_
  rcases Decidable.em (p0 = (0 : Int32)) with hc1_1 | hc1_1
  · skip
    refine Goes.to (T' := s₁.setTop (mkF m 4 #[.val (.int p0)] [])) (fun t k => XS.ifNo X0.here hx rfl (hb hby d1_1) rfl ((if0 _ _).trans (teq hc1_1).2) k) ?_
    obtain ⟨T2, X2, e2, st2⟩ := getS2 X0 hx hZ hown (host := "") (Or.inl (hw _ (List.mem_of_getElem? (i := 5) rfl))) Via.refl e0 (S_w_Topic_INPUT.ext O0.2) (g := (mkF m 4 #[.val (.int p0)] [])) rfl (hb hby d1_4)
    refine Goes.to (T' := T2.setTop (mkF m 7 #[.val (.int p0)] [(.ref w_Topic_INPUT)])) st2 ?_
    obtain ⟨fs, hrL, hrun, hended, hW, hsame⟩ := X2.leave (v := some (.ref w_Topic_INPUT)) (fun h => by rw [Bd.returns] at h; cases h)
    subst hQf
    refine ⟨_, _, retOut X2 hx Bd.returns rfl (Or.inr (Or.inr (Or.inr (Or.inr ⟨rfl, rfl, rfl⟩)))) (hb hby d1_7) hrL, hrun, hended, _, _, rfl, ?_, ⟨_, rfl⟩, hW, hsame.mono (by decide) (by decide)⟩
    show (fun (v : Option Value) (h : Heap) (L : List Loc) => v = some (.ref r) ∧ Fr n0 L ∧ h = h0) (some (.ref w_Topic_INPUT)) T2.heap _
    rw [e2]
    have hv : w_Topic_INPUT = r := by rw [hr]; simp [hc1_1]
    exact ⟨by rw [hv], N0, rfl⟩
  · skip
    refine Goes.to (T' := s₁.setTop (mkF m 8 #[.val (.int p0)] [])) (fun t k => XS.ifYes X0.here hx rfl (pc0 := 1) (pc' := 8) rfl (hb hby d1_1) rfl ((if0 _ _).trans (feq hc1_1).2) (by decide) (by decide) k) ?_
    refine Goes.to (T' := s₁.setTop (mkF m 9 #[.val (.int p0)] [(.int p0)])) (fun t k => XS.iloadN X0.here hx rfl (hb hby d1_8) rfl k) ?_
    refine Goes.to (T' := s₁.setTop (mkF m 10 #[.val (.int p0)] [(.int (1 : Int32)), (.int p0)])) (fun t k => XS.iconst X0.here hx rfl (hb hby d1_9) k) ?_
    rcases Decidable.em (p0 = (1 : Int32)) with hc10_3 | hc10_3
    · skip
      refine Goes.to (T' := s₁.setTop (mkF m 13 #[.val (.int p0)] [])) (fun t k => XS.icmpNo X0.here hx rfl (hb hby d1_10) rfl (teq hc10_3).2 k) ?_
      obtain ⟨T4, X4, e4, st4⟩ := getS2 X0 hx hZ hown (host := "") (Or.inl (hw _ (List.mem_of_getElem? (i := 30) rfl))) Via.refl e0 (S_w_Topic_DECISION.ext O0.2) (g := (mkF m 13 #[.val (.int p0)] [])) rfl (hb hby d1_13)
      refine Goes.to (T' := T4.setTop (mkF m 16 #[.val (.int p0)] [(.ref w_Topic_DECISION)])) st4 ?_
      obtain ⟨fs, hrL, hrun, hended, hW, hsame⟩ := X4.leave (v := some (.ref w_Topic_DECISION)) (fun h => by rw [Bd.returns] at h; cases h)
      subst hQf
      refine ⟨_, _, retOut X4 hx Bd.returns rfl (Or.inr (Or.inr (Or.inr (Or.inr ⟨rfl, rfl, rfl⟩)))) (hb hby d1_16) hrL, hrun, hended, _, _, rfl, ?_, ⟨_, rfl⟩, hW, hsame.mono (by decide) (by decide)⟩
      show (fun (v : Option Value) (h : Heap) (L : List Loc) => v = some (.ref r) ∧ Fr n0 L ∧ h = h0) (some (.ref w_Topic_DECISION)) T4.heap _
      rw [e4]
      have hv : w_Topic_DECISION = r := by rw [hr]; simp [hc1_1, hc10_3]
      exact ⟨by rw [hv], N0, rfl⟩
    · skip
      refine Goes.to (T' := s₁.setTop (mkF m 17 #[.val (.int p0)] [])) (fun t k => XS.icmpYes X0.here hx rfl (pc0 := 10) (pc' := 17) rfl (hb hby d1_10) rfl (feq hc10_3).2 (by decide) (by decide) k) ?_
      refine Goes.to (T' := s₁.setTop (mkF m 18 #[.val (.int p0)] [(.int p0)])) (fun t k => XS.iloadN X0.here hx rfl (hb hby d1_17) rfl k) ?_
      refine Goes.to (T' := s₁.setTop (mkF m 19 #[.val (.int p0)] [(.int (2 : Int32)), (.int p0)])) (fun t k => XS.iconst X0.here hx rfl (hb hby d1_18) k) ?_
      rcases Decidable.em (p0 = (2 : Int32)) with hc19_5 | hc19_5
      · skip
        refine Goes.to (T' := s₁.setTop (mkF m 22 #[.val (.int p0)] [])) (fun t k => XS.icmpNo X0.here hx rfl (hb hby d1_19) rfl (teq hc19_5).2 k) ?_
        obtain ⟨T6, X6, e6, st6⟩ := getS2 X0 hx hZ hown (host := "") (Or.inl (hw _ (List.mem_of_getElem? (i := 28) rfl))) Via.refl e0 (S_w_Topic_ALERT.ext O0.2) (g := (mkF m 22 #[.val (.int p0)] [])) rfl (hb hby d1_22)
        refine Goes.to (T' := T6.setTop (mkF m 25 #[.val (.int p0)] [(.ref w_Topic_ALERT)])) st6 ?_
        obtain ⟨fs, hrL, hrun, hended, hW, hsame⟩ := X6.leave (v := some (.ref w_Topic_ALERT)) (fun h => by rw [Bd.returns] at h; cases h)
        subst hQf
        refine ⟨_, _, retOut X6 hx Bd.returns rfl (Or.inr (Or.inr (Or.inr (Or.inr ⟨rfl, rfl, rfl⟩)))) (hb hby d1_25) hrL, hrun, hended, _, _, rfl, ?_, ⟨_, rfl⟩, hW, hsame.mono (by decide) (by decide)⟩
        show (fun (v : Option Value) (h : Heap) (L : List Loc) => v = some (.ref r) ∧ Fr n0 L ∧ h = h0) (some (.ref w_Topic_ALERT)) T6.heap _
        rw [e6]
        have hv : w_Topic_ALERT = r := by rw [hr]; simp [hc1_1, hc10_3, hc19_5]
        exact ⟨by rw [hv], N0, rfl⟩
      · skip
        refine Goes.to (T' := s₁.setTop (mkF m 26 #[.val (.int p0)] [])) (fun t k => XS.icmpYes X0.here hx rfl (pc0 := 19) (pc' := 26) rfl (hb hby d1_19) rfl (feq hc19_5).2 (by decide) (by decide) k) ?_
        refine Goes.to (T' := s₁.setTop (mkF m 27 #[.val (.int p0)] [(.int p0)])) (fun t k => XS.iloadN X0.here hx rfl (hb hby d1_26) rfl k) ?_
        refine Goes.to (T' := s₁.setTop (mkF m 28 #[.val (.int p0)] [(.int (3 : Int32)), (.int p0)])) (fun t k => XS.iconst X0.here hx rfl (hb hby d1_27) k) ?_
        rcases Decidable.em (p0 = (3 : Int32)) with hc28_7 | hc28_7
        · skip
          refine Goes.to (T' := s₁.setTop (mkF m 31 #[.val (.int p0)] [])) (fun t k => XS.icmpNo X0.here hx rfl (hb hby d1_28) rfl (teq hc28_7).2 k) ?_
          obtain ⟨T8, X8, e8, st8⟩ := getS2 X0 hx hZ hown (host := "") (Or.inl (hw _ (List.mem_of_getElem? (i := 22) rfl))) Via.refl e0 (S_w_Topic_REJECTED.ext O0.2) (g := (mkF m 31 #[.val (.int p0)] [])) rfl (hb hby d1_31)
          refine Goes.to (T' := T8.setTop (mkF m 34 #[.val (.int p0)] [(.ref w_Topic_REJECTED)])) st8 ?_
          obtain ⟨fs, hrL, hrun, hended, hW, hsame⟩ := X8.leave (v := some (.ref w_Topic_REJECTED)) (fun h => by rw [Bd.returns] at h; cases h)
          subst hQf
          refine ⟨_, _, retOut X8 hx Bd.returns rfl (Or.inr (Or.inr (Or.inr (Or.inr ⟨rfl, rfl, rfl⟩)))) (hb hby d1_34) hrL, hrun, hended, _, _, rfl, ?_, ⟨_, rfl⟩, hW, hsame.mono (by decide) (by decide)⟩
          show (fun (v : Option Value) (h : Heap) (L : List Loc) => v = some (.ref r) ∧ Fr n0 L ∧ h = h0) (some (.ref w_Topic_REJECTED)) T8.heap _
          rw [e8]
          have hv : w_Topic_REJECTED = r := by rw [hr]; simp [hc1_1, hc10_3, hc19_5, hc28_7]
          exact ⟨by rw [hv], N0, rfl⟩
        · skip
          refine Goes.to (T' := s₁.setTop (mkF m 35 #[.val (.int p0)] [])) (fun t k => XS.icmpYes X0.here hx rfl (pc0 := 28) (pc' := 35) rfl (hb hby d1_28) rfl (feq hc28_7).2 (by decide) (by decide) k) ?_
          refine Goes.to (T' := s₁.setTop (mkF m 36 #[.val (.int p0)] [(.int p0)])) (fun t k => XS.iloadN X0.here hx rfl (hb hby d1_35) rfl k) ?_
          refine Goes.to (T' := s₁.setTop (mkF m 37 #[.val (.int p0)] [(.int (4 : Int32)), (.int p0)])) (fun t k => XS.iconst X0.here hx rfl (hb hby d1_36) k) ?_
          rcases Decidable.em (p0 = (4 : Int32)) with hc37_9 | hc37_9
          · skip
            refine Goes.to (T' := s₁.setTop (mkF m 40 #[.val (.int p0)] [])) (fun t k => XS.icmpNo X0.here hx rfl (hb hby d1_37) rfl (teq hc37_9).2 k) ?_
            obtain ⟨T10, X10, e10, st10⟩ := getS2 X0 hx hZ hown (host := "") (Or.inl (hw _ (List.mem_of_getElem? (i := 32) rfl))) Via.refl e0 (S_w_Topic_REFUSED.ext O0.2) (g := (mkF m 40 #[.val (.int p0)] [])) rfl (hb hby d1_40)
            refine Goes.to (T' := T10.setTop (mkF m 43 #[.val (.int p0)] [(.ref w_Topic_REFUSED)])) st10 ?_
            obtain ⟨fs, hrL, hrun, hended, hW, hsame⟩ := X10.leave (v := some (.ref w_Topic_REFUSED)) (fun h => by rw [Bd.returns] at h; cases h)
            subst hQf
            refine ⟨_, _, retOut X10 hx Bd.returns rfl (Or.inr (Or.inr (Or.inr (Or.inr ⟨rfl, rfl, rfl⟩)))) (hb hby d1_43) hrL, hrun, hended, _, _, rfl, ?_, ⟨_, rfl⟩, hW, hsame.mono (by decide) (by decide)⟩
            show (fun (v : Option Value) (h : Heap) (L : List Loc) => v = some (.ref r) ∧ Fr n0 L ∧ h = h0) (some (.ref w_Topic_REFUSED)) T10.heap _
            rw [e10]
            have hv : w_Topic_REFUSED = r := by rw [hr]; simp [hc1_1, hc10_3, hc19_5, hc28_7, hc37_9]
            exact ⟨by rw [hv], N0, rfl⟩
          · skip
            refine Goes.to (T' := s₁.setTop (mkF m 44 #[.val (.int p0)] [])) (fun t k => XS.icmpYes X0.here hx rfl (pc0 := 37) (pc' := 44) rfl (hb hby d1_37) rfl (feq hc37_9).2 (by decide) (by decide) k) ?_
            refine Goes.to (T' := s₁.setTop (mkF m 45 #[.val (.int p0)] [(.int p0)])) (fun t k => XS.iloadN X0.here hx rfl (hb hby d1_44) rfl k) ?_
            refine Goes.to (T' := s₁.setTop (mkF m 46 #[.val (.int p0)] [(.int (5 : Int32)), (.int p0)])) (fun t k => XS.iconst X0.here hx rfl (hb hby d1_45) k) ?_
            rcases Decidable.em (p0 = (5 : Int32)) with hc46_11 | hc46_11
            · skip
              refine Goes.to (T' := s₁.setTop (mkF m 49 #[.val (.int p0)] [])) (fun t k => XS.icmpNo X0.here hx rfl (hb hby d1_46) rfl (teq hc46_11).2 k) ?_
              obtain ⟨T12, X12, e12, st12⟩ := getS2 X0 hx hZ hown (host := "") (Or.inl (hw _ (List.mem_of_getElem? (i := 34) rfl))) Via.refl e0 (S_w_Topic_HISTORY.ext O0.2) (g := (mkF m 49 #[.val (.int p0)] [])) rfl (hb hby d1_49)
              refine Goes.to (T' := T12.setTop (mkF m 52 #[.val (.int p0)] [(.ref w_Topic_HISTORY)])) st12 ?_
              obtain ⟨fs, hrL, hrun, hended, hW, hsame⟩ := X12.leave (v := some (.ref w_Topic_HISTORY)) (fun h => by rw [Bd.returns] at h; cases h)
              subst hQf
              refine ⟨_, _, retOut X12 hx Bd.returns rfl (Or.inr (Or.inr (Or.inr (Or.inr ⟨rfl, rfl, rfl⟩)))) (hb hby d1_52) hrL, hrun, hended, _, _, rfl, ?_, ⟨_, rfl⟩, hW, hsame.mono (by decide) (by decide)⟩
              show (fun (v : Option Value) (h : Heap) (L : List Loc) => v = some (.ref r) ∧ Fr n0 L ∧ h = h0) (some (.ref w_Topic_HISTORY)) T12.heap _
              rw [e12]
              have hv : w_Topic_HISTORY = r := by rw [hr]; simp [hc1_1, hc10_3, hc19_5, hc28_7, hc37_9, hc46_11]
              exact ⟨by rw [hv], N0, rfl⟩
            · skip
              refine Goes.to (T' := s₁.setTop (mkF m 53 #[.val (.int p0)] [])) (fun t k => XS.icmpYes X0.here hx rfl (pc0 := 46) (pc' := 53) rfl (hb hby d1_46) rfl (feq hc46_11).2 (by decide) (by decide) k) ?_
              refine Goes.to (T' := s₁.setTop (mkF m 54 #[.val (.int p0)] [(.int p0)])) (fun t k => XS.iloadN X0.here hx rfl (hb hby d1_53) rfl k) ?_
              refine Goes.to (T' := s₁.setTop (mkF m 56 #[.val (.int p0)] [(.int (6 : Int32)), (.int p0)])) (fun t k => XS.bipush X0.here hx rfl (hb hby d1_54) k) ?_
              rcases Decidable.em (p0 = (6 : Int32)) with hc56_13 | hc56_13
              · skip
                refine Goes.to (T' := s₁.setTop (mkF m 59 #[.val (.int p0)] [])) (fun t k => XS.icmpNo X0.here hx rfl (hb hby d1_56) rfl (teq hc56_13).2 k) ?_
                obtain ⟨T14, X14, e14, st14⟩ := getS2 X0 hx hZ hown (host := "") (Or.inl (hw _ (List.mem_of_getElem? (i := 24) rfl))) Via.refl e0 (S_w_Topic_BLOCK_LIST.ext O0.2) (g := (mkF m 59 #[.val (.int p0)] [])) rfl (hb hby d1_59)
                refine Goes.to (T' := T14.setTop (mkF m 62 #[.val (.int p0)] [(.ref w_Topic_BLOCK_LIST)])) st14 ?_
                obtain ⟨fs, hrL, hrun, hended, hW, hsame⟩ := X14.leave (v := some (.ref w_Topic_BLOCK_LIST)) (fun h => by rw [Bd.returns] at h; cases h)
                subst hQf
                refine ⟨_, _, retOut X14 hx Bd.returns rfl (Or.inr (Or.inr (Or.inr (Or.inr ⟨rfl, rfl, rfl⟩)))) (hb hby d1_62) hrL, hrun, hended, _, _, rfl, ?_, ⟨_, rfl⟩, hW, hsame.mono (by decide) (by decide)⟩
                show (fun (v : Option Value) (h : Heap) (L : List Loc) => v = some (.ref r) ∧ Fr n0 L ∧ h = h0) (some (.ref w_Topic_BLOCK_LIST)) T14.heap _
                rw [e14]
                have hv : w_Topic_BLOCK_LIST = r := by rw [hr]; simp [hc1_1, hc10_3, hc19_5, hc28_7, hc37_9, hc46_11, hc56_13]
                exact ⟨by rw [hv], N0, rfl⟩
              · skip
                refine Goes.to (T' := s₁.setTop (mkF m 63 #[.val (.int p0)] [])) (fun t k => XS.icmpYes X0.here hx rfl (pc0 := 56) (pc' := 63) rfl (hb hby d1_56) rfl (feq hc56_13).2 (by decide) (by decide) k) ?_
                obtain ⟨T15, X15, e15, st15⟩ := getS2 X0 hx hZ hown (host := "") (Or.inl (hw _ (List.mem_of_getElem? (i := 26) rfl))) Via.refl e0 (S_w_Topic_DECIDED.ext O0.2) (g := (mkF m 63 #[.val (.int p0)] [])) rfl (hb hby d1_63)
                refine Goes.to (T' := T15.setTop (mkF m 66 #[.val (.int p0)] [(.ref w_Topic_DECIDED)])) st15 ?_
                obtain ⟨fs, hrL, hrun, hended, hW, hsame⟩ := X15.leave (v := some (.ref w_Topic_DECIDED)) (fun h => by rw [Bd.returns] at h; cases h)
                subst hQf
                refine ⟨_, _, retOut X15 hx Bd.returns rfl (Or.inr (Or.inr (Or.inr (Or.inr ⟨rfl, rfl, rfl⟩)))) (hb hby d1_66) hrL, hrun, hended, _, _, rfl, ?_, ⟨_, rfl⟩, hW, hsame.mono (by decide) (by decide)⟩
                show (fun (v : Option Value) (h : Heap) (L : List Loc) => v = some (.ref r) ∧ Fr n0 L ∧ h = h0) (some (.ref w_Topic_DECIDED)) T15.heap _
                rw [e15]
                have hv : w_Topic_DECIDED = r := by rw [hr]; simp [hc1_1, hc10_3, hc19_5, hc28_7, hc37_9, hc46_11, hc56_13]
                exact ⟨by rw [hv], N0, rfl⟩
theorem d2_0 : decode prog_6_method_6_code 0 = .ok (.aload_n 0, 1) := by decide +kernel
theorem d2_1 : decode prog_6_method_6_code 1 = .ok (.getfield 54, 3) := by decide +kernel
theorem d2_4 : decode prog_6_method_6_code 4 = .ok (.ifnull 7, 3) := by decide +kernel
theorem d2_7 : decode prog_6_method_6_code 7 = .ok (.iconst 1, 1) := by decide +kernel
theorem d2_8 : decode prog_6_method_6_code 8 = .ok (.goto 4, 3) := by decide +kernel
theorem d2_12 : decode prog_6_method_6_code 12 = .ok (.ireturn, 1) := by decide +kernel
theorem pn_2 : plainName "com/example/issuer/issuer/kafka/Topic" = true := by first | (simp [plainName, overriddenIn]; done) | decide +kernel
theorem ef_rmKy (m : MethodId) (x0 : Addr) : entryFrame m #[(.ref x0)] 1 = mkF m 0 #[.val (.ref x0)] [] := by first | (simp [entryFrame, mkF, argsToLocals, Value.category]; done) | rfl
def Q_rmKy (Z : State) (xa : Addr) (w_Topic_INPUT : Addr) (w_Topic_INPUT_defaultName : Addr) (w_Topic_REJECTED : Addr) (w_Topic_REJECTED_defaultName : Addr) (w_Topic_BLOCK_LIST : Addr) (w_Topic_BLOCK_LIST_suffix : Addr) (w_Topic_DECIDED : Addr) (w_Topic_DECIDED_suffix : Addr) (w_Topic_ALERT : Addr) (w_Topic_ALERT_defaultName : Addr) (w_Topic_DECISION : Addr) (w_Topic_DECISION_defaultName : Addr) (w_Topic_REFUSED : Addr) (w_Topic_REFUSED_defaultName : Addr) (w_Topic_HISTORY : Addr) (w_Topic_HISTORY_suffix : Addr) (xs : Addr) (h0 : Heap) (n0 : Nat) (v : Option Value) (h : Heap) (L : List Loc) : Prop := v = some (.int 1) ∧ Fr n0 L ∧ h = h0
set_option maxRecDepth 65536 in
set_option maxHeartbeats 40000000 in
theorem rmKy (l : Launch) (Z : State) (a0 : Array Value) (hw : ∀ d ∈ tables_1, d.before a0 Z = true) (ws : List Jvm.Cond) (xa : Addr) (w_Topic_INPUT : Addr) (w_Topic_INPUT_defaultName : Addr) (w_Topic_REJECTED : Addr) (w_Topic_REJECTED_defaultName : Addr) (w_Topic_BLOCK_LIST : Addr) (w_Topic_BLOCK_LIST_suffix : Addr) (w_Topic_DECIDED : Addr) (w_Topic_DECIDED_suffix : Addr) (w_Topic_ALERT : Addr) (w_Topic_ALERT_defaultName : Addr) (w_Topic_DECISION : Addr) (w_Topic_DECISION_defaultName : Addr) (w_Topic_REFUSED : Addr) (w_Topic_REFUSED_defaultName : Addr) (w_Topic_HISTORY : Addr) (w_Topic_HISTORY_suffix : Addr) (xs : Addr) (h0 : Heap) (n0 : Nat) (O0 : Old Z n0 h0) (NF : Nar Z w_Topic_INPUT w_Topic_INPUT_defaultName w_Topic_REJECTED w_Topic_REJECTED_defaultName w_Topic_BLOCK_LIST w_Topic_BLOCK_LIST_suffix w_Topic_DECIDED w_Topic_DECIDED_suffix w_Topic_ALERT w_Topic_ALERT_defaultName w_Topic_DECISION w_Topic_DECISION_defaultName w_Topic_REFUSED w_Topic_REFUSED_defaultName w_Topic_HISTORY w_Topic_HISTORY_suffix) (F_suffix_xa : Fld Z h0 xa "com/example/issuer/issuer/kafka/Topic" "suffix" "Ljava/lang/String;" (.ref xs)) :
    MetFree l (⟨"com/example/issuer/issuer/kafka/Topic", "isKept", "()Z"⟩ : MethodName) (head1 (Jvm.Cond.code (⟨"com/example/issuer/issuer/kafka/Topic", "isKept", "()Z"⟩ : MethodName) prog_6_method_6_code 1 (some .boolean) :: ws) ({ frames := 0, cells := 0, slots := 0, locals := 0 } : Room)) (fun a U => a = #[(.ref xa)] ∧ Z.Warmed39 U.vm ∧ U.heap = h0) (fun _ _ _ _ _ => True) (fun _ U o U' => ∃ v L, o = .returned v ∧ Q_rmKy Z xa w_Topic_INPUT w_Topic_INPUT_defaultName w_Topic_REJECTED w_Topic_REJECTED_defaultName w_Topic_BLOCK_LIST w_Topic_BLOCK_LIST_suffix w_Topic_DECIDED w_Topic_DECIDED_suffix w_Topic_ALERT w_Topic_ALERT_defaultName w_Topic_DECISION w_Topic_DECISION_defaultName w_Topic_REFUSED w_Topic_REFUSED_defaultName w_Topic_HISTORY w_Topic_HISTORY_suffix xs h0 n0 v U'.heap L ∧ FrameEnd U o U' L ({ frames := 0, cells := 0, slots := 0, locals := 0 } : Room).cells ({ frames := 0, cells := 0, slots := 0, locals := 0 } : Room).slots) := by
  refine MetFree.of_bodySF (plainFor_of_name pn_2) hisR ?_
  intro p e s m args below meth c s₁ Bd hml0 hP hK
  obtain ⟨rfl, hZ, hh⟩ := hP
  have hx := Bd.exec
  have hby := Bd.bytes
  have hml : c.maxLocals = 1 := hml0
  have hown : s.vm.findClass "com/example/issuer/issuer/kafka/Topic" = some m.cls := findClass_of_methodNamed Bd.named
  have hnm := (name_of_methodNamed Bd.named Bd.method).1
  have X0 : Stand p l e ({ frames := 0, cells := 0, slots := 0, locals := 0 } : Room) s m #[(.ref xa)] below meth c s₁ [] 0 0 := Stand.of_body Bd
  have e0 : s₁.heap = h0 := by rw [← hh, Bd.state]; rfl
  have N0 := Fr.nil n0
  suffices G : ∀ (Qf : Outcome → State → Prop), Qf = (fun (_ : Array Value) (U : State) (o : Outcome) (U' : State) => ∃ v L, o = .returned v ∧ Q_rmKy Z xa w_Topic_INPUT w_Topic_INPUT_defaultName w_Topic_REJECTED w_Topic_REJECTED_defaultName w_Topic_BLOCK_LIST w_Topic_BLOCK_LIST_suffix w_Topic_DECIDED w_Topic_DECIDED_suffix w_Topic_ALERT w_Topic_ALERT_defaultName w_Topic_DECISION w_Topic_DECISION_defaultName w_Topic_REFUSED w_Topic_REFUSED_defaultName w_Topic_HISTORY w_Topic_HISTORY_suffix xs h0 n0 v U'.heap L ∧ FrameEnd U o U' L ({ frames := 0, cells := 0, slots := 0, locals := 0 } : Room).cells ({ frames := 0, cells := 0, slots := 0, locals := 0 } : Room).slots) #[] s → Goes p.tables e below Qf (s₁.setTop (mkF m 0 #[.val (.ref xa)] [])) by
    obtain ⟨s₂, o, g1, g2, g3, g4⟩ := G _ rfl
    exact ⟨s₂, o, castTop (ef_rmKy m _) g1, g2, g3, g4⟩
  intro Qf hQf
  obtain ⟨S_w_Topic_INPUT, E_w_Topic_INPUT, F_defaultName_w_Topic_INPUT, E_w_Topic_INPUT_defaultName, S_w_Topic_REJECTED, E_w_Topic_REJECTED, F_defaultName_w_Topic_REJECTED, E_w_Topic_REJECTED_defaultName, S_w_Topic_BLOCK_LIST, E_w_Topic_BLOCK_LIST, F_suffix_w_Topic_BLOCK_LIST, E_w_Topic_BLOCK_LIST_suffix, S_w_Topic_DECIDED, E_w_Topic_DECIDED, F_suffix_w_Topic_DECIDED, E_w_Topic_DECIDED_suffix, S_w_Topic_ALERT, E_w_Topic_ALERT, F_defaultName_w_Topic_ALERT, E_w_Topic_ALERT_defaultName, S_w_Topic_DECISION, E_w_Topic_DECISION, F_defaultName_w_Topic_DECISION, E_w_Topic_DECISION_defaultName, S_w_Topic_REFUSED, E_w_Topic_REFUSED, F_defaultName_w_Topic_REFUSED, E_w_Topic_REFUSED_defaultName, S_w_Topic_HISTORY, E_w_Topic_HISTORY, F_suffix_w_Topic_HISTORY, E_w_Topic_HISTORY_suffix, F_suffix_w_Topic_INPUT, F_suffix_w_Topic_REJECTED, F_defaultName_w_Topic_BLOCK_LIST, F_defaultName_w_Topic_DECIDED, F_suffix_w_Topic_ALERT, F_suffix_w_Topic_DECISION, F_suffix_w_Topic_REFUSED, F_defaultName_w_Topic_HISTORY⟩ := id NF
  refine Goes.to (T' := s₁.setTop (mkF m 1 #[.val (.ref xa)] [(.ref xa)])) (fun t k => XS.aloadN X0.here hx rfl (hb hby d2_0) rfl rfl k) ?_
  obtain ⟨T1, X1, e1, st1⟩ := getF X0 hx hZ hown (host := "") (Or.inl (hw _ (List.mem_of_getElem? (i := 13) rfl))) Via.refl e0 F_suffix_xa (g := (mkF m 1 #[.val (.ref xa)] [(.ref xa)])) rfl rfl (hb hby d2_1)
  refine Goes.to (T' := T1.setTop (mkF m 4 #[.val (.ref xa)] [(.ref xs)])) st1 ?_
  refine Goes.to (T' := T1.setTop (mkF m 7 #[.val (.ref xa)] [])) (fun t k => XS.ifnullNo X1.here hx rfl (hb hby d2_4) rfl k) ?_
  refine Goes.to (T' := T1.setTop (mkF m 8 #[.val (.ref xa)] [(.int (1 : Int32))])) (fun t k => XS.iconst X1.here hx rfl (hb hby d2_7) k) ?_
  refine Goes.to (T' := T1.setTop (mkF m 12 #[.val (.ref xa)] [(.int (1 : Int32))])) (fun t k => XS.goto X1.here hx rfl (pc0 := 8) (pc' := 12) rfl (hb hby d2_8) (by decide) (by decide) k) ?_
  obtain ⟨fs, hrL, hrun, hended, hW, hsame⟩ := X1.leave (v := some (.int (1 : Int32))) (fun h => by rw [Bd.returns] at h; cases h)
  subst hQf
  refine ⟨_, _, retN X1 hx (t := .boolean) Bd.returns (by simp) (hb hby d2_12) hrL, hrun, hended, _, _, rfl, ?_, ⟨_, rfl⟩, hW, hsame.mono (by decide) (by decide)⟩
  show (fun (v : Option Value) (h : Heap) (L : List Loc) => v = some (.int 1) ∧ Fr n0 L ∧ h = h0) (some (.int (1 : Int32))) T1.heap _
  rw [e1]
  exact ⟨rfl, N0, rfl⟩
theorem d2_11 : decode prog_6_method_6_code 11 = .ok (.iconst 0, 1) := by decide +kernel
theorem ef_rmKn (m : MethodId) (x0 : Addr) : entryFrame m #[(.ref x0)] 1 = mkF m 0 #[.val (.ref x0)] [] := by first | (simp [entryFrame, mkF, argsToLocals, Value.category]; done) | rfl
def Q_rmKn (Z : State) (xa : Addr) (w_Topic_INPUT : Addr) (w_Topic_INPUT_defaultName : Addr) (w_Topic_REJECTED : Addr) (w_Topic_REJECTED_defaultName : Addr) (w_Topic_BLOCK_LIST : Addr) (w_Topic_BLOCK_LIST_suffix : Addr) (w_Topic_DECIDED : Addr) (w_Topic_DECIDED_suffix : Addr) (w_Topic_ALERT : Addr) (w_Topic_ALERT_defaultName : Addr) (w_Topic_DECISION : Addr) (w_Topic_DECISION_defaultName : Addr) (w_Topic_REFUSED : Addr) (w_Topic_REFUSED_defaultName : Addr) (w_Topic_HISTORY : Addr) (w_Topic_HISTORY_suffix : Addr) (h0 : Heap) (n0 : Nat) (v : Option Value) (h : Heap) (L : List Loc) : Prop := v = some (.int 0) ∧ Fr n0 L ∧ h = h0
set_option maxRecDepth 65536 in
set_option maxHeartbeats 40000000 in
theorem rmKn (l : Launch) (Z : State) (a0 : Array Value) (hw : ∀ d ∈ tables_1, d.before a0 Z = true) (ws : List Jvm.Cond) (xa : Addr) (w_Topic_INPUT : Addr) (w_Topic_INPUT_defaultName : Addr) (w_Topic_REJECTED : Addr) (w_Topic_REJECTED_defaultName : Addr) (w_Topic_BLOCK_LIST : Addr) (w_Topic_BLOCK_LIST_suffix : Addr) (w_Topic_DECIDED : Addr) (w_Topic_DECIDED_suffix : Addr) (w_Topic_ALERT : Addr) (w_Topic_ALERT_defaultName : Addr) (w_Topic_DECISION : Addr) (w_Topic_DECISION_defaultName : Addr) (w_Topic_REFUSED : Addr) (w_Topic_REFUSED_defaultName : Addr) (w_Topic_HISTORY : Addr) (w_Topic_HISTORY_suffix : Addr) (h0 : Heap) (n0 : Nat) (O0 : Old Z n0 h0) (NF : Nar Z w_Topic_INPUT w_Topic_INPUT_defaultName w_Topic_REJECTED w_Topic_REJECTED_defaultName w_Topic_BLOCK_LIST w_Topic_BLOCK_LIST_suffix w_Topic_DECIDED w_Topic_DECIDED_suffix w_Topic_ALERT w_Topic_ALERT_defaultName w_Topic_DECISION w_Topic_DECISION_defaultName w_Topic_REFUSED w_Topic_REFUSED_defaultName w_Topic_HISTORY w_Topic_HISTORY_suffix) (F_suffix_xa : Fld Z h0 xa "com/example/issuer/issuer/kafka/Topic" "suffix" "Ljava/lang/String;" .null) :
    MetFree l (⟨"com/example/issuer/issuer/kafka/Topic", "isKept", "()Z"⟩ : MethodName) (head1 (Jvm.Cond.code (⟨"com/example/issuer/issuer/kafka/Topic", "isKept", "()Z"⟩ : MethodName) prog_6_method_6_code 1 (some .boolean) :: ws) ({ frames := 0, cells := 0, slots := 0, locals := 0 } : Room)) (fun a U => a = #[(.ref xa)] ∧ Z.Warmed39 U.vm ∧ U.heap = h0) (fun _ _ _ _ _ => True) (fun _ U o U' => ∃ v L, o = .returned v ∧ Q_rmKn Z xa w_Topic_INPUT w_Topic_INPUT_defaultName w_Topic_REJECTED w_Topic_REJECTED_defaultName w_Topic_BLOCK_LIST w_Topic_BLOCK_LIST_suffix w_Topic_DECIDED w_Topic_DECIDED_suffix w_Topic_ALERT w_Topic_ALERT_defaultName w_Topic_DECISION w_Topic_DECISION_defaultName w_Topic_REFUSED w_Topic_REFUSED_defaultName w_Topic_HISTORY w_Topic_HISTORY_suffix h0 n0 v U'.heap L ∧ FrameEnd U o U' L ({ frames := 0, cells := 0, slots := 0, locals := 0 } : Room).cells ({ frames := 0, cells := 0, slots := 0, locals := 0 } : Room).slots) := by
  refine MetFree.of_bodySF (plainFor_of_name pn_2) hisR ?_
  intro p e s m args below meth c s₁ Bd hml0 hP hK
  obtain ⟨rfl, hZ, hh⟩ := hP
  have hx := Bd.exec
  have hby := Bd.bytes
  have hml : c.maxLocals = 1 := hml0
  have hown : s.vm.findClass "com/example/issuer/issuer/kafka/Topic" = some m.cls := findClass_of_methodNamed Bd.named
  have hnm := (name_of_methodNamed Bd.named Bd.method).1
  have X0 : Stand p l e ({ frames := 0, cells := 0, slots := 0, locals := 0 } : Room) s m #[(.ref xa)] below meth c s₁ [] 0 0 := Stand.of_body Bd
  have e0 : s₁.heap = h0 := by rw [← hh, Bd.state]; rfl
  have N0 := Fr.nil n0
  suffices G : ∀ (Qf : Outcome → State → Prop), Qf = (fun (_ : Array Value) (U : State) (o : Outcome) (U' : State) => ∃ v L, o = .returned v ∧ Q_rmKn Z xa w_Topic_INPUT w_Topic_INPUT_defaultName w_Topic_REJECTED w_Topic_REJECTED_defaultName w_Topic_BLOCK_LIST w_Topic_BLOCK_LIST_suffix w_Topic_DECIDED w_Topic_DECIDED_suffix w_Topic_ALERT w_Topic_ALERT_defaultName w_Topic_DECISION w_Topic_DECISION_defaultName w_Topic_REFUSED w_Topic_REFUSED_defaultName w_Topic_HISTORY w_Topic_HISTORY_suffix h0 n0 v U'.heap L ∧ FrameEnd U o U' L ({ frames := 0, cells := 0, slots := 0, locals := 0 } : Room).cells ({ frames := 0, cells := 0, slots := 0, locals := 0 } : Room).slots) #[] s → Goes p.tables e below Qf (s₁.setTop (mkF m 0 #[.val (.ref xa)] [])) by
    obtain ⟨s₂, o, g1, g2, g3, g4⟩ := G _ rfl
    exact ⟨s₂, o, castTop (ef_rmKn m _) g1, g2, g3, g4⟩
  intro Qf hQf
  obtain ⟨S_w_Topic_INPUT, E_w_Topic_INPUT, F_defaultName_w_Topic_INPUT, E_w_Topic_INPUT_defaultName, S_w_Topic_REJECTED, E_w_Topic_REJECTED, F_defaultName_w_Topic_REJECTED, E_w_Topic_REJECTED_defaultName, S_w_Topic_BLOCK_LIST, E_w_Topic_BLOCK_LIST, F_suffix_w_Topic_BLOCK_LIST, E_w_Topic_BLOCK_LIST_suffix, S_w_Topic_DECIDED, E_w_Topic_DECIDED, F_suffix_w_Topic_DECIDED, E_w_Topic_DECIDED_suffix, S_w_Topic_ALERT, E_w_Topic_ALERT, F_defaultName_w_Topic_ALERT, E_w_Topic_ALERT_defaultName, S_w_Topic_DECISION, E_w_Topic_DECISION, F_defaultName_w_Topic_DECISION, E_w_Topic_DECISION_defaultName, S_w_Topic_REFUSED, E_w_Topic_REFUSED, F_defaultName_w_Topic_REFUSED, E_w_Topic_REFUSED_defaultName, S_w_Topic_HISTORY, E_w_Topic_HISTORY, F_suffix_w_Topic_HISTORY, E_w_Topic_HISTORY_suffix, F_suffix_w_Topic_INPUT, F_suffix_w_Topic_REJECTED, F_defaultName_w_Topic_BLOCK_LIST, F_defaultName_w_Topic_DECIDED, F_suffix_w_Topic_ALERT, F_suffix_w_Topic_DECISION, F_suffix_w_Topic_REFUSED, F_defaultName_w_Topic_HISTORY⟩ := id NF
  refine Goes.to (T' := s₁.setTop (mkF m 1 #[.val (.ref xa)] [(.ref xa)])) (fun t k => XS.aloadN X0.here hx rfl (hb hby d2_0) rfl rfl k) ?_
  obtain ⟨T1, X1, e1, st1⟩ := getF X0 hx hZ hown (host := "") (Or.inl (hw _ (List.mem_of_getElem? (i := 13) rfl))) Via.refl e0 F_suffix_xa (g := (mkF m 1 #[.val (.ref xa)] [(.ref xa)])) rfl rfl (hb hby d2_1)
  refine Goes.to (T' := T1.setTop (mkF m 4 #[.val (.ref xa)] [.null])) st1 ?_
  refine Goes.to (T' := T1.setTop (mkF m 11 #[.val (.ref xa)] [])) (fun t k => XS.ifnullYes X1.here hx rfl (pc0 := 4) (pc' := 11) rfl (hb hby d2_4) rfl (by decide) (by decide) k) ?_
  refine Goes.to (T' := T1.setTop (mkF m 12 #[.val (.ref xa)] [(.int (0 : Int32))])) (fun t k => XS.iconst X1.here hx rfl (hb hby d2_11) k) ?_
  obtain ⟨fs, hrL, hrun, hended, hW, hsame⟩ := X1.leave (v := some (.int (0 : Int32))) (fun h => by rw [Bd.returns] at h; cases h)
  subst hQf
  refine ⟨_, _, retN X1 hx (t := .boolean) Bd.returns (by simp) (hb hby d2_12) hrL, hrun, hended, _, _, rfl, ?_, ⟨_, rfl⟩, hW, hsame.mono (by decide) (by decide)⟩
  show (fun (v : Option Value) (h : Heap) (L : List Loc) => v = some (.int 0) ∧ Fr n0 L ∧ h = h0) (some (.int (0 : Int32))) T1.heap _
  rw [e1]
  exact ⟨rfl, N0, rfl⟩
theorem d3_0 : decode prog_6_method_5_code 0 = .ok (.aload_n 0, 1) := by decide +kernel
theorem d3_1 : decode prog_6_method_5_code 1 = .ok (.getfield 51, 3) := by decide +kernel
theorem d3_4 : decode prog_6_method_5_code 4 = .ok (.areturn, 1) := by decide +kernel
theorem pn_3 : plainName "com/example/issuer/issuer/kafka/Topic" = true := by first | (simp [plainName, overriddenIn]; done) | decide +kernel
theorem ef_rmDy (m : MethodId) (x0 : Addr) : entryFrame m #[(.ref x0)] 1 = mkF m 0 #[.val (.ref x0)] [] := by first | (simp [entryFrame, mkF, argsToLocals, Value.category]; done) | rfl
def Q_rmDy (Z : State) (xa : Addr) (w_Topic_INPUT : Addr) (w_Topic_INPUT_defaultName : Addr) (w_Topic_REJECTED : Addr) (w_Topic_REJECTED_defaultName : Addr) (w_Topic_BLOCK_LIST : Addr) (w_Topic_BLOCK_LIST_suffix : Addr) (w_Topic_DECIDED : Addr) (w_Topic_DECIDED_suffix : Addr) (w_Topic_ALERT : Addr) (w_Topic_ALERT_defaultName : Addr) (w_Topic_DECISION : Addr) (w_Topic_DECISION_defaultName : Addr) (w_Topic_REFUSED : Addr) (w_Topic_REFUSED_defaultName : Addr) (w_Topic_HISTORY : Addr) (w_Topic_HISTORY_suffix : Addr) (xs : Addr) (h0 : Heap) (n0 : Nat) (v : Option Value) (h : Heap) (L : List Loc) : Prop := v = some (.ref xs) ∧ Fr n0 L ∧ h = h0
set_option maxRecDepth 65536 in
set_option maxHeartbeats 40000000 in
theorem rmDy (l : Launch) (Z : State) (a0 : Array Value) (hw : ∀ d ∈ tables_1, d.before a0 Z = true) (ws : List Jvm.Cond) (xa : Addr) (w_Topic_INPUT : Addr) (w_Topic_INPUT_defaultName : Addr) (w_Topic_REJECTED : Addr) (w_Topic_REJECTED_defaultName : Addr) (w_Topic_BLOCK_LIST : Addr) (w_Topic_BLOCK_LIST_suffix : Addr) (w_Topic_DECIDED : Addr) (w_Topic_DECIDED_suffix : Addr) (w_Topic_ALERT : Addr) (w_Topic_ALERT_defaultName : Addr) (w_Topic_DECISION : Addr) (w_Topic_DECISION_defaultName : Addr) (w_Topic_REFUSED : Addr) (w_Topic_REFUSED_defaultName : Addr) (w_Topic_HISTORY : Addr) (w_Topic_HISTORY_suffix : Addr) (xs : Addr) (h0 : Heap) (n0 : Nat) (O0 : Old Z n0 h0) (NF : Nar Z w_Topic_INPUT w_Topic_INPUT_defaultName w_Topic_REJECTED w_Topic_REJECTED_defaultName w_Topic_BLOCK_LIST w_Topic_BLOCK_LIST_suffix w_Topic_DECIDED w_Topic_DECIDED_suffix w_Topic_ALERT w_Topic_ALERT_defaultName w_Topic_DECISION w_Topic_DECISION_defaultName w_Topic_REFUSED w_Topic_REFUSED_defaultName w_Topic_HISTORY w_Topic_HISTORY_suffix) (F_defaultName_xa : Fld Z h0 xa "com/example/issuer/issuer/kafka/Topic" "defaultName" "Ljava/lang/String;" (.ref xs)) :
    MetFree l (⟨"com/example/issuer/issuer/kafka/Topic", "getDefaultName", "()Ljava/lang/String;"⟩ : MethodName) (head1 (Jvm.Cond.code (⟨"com/example/issuer/issuer/kafka/Topic", "getDefaultName", "()Ljava/lang/String;"⟩ : MethodName) prog_6_method_5_code 1 (some (.object "java/lang/String")) :: ws) ({ frames := 0, cells := 0, slots := 0, locals := 0 } : Room)) (fun a U => a = #[(.ref xa)] ∧ Z.Warmed39 U.vm ∧ U.heap = h0) (fun _ _ _ _ _ => True) (fun _ U o U' => ∃ v L, o = .returned v ∧ Q_rmDy Z xa w_Topic_INPUT w_Topic_INPUT_defaultName w_Topic_REJECTED w_Topic_REJECTED_defaultName w_Topic_BLOCK_LIST w_Topic_BLOCK_LIST_suffix w_Topic_DECIDED w_Topic_DECIDED_suffix w_Topic_ALERT w_Topic_ALERT_defaultName w_Topic_DECISION w_Topic_DECISION_defaultName w_Topic_REFUSED w_Topic_REFUSED_defaultName w_Topic_HISTORY w_Topic_HISTORY_suffix xs h0 n0 v U'.heap L ∧ FrameEnd U o U' L ({ frames := 0, cells := 0, slots := 0, locals := 0 } : Room).cells ({ frames := 0, cells := 0, slots := 0, locals := 0 } : Room).slots) := by
  refine MetFree.of_bodySF (plainFor_of_name pn_3) hisR ?_
  intro p e s m args below meth c s₁ Bd hml0 hP hK
  obtain ⟨rfl, hZ, hh⟩ := hP
  have hx := Bd.exec
  have hby := Bd.bytes
  have hml : c.maxLocals = 1 := hml0
  have hown : s.vm.findClass "com/example/issuer/issuer/kafka/Topic" = some m.cls := findClass_of_methodNamed Bd.named
  have hnm := (name_of_methodNamed Bd.named Bd.method).1
  have X0 : Stand p l e ({ frames := 0, cells := 0, slots := 0, locals := 0 } : Room) s m #[(.ref xa)] below meth c s₁ [] 0 0 := Stand.of_body Bd
  have e0 : s₁.heap = h0 := by rw [← hh, Bd.state]; rfl
  have N0 := Fr.nil n0
  suffices G : ∀ (Qf : Outcome → State → Prop), Qf = (fun (_ : Array Value) (U : State) (o : Outcome) (U' : State) => ∃ v L, o = .returned v ∧ Q_rmDy Z xa w_Topic_INPUT w_Topic_INPUT_defaultName w_Topic_REJECTED w_Topic_REJECTED_defaultName w_Topic_BLOCK_LIST w_Topic_BLOCK_LIST_suffix w_Topic_DECIDED w_Topic_DECIDED_suffix w_Topic_ALERT w_Topic_ALERT_defaultName w_Topic_DECISION w_Topic_DECISION_defaultName w_Topic_REFUSED w_Topic_REFUSED_defaultName w_Topic_HISTORY w_Topic_HISTORY_suffix xs h0 n0 v U'.heap L ∧ FrameEnd U o U' L ({ frames := 0, cells := 0, slots := 0, locals := 0 } : Room).cells ({ frames := 0, cells := 0, slots := 0, locals := 0 } : Room).slots) #[] s → Goes p.tables e below Qf (s₁.setTop (mkF m 0 #[.val (.ref xa)] [])) by
    obtain ⟨s₂, o, g1, g2, g3, g4⟩ := G _ rfl
    exact ⟨s₂, o, castTop (ef_rmDy m _) g1, g2, g3, g4⟩
  intro Qf hQf
  obtain ⟨S_w_Topic_INPUT, E_w_Topic_INPUT, F_defaultName_w_Topic_INPUT, E_w_Topic_INPUT_defaultName, S_w_Topic_REJECTED, E_w_Topic_REJECTED, F_defaultName_w_Topic_REJECTED, E_w_Topic_REJECTED_defaultName, S_w_Topic_BLOCK_LIST, E_w_Topic_BLOCK_LIST, F_suffix_w_Topic_BLOCK_LIST, E_w_Topic_BLOCK_LIST_suffix, S_w_Topic_DECIDED, E_w_Topic_DECIDED, F_suffix_w_Topic_DECIDED, E_w_Topic_DECIDED_suffix, S_w_Topic_ALERT, E_w_Topic_ALERT, F_defaultName_w_Topic_ALERT, E_w_Topic_ALERT_defaultName, S_w_Topic_DECISION, E_w_Topic_DECISION, F_defaultName_w_Topic_DECISION, E_w_Topic_DECISION_defaultName, S_w_Topic_REFUSED, E_w_Topic_REFUSED, F_defaultName_w_Topic_REFUSED, E_w_Topic_REFUSED_defaultName, S_w_Topic_HISTORY, E_w_Topic_HISTORY, F_suffix_w_Topic_HISTORY, E_w_Topic_HISTORY_suffix, F_suffix_w_Topic_INPUT, F_suffix_w_Topic_REJECTED, F_defaultName_w_Topic_BLOCK_LIST, F_defaultName_w_Topic_DECIDED, F_suffix_w_Topic_ALERT, F_suffix_w_Topic_DECISION, F_suffix_w_Topic_REFUSED, F_defaultName_w_Topic_HISTORY⟩ := id NF
  refine Goes.to (T' := s₁.setTop (mkF m 1 #[.val (.ref xa)] [(.ref xa)])) (fun t k => XS.aloadN X0.here hx rfl (hb hby d3_0) rfl rfl k) ?_
  obtain ⟨T1, X1, e1, st1⟩ := getF X0 hx hZ hown (host := "") (Or.inl (hw _ (List.mem_of_getElem? (i := 20) rfl))) Via.refl e0 F_defaultName_xa (g := (mkF m 1 #[.val (.ref xa)] [(.ref xa)])) rfl rfl (hb hby d3_1)
  refine Goes.to (T' := T1.setTop (mkF m 4 #[.val (.ref xa)] [(.ref xs)])) st1 ?_
  obtain ⟨fs, hrL, hrun, hended, hW, hsame⟩ := X1.leave (v := some (.ref xs)) (fun h => by rw [Bd.returns] at h; cases h)
  subst hQf
  refine ⟨_, _, retOut X1 hx Bd.returns rfl (Or.inr (Or.inr (Or.inr (Or.inr ⟨rfl, rfl, rfl⟩)))) (hb hby d3_4) hrL, hrun, hended, _, _, rfl, ?_, ⟨_, rfl⟩, hW, hsame.mono (by decide) (by decide)⟩
  show (fun (v : Option Value) (h : Heap) (L : List Loc) => v = some (.ref xs) ∧ Fr n0 L ∧ h = h0) (some (.ref xs)) T1.heap _
  rw [e1]
  exact ⟨rfl, N0, rfl⟩
theorem ef_rmDn (m : MethodId) (x0 : Addr) : entryFrame m #[(.ref x0)] 1 = mkF m 0 #[.val (.ref x0)] [] := by first | (simp [entryFrame, mkF, argsToLocals, Value.category]; done) | rfl
def Q_rmDn (Z : State) (xa : Addr) (w_Topic_INPUT : Addr) (w_Topic_INPUT_defaultName : Addr) (w_Topic_REJECTED : Addr) (w_Topic_REJECTED_defaultName : Addr) (w_Topic_BLOCK_LIST : Addr) (w_Topic_BLOCK_LIST_suffix : Addr) (w_Topic_DECIDED : Addr) (w_Topic_DECIDED_suffix : Addr) (w_Topic_ALERT : Addr) (w_Topic_ALERT_defaultName : Addr) (w_Topic_DECISION : Addr) (w_Topic_DECISION_defaultName : Addr) (w_Topic_REFUSED : Addr) (w_Topic_REFUSED_defaultName : Addr) (w_Topic_HISTORY : Addr) (w_Topic_HISTORY_suffix : Addr) (h0 : Heap) (n0 : Nat) (v : Option Value) (h : Heap) (L : List Loc) : Prop := v = some .null ∧ Fr n0 L ∧ h = h0
set_option maxRecDepth 65536 in
set_option maxHeartbeats 40000000 in
theorem rmDn (l : Launch) (Z : State) (a0 : Array Value) (hw : ∀ d ∈ tables_1, d.before a0 Z = true) (ws : List Jvm.Cond) (xa : Addr) (w_Topic_INPUT : Addr) (w_Topic_INPUT_defaultName : Addr) (w_Topic_REJECTED : Addr) (w_Topic_REJECTED_defaultName : Addr) (w_Topic_BLOCK_LIST : Addr) (w_Topic_BLOCK_LIST_suffix : Addr) (w_Topic_DECIDED : Addr) (w_Topic_DECIDED_suffix : Addr) (w_Topic_ALERT : Addr) (w_Topic_ALERT_defaultName : Addr) (w_Topic_DECISION : Addr) (w_Topic_DECISION_defaultName : Addr) (w_Topic_REFUSED : Addr) (w_Topic_REFUSED_defaultName : Addr) (w_Topic_HISTORY : Addr) (w_Topic_HISTORY_suffix : Addr) (h0 : Heap) (n0 : Nat) (O0 : Old Z n0 h0) (NF : Nar Z w_Topic_INPUT w_Topic_INPUT_defaultName w_Topic_REJECTED w_Topic_REJECTED_defaultName w_Topic_BLOCK_LIST w_Topic_BLOCK_LIST_suffix w_Topic_DECIDED w_Topic_DECIDED_suffix w_Topic_ALERT w_Topic_ALERT_defaultName w_Topic_DECISION w_Topic_DECISION_defaultName w_Topic_REFUSED w_Topic_REFUSED_defaultName w_Topic_HISTORY w_Topic_HISTORY_suffix) (F_defaultName_xa : Fld Z h0 xa "com/example/issuer/issuer/kafka/Topic" "defaultName" "Ljava/lang/String;" .null) :
    MetFree l (⟨"com/example/issuer/issuer/kafka/Topic", "getDefaultName", "()Ljava/lang/String;"⟩ : MethodName) (head1 (Jvm.Cond.code (⟨"com/example/issuer/issuer/kafka/Topic", "getDefaultName", "()Ljava/lang/String;"⟩ : MethodName) prog_6_method_5_code 1 (some (.object "java/lang/String")) :: ws) ({ frames := 0, cells := 0, slots := 0, locals := 0 } : Room)) (fun a U => a = #[(.ref xa)] ∧ Z.Warmed39 U.vm ∧ U.heap = h0) (fun _ _ _ _ _ => True) (fun _ U o U' => ∃ v L, o = .returned v ∧ Q_rmDn Z xa w_Topic_INPUT w_Topic_INPUT_defaultName w_Topic_REJECTED w_Topic_REJECTED_defaultName w_Topic_BLOCK_LIST w_Topic_BLOCK_LIST_suffix w_Topic_DECIDED w_Topic_DECIDED_suffix w_Topic_ALERT w_Topic_ALERT_defaultName w_Topic_DECISION w_Topic_DECISION_defaultName w_Topic_REFUSED w_Topic_REFUSED_defaultName w_Topic_HISTORY w_Topic_HISTORY_suffix h0 n0 v U'.heap L ∧ FrameEnd U o U' L ({ frames := 0, cells := 0, slots := 0, locals := 0 } : Room).cells ({ frames := 0, cells := 0, slots := 0, locals := 0 } : Room).slots) := by
  refine MetFree.of_bodySF (plainFor_of_name pn_3) hisR ?_
  intro p e s m args below meth c s₁ Bd hml0 hP hK
  obtain ⟨rfl, hZ, hh⟩ := hP
  have hx := Bd.exec
  have hby := Bd.bytes
  have hml : c.maxLocals = 1 := hml0
  have hown : s.vm.findClass "com/example/issuer/issuer/kafka/Topic" = some m.cls := findClass_of_methodNamed Bd.named
  have hnm := (name_of_methodNamed Bd.named Bd.method).1
  have X0 : Stand p l e ({ frames := 0, cells := 0, slots := 0, locals := 0 } : Room) s m #[(.ref xa)] below meth c s₁ [] 0 0 := Stand.of_body Bd
  have e0 : s₁.heap = h0 := by rw [← hh, Bd.state]; rfl
  have N0 := Fr.nil n0
  suffices G : ∀ (Qf : Outcome → State → Prop), Qf = (fun (_ : Array Value) (U : State) (o : Outcome) (U' : State) => ∃ v L, o = .returned v ∧ Q_rmDn Z xa w_Topic_INPUT w_Topic_INPUT_defaultName w_Topic_REJECTED w_Topic_REJECTED_defaultName w_Topic_BLOCK_LIST w_Topic_BLOCK_LIST_suffix w_Topic_DECIDED w_Topic_DECIDED_suffix w_Topic_ALERT w_Topic_ALERT_defaultName w_Topic_DECISION w_Topic_DECISION_defaultName w_Topic_REFUSED w_Topic_REFUSED_defaultName w_Topic_HISTORY w_Topic_HISTORY_suffix h0 n0 v U'.heap L ∧ FrameEnd U o U' L ({ frames := 0, cells := 0, slots := 0, locals := 0 } : Room).cells ({ frames := 0, cells := 0, slots := 0, locals := 0 } : Room).slots) #[] s → Goes p.tables e below Qf (s₁.setTop (mkF m 0 #[.val (.ref xa)] [])) by
    obtain ⟨s₂, o, g1, g2, g3, g4⟩ := G _ rfl
    exact ⟨s₂, o, castTop (ef_rmDn m _) g1, g2, g3, g4⟩
  intro Qf hQf
  obtain ⟨S_w_Topic_INPUT, E_w_Topic_INPUT, F_defaultName_w_Topic_INPUT, E_w_Topic_INPUT_defaultName, S_w_Topic_REJECTED, E_w_Topic_REJECTED, F_defaultName_w_Topic_REJECTED, E_w_Topic_REJECTED_defaultName, S_w_Topic_BLOCK_LIST, E_w_Topic_BLOCK_LIST, F_suffix_w_Topic_BLOCK_LIST, E_w_Topic_BLOCK_LIST_suffix, S_w_Topic_DECIDED, E_w_Topic_DECIDED, F_suffix_w_Topic_DECIDED, E_w_Topic_DECIDED_suffix, S_w_Topic_ALERT, E_w_Topic_ALERT, F_defaultName_w_Topic_ALERT, E_w_Topic_ALERT_defaultName, S_w_Topic_DECISION, E_w_Topic_DECISION, F_defaultName_w_Topic_DECISION, E_w_Topic_DECISION_defaultName, S_w_Topic_REFUSED, E_w_Topic_REFUSED, F_defaultName_w_Topic_REFUSED, E_w_Topic_REFUSED_defaultName, S_w_Topic_HISTORY, E_w_Topic_HISTORY, F_suffix_w_Topic_HISTORY, E_w_Topic_HISTORY_suffix, F_suffix_w_Topic_INPUT, F_suffix_w_Topic_REJECTED, F_defaultName_w_Topic_BLOCK_LIST, F_defaultName_w_Topic_DECIDED, F_suffix_w_Topic_ALERT, F_suffix_w_Topic_DECISION, F_suffix_w_Topic_REFUSED, F_defaultName_w_Topic_HISTORY⟩ := id NF
  refine Goes.to (T' := s₁.setTop (mkF m 1 #[.val (.ref xa)] [(.ref xa)])) (fun t k => XS.aloadN X0.here hx rfl (hb hby d3_0) rfl rfl k) ?_
  obtain ⟨T1, X1, e1, st1⟩ := getF X0 hx hZ hown (host := "") (Or.inl (hw _ (List.mem_of_getElem? (i := 20) rfl))) Via.refl e0 F_defaultName_xa (g := (mkF m 1 #[.val (.ref xa)] [(.ref xa)])) rfl rfl (hb hby d3_1)
  refine Goes.to (T' := T1.setTop (mkF m 4 #[.val (.ref xa)] [.null])) st1 ?_
  obtain ⟨fs, hrL, hrun, hended, hW, hsame⟩ := X1.leave (v := some .null) (fun h => by rw [Bd.returns] at h; cases h)
  subst hQf
  refine ⟨_, _, retOut X1 hx Bd.returns rfl (Or.inr (Or.inr (Or.inr (Or.inr ⟨rfl, rfl, rfl⟩)))) (hb hby d3_4) hrL, hrun, hended, _, _, rfl, ?_, ⟨_, rfl⟩, hW, hsame.mono (by decide) (by decide)⟩
  show (fun (v : Option Value) (h : Heap) (L : List Loc) => v = some .null ∧ Fr n0 L ∧ h = h0) (some .null) T1.heap _
  rw [e1]
  exact ⟨rfl, N0, rfl⟩
theorem pd_49 : parseMethodDescriptor "(I)Lcom/example/issuer/issuer/kafka/Topic;" = some ⟨[.int], some (.object "com/example/issuer/issuer/kafka/Topic")⟩ := by decide +kernel
theorem pd_50 : parseMethodDescriptor "()Z" = some ⟨[], some .boolean⟩ := by decide +kernel
theorem pd_51 : parseMethodDescriptor "()Ljava/lang/String;" = some ⟨[], some (.object "java/lang/String")⟩ := by decide +kernel
theorem pn_0 : plainName "com/example/issuer/issuer/kafka/TopicIsKeptPinLaw" = true := by first | (simp [plainName, overriddenIn]; done) | decide +kernel
theorem ef_rm0 (m : MethodId) (x0 : Int32) : entryFrame m #[(.int x0)] maxLocals = mkF m 0 #[.val (.int x0), .unset, .unset, .unset, .unset] [] := by first | (simp [entryFrame, mkF, argsToLocals, Value.category, maxLocals]; done) | rfl
def Q_rm0 (Z : State) (p0 : Int32) (w_Topic_INPUT : Addr) (w_Topic_INPUT_defaultName : Addr) (w_Topic_REJECTED : Addr) (w_Topic_REJECTED_defaultName : Addr) (w_Topic_BLOCK_LIST : Addr) (w_Topic_BLOCK_LIST_suffix : Addr) (w_Topic_DECIDED : Addr) (w_Topic_DECIDED_suffix : Addr) (w_Topic_ALERT : Addr) (w_Topic_ALERT_defaultName : Addr) (w_Topic_DECISION : Addr) (w_Topic_DECISION_defaultName : Addr) (w_Topic_REFUSED : Addr) (w_Topic_REFUSED_defaultName : Addr) (w_Topic_HISTORY : Addr) (w_Topic_HISTORY_suffix : Addr) (h0 : Heap) (n0 : Nat) (v : Option Value) (h : Heap) (L : List Loc) : Prop := v = some (.int 1) ∧ Fr n0 L
set_option maxRecDepth 65536 in
set_option maxHeartbeats 40000000 in
theorem rm0 (l : Launch) (Z : State) (a0 : Array Value) (hw : ∀ d ∈ tables_1, d.before a0 Z = true) (ws : List Jvm.Cond) (p0 : Int32) (w_Topic_INPUT : Addr) (w_Topic_INPUT_defaultName : Addr) (w_Topic_REJECTED : Addr) (w_Topic_REJECTED_defaultName : Addr) (w_Topic_BLOCK_LIST : Addr) (w_Topic_BLOCK_LIST_suffix : Addr) (w_Topic_DECIDED : Addr) (w_Topic_DECIDED_suffix : Addr) (w_Topic_ALERT : Addr) (w_Topic_ALERT_defaultName : Addr) (w_Topic_DECISION : Addr) (w_Topic_DECISION_defaultName : Addr) (w_Topic_REFUSED : Addr) (w_Topic_REFUSED_defaultName : Addr) (w_Topic_HISTORY : Addr) (w_Topic_HISTORY_suffix : Addr) (h0 : Heap) (n0 : Nat) (O0 : Old Z n0 h0) (NF : Nar Z w_Topic_INPUT w_Topic_INPUT_defaultName w_Topic_REJECTED w_Topic_REJECTED_defaultName w_Topic_BLOCK_LIST w_Topic_BLOCK_LIST_suffix w_Topic_DECIDED w_Topic_DECIDED_suffix w_Topic_ALERT w_Topic_ALERT_defaultName w_Topic_DECISION w_Topic_DECISION_defaultName w_Topic_REFUSED w_Topic_REFUSED_defaultName w_Topic_HISTORY w_Topic_HISTORY_suffix) :
    MetFree l x (head1 (Jvm.Cond.code x code maxLocals ret :: ws) room_1) (fun a U => a = #[(.int p0)] ∧ Z.Warmed39 U.vm ∧ U.heap = h0) (fun _ _ _ _ _ => True) (fun _ U o U' => ∃ v L, o = .returned v ∧ Q_rm0 Z p0 w_Topic_INPUT w_Topic_INPUT_defaultName w_Topic_REJECTED w_Topic_REJECTED_defaultName w_Topic_BLOCK_LIST w_Topic_BLOCK_LIST_suffix w_Topic_DECIDED w_Topic_DECIDED_suffix w_Topic_ALERT w_Topic_ALERT_defaultName w_Topic_DECISION w_Topic_DECISION_defaultName w_Topic_REFUSED w_Topic_REFUSED_defaultName w_Topic_HISTORY w_Topic_HISTORY_suffix h0 n0 v U'.heap L ∧ FrameEnd U o U' L room_1.cells room_1.slots) := by
  refine MetFree.of_bodySF (plainFor_of_name pn_0) hisR ?_
  intro p e s m args below meth c s₁ Bd hml0 hP hK
  obtain ⟨rfl, hZ, hh⟩ := hP
  have hx := Bd.exec
  have hby := Bd.bytes
  have hml : c.maxLocals = 5 := hml0
  have hown : s.vm.findClass "com/example/issuer/issuer/kafka/TopicIsKeptPinLaw" = some m.cls := findClass_of_methodNamed Bd.named
  have hnm := (name_of_methodNamed Bd.named Bd.method).1
  have X0 : Stand p l e room_1 s m #[(.int p0)] below meth c s₁ [] 0 0 := Stand.of_body Bd
  have e0 : s₁.heap = h0 := by rw [← hh, Bd.state]; rfl
  have N0 := Fr.nil n0
  suffices G : ∀ (Qf : Outcome → State → Prop), Qf = (fun (_ : Array Value) (U : State) (o : Outcome) (U' : State) => ∃ v L, o = .returned v ∧ Q_rm0 Z p0 w_Topic_INPUT w_Topic_INPUT_defaultName w_Topic_REJECTED w_Topic_REJECTED_defaultName w_Topic_BLOCK_LIST w_Topic_BLOCK_LIST_suffix w_Topic_DECIDED w_Topic_DECIDED_suffix w_Topic_ALERT w_Topic_ALERT_defaultName w_Topic_DECISION w_Topic_DECISION_defaultName w_Topic_REFUSED w_Topic_REFUSED_defaultName w_Topic_HISTORY w_Topic_HISTORY_suffix h0 n0 v U'.heap L ∧ FrameEnd U o U' L room_1.cells room_1.slots) #[] s → Goes p.tables e below Qf (s₁.setTop (mkF m 0 #[.val (.int p0), .unset, .unset, .unset, .unset] [])) by
    obtain ⟨s₂, o, g1, g2, g3, g4⟩ := G _ rfl
    exact ⟨s₂, o, castTop (ef_rm0 m _) g1, g2, g3, g4⟩
  intro Qf hQf
  obtain ⟨S_w_Topic_INPUT, E_w_Topic_INPUT, F_defaultName_w_Topic_INPUT, E_w_Topic_INPUT_defaultName, S_w_Topic_REJECTED, E_w_Topic_REJECTED, F_defaultName_w_Topic_REJECTED, E_w_Topic_REJECTED_defaultName, S_w_Topic_BLOCK_LIST, E_w_Topic_BLOCK_LIST, F_suffix_w_Topic_BLOCK_LIST, E_w_Topic_BLOCK_LIST_suffix, S_w_Topic_DECIDED, E_w_Topic_DECIDED, F_suffix_w_Topic_DECIDED, E_w_Topic_DECIDED_suffix, S_w_Topic_ALERT, E_w_Topic_ALERT, F_defaultName_w_Topic_ALERT, E_w_Topic_ALERT_defaultName, S_w_Topic_DECISION, E_w_Topic_DECISION, F_defaultName_w_Topic_DECISION, E_w_Topic_DECISION_defaultName, S_w_Topic_REFUSED, E_w_Topic_REFUSED, F_defaultName_w_Topic_REFUSED, E_w_Topic_REFUSED_defaultName, S_w_Topic_HISTORY, E_w_Topic_HISTORY, F_suffix_w_Topic_HISTORY, E_w_Topic_HISTORY_suffix, F_suffix_w_Topic_INPUT, F_suffix_w_Topic_REJECTED, F_defaultName_w_Topic_BLOCK_LIST, F_defaultName_w_Topic_DECIDED, F_suffix_w_Topic_ALERT, F_suffix_w_Topic_DECISION, F_suffix_w_Topic_REFUSED, F_defaultName_w_Topic_HISTORY⟩ := id NF
  refine Goes.to (T' := s₁.setTop (mkF m 1 #[.val (.int p0), .unset, .unset, .unset, .unset] [(.int p0)])) (fun t k => XS.iloadN X0.here hx rfl (hb hby at_0) rfl k) ?_
  refine Goes.to (T' := s₁.setTop (mkF m 3 #[.val (.int p0), .unset, .unset, .unset, .unset] [(.int (2147483647 : Int32)), (.int p0)])) (X0.ldcInt hx hown (mvT hZ (hw _ (List.mem_of_getElem? (i := 0) rfl))) (g := (mkF m 1 #[.val (.int p0), .unset, .unset, .unset, .unset] [(.int p0)])) rfl (hb hby at_1)) ?_
  refine Goes.to (T' := s₁.setTop (mkF m 4 #[.val (.int p0), .unset, .unset, .unset, .unset] [(.int (p0 &&& (2147483647 : Int32)))])) (fun t k => XS.iand X0.here hx rfl (hb hby at_3) rfl k) ?_
  refine Goes.to (T' := s₁.setTop (mkF m 6 #[.val (.int p0), .unset, .unset, .unset, .unset] [(.int (8 : Int32)), (.int (p0 &&& (2147483647 : Int32)))])) (fun t k => XS.bipush X0.here hx rfl (hb hby at_4) k) ?_
  refine Goes.to (T' := s₁.setTop (mkF m 7 #[.val (.int p0), .unset, .unset, .unset, .unset] [(.int ((p0 &&& (2147483647 : Int32)) % (8 : Int32)))])) (fun t k => iremM X0 hx rfl (hb hby at_6) rfl (by decide) k) ?_
  rcases own_mod8 p0 with hv_1 | hv_1 | hv_1 | hv_1 | hv_1 | hv_1 | hv_1 | hv_1
  · rw [hv_1]
    refine Goes.to (T' := s₁.setTop (mkF m 8 #[.val (.int p0), .val (.int (0 : Int32)), .unset, .unset, .unset] [])) (fun t k => XS.istoreN X0.here hx rfl (hb hby at_7) rfl (l' := #[.val (.int p0), .val (.int (0 : Int32)), .unset, .unset, .unset]) rfl k) ?_
    refine Goes.to (T' := s₁.setTop (mkF m 9 #[.val (.int p0), .val (.int (0 : Int32)), .unset, .unset, .unset] [(.int (0 : Int32))])) (fun t k => XS.iloadN X0.here hx rfl (hb hby at_8) rfl k) ?_
    obtain ⟨_, _, ⟨T2, L2, k2, n2⟩, -, X2, ⟨Lc2, hQ2, l2, y2, z2⟩, st2⟩ := Jvm.LawKit.callS X0 hx (y := (⟨"com/example/issuer/issuer/kafka/TopicIsKeptPinLaw", "pick", "(I)Lcom/example/issuer/issuer/kafka/Topic;"⟩ : MethodName)) hown (mvT hZ (hw _ (List.mem_of_getElem? (i := 1) rfl))) (mvT hZ (hw _ (List.mem_of_getElem? (i := 2) rfl))) (mvT hZ (hw _ (List.mem_of_getElem? (i := 3) rfl))) (mvT hZ (hw _ (List.mem_of_getElem? (i := 4) rfl))) (by decide) (backOf (W := 0) (rmP l Z a0 hw [] (0 : Int32) w_Topic_INPUT w_Topic_INPUT_defaultName w_Topic_REJECTED w_Topic_REJECTED_defaultName w_Topic_BLOCK_LIST w_Topic_BLOCK_LIST_suffix w_Topic_DECIDED w_Topic_DECIDED_suffix w_Topic_ALERT w_Topic_ALERT_defaultName w_Topic_DECISION w_Topic_DECISION_defaultName w_Topic_REFUSED w_Topic_REFUSED_defaultName w_Topic_HISTORY w_Topic_HISTORY_suffix w_Topic_INPUT h0 n0 O0 NF (by simp)) hZ (hw _ (List.mem_of_getElem? (i := 4) rfl)) (hw _ (List.mem_of_getElem? (i := 3) rfl)) (by decide) (by decide)) (g := (mkF m 9 #[.val (.int p0), .val (.int (0 : Int32)), .unset, .unset, .unset] [(.int (0 : Int32))])) rfl (by rw [hml]; rfl) (argsL := [(.int (0 : Int32))]) (rest := []) (lenOf pd_49 rfl) rfl (by show 2 * 0 + _ ≤ _; exact Nat.le_of_eq rfl) (hb hby at_9) (fun _ _ => ⟨rfl, e0, (by decide : 0 + 0 ≤ _), (by decide : 0 + 0 ≤ _)⟩)
    dsimp only [Pt.U, Pt.locs, Pt.cells, Pt.slots] at X2 l2 y2 z2 st2 hQ2
    subst l2 y2 z2
    obtain ⟨rfl, Nq2, e2⟩ := hQ2
    have N2 := Fr.app N0 Nq2
    refine Goes.to (T' := T2.setTop (mkF m 12 #[.val (.int p0), .val (.int (0 : Int32)), .unset, .unset, .unset] [(.ref w_Topic_INPUT)])) st2 ?_
    refine Goes.to (T' := T2.setTop (mkF m 13 #[.val (.int p0), .val (.int (0 : Int32)), .val (.ref w_Topic_INPUT), .unset, .unset] [])) (fun t k => XS.astoreN X2.here hx rfl (hb hby at_12) rfl rfl (l' := #[.val (.int p0), .val (.int (0 : Int32)), .val (.ref w_Topic_INPUT), .unset, .unset]) rfl k) ?_
    refine Goes.to (T' := T2.setTop (mkF m 14 #[.val (.int p0), .val (.int (0 : Int32)), .val (.ref w_Topic_INPUT), .unset, .unset] [(.int (0 : Int32))])) (fun t k => XS.iloadN X2.here hx rfl (hb hby at_13) rfl k) ?_
    refine Goes.to (T' := T2.setTop (mkF m 15 #[.val (.int p0), .val (.int (0 : Int32)), .val (.ref w_Topic_INPUT), .unset, .unset] [(.int (5 : Int32)), (.int (0 : Int32))])) (fun t k => XS.iconst X2.here hx rfl (hb hby at_14) k) ?_
    refine Goes.to (T' := T2.setTop (mkF m 22 #[.val (.int p0), .val (.int (0 : Int32)), .val (.ref w_Topic_INPUT), .unset, .unset] [])) (fun t k => XS.icmpYes X2.here hx rfl (pc0 := 15) (pc' := 22) rfl (hb hby at_15) rfl (tlt (by decide)).1 (by decide) (by decide) k) ?_
    refine Goes.to (T' := T2.setTop (mkF m 23 #[.val (.int p0), .val (.int (0 : Int32)), .val (.ref w_Topic_INPUT), .unset, .unset] [(.int (0 : Int32))])) (fun t k => XS.iconst X2.here hx rfl (hb hby at_22) k) ?_
    refine Goes.to (T' := T2.setTop (mkF m 24 #[.val (.int p0), .val (.int (0 : Int32)), .val (.ref w_Topic_INPUT), .val (.int (0 : Int32)), .unset] [])) (fun t k => XS.istoreN X2.here hx rfl (hb hby at_23) rfl (l' := #[.val (.int p0), .val (.int (0 : Int32)), .val (.ref w_Topic_INPUT), .val (.int (0 : Int32)), .unset]) rfl k) ?_
    refine Goes.to (T' := T2.setTop (mkF m 25 #[.val (.int p0), .val (.int (0 : Int32)), .val (.ref w_Topic_INPUT), .val (.int (0 : Int32)), .unset] [(.ref w_Topic_INPUT)])) (fun t k => XS.aloadN X2.here hx rfl (hb hby at_24) rfl rfl k) ?_
    obtain ⟨cq3, kq3, q3a, q3b, q3c⟩ := isOf hZ e2 (E_w_Topic_INPUT.ext O0.2)
    obtain ⟨_, _, ⟨T3, L3, k3, n3⟩, -, X3, ⟨Lc3, hQ3, l3, y3, z3⟩, st3⟩ := X2.virtualBack hx (y := (⟨"com/example/issuer/issuer/kafka/Topic", "isKept", "()Z"⟩ : MethodName)) (z := (⟨"com/example/issuer/issuer/kafka/Topic", "isKept", "()Z"⟩ : MethodName)) hown (mvT hZ (hw _ (List.mem_of_getElem? (i := 8) rfl))) (mvT hZ (hw _ (List.mem_of_getElem? (i := 9) rfl))) (notFace_of_selects (args := #[]) (mvT hZ (hw _ (List.mem_of_getElem? (i := 11) rfl)))) (mvT hZ (hw _ (List.mem_of_getElem? (i := 11) rfl))) (mvT hZ (hw _ (List.mem_of_getElem? (i := 10) rfl))) (by decide) (backOf (W := 0) (rmKn l Z a0 hw [] w_Topic_INPUT w_Topic_INPUT w_Topic_INPUT_defaultName w_Topic_REJECTED w_Topic_REJECTED_defaultName w_Topic_BLOCK_LIST w_Topic_BLOCK_LIST_suffix w_Topic_DECIDED w_Topic_DECIDED_suffix w_Topic_ALERT w_Topic_ALERT_defaultName w_Topic_DECISION w_Topic_DECISION_defaultName w_Topic_REFUSED w_Topic_REFUSED_defaultName w_Topic_HISTORY w_Topic_HISTORY_suffix  h0 n0 O0 NF (F_suffix_w_Topic_INPUT.ext O0.2)) hZ (hw _ (List.mem_of_getElem? (i := 12) rfl)) (hw _ (List.mem_of_getElem? (i := 6) rfl)) (by decide) (by decide)) q3a q3c (g := (mkF m 25 #[.val (.int p0), .val (.int (0 : Int32)), .val (.ref w_Topic_INPUT), .val (.int (0 : Int32)), .unset] [(.ref w_Topic_INPUT)])) rfl (by rw [hml]; rfl) (Steps.refl _) (argsL := []) (rest := []) (lenOf pd_50 rfl) rfl (by show 2 * 0 + _ ≤ _; exact Nat.le_of_eq rfl) (hb hby at_25) (fun _ _ => ⟨rfl, e2, (by decide : 0 + 0 ≤ _), (by decide : 0 + 0 ≤ _)⟩)
    dsimp only [Pt.U, Pt.locs, Pt.cells, Pt.slots] at X3 l3 y3 z3 st3 hQ3
    subst l3 y3 z3
    obtain ⟨rfl, Nq3, e3⟩ := hQ3
    have N3 := Fr.app N2 Nq3
    refine Goes.thru (T' := T3.setTop (mkF m 28 #[.val (.int p0), .val (.int (0 : Int32)), .val (.ref w_Topic_INPUT), .val (.int (0 : Int32)), .unset] [(.int (0 : Int32))])) st3 ?_
    refine Goes.to (T' := T3.setTop (mkF m 30 #[.val (.int p0), .val (.int (0 : Int32)), .val (.ref w_Topic_INPUT), .val (.int (0 : Int32)), .val (.int (0 : Int32))] [])) (fun t k => XS.istore X3.here hx rfl (hb hby at_28) rfl (l' := #[.val (.int p0), .val (.int (0 : Int32)), .val (.ref w_Topic_INPUT), .val (.int (0 : Int32)), .val (.int (0 : Int32))]) rfl k) ?_
    refine Goes.to (T' := T3.setTop (mkF m 32 #[.val (.int p0), .val (.int (0 : Int32)), .val (.ref w_Topic_INPUT), .val (.int (0 : Int32)), .val (.int (0 : Int32))] [(.int (0 : Int32))])) (fun t k => XS.iload X3.here hx rfl (hb hby at_30) rfl k) ?_
    refine Goes.to (T' := T3.setTop (mkF m 33 #[.val (.int p0), .val (.int (0 : Int32)), .val (.ref w_Topic_INPUT), .val (.int (0 : Int32)), .val (.int (0 : Int32))] [(.int (0 : Int32)), (.int (0 : Int32))])) (fun t k => XS.iloadN X3.here hx rfl (hb hby at_32) rfl k) ?_
    refine Goes.to (T' := T3.setTop (mkF m 36 #[.val (.int p0), .val (.int (0 : Int32)), .val (.ref w_Topic_INPUT), .val (.int (0 : Int32)), .val (.int (0 : Int32))] [])) (fun t k => XS.icmpNo X3.here hx rfl (hb hby at_33) rfl (teq (by decide)).2 k) ?_
    refine Goes.to (T' := T3.setTop (mkF m 38 #[.val (.int p0), .val (.int (0 : Int32)), .val (.ref w_Topic_INPUT), .val (.int (0 : Int32)), .val (.int (0 : Int32))] [(.int (0 : Int32))])) (fun t k => XS.iload X3.here hx rfl (hb hby at_36) rfl k) ?_
    refine Goes.to (T' := T3.setTop (mkF m 39 #[.val (.int p0), .val (.int (0 : Int32)), .val (.ref w_Topic_INPUT), .val (.int (0 : Int32)), .val (.int (0 : Int32))] [(.ref w_Topic_INPUT), (.int (0 : Int32))])) (fun t k => XS.aloadN X3.here hx rfl (hb hby at_38) rfl rfl k) ?_
    obtain ⟨cq4, kq4, q4a, q4b, q4c⟩ := isOf hZ e3 (E_w_Topic_INPUT.ext O0.2)
    obtain ⟨_, _, ⟨T4, L4, k4, n4⟩, -, X4, ⟨Lc4, hQ4, l4, y4, z4⟩, st4⟩ := X3.virtualBack hx (y := (⟨"com/example/issuer/issuer/kafka/Topic", "getDefaultName", "()Ljava/lang/String;"⟩ : MethodName)) (z := (⟨"com/example/issuer/issuer/kafka/Topic", "getDefaultName", "()Ljava/lang/String;"⟩ : MethodName)) hown (mvT hZ (hw _ (List.mem_of_getElem? (i := 15) rfl))) (mvT hZ (hw _ (List.mem_of_getElem? (i := 16) rfl))) (notFace_of_selects (args := #[]) (mvT hZ (hw _ (List.mem_of_getElem? (i := 18) rfl)))) (mvT hZ (hw _ (List.mem_of_getElem? (i := 18) rfl))) (mvT hZ (hw _ (List.mem_of_getElem? (i := 17) rfl))) (by decide) (backOf (W := 1) (rmDy l Z a0 hw [] w_Topic_INPUT w_Topic_INPUT w_Topic_INPUT_defaultName w_Topic_REJECTED w_Topic_REJECTED_defaultName w_Topic_BLOCK_LIST w_Topic_BLOCK_LIST_suffix w_Topic_DECIDED w_Topic_DECIDED_suffix w_Topic_ALERT w_Topic_ALERT_defaultName w_Topic_DECISION w_Topic_DECISION_defaultName w_Topic_REFUSED w_Topic_REFUSED_defaultName w_Topic_HISTORY w_Topic_HISTORY_suffix w_Topic_INPUT_defaultName h0 n0 O0 NF (F_defaultName_w_Topic_INPUT.ext O0.2)) hZ (hw _ (List.mem_of_getElem? (i := 19) rfl)) (hw _ (List.mem_of_getElem? (i := 6) rfl)) (by decide) (by decide)) q4a q4c (g := (mkF m 39 #[.val (.int p0), .val (.int (0 : Int32)), .val (.ref w_Topic_INPUT), .val (.int (0 : Int32)), .val (.int (0 : Int32))] [(.ref w_Topic_INPUT), (.int (0 : Int32))])) rfl (by rw [hml]; rfl) (Steps.refl _) (argsL := []) (rest := [(.int (0 : Int32))]) (lenOf pd_51 rfl) rfl (by show 2 * 0 + _ ≤ _; exact Nat.le_of_eq rfl) (hb hby at_39) (fun _ _ => ⟨rfl, e3, (by decide : 0 + 0 ≤ _), (by decide : 0 + 0 ≤ _)⟩)
    dsimp only [Pt.U, Pt.locs, Pt.cells, Pt.slots] at X4 l4 y4 z4 st4 hQ4
    subst l4 y4 z4
    obtain ⟨rfl, Nq4, e4⟩ := hQ4
    have N4 := Fr.app N3 Nq4
    refine Goes.thru (T' := T4.setTop (mkF m 42 #[.val (.int p0), .val (.int (0 : Int32)), .val (.ref w_Topic_INPUT), .val (.int (0 : Int32)), .val (.int (0 : Int32))] [(.ref w_Topic_INPUT_defaultName), (.int (0 : Int32))])) st4 ?_
    refine Goes.to (T' := T4.setTop (mkF m 49 #[.val (.int p0), .val (.int (0 : Int32)), .val (.ref w_Topic_INPUT), .val (.int (0 : Int32)), .val (.int (0 : Int32))] [(.int (0 : Int32))])) (fun t k => XS.ifnonnullYes X4.here hx rfl (pc0 := 42) (pc' := 49) rfl (hb hby at_42) rfl (by decide) (by decide) k) ?_
    refine Goes.to (T' := T4.setTop (mkF m 50 #[.val (.int p0), .val (.int (0 : Int32)), .val (.ref w_Topic_INPUT), .val (.int (0 : Int32)), .val (.int (0 : Int32))] [(.int (0 : Int32)), (.int (0 : Int32))])) (fun t k => XS.iconst X4.here hx rfl (hb hby at_49) k) ?_
    refine Goes.to (T' := T4.setTop (mkF m 53 #[.val (.int p0), .val (.int (0 : Int32)), .val (.ref w_Topic_INPUT), .val (.int (0 : Int32)), .val (.int (0 : Int32))] [])) (fun t k => XS.icmpNo X4.here hx rfl (hb hby at_50) rfl (teq (by decide)).2 k) ?_
    refine Goes.to (T' := T4.setTop (mkF m 54 #[.val (.int p0), .val (.int (0 : Int32)), .val (.ref w_Topic_INPUT), .val (.int (0 : Int32)), .val (.int (0 : Int32))] [(.int (1 : Int32))])) (fun t k => XS.iconst X4.here hx rfl (hb hby at_53) k) ?_
    refine Goes.to (T' := T4.setTop (mkF m 58 #[.val (.int p0), .val (.int (0 : Int32)), .val (.ref w_Topic_INPUT), .val (.int (0 : Int32)), .val (.int (0 : Int32))] [(.int (1 : Int32))])) (fun t k => XS.goto X4.here hx rfl (pc0 := 54) (pc' := 58) rfl (hb hby at_54) (by decide) (by decide) k) ?_
    obtain ⟨fs, hrL, hrun, hended, hW, hsame⟩ := X4.leave (v := some (.int (1 : Int32))) (fun h => by rw [Bd.returns] at h; cases h)
    subst hQf
    refine ⟨_, _, retN X4 hx (t := .boolean) Bd.returns (by simp) (hb hby at_58) hrL, hrun, hended, _, _, rfl, ?_, ⟨_, rfl⟩, hW, hsame.mono (by decide) (by decide)⟩
    show (fun (v : Option Value) (h : Heap) (L : List Loc) => v = some (.int 1) ∧ Fr n0 L) (some (.int (1 : Int32))) T4.heap _
    rw [e4]
    exact ⟨rfl, N4⟩
  · rw [hv_1]
    refine Goes.to (T' := s₁.setTop (mkF m 8 #[.val (.int p0), .val (.int (1 : Int32)), .unset, .unset, .unset] [])) (fun t k => XS.istoreN X0.here hx rfl (hb hby at_7) rfl (l' := #[.val (.int p0), .val (.int (1 : Int32)), .unset, .unset, .unset]) rfl k) ?_
    refine Goes.to (T' := s₁.setTop (mkF m 9 #[.val (.int p0), .val (.int (1 : Int32)), .unset, .unset, .unset] [(.int (1 : Int32))])) (fun t k => XS.iloadN X0.here hx rfl (hb hby at_8) rfl k) ?_
    obtain ⟨_, _, ⟨T5, L5, k5, n5⟩, -, X5, ⟨Lc5, hQ5, l5, y5, z5⟩, st5⟩ := Jvm.LawKit.callS X0 hx (y := (⟨"com/example/issuer/issuer/kafka/TopicIsKeptPinLaw", "pick", "(I)Lcom/example/issuer/issuer/kafka/Topic;"⟩ : MethodName)) hown (mvT hZ (hw _ (List.mem_of_getElem? (i := 1) rfl))) (mvT hZ (hw _ (List.mem_of_getElem? (i := 2) rfl))) (mvT hZ (hw _ (List.mem_of_getElem? (i := 3) rfl))) (mvT hZ (hw _ (List.mem_of_getElem? (i := 4) rfl))) (by decide) (backOf (W := 0) (rmP l Z a0 hw [] (1 : Int32) w_Topic_INPUT w_Topic_INPUT_defaultName w_Topic_REJECTED w_Topic_REJECTED_defaultName w_Topic_BLOCK_LIST w_Topic_BLOCK_LIST_suffix w_Topic_DECIDED w_Topic_DECIDED_suffix w_Topic_ALERT w_Topic_ALERT_defaultName w_Topic_DECISION w_Topic_DECISION_defaultName w_Topic_REFUSED w_Topic_REFUSED_defaultName w_Topic_HISTORY w_Topic_HISTORY_suffix w_Topic_DECISION h0 n0 O0 NF (by simp)) hZ (hw _ (List.mem_of_getElem? (i := 4) rfl)) (hw _ (List.mem_of_getElem? (i := 3) rfl)) (by decide) (by decide)) (g := (mkF m 9 #[.val (.int p0), .val (.int (1 : Int32)), .unset, .unset, .unset] [(.int (1 : Int32))])) rfl (by rw [hml]; rfl) (argsL := [(.int (1 : Int32))]) (rest := []) (lenOf pd_49 rfl) rfl (by show 2 * 0 + _ ≤ _; exact Nat.le_of_eq rfl) (hb hby at_9) (fun _ _ => ⟨rfl, e0, (by decide : 0 + 0 ≤ _), (by decide : 0 + 0 ≤ _)⟩)
    dsimp only [Pt.U, Pt.locs, Pt.cells, Pt.slots] at X5 l5 y5 z5 st5 hQ5
    subst l5 y5 z5
    obtain ⟨rfl, Nq5, e5⟩ := hQ5
    have N5 := Fr.app N0 Nq5
    refine Goes.to (T' := T5.setTop (mkF m 12 #[.val (.int p0), .val (.int (1 : Int32)), .unset, .unset, .unset] [(.ref w_Topic_DECISION)])) st5 ?_
    refine Goes.to (T' := T5.setTop (mkF m 13 #[.val (.int p0), .val (.int (1 : Int32)), .val (.ref w_Topic_DECISION), .unset, .unset] [])) (fun t k => XS.astoreN X5.here hx rfl (hb hby at_12) rfl rfl (l' := #[.val (.int p0), .val (.int (1 : Int32)), .val (.ref w_Topic_DECISION), .unset, .unset]) rfl k) ?_
    refine Goes.to (T' := T5.setTop (mkF m 14 #[.val (.int p0), .val (.int (1 : Int32)), .val (.ref w_Topic_DECISION), .unset, .unset] [(.int (1 : Int32))])) (fun t k => XS.iloadN X5.here hx rfl (hb hby at_13) rfl k) ?_
    refine Goes.to (T' := T5.setTop (mkF m 15 #[.val (.int p0), .val (.int (1 : Int32)), .val (.ref w_Topic_DECISION), .unset, .unset] [(.int (5 : Int32)), (.int (1 : Int32))])) (fun t k => XS.iconst X5.here hx rfl (hb hby at_14) k) ?_
    refine Goes.to (T' := T5.setTop (mkF m 22 #[.val (.int p0), .val (.int (1 : Int32)), .val (.ref w_Topic_DECISION), .unset, .unset] [])) (fun t k => XS.icmpYes X5.here hx rfl (pc0 := 15) (pc' := 22) rfl (hb hby at_15) rfl (tlt (by decide)).1 (by decide) (by decide) k) ?_
    refine Goes.to (T' := T5.setTop (mkF m 23 #[.val (.int p0), .val (.int (1 : Int32)), .val (.ref w_Topic_DECISION), .unset, .unset] [(.int (0 : Int32))])) (fun t k => XS.iconst X5.here hx rfl (hb hby at_22) k) ?_
    refine Goes.to (T' := T5.setTop (mkF m 24 #[.val (.int p0), .val (.int (1 : Int32)), .val (.ref w_Topic_DECISION), .val (.int (0 : Int32)), .unset] [])) (fun t k => XS.istoreN X5.here hx rfl (hb hby at_23) rfl (l' := #[.val (.int p0), .val (.int (1 : Int32)), .val (.ref w_Topic_DECISION), .val (.int (0 : Int32)), .unset]) rfl k) ?_
    refine Goes.to (T' := T5.setTop (mkF m 25 #[.val (.int p0), .val (.int (1 : Int32)), .val (.ref w_Topic_DECISION), .val (.int (0 : Int32)), .unset] [(.ref w_Topic_DECISION)])) (fun t k => XS.aloadN X5.here hx rfl (hb hby at_24) rfl rfl k) ?_
    obtain ⟨cq6, kq6, q6a, q6b, q6c⟩ := isOf hZ e5 (E_w_Topic_DECISION.ext O0.2)
    obtain ⟨_, _, ⟨T6, L6, k6, n6⟩, -, X6, ⟨Lc6, hQ6, l6, y6, z6⟩, st6⟩ := X5.virtualBack hx (y := (⟨"com/example/issuer/issuer/kafka/Topic", "isKept", "()Z"⟩ : MethodName)) (z := (⟨"com/example/issuer/issuer/kafka/Topic", "isKept", "()Z"⟩ : MethodName)) hown (mvT hZ (hw _ (List.mem_of_getElem? (i := 8) rfl))) (mvT hZ (hw _ (List.mem_of_getElem? (i := 9) rfl))) (notFace_of_selects (args := #[]) (mvT hZ (hw _ (List.mem_of_getElem? (i := 11) rfl)))) (mvT hZ (hw _ (List.mem_of_getElem? (i := 11) rfl))) (mvT hZ (hw _ (List.mem_of_getElem? (i := 10) rfl))) (by decide) (backOf (W := 0) (rmKn l Z a0 hw [] w_Topic_DECISION w_Topic_INPUT w_Topic_INPUT_defaultName w_Topic_REJECTED w_Topic_REJECTED_defaultName w_Topic_BLOCK_LIST w_Topic_BLOCK_LIST_suffix w_Topic_DECIDED w_Topic_DECIDED_suffix w_Topic_ALERT w_Topic_ALERT_defaultName w_Topic_DECISION w_Topic_DECISION_defaultName w_Topic_REFUSED w_Topic_REFUSED_defaultName w_Topic_HISTORY w_Topic_HISTORY_suffix  h0 n0 O0 NF (F_suffix_w_Topic_DECISION.ext O0.2)) hZ (hw _ (List.mem_of_getElem? (i := 12) rfl)) (hw _ (List.mem_of_getElem? (i := 6) rfl)) (by decide) (by decide)) q6a q6c (g := (mkF m 25 #[.val (.int p0), .val (.int (1 : Int32)), .val (.ref w_Topic_DECISION), .val (.int (0 : Int32)), .unset] [(.ref w_Topic_DECISION)])) rfl (by rw [hml]; rfl) (Steps.refl _) (argsL := []) (rest := []) (lenOf pd_50 rfl) rfl (by show 2 * 0 + _ ≤ _; exact Nat.le_of_eq rfl) (hb hby at_25) (fun _ _ => ⟨rfl, e5, (by decide : 0 + 0 ≤ _), (by decide : 0 + 0 ≤ _)⟩)
    dsimp only [Pt.U, Pt.locs, Pt.cells, Pt.slots] at X6 l6 y6 z6 st6 hQ6
    subst l6 y6 z6
    obtain ⟨rfl, Nq6, e6⟩ := hQ6
    have N6 := Fr.app N5 Nq6
    refine Goes.thru (T' := T6.setTop (mkF m 28 #[.val (.int p0), .val (.int (1 : Int32)), .val (.ref w_Topic_DECISION), .val (.int (0 : Int32)), .unset] [(.int (0 : Int32))])) st6 ?_
    refine Goes.to (T' := T6.setTop (mkF m 30 #[.val (.int p0), .val (.int (1 : Int32)), .val (.ref w_Topic_DECISION), .val (.int (0 : Int32)), .val (.int (0 : Int32))] [])) (fun t k => XS.istore X6.here hx rfl (hb hby at_28) rfl (l' := #[.val (.int p0), .val (.int (1 : Int32)), .val (.ref w_Topic_DECISION), .val (.int (0 : Int32)), .val (.int (0 : Int32))]) rfl k) ?_
    refine Goes.to (T' := T6.setTop (mkF m 32 #[.val (.int p0), .val (.int (1 : Int32)), .val (.ref w_Topic_DECISION), .val (.int (0 : Int32)), .val (.int (0 : Int32))] [(.int (0 : Int32))])) (fun t k => XS.iload X6.here hx rfl (hb hby at_30) rfl k) ?_
    refine Goes.to (T' := T6.setTop (mkF m 33 #[.val (.int p0), .val (.int (1 : Int32)), .val (.ref w_Topic_DECISION), .val (.int (0 : Int32)), .val (.int (0 : Int32))] [(.int (0 : Int32)), (.int (0 : Int32))])) (fun t k => XS.iloadN X6.here hx rfl (hb hby at_32) rfl k) ?_
    refine Goes.to (T' := T6.setTop (mkF m 36 #[.val (.int p0), .val (.int (1 : Int32)), .val (.ref w_Topic_DECISION), .val (.int (0 : Int32)), .val (.int (0 : Int32))] [])) (fun t k => XS.icmpNo X6.here hx rfl (hb hby at_33) rfl (teq (by decide)).2 k) ?_
    refine Goes.to (T' := T6.setTop (mkF m 38 #[.val (.int p0), .val (.int (1 : Int32)), .val (.ref w_Topic_DECISION), .val (.int (0 : Int32)), .val (.int (0 : Int32))] [(.int (0 : Int32))])) (fun t k => XS.iload X6.here hx rfl (hb hby at_36) rfl k) ?_
    refine Goes.to (T' := T6.setTop (mkF m 39 #[.val (.int p0), .val (.int (1 : Int32)), .val (.ref w_Topic_DECISION), .val (.int (0 : Int32)), .val (.int (0 : Int32))] [(.ref w_Topic_DECISION), (.int (0 : Int32))])) (fun t k => XS.aloadN X6.here hx rfl (hb hby at_38) rfl rfl k) ?_
    obtain ⟨cq7, kq7, q7a, q7b, q7c⟩ := isOf hZ e6 (E_w_Topic_DECISION.ext O0.2)
    obtain ⟨_, _, ⟨T7, L7, k7, n7⟩, -, X7, ⟨Lc7, hQ7, l7, y7, z7⟩, st7⟩ := X6.virtualBack hx (y := (⟨"com/example/issuer/issuer/kafka/Topic", "getDefaultName", "()Ljava/lang/String;"⟩ : MethodName)) (z := (⟨"com/example/issuer/issuer/kafka/Topic", "getDefaultName", "()Ljava/lang/String;"⟩ : MethodName)) hown (mvT hZ (hw _ (List.mem_of_getElem? (i := 15) rfl))) (mvT hZ (hw _ (List.mem_of_getElem? (i := 16) rfl))) (notFace_of_selects (args := #[]) (mvT hZ (hw _ (List.mem_of_getElem? (i := 18) rfl)))) (mvT hZ (hw _ (List.mem_of_getElem? (i := 18) rfl))) (mvT hZ (hw _ (List.mem_of_getElem? (i := 17) rfl))) (by decide) (backOf (W := 1) (rmDy l Z a0 hw [] w_Topic_DECISION w_Topic_INPUT w_Topic_INPUT_defaultName w_Topic_REJECTED w_Topic_REJECTED_defaultName w_Topic_BLOCK_LIST w_Topic_BLOCK_LIST_suffix w_Topic_DECIDED w_Topic_DECIDED_suffix w_Topic_ALERT w_Topic_ALERT_defaultName w_Topic_DECISION w_Topic_DECISION_defaultName w_Topic_REFUSED w_Topic_REFUSED_defaultName w_Topic_HISTORY w_Topic_HISTORY_suffix w_Topic_DECISION_defaultName h0 n0 O0 NF (F_defaultName_w_Topic_DECISION.ext O0.2)) hZ (hw _ (List.mem_of_getElem? (i := 19) rfl)) (hw _ (List.mem_of_getElem? (i := 6) rfl)) (by decide) (by decide)) q7a q7c (g := (mkF m 39 #[.val (.int p0), .val (.int (1 : Int32)), .val (.ref w_Topic_DECISION), .val (.int (0 : Int32)), .val (.int (0 : Int32))] [(.ref w_Topic_DECISION), (.int (0 : Int32))])) rfl (by rw [hml]; rfl) (Steps.refl _) (argsL := []) (rest := [(.int (0 : Int32))]) (lenOf pd_51 rfl) rfl (by show 2 * 0 + _ ≤ _; exact Nat.le_of_eq rfl) (hb hby at_39) (fun _ _ => ⟨rfl, e6, (by decide : 0 + 0 ≤ _), (by decide : 0 + 0 ≤ _)⟩)
    dsimp only [Pt.U, Pt.locs, Pt.cells, Pt.slots] at X7 l7 y7 z7 st7 hQ7
    subst l7 y7 z7
    obtain ⟨rfl, Nq7, e7⟩ := hQ7
    have N7 := Fr.app N6 Nq7
    refine Goes.thru (T' := T7.setTop (mkF m 42 #[.val (.int p0), .val (.int (1 : Int32)), .val (.ref w_Topic_DECISION), .val (.int (0 : Int32)), .val (.int (0 : Int32))] [(.ref w_Topic_DECISION_defaultName), (.int (0 : Int32))])) st7 ?_
    refine Goes.to (T' := T7.setTop (mkF m 49 #[.val (.int p0), .val (.int (1 : Int32)), .val (.ref w_Topic_DECISION), .val (.int (0 : Int32)), .val (.int (0 : Int32))] [(.int (0 : Int32))])) (fun t k => XS.ifnonnullYes X7.here hx rfl (pc0 := 42) (pc' := 49) rfl (hb hby at_42) rfl (by decide) (by decide) k) ?_
    refine Goes.to (T' := T7.setTop (mkF m 50 #[.val (.int p0), .val (.int (1 : Int32)), .val (.ref w_Topic_DECISION), .val (.int (0 : Int32)), .val (.int (0 : Int32))] [(.int (0 : Int32)), (.int (0 : Int32))])) (fun t k => XS.iconst X7.here hx rfl (hb hby at_49) k) ?_
    refine Goes.to (T' := T7.setTop (mkF m 53 #[.val (.int p0), .val (.int (1 : Int32)), .val (.ref w_Topic_DECISION), .val (.int (0 : Int32)), .val (.int (0 : Int32))] [])) (fun t k => XS.icmpNo X7.here hx rfl (hb hby at_50) rfl (teq (by decide)).2 k) ?_
    refine Goes.to (T' := T7.setTop (mkF m 54 #[.val (.int p0), .val (.int (1 : Int32)), .val (.ref w_Topic_DECISION), .val (.int (0 : Int32)), .val (.int (0 : Int32))] [(.int (1 : Int32))])) (fun t k => XS.iconst X7.here hx rfl (hb hby at_53) k) ?_
    refine Goes.to (T' := T7.setTop (mkF m 58 #[.val (.int p0), .val (.int (1 : Int32)), .val (.ref w_Topic_DECISION), .val (.int (0 : Int32)), .val (.int (0 : Int32))] [(.int (1 : Int32))])) (fun t k => XS.goto X7.here hx rfl (pc0 := 54) (pc' := 58) rfl (hb hby at_54) (by decide) (by decide) k) ?_
    obtain ⟨fs, hrL, hrun, hended, hW, hsame⟩ := X7.leave (v := some (.int (1 : Int32))) (fun h => by rw [Bd.returns] at h; cases h)
    subst hQf
    refine ⟨_, _, retN X7 hx (t := .boolean) Bd.returns (by simp) (hb hby at_58) hrL, hrun, hended, _, _, rfl, ?_, ⟨_, rfl⟩, hW, hsame.mono (by decide) (by decide)⟩
    show (fun (v : Option Value) (h : Heap) (L : List Loc) => v = some (.int 1) ∧ Fr n0 L) (some (.int (1 : Int32))) T7.heap _
    rw [e7]
    exact ⟨rfl, N7⟩
  · rw [hv_1]
    refine Goes.to (T' := s₁.setTop (mkF m 8 #[.val (.int p0), .val (.int (2 : Int32)), .unset, .unset, .unset] [])) (fun t k => XS.istoreN X0.here hx rfl (hb hby at_7) rfl (l' := #[.val (.int p0), .val (.int (2 : Int32)), .unset, .unset, .unset]) rfl k) ?_
    refine Goes.to (T' := s₁.setTop (mkF m 9 #[.val (.int p0), .val (.int (2 : Int32)), .unset, .unset, .unset] [(.int (2 : Int32))])) (fun t k => XS.iloadN X0.here hx rfl (hb hby at_8) rfl k) ?_
    obtain ⟨_, _, ⟨T8, L8, k8, n8⟩, -, X8, ⟨Lc8, hQ8, l8, y8, z8⟩, st8⟩ := Jvm.LawKit.callS X0 hx (y := (⟨"com/example/issuer/issuer/kafka/TopicIsKeptPinLaw", "pick", "(I)Lcom/example/issuer/issuer/kafka/Topic;"⟩ : MethodName)) hown (mvT hZ (hw _ (List.mem_of_getElem? (i := 1) rfl))) (mvT hZ (hw _ (List.mem_of_getElem? (i := 2) rfl))) (mvT hZ (hw _ (List.mem_of_getElem? (i := 3) rfl))) (mvT hZ (hw _ (List.mem_of_getElem? (i := 4) rfl))) (by decide) (backOf (W := 0) (rmP l Z a0 hw [] (2 : Int32) w_Topic_INPUT w_Topic_INPUT_defaultName w_Topic_REJECTED w_Topic_REJECTED_defaultName w_Topic_BLOCK_LIST w_Topic_BLOCK_LIST_suffix w_Topic_DECIDED w_Topic_DECIDED_suffix w_Topic_ALERT w_Topic_ALERT_defaultName w_Topic_DECISION w_Topic_DECISION_defaultName w_Topic_REFUSED w_Topic_REFUSED_defaultName w_Topic_HISTORY w_Topic_HISTORY_suffix w_Topic_ALERT h0 n0 O0 NF (by simp)) hZ (hw _ (List.mem_of_getElem? (i := 4) rfl)) (hw _ (List.mem_of_getElem? (i := 3) rfl)) (by decide) (by decide)) (g := (mkF m 9 #[.val (.int p0), .val (.int (2 : Int32)), .unset, .unset, .unset] [(.int (2 : Int32))])) rfl (by rw [hml]; rfl) (argsL := [(.int (2 : Int32))]) (rest := []) (lenOf pd_49 rfl) rfl (by show 2 * 0 + _ ≤ _; exact Nat.le_of_eq rfl) (hb hby at_9) (fun _ _ => ⟨rfl, e0, (by decide : 0 + 0 ≤ _), (by decide : 0 + 0 ≤ _)⟩)
    dsimp only [Pt.U, Pt.locs, Pt.cells, Pt.slots] at X8 l8 y8 z8 st8 hQ8
    subst l8 y8 z8
    obtain ⟨rfl, Nq8, e8⟩ := hQ8
    have N8 := Fr.app N0 Nq8
    refine Goes.to (T' := T8.setTop (mkF m 12 #[.val (.int p0), .val (.int (2 : Int32)), .unset, .unset, .unset] [(.ref w_Topic_ALERT)])) st8 ?_
    refine Goes.to (T' := T8.setTop (mkF m 13 #[.val (.int p0), .val (.int (2 : Int32)), .val (.ref w_Topic_ALERT), .unset, .unset] [])) (fun t k => XS.astoreN X8.here hx rfl (hb hby at_12) rfl rfl (l' := #[.val (.int p0), .val (.int (2 : Int32)), .val (.ref w_Topic_ALERT), .unset, .unset]) rfl k) ?_
    refine Goes.to (T' := T8.setTop (mkF m 14 #[.val (.int p0), .val (.int (2 : Int32)), .val (.ref w_Topic_ALERT), .unset, .unset] [(.int (2 : Int32))])) (fun t k => XS.iloadN X8.here hx rfl (hb hby at_13) rfl k) ?_
    refine Goes.to (T' := T8.setTop (mkF m 15 #[.val (.int p0), .val (.int (2 : Int32)), .val (.ref w_Topic_ALERT), .unset, .unset] [(.int (5 : Int32)), (.int (2 : Int32))])) (fun t k => XS.iconst X8.here hx rfl (hb hby at_14) k) ?_
    refine Goes.to (T' := T8.setTop (mkF m 22 #[.val (.int p0), .val (.int (2 : Int32)), .val (.ref w_Topic_ALERT), .unset, .unset] [])) (fun t k => XS.icmpYes X8.here hx rfl (pc0 := 15) (pc' := 22) rfl (hb hby at_15) rfl (tlt (by decide)).1 (by decide) (by decide) k) ?_
    refine Goes.to (T' := T8.setTop (mkF m 23 #[.val (.int p0), .val (.int (2 : Int32)), .val (.ref w_Topic_ALERT), .unset, .unset] [(.int (0 : Int32))])) (fun t k => XS.iconst X8.here hx rfl (hb hby at_22) k) ?_
    refine Goes.to (T' := T8.setTop (mkF m 24 #[.val (.int p0), .val (.int (2 : Int32)), .val (.ref w_Topic_ALERT), .val (.int (0 : Int32)), .unset] [])) (fun t k => XS.istoreN X8.here hx rfl (hb hby at_23) rfl (l' := #[.val (.int p0), .val (.int (2 : Int32)), .val (.ref w_Topic_ALERT), .val (.int (0 : Int32)), .unset]) rfl k) ?_
    refine Goes.to (T' := T8.setTop (mkF m 25 #[.val (.int p0), .val (.int (2 : Int32)), .val (.ref w_Topic_ALERT), .val (.int (0 : Int32)), .unset] [(.ref w_Topic_ALERT)])) (fun t k => XS.aloadN X8.here hx rfl (hb hby at_24) rfl rfl k) ?_
    obtain ⟨cq9, kq9, q9a, q9b, q9c⟩ := isOf hZ e8 (E_w_Topic_ALERT.ext O0.2)
    obtain ⟨_, _, ⟨T9, L9, k9, n9⟩, -, X9, ⟨Lc9, hQ9, l9, y9, z9⟩, st9⟩ := X8.virtualBack hx (y := (⟨"com/example/issuer/issuer/kafka/Topic", "isKept", "()Z"⟩ : MethodName)) (z := (⟨"com/example/issuer/issuer/kafka/Topic", "isKept", "()Z"⟩ : MethodName)) hown (mvT hZ (hw _ (List.mem_of_getElem? (i := 8) rfl))) (mvT hZ (hw _ (List.mem_of_getElem? (i := 9) rfl))) (notFace_of_selects (args := #[]) (mvT hZ (hw _ (List.mem_of_getElem? (i := 11) rfl)))) (mvT hZ (hw _ (List.mem_of_getElem? (i := 11) rfl))) (mvT hZ (hw _ (List.mem_of_getElem? (i := 10) rfl))) (by decide) (backOf (W := 0) (rmKn l Z a0 hw [] w_Topic_ALERT w_Topic_INPUT w_Topic_INPUT_defaultName w_Topic_REJECTED w_Topic_REJECTED_defaultName w_Topic_BLOCK_LIST w_Topic_BLOCK_LIST_suffix w_Topic_DECIDED w_Topic_DECIDED_suffix w_Topic_ALERT w_Topic_ALERT_defaultName w_Topic_DECISION w_Topic_DECISION_defaultName w_Topic_REFUSED w_Topic_REFUSED_defaultName w_Topic_HISTORY w_Topic_HISTORY_suffix  h0 n0 O0 NF (F_suffix_w_Topic_ALERT.ext O0.2)) hZ (hw _ (List.mem_of_getElem? (i := 12) rfl)) (hw _ (List.mem_of_getElem? (i := 6) rfl)) (by decide) (by decide)) q9a q9c (g := (mkF m 25 #[.val (.int p0), .val (.int (2 : Int32)), .val (.ref w_Topic_ALERT), .val (.int (0 : Int32)), .unset] [(.ref w_Topic_ALERT)])) rfl (by rw [hml]; rfl) (Steps.refl _) (argsL := []) (rest := []) (lenOf pd_50 rfl) rfl (by show 2 * 0 + _ ≤ _; exact Nat.le_of_eq rfl) (hb hby at_25) (fun _ _ => ⟨rfl, e8, (by decide : 0 + 0 ≤ _), (by decide : 0 + 0 ≤ _)⟩)
    dsimp only [Pt.U, Pt.locs, Pt.cells, Pt.slots] at X9 l9 y9 z9 st9 hQ9
    subst l9 y9 z9
    obtain ⟨rfl, Nq9, e9⟩ := hQ9
    have N9 := Fr.app N8 Nq9
    refine Goes.thru (T' := T9.setTop (mkF m 28 #[.val (.int p0), .val (.int (2 : Int32)), .val (.ref w_Topic_ALERT), .val (.int (0 : Int32)), .unset] [(.int (0 : Int32))])) st9 ?_
    refine Goes.to (T' := T9.setTop (mkF m 30 #[.val (.int p0), .val (.int (2 : Int32)), .val (.ref w_Topic_ALERT), .val (.int (0 : Int32)), .val (.int (0 : Int32))] [])) (fun t k => XS.istore X9.here hx rfl (hb hby at_28) rfl (l' := #[.val (.int p0), .val (.int (2 : Int32)), .val (.ref w_Topic_ALERT), .val (.int (0 : Int32)), .val (.int (0 : Int32))]) rfl k) ?_
    refine Goes.to (T' := T9.setTop (mkF m 32 #[.val (.int p0), .val (.int (2 : Int32)), .val (.ref w_Topic_ALERT), .val (.int (0 : Int32)), .val (.int (0 : Int32))] [(.int (0 : Int32))])) (fun t k => XS.iload X9.here hx rfl (hb hby at_30) rfl k) ?_
    refine Goes.to (T' := T9.setTop (mkF m 33 #[.val (.int p0), .val (.int (2 : Int32)), .val (.ref w_Topic_ALERT), .val (.int (0 : Int32)), .val (.int (0 : Int32))] [(.int (0 : Int32)), (.int (0 : Int32))])) (fun t k => XS.iloadN X9.here hx rfl (hb hby at_32) rfl k) ?_
    refine Goes.to (T' := T9.setTop (mkF m 36 #[.val (.int p0), .val (.int (2 : Int32)), .val (.ref w_Topic_ALERT), .val (.int (0 : Int32)), .val (.int (0 : Int32))] [])) (fun t k => XS.icmpNo X9.here hx rfl (hb hby at_33) rfl (teq (by decide)).2 k) ?_
    refine Goes.to (T' := T9.setTop (mkF m 38 #[.val (.int p0), .val (.int (2 : Int32)), .val (.ref w_Topic_ALERT), .val (.int (0 : Int32)), .val (.int (0 : Int32))] [(.int (0 : Int32))])) (fun t k => XS.iload X9.here hx rfl (hb hby at_36) rfl k) ?_
    refine Goes.to (T' := T9.setTop (mkF m 39 #[.val (.int p0), .val (.int (2 : Int32)), .val (.ref w_Topic_ALERT), .val (.int (0 : Int32)), .val (.int (0 : Int32))] [(.ref w_Topic_ALERT), (.int (0 : Int32))])) (fun t k => XS.aloadN X9.here hx rfl (hb hby at_38) rfl rfl k) ?_
    obtain ⟨cq10, kq10, q10a, q10b, q10c⟩ := isOf hZ e9 (E_w_Topic_ALERT.ext O0.2)
    obtain ⟨_, _, ⟨T10, L10, k10, n10⟩, -, X10, ⟨Lc10, hQ10, l10, y10, z10⟩, st10⟩ := X9.virtualBack hx (y := (⟨"com/example/issuer/issuer/kafka/Topic", "getDefaultName", "()Ljava/lang/String;"⟩ : MethodName)) (z := (⟨"com/example/issuer/issuer/kafka/Topic", "getDefaultName", "()Ljava/lang/String;"⟩ : MethodName)) hown (mvT hZ (hw _ (List.mem_of_getElem? (i := 15) rfl))) (mvT hZ (hw _ (List.mem_of_getElem? (i := 16) rfl))) (notFace_of_selects (args := #[]) (mvT hZ (hw _ (List.mem_of_getElem? (i := 18) rfl)))) (mvT hZ (hw _ (List.mem_of_getElem? (i := 18) rfl))) (mvT hZ (hw _ (List.mem_of_getElem? (i := 17) rfl))) (by decide) (backOf (W := 1) (rmDy l Z a0 hw [] w_Topic_ALERT w_Topic_INPUT w_Topic_INPUT_defaultName w_Topic_REJECTED w_Topic_REJECTED_defaultName w_Topic_BLOCK_LIST w_Topic_BLOCK_LIST_suffix w_Topic_DECIDED w_Topic_DECIDED_suffix w_Topic_ALERT w_Topic_ALERT_defaultName w_Topic_DECISION w_Topic_DECISION_defaultName w_Topic_REFUSED w_Topic_REFUSED_defaultName w_Topic_HISTORY w_Topic_HISTORY_suffix w_Topic_ALERT_defaultName h0 n0 O0 NF (F_defaultName_w_Topic_ALERT.ext O0.2)) hZ (hw _ (List.mem_of_getElem? (i := 19) rfl)) (hw _ (List.mem_of_getElem? (i := 6) rfl)) (by decide) (by decide)) q10a q10c (g := (mkF m 39 #[.val (.int p0), .val (.int (2 : Int32)), .val (.ref w_Topic_ALERT), .val (.int (0 : Int32)), .val (.int (0 : Int32))] [(.ref w_Topic_ALERT), (.int (0 : Int32))])) rfl (by rw [hml]; rfl) (Steps.refl _) (argsL := []) (rest := [(.int (0 : Int32))]) (lenOf pd_51 rfl) rfl (by show 2 * 0 + _ ≤ _; exact Nat.le_of_eq rfl) (hb hby at_39) (fun _ _ => ⟨rfl, e9, (by decide : 0 + 0 ≤ _), (by decide : 0 + 0 ≤ _)⟩)
    dsimp only [Pt.U, Pt.locs, Pt.cells, Pt.slots] at X10 l10 y10 z10 st10 hQ10
    subst l10 y10 z10
    obtain ⟨rfl, Nq10, e10⟩ := hQ10
    have N10 := Fr.app N9 Nq10
    refine Goes.thru (T' := T10.setTop (mkF m 42 #[.val (.int p0), .val (.int (2 : Int32)), .val (.ref w_Topic_ALERT), .val (.int (0 : Int32)), .val (.int (0 : Int32))] [(.ref w_Topic_ALERT_defaultName), (.int (0 : Int32))])) st10 ?_
    refine Goes.to (T' := T10.setTop (mkF m 49 #[.val (.int p0), .val (.int (2 : Int32)), .val (.ref w_Topic_ALERT), .val (.int (0 : Int32)), .val (.int (0 : Int32))] [(.int (0 : Int32))])) (fun t k => XS.ifnonnullYes X10.here hx rfl (pc0 := 42) (pc' := 49) rfl (hb hby at_42) rfl (by decide) (by decide) k) ?_
    refine Goes.to (T' := T10.setTop (mkF m 50 #[.val (.int p0), .val (.int (2 : Int32)), .val (.ref w_Topic_ALERT), .val (.int (0 : Int32)), .val (.int (0 : Int32))] [(.int (0 : Int32)), (.int (0 : Int32))])) (fun t k => XS.iconst X10.here hx rfl (hb hby at_49) k) ?_
    refine Goes.to (T' := T10.setTop (mkF m 53 #[.val (.int p0), .val (.int (2 : Int32)), .val (.ref w_Topic_ALERT), .val (.int (0 : Int32)), .val (.int (0 : Int32))] [])) (fun t k => XS.icmpNo X10.here hx rfl (hb hby at_50) rfl (teq (by decide)).2 k) ?_
    refine Goes.to (T' := T10.setTop (mkF m 54 #[.val (.int p0), .val (.int (2 : Int32)), .val (.ref w_Topic_ALERT), .val (.int (0 : Int32)), .val (.int (0 : Int32))] [(.int (1 : Int32))])) (fun t k => XS.iconst X10.here hx rfl (hb hby at_53) k) ?_
    refine Goes.to (T' := T10.setTop (mkF m 58 #[.val (.int p0), .val (.int (2 : Int32)), .val (.ref w_Topic_ALERT), .val (.int (0 : Int32)), .val (.int (0 : Int32))] [(.int (1 : Int32))])) (fun t k => XS.goto X10.here hx rfl (pc0 := 54) (pc' := 58) rfl (hb hby at_54) (by decide) (by decide) k) ?_
    obtain ⟨fs, hrL, hrun, hended, hW, hsame⟩ := X10.leave (v := some (.int (1 : Int32))) (fun h => by rw [Bd.returns] at h; cases h)
    subst hQf
    refine ⟨_, _, retN X10 hx (t := .boolean) Bd.returns (by simp) (hb hby at_58) hrL, hrun, hended, _, _, rfl, ?_, ⟨_, rfl⟩, hW, hsame.mono (by decide) (by decide)⟩
    show (fun (v : Option Value) (h : Heap) (L : List Loc) => v = some (.int 1) ∧ Fr n0 L) (some (.int (1 : Int32))) T10.heap _
    rw [e10]
    exact ⟨rfl, N10⟩
  · rw [hv_1]
    refine Goes.to (T' := s₁.setTop (mkF m 8 #[.val (.int p0), .val (.int (3 : Int32)), .unset, .unset, .unset] [])) (fun t k => XS.istoreN X0.here hx rfl (hb hby at_7) rfl (l' := #[.val (.int p0), .val (.int (3 : Int32)), .unset, .unset, .unset]) rfl k) ?_
    refine Goes.to (T' := s₁.setTop (mkF m 9 #[.val (.int p0), .val (.int (3 : Int32)), .unset, .unset, .unset] [(.int (3 : Int32))])) (fun t k => XS.iloadN X0.here hx rfl (hb hby at_8) rfl k) ?_
    obtain ⟨_, _, ⟨T11, L11, k11, n11⟩, -, X11, ⟨Lc11, hQ11, l11, y11, z11⟩, st11⟩ := Jvm.LawKit.callS X0 hx (y := (⟨"com/example/issuer/issuer/kafka/TopicIsKeptPinLaw", "pick", "(I)Lcom/example/issuer/issuer/kafka/Topic;"⟩ : MethodName)) hown (mvT hZ (hw _ (List.mem_of_getElem? (i := 1) rfl))) (mvT hZ (hw _ (List.mem_of_getElem? (i := 2) rfl))) (mvT hZ (hw _ (List.mem_of_getElem? (i := 3) rfl))) (mvT hZ (hw _ (List.mem_of_getElem? (i := 4) rfl))) (by decide) (backOf (W := 0) (rmP l Z a0 hw [] (3 : Int32) w_Topic_INPUT w_Topic_INPUT_defaultName w_Topic_REJECTED w_Topic_REJECTED_defaultName w_Topic_BLOCK_LIST w_Topic_BLOCK_LIST_suffix w_Topic_DECIDED w_Topic_DECIDED_suffix w_Topic_ALERT w_Topic_ALERT_defaultName w_Topic_DECISION w_Topic_DECISION_defaultName w_Topic_REFUSED w_Topic_REFUSED_defaultName w_Topic_HISTORY w_Topic_HISTORY_suffix w_Topic_REJECTED h0 n0 O0 NF (by simp)) hZ (hw _ (List.mem_of_getElem? (i := 4) rfl)) (hw _ (List.mem_of_getElem? (i := 3) rfl)) (by decide) (by decide)) (g := (mkF m 9 #[.val (.int p0), .val (.int (3 : Int32)), .unset, .unset, .unset] [(.int (3 : Int32))])) rfl (by rw [hml]; rfl) (argsL := [(.int (3 : Int32))]) (rest := []) (lenOf pd_49 rfl) rfl (by show 2 * 0 + _ ≤ _; exact Nat.le_of_eq rfl) (hb hby at_9) (fun _ _ => ⟨rfl, e0, (by decide : 0 + 0 ≤ _), (by decide : 0 + 0 ≤ _)⟩)
    dsimp only [Pt.U, Pt.locs, Pt.cells, Pt.slots] at X11 l11 y11 z11 st11 hQ11
    subst l11 y11 z11
    obtain ⟨rfl, Nq11, e11⟩ := hQ11
    have N11 := Fr.app N0 Nq11
    refine Goes.to (T' := T11.setTop (mkF m 12 #[.val (.int p0), .val (.int (3 : Int32)), .unset, .unset, .unset] [(.ref w_Topic_REJECTED)])) st11 ?_
    refine Goes.to (T' := T11.setTop (mkF m 13 #[.val (.int p0), .val (.int (3 : Int32)), .val (.ref w_Topic_REJECTED), .unset, .unset] [])) (fun t k => XS.astoreN X11.here hx rfl (hb hby at_12) rfl rfl (l' := #[.val (.int p0), .val (.int (3 : Int32)), .val (.ref w_Topic_REJECTED), .unset, .unset]) rfl k) ?_
    refine Goes.to (T' := T11.setTop (mkF m 14 #[.val (.int p0), .val (.int (3 : Int32)), .val (.ref w_Topic_REJECTED), .unset, .unset] [(.int (3 : Int32))])) (fun t k => XS.iloadN X11.here hx rfl (hb hby at_13) rfl k) ?_
    refine Goes.to (T' := T11.setTop (mkF m 15 #[.val (.int p0), .val (.int (3 : Int32)), .val (.ref w_Topic_REJECTED), .unset, .unset] [(.int (5 : Int32)), (.int (3 : Int32))])) (fun t k => XS.iconst X11.here hx rfl (hb hby at_14) k) ?_
    refine Goes.to (T' := T11.setTop (mkF m 22 #[.val (.int p0), .val (.int (3 : Int32)), .val (.ref w_Topic_REJECTED), .unset, .unset] [])) (fun t k => XS.icmpYes X11.here hx rfl (pc0 := 15) (pc' := 22) rfl (hb hby at_15) rfl (tlt (by decide)).1 (by decide) (by decide) k) ?_
    refine Goes.to (T' := T11.setTop (mkF m 23 #[.val (.int p0), .val (.int (3 : Int32)), .val (.ref w_Topic_REJECTED), .unset, .unset] [(.int (0 : Int32))])) (fun t k => XS.iconst X11.here hx rfl (hb hby at_22) k) ?_
    refine Goes.to (T' := T11.setTop (mkF m 24 #[.val (.int p0), .val (.int (3 : Int32)), .val (.ref w_Topic_REJECTED), .val (.int (0 : Int32)), .unset] [])) (fun t k => XS.istoreN X11.here hx rfl (hb hby at_23) rfl (l' := #[.val (.int p0), .val (.int (3 : Int32)), .val (.ref w_Topic_REJECTED), .val (.int (0 : Int32)), .unset]) rfl k) ?_
    refine Goes.to (T' := T11.setTop (mkF m 25 #[.val (.int p0), .val (.int (3 : Int32)), .val (.ref w_Topic_REJECTED), .val (.int (0 : Int32)), .unset] [(.ref w_Topic_REJECTED)])) (fun t k => XS.aloadN X11.here hx rfl (hb hby at_24) rfl rfl k) ?_
    obtain ⟨cq12, kq12, q12a, q12b, q12c⟩ := isOf hZ e11 (E_w_Topic_REJECTED.ext O0.2)
    obtain ⟨_, _, ⟨T12, L12, k12, n12⟩, -, X12, ⟨Lc12, hQ12, l12, y12, z12⟩, st12⟩ := X11.virtualBack hx (y := (⟨"com/example/issuer/issuer/kafka/Topic", "isKept", "()Z"⟩ : MethodName)) (z := (⟨"com/example/issuer/issuer/kafka/Topic", "isKept", "()Z"⟩ : MethodName)) hown (mvT hZ (hw _ (List.mem_of_getElem? (i := 8) rfl))) (mvT hZ (hw _ (List.mem_of_getElem? (i := 9) rfl))) (notFace_of_selects (args := #[]) (mvT hZ (hw _ (List.mem_of_getElem? (i := 11) rfl)))) (mvT hZ (hw _ (List.mem_of_getElem? (i := 11) rfl))) (mvT hZ (hw _ (List.mem_of_getElem? (i := 10) rfl))) (by decide) (backOf (W := 0) (rmKn l Z a0 hw [] w_Topic_REJECTED w_Topic_INPUT w_Topic_INPUT_defaultName w_Topic_REJECTED w_Topic_REJECTED_defaultName w_Topic_BLOCK_LIST w_Topic_BLOCK_LIST_suffix w_Topic_DECIDED w_Topic_DECIDED_suffix w_Topic_ALERT w_Topic_ALERT_defaultName w_Topic_DECISION w_Topic_DECISION_defaultName w_Topic_REFUSED w_Topic_REFUSED_defaultName w_Topic_HISTORY w_Topic_HISTORY_suffix  h0 n0 O0 NF (F_suffix_w_Topic_REJECTED.ext O0.2)) hZ (hw _ (List.mem_of_getElem? (i := 12) rfl)) (hw _ (List.mem_of_getElem? (i := 6) rfl)) (by decide) (by decide)) q12a q12c (g := (mkF m 25 #[.val (.int p0), .val (.int (3 : Int32)), .val (.ref w_Topic_REJECTED), .val (.int (0 : Int32)), .unset] [(.ref w_Topic_REJECTED)])) rfl (by rw [hml]; rfl) (Steps.refl _) (argsL := []) (rest := []) (lenOf pd_50 rfl) rfl (by show 2 * 0 + _ ≤ _; exact Nat.le_of_eq rfl) (hb hby at_25) (fun _ _ => ⟨rfl, e11, (by decide : 0 + 0 ≤ _), (by decide : 0 + 0 ≤ _)⟩)
    dsimp only [Pt.U, Pt.locs, Pt.cells, Pt.slots] at X12 l12 y12 z12 st12 hQ12
    subst l12 y12 z12
    obtain ⟨rfl, Nq12, e12⟩ := hQ12
    have N12 := Fr.app N11 Nq12
    refine Goes.thru (T' := T12.setTop (mkF m 28 #[.val (.int p0), .val (.int (3 : Int32)), .val (.ref w_Topic_REJECTED), .val (.int (0 : Int32)), .unset] [(.int (0 : Int32))])) st12 ?_
    refine Goes.to (T' := T12.setTop (mkF m 30 #[.val (.int p0), .val (.int (3 : Int32)), .val (.ref w_Topic_REJECTED), .val (.int (0 : Int32)), .val (.int (0 : Int32))] [])) (fun t k => XS.istore X12.here hx rfl (hb hby at_28) rfl (l' := #[.val (.int p0), .val (.int (3 : Int32)), .val (.ref w_Topic_REJECTED), .val (.int (0 : Int32)), .val (.int (0 : Int32))]) rfl k) ?_
    refine Goes.to (T' := T12.setTop (mkF m 32 #[.val (.int p0), .val (.int (3 : Int32)), .val (.ref w_Topic_REJECTED), .val (.int (0 : Int32)), .val (.int (0 : Int32))] [(.int (0 : Int32))])) (fun t k => XS.iload X12.here hx rfl (hb hby at_30) rfl k) ?_
    refine Goes.to (T' := T12.setTop (mkF m 33 #[.val (.int p0), .val (.int (3 : Int32)), .val (.ref w_Topic_REJECTED), .val (.int (0 : Int32)), .val (.int (0 : Int32))] [(.int (0 : Int32)), (.int (0 : Int32))])) (fun t k => XS.iloadN X12.here hx rfl (hb hby at_32) rfl k) ?_
    refine Goes.to (T' := T12.setTop (mkF m 36 #[.val (.int p0), .val (.int (3 : Int32)), .val (.ref w_Topic_REJECTED), .val (.int (0 : Int32)), .val (.int (0 : Int32))] [])) (fun t k => XS.icmpNo X12.here hx rfl (hb hby at_33) rfl (teq (by decide)).2 k) ?_
    refine Goes.to (T' := T12.setTop (mkF m 38 #[.val (.int p0), .val (.int (3 : Int32)), .val (.ref w_Topic_REJECTED), .val (.int (0 : Int32)), .val (.int (0 : Int32))] [(.int (0 : Int32))])) (fun t k => XS.iload X12.here hx rfl (hb hby at_36) rfl k) ?_
    refine Goes.to (T' := T12.setTop (mkF m 39 #[.val (.int p0), .val (.int (3 : Int32)), .val (.ref w_Topic_REJECTED), .val (.int (0 : Int32)), .val (.int (0 : Int32))] [(.ref w_Topic_REJECTED), (.int (0 : Int32))])) (fun t k => XS.aloadN X12.here hx rfl (hb hby at_38) rfl rfl k) ?_
    obtain ⟨cq13, kq13, q13a, q13b, q13c⟩ := isOf hZ e12 (E_w_Topic_REJECTED.ext O0.2)
    obtain ⟨_, _, ⟨T13, L13, k13, n13⟩, -, X13, ⟨Lc13, hQ13, l13, y13, z13⟩, st13⟩ := X12.virtualBack hx (y := (⟨"com/example/issuer/issuer/kafka/Topic", "getDefaultName", "()Ljava/lang/String;"⟩ : MethodName)) (z := (⟨"com/example/issuer/issuer/kafka/Topic", "getDefaultName", "()Ljava/lang/String;"⟩ : MethodName)) hown (mvT hZ (hw _ (List.mem_of_getElem? (i := 15) rfl))) (mvT hZ (hw _ (List.mem_of_getElem? (i := 16) rfl))) (notFace_of_selects (args := #[]) (mvT hZ (hw _ (List.mem_of_getElem? (i := 18) rfl)))) (mvT hZ (hw _ (List.mem_of_getElem? (i := 18) rfl))) (mvT hZ (hw _ (List.mem_of_getElem? (i := 17) rfl))) (by decide) (backOf (W := 1) (rmDy l Z a0 hw [] w_Topic_REJECTED w_Topic_INPUT w_Topic_INPUT_defaultName w_Topic_REJECTED w_Topic_REJECTED_defaultName w_Topic_BLOCK_LIST w_Topic_BLOCK_LIST_suffix w_Topic_DECIDED w_Topic_DECIDED_suffix w_Topic_ALERT w_Topic_ALERT_defaultName w_Topic_DECISION w_Topic_DECISION_defaultName w_Topic_REFUSED w_Topic_REFUSED_defaultName w_Topic_HISTORY w_Topic_HISTORY_suffix w_Topic_REJECTED_defaultName h0 n0 O0 NF (F_defaultName_w_Topic_REJECTED.ext O0.2)) hZ (hw _ (List.mem_of_getElem? (i := 19) rfl)) (hw _ (List.mem_of_getElem? (i := 6) rfl)) (by decide) (by decide)) q13a q13c (g := (mkF m 39 #[.val (.int p0), .val (.int (3 : Int32)), .val (.ref w_Topic_REJECTED), .val (.int (0 : Int32)), .val (.int (0 : Int32))] [(.ref w_Topic_REJECTED), (.int (0 : Int32))])) rfl (by rw [hml]; rfl) (Steps.refl _) (argsL := []) (rest := [(.int (0 : Int32))]) (lenOf pd_51 rfl) rfl (by show 2 * 0 + _ ≤ _; exact Nat.le_of_eq rfl) (hb hby at_39) (fun _ _ => ⟨rfl, e12, (by decide : 0 + 0 ≤ _), (by decide : 0 + 0 ≤ _)⟩)
    dsimp only [Pt.U, Pt.locs, Pt.cells, Pt.slots] at X13 l13 y13 z13 st13 hQ13
    subst l13 y13 z13
    obtain ⟨rfl, Nq13, e13⟩ := hQ13
    have N13 := Fr.app N12 Nq13
    refine Goes.thru (T' := T13.setTop (mkF m 42 #[.val (.int p0), .val (.int (3 : Int32)), .val (.ref w_Topic_REJECTED), .val (.int (0 : Int32)), .val (.int (0 : Int32))] [(.ref w_Topic_REJECTED_defaultName), (.int (0 : Int32))])) st13 ?_
    refine Goes.to (T' := T13.setTop (mkF m 49 #[.val (.int p0), .val (.int (3 : Int32)), .val (.ref w_Topic_REJECTED), .val (.int (0 : Int32)), .val (.int (0 : Int32))] [(.int (0 : Int32))])) (fun t k => XS.ifnonnullYes X13.here hx rfl (pc0 := 42) (pc' := 49) rfl (hb hby at_42) rfl (by decide) (by decide) k) ?_
    refine Goes.to (T' := T13.setTop (mkF m 50 #[.val (.int p0), .val (.int (3 : Int32)), .val (.ref w_Topic_REJECTED), .val (.int (0 : Int32)), .val (.int (0 : Int32))] [(.int (0 : Int32)), (.int (0 : Int32))])) (fun t k => XS.iconst X13.here hx rfl (hb hby at_49) k) ?_
    refine Goes.to (T' := T13.setTop (mkF m 53 #[.val (.int p0), .val (.int (3 : Int32)), .val (.ref w_Topic_REJECTED), .val (.int (0 : Int32)), .val (.int (0 : Int32))] [])) (fun t k => XS.icmpNo X13.here hx rfl (hb hby at_50) rfl (teq (by decide)).2 k) ?_
    refine Goes.to (T' := T13.setTop (mkF m 54 #[.val (.int p0), .val (.int (3 : Int32)), .val (.ref w_Topic_REJECTED), .val (.int (0 : Int32)), .val (.int (0 : Int32))] [(.int (1 : Int32))])) (fun t k => XS.iconst X13.here hx rfl (hb hby at_53) k) ?_
    refine Goes.to (T' := T13.setTop (mkF m 58 #[.val (.int p0), .val (.int (3 : Int32)), .val (.ref w_Topic_REJECTED), .val (.int (0 : Int32)), .val (.int (0 : Int32))] [(.int (1 : Int32))])) (fun t k => XS.goto X13.here hx rfl (pc0 := 54) (pc' := 58) rfl (hb hby at_54) (by decide) (by decide) k) ?_
    obtain ⟨fs, hrL, hrun, hended, hW, hsame⟩ := X13.leave (v := some (.int (1 : Int32))) (fun h => by rw [Bd.returns] at h; cases h)
    subst hQf
    refine ⟨_, _, retN X13 hx (t := .boolean) Bd.returns (by simp) (hb hby at_58) hrL, hrun, hended, _, _, rfl, ?_, ⟨_, rfl⟩, hW, hsame.mono (by decide) (by decide)⟩
    show (fun (v : Option Value) (h : Heap) (L : List Loc) => v = some (.int 1) ∧ Fr n0 L) (some (.int (1 : Int32))) T13.heap _
    rw [e13]
    exact ⟨rfl, N13⟩
  · rw [hv_1]
    refine Goes.to (T' := s₁.setTop (mkF m 8 #[.val (.int p0), .val (.int (4 : Int32)), .unset, .unset, .unset] [])) (fun t k => XS.istoreN X0.here hx rfl (hb hby at_7) rfl (l' := #[.val (.int p0), .val (.int (4 : Int32)), .unset, .unset, .unset]) rfl k) ?_
    refine Goes.to (T' := s₁.setTop (mkF m 9 #[.val (.int p0), .val (.int (4 : Int32)), .unset, .unset, .unset] [(.int (4 : Int32))])) (fun t k => XS.iloadN X0.here hx rfl (hb hby at_8) rfl k) ?_
    obtain ⟨_, _, ⟨T14, L14, k14, n14⟩, -, X14, ⟨Lc14, hQ14, l14, y14, z14⟩, st14⟩ := Jvm.LawKit.callS X0 hx (y := (⟨"com/example/issuer/issuer/kafka/TopicIsKeptPinLaw", "pick", "(I)Lcom/example/issuer/issuer/kafka/Topic;"⟩ : MethodName)) hown (mvT hZ (hw _ (List.mem_of_getElem? (i := 1) rfl))) (mvT hZ (hw _ (List.mem_of_getElem? (i := 2) rfl))) (mvT hZ (hw _ (List.mem_of_getElem? (i := 3) rfl))) (mvT hZ (hw _ (List.mem_of_getElem? (i := 4) rfl))) (by decide) (backOf (W := 0) (rmP l Z a0 hw [] (4 : Int32) w_Topic_INPUT w_Topic_INPUT_defaultName w_Topic_REJECTED w_Topic_REJECTED_defaultName w_Topic_BLOCK_LIST w_Topic_BLOCK_LIST_suffix w_Topic_DECIDED w_Topic_DECIDED_suffix w_Topic_ALERT w_Topic_ALERT_defaultName w_Topic_DECISION w_Topic_DECISION_defaultName w_Topic_REFUSED w_Topic_REFUSED_defaultName w_Topic_HISTORY w_Topic_HISTORY_suffix w_Topic_REFUSED h0 n0 O0 NF (by simp)) hZ (hw _ (List.mem_of_getElem? (i := 4) rfl)) (hw _ (List.mem_of_getElem? (i := 3) rfl)) (by decide) (by decide)) (g := (mkF m 9 #[.val (.int p0), .val (.int (4 : Int32)), .unset, .unset, .unset] [(.int (4 : Int32))])) rfl (by rw [hml]; rfl) (argsL := [(.int (4 : Int32))]) (rest := []) (lenOf pd_49 rfl) rfl (by show 2 * 0 + _ ≤ _; exact Nat.le_of_eq rfl) (hb hby at_9) (fun _ _ => ⟨rfl, e0, (by decide : 0 + 0 ≤ _), (by decide : 0 + 0 ≤ _)⟩)
    dsimp only [Pt.U, Pt.locs, Pt.cells, Pt.slots] at X14 l14 y14 z14 st14 hQ14
    subst l14 y14 z14
    obtain ⟨rfl, Nq14, e14⟩ := hQ14
    have N14 := Fr.app N0 Nq14
    refine Goes.to (T' := T14.setTop (mkF m 12 #[.val (.int p0), .val (.int (4 : Int32)), .unset, .unset, .unset] [(.ref w_Topic_REFUSED)])) st14 ?_
    refine Goes.to (T' := T14.setTop (mkF m 13 #[.val (.int p0), .val (.int (4 : Int32)), .val (.ref w_Topic_REFUSED), .unset, .unset] [])) (fun t k => XS.astoreN X14.here hx rfl (hb hby at_12) rfl rfl (l' := #[.val (.int p0), .val (.int (4 : Int32)), .val (.ref w_Topic_REFUSED), .unset, .unset]) rfl k) ?_
    refine Goes.to (T' := T14.setTop (mkF m 14 #[.val (.int p0), .val (.int (4 : Int32)), .val (.ref w_Topic_REFUSED), .unset, .unset] [(.int (4 : Int32))])) (fun t k => XS.iloadN X14.here hx rfl (hb hby at_13) rfl k) ?_
    refine Goes.to (T' := T14.setTop (mkF m 15 #[.val (.int p0), .val (.int (4 : Int32)), .val (.ref w_Topic_REFUSED), .unset, .unset] [(.int (5 : Int32)), (.int (4 : Int32))])) (fun t k => XS.iconst X14.here hx rfl (hb hby at_14) k) ?_
    refine Goes.to (T' := T14.setTop (mkF m 22 #[.val (.int p0), .val (.int (4 : Int32)), .val (.ref w_Topic_REFUSED), .unset, .unset] [])) (fun t k => XS.icmpYes X14.here hx rfl (pc0 := 15) (pc' := 22) rfl (hb hby at_15) rfl (tlt (by decide)).1 (by decide) (by decide) k) ?_
    refine Goes.to (T' := T14.setTop (mkF m 23 #[.val (.int p0), .val (.int (4 : Int32)), .val (.ref w_Topic_REFUSED), .unset, .unset] [(.int (0 : Int32))])) (fun t k => XS.iconst X14.here hx rfl (hb hby at_22) k) ?_
    refine Goes.to (T' := T14.setTop (mkF m 24 #[.val (.int p0), .val (.int (4 : Int32)), .val (.ref w_Topic_REFUSED), .val (.int (0 : Int32)), .unset] [])) (fun t k => XS.istoreN X14.here hx rfl (hb hby at_23) rfl (l' := #[.val (.int p0), .val (.int (4 : Int32)), .val (.ref w_Topic_REFUSED), .val (.int (0 : Int32)), .unset]) rfl k) ?_
    refine Goes.to (T' := T14.setTop (mkF m 25 #[.val (.int p0), .val (.int (4 : Int32)), .val (.ref w_Topic_REFUSED), .val (.int (0 : Int32)), .unset] [(.ref w_Topic_REFUSED)])) (fun t k => XS.aloadN X14.here hx rfl (hb hby at_24) rfl rfl k) ?_
    obtain ⟨cq15, kq15, q15a, q15b, q15c⟩ := isOf hZ e14 (E_w_Topic_REFUSED.ext O0.2)
    obtain ⟨_, _, ⟨T15, L15, k15, n15⟩, -, X15, ⟨Lc15, hQ15, l15, y15, z15⟩, st15⟩ := X14.virtualBack hx (y := (⟨"com/example/issuer/issuer/kafka/Topic", "isKept", "()Z"⟩ : MethodName)) (z := (⟨"com/example/issuer/issuer/kafka/Topic", "isKept", "()Z"⟩ : MethodName)) hown (mvT hZ (hw _ (List.mem_of_getElem? (i := 8) rfl))) (mvT hZ (hw _ (List.mem_of_getElem? (i := 9) rfl))) (notFace_of_selects (args := #[]) (mvT hZ (hw _ (List.mem_of_getElem? (i := 11) rfl)))) (mvT hZ (hw _ (List.mem_of_getElem? (i := 11) rfl))) (mvT hZ (hw _ (List.mem_of_getElem? (i := 10) rfl))) (by decide) (backOf (W := 0) (rmKn l Z a0 hw [] w_Topic_REFUSED w_Topic_INPUT w_Topic_INPUT_defaultName w_Topic_REJECTED w_Topic_REJECTED_defaultName w_Topic_BLOCK_LIST w_Topic_BLOCK_LIST_suffix w_Topic_DECIDED w_Topic_DECIDED_suffix w_Topic_ALERT w_Topic_ALERT_defaultName w_Topic_DECISION w_Topic_DECISION_defaultName w_Topic_REFUSED w_Topic_REFUSED_defaultName w_Topic_HISTORY w_Topic_HISTORY_suffix  h0 n0 O0 NF (F_suffix_w_Topic_REFUSED.ext O0.2)) hZ (hw _ (List.mem_of_getElem? (i := 12) rfl)) (hw _ (List.mem_of_getElem? (i := 6) rfl)) (by decide) (by decide)) q15a q15c (g := (mkF m 25 #[.val (.int p0), .val (.int (4 : Int32)), .val (.ref w_Topic_REFUSED), .val (.int (0 : Int32)), .unset] [(.ref w_Topic_REFUSED)])) rfl (by rw [hml]; rfl) (Steps.refl _) (argsL := []) (rest := []) (lenOf pd_50 rfl) rfl (by show 2 * 0 + _ ≤ _; exact Nat.le_of_eq rfl) (hb hby at_25) (fun _ _ => ⟨rfl, e14, (by decide : 0 + 0 ≤ _), (by decide : 0 + 0 ≤ _)⟩)
    dsimp only [Pt.U, Pt.locs, Pt.cells, Pt.slots] at X15 l15 y15 z15 st15 hQ15
    subst l15 y15 z15
    obtain ⟨rfl, Nq15, e15⟩ := hQ15
    have N15 := Fr.app N14 Nq15
    refine Goes.thru (T' := T15.setTop (mkF m 28 #[.val (.int p0), .val (.int (4 : Int32)), .val (.ref w_Topic_REFUSED), .val (.int (0 : Int32)), .unset] [(.int (0 : Int32))])) st15 ?_
    refine Goes.to (T' := T15.setTop (mkF m 30 #[.val (.int p0), .val (.int (4 : Int32)), .val (.ref w_Topic_REFUSED), .val (.int (0 : Int32)), .val (.int (0 : Int32))] [])) (fun t k => XS.istore X15.here hx rfl (hb hby at_28) rfl (l' := #[.val (.int p0), .val (.int (4 : Int32)), .val (.ref w_Topic_REFUSED), .val (.int (0 : Int32)), .val (.int (0 : Int32))]) rfl k) ?_
    refine Goes.to (T' := T15.setTop (mkF m 32 #[.val (.int p0), .val (.int (4 : Int32)), .val (.ref w_Topic_REFUSED), .val (.int (0 : Int32)), .val (.int (0 : Int32))] [(.int (0 : Int32))])) (fun t k => XS.iload X15.here hx rfl (hb hby at_30) rfl k) ?_
    refine Goes.to (T' := T15.setTop (mkF m 33 #[.val (.int p0), .val (.int (4 : Int32)), .val (.ref w_Topic_REFUSED), .val (.int (0 : Int32)), .val (.int (0 : Int32))] [(.int (0 : Int32)), (.int (0 : Int32))])) (fun t k => XS.iloadN X15.here hx rfl (hb hby at_32) rfl k) ?_
    refine Goes.to (T' := T15.setTop (mkF m 36 #[.val (.int p0), .val (.int (4 : Int32)), .val (.ref w_Topic_REFUSED), .val (.int (0 : Int32)), .val (.int (0 : Int32))] [])) (fun t k => XS.icmpNo X15.here hx rfl (hb hby at_33) rfl (teq (by decide)).2 k) ?_
    refine Goes.to (T' := T15.setTop (mkF m 38 #[.val (.int p0), .val (.int (4 : Int32)), .val (.ref w_Topic_REFUSED), .val (.int (0 : Int32)), .val (.int (0 : Int32))] [(.int (0 : Int32))])) (fun t k => XS.iload X15.here hx rfl (hb hby at_36) rfl k) ?_
    refine Goes.to (T' := T15.setTop (mkF m 39 #[.val (.int p0), .val (.int (4 : Int32)), .val (.ref w_Topic_REFUSED), .val (.int (0 : Int32)), .val (.int (0 : Int32))] [(.ref w_Topic_REFUSED), (.int (0 : Int32))])) (fun t k => XS.aloadN X15.here hx rfl (hb hby at_38) rfl rfl k) ?_
    obtain ⟨cq16, kq16, q16a, q16b, q16c⟩ := isOf hZ e15 (E_w_Topic_REFUSED.ext O0.2)
    obtain ⟨_, _, ⟨T16, L16, k16, n16⟩, -, X16, ⟨Lc16, hQ16, l16, y16, z16⟩, st16⟩ := X15.virtualBack hx (y := (⟨"com/example/issuer/issuer/kafka/Topic", "getDefaultName", "()Ljava/lang/String;"⟩ : MethodName)) (z := (⟨"com/example/issuer/issuer/kafka/Topic", "getDefaultName", "()Ljava/lang/String;"⟩ : MethodName)) hown (mvT hZ (hw _ (List.mem_of_getElem? (i := 15) rfl))) (mvT hZ (hw _ (List.mem_of_getElem? (i := 16) rfl))) (notFace_of_selects (args := #[]) (mvT hZ (hw _ (List.mem_of_getElem? (i := 18) rfl)))) (mvT hZ (hw _ (List.mem_of_getElem? (i := 18) rfl))) (mvT hZ (hw _ (List.mem_of_getElem? (i := 17) rfl))) (by decide) (backOf (W := 1) (rmDy l Z a0 hw [] w_Topic_REFUSED w_Topic_INPUT w_Topic_INPUT_defaultName w_Topic_REJECTED w_Topic_REJECTED_defaultName w_Topic_BLOCK_LIST w_Topic_BLOCK_LIST_suffix w_Topic_DECIDED w_Topic_DECIDED_suffix w_Topic_ALERT w_Topic_ALERT_defaultName w_Topic_DECISION w_Topic_DECISION_defaultName w_Topic_REFUSED w_Topic_REFUSED_defaultName w_Topic_HISTORY w_Topic_HISTORY_suffix w_Topic_REFUSED_defaultName h0 n0 O0 NF (F_defaultName_w_Topic_REFUSED.ext O0.2)) hZ (hw _ (List.mem_of_getElem? (i := 19) rfl)) (hw _ (List.mem_of_getElem? (i := 6) rfl)) (by decide) (by decide)) q16a q16c (g := (mkF m 39 #[.val (.int p0), .val (.int (4 : Int32)), .val (.ref w_Topic_REFUSED), .val (.int (0 : Int32)), .val (.int (0 : Int32))] [(.ref w_Topic_REFUSED), (.int (0 : Int32))])) rfl (by rw [hml]; rfl) (Steps.refl _) (argsL := []) (rest := [(.int (0 : Int32))]) (lenOf pd_51 rfl) rfl (by show 2 * 0 + _ ≤ _; exact Nat.le_of_eq rfl) (hb hby at_39) (fun _ _ => ⟨rfl, e15, (by decide : 0 + 0 ≤ _), (by decide : 0 + 0 ≤ _)⟩)
    dsimp only [Pt.U, Pt.locs, Pt.cells, Pt.slots] at X16 l16 y16 z16 st16 hQ16
    subst l16 y16 z16
    obtain ⟨rfl, Nq16, e16⟩ := hQ16
    have N16 := Fr.app N15 Nq16
    refine Goes.thru (T' := T16.setTop (mkF m 42 #[.val (.int p0), .val (.int (4 : Int32)), .val (.ref w_Topic_REFUSED), .val (.int (0 : Int32)), .val (.int (0 : Int32))] [(.ref w_Topic_REFUSED_defaultName), (.int (0 : Int32))])) st16 ?_
    refine Goes.to (T' := T16.setTop (mkF m 49 #[.val (.int p0), .val (.int (4 : Int32)), .val (.ref w_Topic_REFUSED), .val (.int (0 : Int32)), .val (.int (0 : Int32))] [(.int (0 : Int32))])) (fun t k => XS.ifnonnullYes X16.here hx rfl (pc0 := 42) (pc' := 49) rfl (hb hby at_42) rfl (by decide) (by decide) k) ?_
    refine Goes.to (T' := T16.setTop (mkF m 50 #[.val (.int p0), .val (.int (4 : Int32)), .val (.ref w_Topic_REFUSED), .val (.int (0 : Int32)), .val (.int (0 : Int32))] [(.int (0 : Int32)), (.int (0 : Int32))])) (fun t k => XS.iconst X16.here hx rfl (hb hby at_49) k) ?_
    refine Goes.to (T' := T16.setTop (mkF m 53 #[.val (.int p0), .val (.int (4 : Int32)), .val (.ref w_Topic_REFUSED), .val (.int (0 : Int32)), .val (.int (0 : Int32))] [])) (fun t k => XS.icmpNo X16.here hx rfl (hb hby at_50) rfl (teq (by decide)).2 k) ?_
    refine Goes.to (T' := T16.setTop (mkF m 54 #[.val (.int p0), .val (.int (4 : Int32)), .val (.ref w_Topic_REFUSED), .val (.int (0 : Int32)), .val (.int (0 : Int32))] [(.int (1 : Int32))])) (fun t k => XS.iconst X16.here hx rfl (hb hby at_53) k) ?_
    refine Goes.to (T' := T16.setTop (mkF m 58 #[.val (.int p0), .val (.int (4 : Int32)), .val (.ref w_Topic_REFUSED), .val (.int (0 : Int32)), .val (.int (0 : Int32))] [(.int (1 : Int32))])) (fun t k => XS.goto X16.here hx rfl (pc0 := 54) (pc' := 58) rfl (hb hby at_54) (by decide) (by decide) k) ?_
    obtain ⟨fs, hrL, hrun, hended, hW, hsame⟩ := X16.leave (v := some (.int (1 : Int32))) (fun h => by rw [Bd.returns] at h; cases h)
    subst hQf
    refine ⟨_, _, retN X16 hx (t := .boolean) Bd.returns (by simp) (hb hby at_58) hrL, hrun, hended, _, _, rfl, ?_, ⟨_, rfl⟩, hW, hsame.mono (by decide) (by decide)⟩
    show (fun (v : Option Value) (h : Heap) (L : List Loc) => v = some (.int 1) ∧ Fr n0 L) (some (.int (1 : Int32))) T16.heap _
    rw [e16]
    exact ⟨rfl, N16⟩
  · rw [hv_1]
    refine Goes.to (T' := s₁.setTop (mkF m 8 #[.val (.int p0), .val (.int (5 : Int32)), .unset, .unset, .unset] [])) (fun t k => XS.istoreN X0.here hx rfl (hb hby at_7) rfl (l' := #[.val (.int p0), .val (.int (5 : Int32)), .unset, .unset, .unset]) rfl k) ?_
    refine Goes.to (T' := s₁.setTop (mkF m 9 #[.val (.int p0), .val (.int (5 : Int32)), .unset, .unset, .unset] [(.int (5 : Int32))])) (fun t k => XS.iloadN X0.here hx rfl (hb hby at_8) rfl k) ?_
    obtain ⟨_, _, ⟨T17, L17, k17, n17⟩, -, X17, ⟨Lc17, hQ17, l17, y17, z17⟩, st17⟩ := Jvm.LawKit.callS X0 hx (y := (⟨"com/example/issuer/issuer/kafka/TopicIsKeptPinLaw", "pick", "(I)Lcom/example/issuer/issuer/kafka/Topic;"⟩ : MethodName)) hown (mvT hZ (hw _ (List.mem_of_getElem? (i := 1) rfl))) (mvT hZ (hw _ (List.mem_of_getElem? (i := 2) rfl))) (mvT hZ (hw _ (List.mem_of_getElem? (i := 3) rfl))) (mvT hZ (hw _ (List.mem_of_getElem? (i := 4) rfl))) (by decide) (backOf (W := 0) (rmP l Z a0 hw [] (5 : Int32) w_Topic_INPUT w_Topic_INPUT_defaultName w_Topic_REJECTED w_Topic_REJECTED_defaultName w_Topic_BLOCK_LIST w_Topic_BLOCK_LIST_suffix w_Topic_DECIDED w_Topic_DECIDED_suffix w_Topic_ALERT w_Topic_ALERT_defaultName w_Topic_DECISION w_Topic_DECISION_defaultName w_Topic_REFUSED w_Topic_REFUSED_defaultName w_Topic_HISTORY w_Topic_HISTORY_suffix w_Topic_HISTORY h0 n0 O0 NF (by simp)) hZ (hw _ (List.mem_of_getElem? (i := 4) rfl)) (hw _ (List.mem_of_getElem? (i := 3) rfl)) (by decide) (by decide)) (g := (mkF m 9 #[.val (.int p0), .val (.int (5 : Int32)), .unset, .unset, .unset] [(.int (5 : Int32))])) rfl (by rw [hml]; rfl) (argsL := [(.int (5 : Int32))]) (rest := []) (lenOf pd_49 rfl) rfl (by show 2 * 0 + _ ≤ _; exact Nat.le_of_eq rfl) (hb hby at_9) (fun _ _ => ⟨rfl, e0, (by decide : 0 + 0 ≤ _), (by decide : 0 + 0 ≤ _)⟩)
    dsimp only [Pt.U, Pt.locs, Pt.cells, Pt.slots] at X17 l17 y17 z17 st17 hQ17
    subst l17 y17 z17
    obtain ⟨rfl, Nq17, e17⟩ := hQ17
    have N17 := Fr.app N0 Nq17
    refine Goes.to (T' := T17.setTop (mkF m 12 #[.val (.int p0), .val (.int (5 : Int32)), .unset, .unset, .unset] [(.ref w_Topic_HISTORY)])) st17 ?_
    refine Goes.to (T' := T17.setTop (mkF m 13 #[.val (.int p0), .val (.int (5 : Int32)), .val (.ref w_Topic_HISTORY), .unset, .unset] [])) (fun t k => XS.astoreN X17.here hx rfl (hb hby at_12) rfl rfl (l' := #[.val (.int p0), .val (.int (5 : Int32)), .val (.ref w_Topic_HISTORY), .unset, .unset]) rfl k) ?_
    refine Goes.to (T' := T17.setTop (mkF m 14 #[.val (.int p0), .val (.int (5 : Int32)), .val (.ref w_Topic_HISTORY), .unset, .unset] [(.int (5 : Int32))])) (fun t k => XS.iloadN X17.here hx rfl (hb hby at_13) rfl k) ?_
    refine Goes.to (T' := T17.setTop (mkF m 15 #[.val (.int p0), .val (.int (5 : Int32)), .val (.ref w_Topic_HISTORY), .unset, .unset] [(.int (5 : Int32)), (.int (5 : Int32))])) (fun t k => XS.iconst X17.here hx rfl (hb hby at_14) k) ?_
    refine Goes.to (T' := T17.setTop (mkF m 18 #[.val (.int p0), .val (.int (5 : Int32)), .val (.ref w_Topic_HISTORY), .unset, .unset] [])) (fun t k => XS.icmpNo X17.here hx rfl (hb hby at_15) rfl (flt (by decide)).1 k) ?_
    refine Goes.to (T' := T17.setTop (mkF m 19 #[.val (.int p0), .val (.int (5 : Int32)), .val (.ref w_Topic_HISTORY), .unset, .unset] [(.int (1 : Int32))])) (fun t k => XS.iconst X17.here hx rfl (hb hby at_18) k) ?_
    refine Goes.to (T' := T17.setTop (mkF m 23 #[.val (.int p0), .val (.int (5 : Int32)), .val (.ref w_Topic_HISTORY), .unset, .unset] [(.int (1 : Int32))])) (fun t k => XS.goto X17.here hx rfl (pc0 := 19) (pc' := 23) rfl (hb hby at_19) (by decide) (by decide) k) ?_
    refine Goes.to (T' := T17.setTop (mkF m 24 #[.val (.int p0), .val (.int (5 : Int32)), .val (.ref w_Topic_HISTORY), .val (.int (1 : Int32)), .unset] [])) (fun t k => XS.istoreN X17.here hx rfl (hb hby at_23) rfl (l' := #[.val (.int p0), .val (.int (5 : Int32)), .val (.ref w_Topic_HISTORY), .val (.int (1 : Int32)), .unset]) rfl k) ?_
    refine Goes.to (T' := T17.setTop (mkF m 25 #[.val (.int p0), .val (.int (5 : Int32)), .val (.ref w_Topic_HISTORY), .val (.int (1 : Int32)), .unset] [(.ref w_Topic_HISTORY)])) (fun t k => XS.aloadN X17.here hx rfl (hb hby at_24) rfl rfl k) ?_
    obtain ⟨cq18, kq18, q18a, q18b, q18c⟩ := isOf hZ e17 (E_w_Topic_HISTORY.ext O0.2)
    obtain ⟨_, _, ⟨T18, L18, k18, n18⟩, -, X18, ⟨Lc18, hQ18, l18, y18, z18⟩, st18⟩ := X17.virtualBack hx (y := (⟨"com/example/issuer/issuer/kafka/Topic", "isKept", "()Z"⟩ : MethodName)) (z := (⟨"com/example/issuer/issuer/kafka/Topic", "isKept", "()Z"⟩ : MethodName)) hown (mvT hZ (hw _ (List.mem_of_getElem? (i := 8) rfl))) (mvT hZ (hw _ (List.mem_of_getElem? (i := 9) rfl))) (notFace_of_selects (args := #[]) (mvT hZ (hw _ (List.mem_of_getElem? (i := 11) rfl)))) (mvT hZ (hw _ (List.mem_of_getElem? (i := 11) rfl))) (mvT hZ (hw _ (List.mem_of_getElem? (i := 10) rfl))) (by decide) (backOf (W := 0) (rmKy l Z a0 hw [] w_Topic_HISTORY w_Topic_INPUT w_Topic_INPUT_defaultName w_Topic_REJECTED w_Topic_REJECTED_defaultName w_Topic_BLOCK_LIST w_Topic_BLOCK_LIST_suffix w_Topic_DECIDED w_Topic_DECIDED_suffix w_Topic_ALERT w_Topic_ALERT_defaultName w_Topic_DECISION w_Topic_DECISION_defaultName w_Topic_REFUSED w_Topic_REFUSED_defaultName w_Topic_HISTORY w_Topic_HISTORY_suffix w_Topic_HISTORY_suffix h0 n0 O0 NF (F_suffix_w_Topic_HISTORY.ext O0.2)) hZ (hw _ (List.mem_of_getElem? (i := 12) rfl)) (hw _ (List.mem_of_getElem? (i := 6) rfl)) (by decide) (by decide)) q18a q18c (g := (mkF m 25 #[.val (.int p0), .val (.int (5 : Int32)), .val (.ref w_Topic_HISTORY), .val (.int (1 : Int32)), .unset] [(.ref w_Topic_HISTORY)])) rfl (by rw [hml]; rfl) (Steps.refl _) (argsL := []) (rest := []) (lenOf pd_50 rfl) rfl (by show 2 * 0 + _ ≤ _; exact Nat.le_of_eq rfl) (hb hby at_25) (fun _ _ => ⟨rfl, e17, (by decide : 0 + 0 ≤ _), (by decide : 0 + 0 ≤ _)⟩)
    dsimp only [Pt.U, Pt.locs, Pt.cells, Pt.slots] at X18 l18 y18 z18 st18 hQ18
    subst l18 y18 z18
    obtain ⟨rfl, Nq18, e18⟩ := hQ18
    have N18 := Fr.app N17 Nq18
    refine Goes.thru (T' := T18.setTop (mkF m 28 #[.val (.int p0), .val (.int (5 : Int32)), .val (.ref w_Topic_HISTORY), .val (.int (1 : Int32)), .unset] [(.int (1 : Int32))])) st18 ?_
    refine Goes.to (T' := T18.setTop (mkF m 30 #[.val (.int p0), .val (.int (5 : Int32)), .val (.ref w_Topic_HISTORY), .val (.int (1 : Int32)), .val (.int (1 : Int32))] [])) (fun t k => XS.istore X18.here hx rfl (hb hby at_28) rfl (l' := #[.val (.int p0), .val (.int (5 : Int32)), .val (.ref w_Topic_HISTORY), .val (.int (1 : Int32)), .val (.int (1 : Int32))]) rfl k) ?_
    refine Goes.to (T' := T18.setTop (mkF m 32 #[.val (.int p0), .val (.int (5 : Int32)), .val (.ref w_Topic_HISTORY), .val (.int (1 : Int32)), .val (.int (1 : Int32))] [(.int (1 : Int32))])) (fun t k => XS.iload X18.here hx rfl (hb hby at_30) rfl k) ?_
    refine Goes.to (T' := T18.setTop (mkF m 33 #[.val (.int p0), .val (.int (5 : Int32)), .val (.ref w_Topic_HISTORY), .val (.int (1 : Int32)), .val (.int (1 : Int32))] [(.int (1 : Int32)), (.int (1 : Int32))])) (fun t k => XS.iloadN X18.here hx rfl (hb hby at_32) rfl k) ?_
    refine Goes.to (T' := T18.setTop (mkF m 36 #[.val (.int p0), .val (.int (5 : Int32)), .val (.ref w_Topic_HISTORY), .val (.int (1 : Int32)), .val (.int (1 : Int32))] [])) (fun t k => XS.icmpNo X18.here hx rfl (hb hby at_33) rfl (teq (by decide)).2 k) ?_
    refine Goes.to (T' := T18.setTop (mkF m 38 #[.val (.int p0), .val (.int (5 : Int32)), .val (.ref w_Topic_HISTORY), .val (.int (1 : Int32)), .val (.int (1 : Int32))] [(.int (1 : Int32))])) (fun t k => XS.iload X18.here hx rfl (hb hby at_36) rfl k) ?_
    refine Goes.to (T' := T18.setTop (mkF m 39 #[.val (.int p0), .val (.int (5 : Int32)), .val (.ref w_Topic_HISTORY), .val (.int (1 : Int32)), .val (.int (1 : Int32))] [(.ref w_Topic_HISTORY), (.int (1 : Int32))])) (fun t k => XS.aloadN X18.here hx rfl (hb hby at_38) rfl rfl k) ?_
    obtain ⟨cq19, kq19, q19a, q19b, q19c⟩ := isOf hZ e18 (E_w_Topic_HISTORY.ext O0.2)
    obtain ⟨_, _, ⟨T19, L19, k19, n19⟩, -, X19, ⟨Lc19, hQ19, l19, y19, z19⟩, st19⟩ := X18.virtualBack hx (y := (⟨"com/example/issuer/issuer/kafka/Topic", "getDefaultName", "()Ljava/lang/String;"⟩ : MethodName)) (z := (⟨"com/example/issuer/issuer/kafka/Topic", "getDefaultName", "()Ljava/lang/String;"⟩ : MethodName)) hown (mvT hZ (hw _ (List.mem_of_getElem? (i := 15) rfl))) (mvT hZ (hw _ (List.mem_of_getElem? (i := 16) rfl))) (notFace_of_selects (args := #[]) (mvT hZ (hw _ (List.mem_of_getElem? (i := 18) rfl)))) (mvT hZ (hw _ (List.mem_of_getElem? (i := 18) rfl))) (mvT hZ (hw _ (List.mem_of_getElem? (i := 17) rfl))) (by decide) (backOf (W := 1) (rmDn l Z a0 hw [] w_Topic_HISTORY w_Topic_INPUT w_Topic_INPUT_defaultName w_Topic_REJECTED w_Topic_REJECTED_defaultName w_Topic_BLOCK_LIST w_Topic_BLOCK_LIST_suffix w_Topic_DECIDED w_Topic_DECIDED_suffix w_Topic_ALERT w_Topic_ALERT_defaultName w_Topic_DECISION w_Topic_DECISION_defaultName w_Topic_REFUSED w_Topic_REFUSED_defaultName w_Topic_HISTORY w_Topic_HISTORY_suffix  h0 n0 O0 NF (F_defaultName_w_Topic_HISTORY.ext O0.2)) hZ (hw _ (List.mem_of_getElem? (i := 19) rfl)) (hw _ (List.mem_of_getElem? (i := 6) rfl)) (by decide) (by decide)) q19a q19c (g := (mkF m 39 #[.val (.int p0), .val (.int (5 : Int32)), .val (.ref w_Topic_HISTORY), .val (.int (1 : Int32)), .val (.int (1 : Int32))] [(.ref w_Topic_HISTORY), (.int (1 : Int32))])) rfl (by rw [hml]; rfl) (Steps.refl _) (argsL := []) (rest := [(.int (1 : Int32))]) (lenOf pd_51 rfl) rfl (by show 2 * 0 + _ ≤ _; exact Nat.le_of_eq rfl) (hb hby at_39) (fun _ _ => ⟨rfl, e18, (by decide : 0 + 0 ≤ _), (by decide : 0 + 0 ≤ _)⟩)
    dsimp only [Pt.U, Pt.locs, Pt.cells, Pt.slots] at X19 l19 y19 z19 st19 hQ19
    subst l19 y19 z19
    obtain ⟨rfl, Nq19, e19⟩ := hQ19
    have N19 := Fr.app N18 Nq19
    refine Goes.thru (T' := T19.setTop (mkF m 42 #[.val (.int p0), .val (.int (5 : Int32)), .val (.ref w_Topic_HISTORY), .val (.int (1 : Int32)), .val (.int (1 : Int32))] [.null, (.int (1 : Int32))])) st19 ?_
    refine Goes.to (T' := T19.setTop (mkF m 45 #[.val (.int p0), .val (.int (5 : Int32)), .val (.ref w_Topic_HISTORY), .val (.int (1 : Int32)), .val (.int (1 : Int32))] [(.int (1 : Int32))])) (fun t k => XS.ifnonnullNo X19.here hx rfl (hb hby at_42) rfl k) ?_
    refine Goes.to (T' := T19.setTop (mkF m 46 #[.val (.int p0), .val (.int (5 : Int32)), .val (.ref w_Topic_HISTORY), .val (.int (1 : Int32)), .val (.int (1 : Int32))] [(.int (1 : Int32)), (.int (1 : Int32))])) (fun t k => XS.iconst X19.here hx rfl (hb hby at_45) k) ?_
    refine Goes.to (T' := T19.setTop (mkF m 50 #[.val (.int p0), .val (.int (5 : Int32)), .val (.ref w_Topic_HISTORY), .val (.int (1 : Int32)), .val (.int (1 : Int32))] [(.int (1 : Int32)), (.int (1 : Int32))])) (fun t k => XS.goto X19.here hx rfl (pc0 := 46) (pc' := 50) rfl (hb hby at_46) (by decide) (by decide) k) ?_
    refine Goes.to (T' := T19.setTop (mkF m 53 #[.val (.int p0), .val (.int (5 : Int32)), .val (.ref w_Topic_HISTORY), .val (.int (1 : Int32)), .val (.int (1 : Int32))] [])) (fun t k => XS.icmpNo X19.here hx rfl (hb hby at_50) rfl (teq (by decide)).2 k) ?_
    refine Goes.to (T' := T19.setTop (mkF m 54 #[.val (.int p0), .val (.int (5 : Int32)), .val (.ref w_Topic_HISTORY), .val (.int (1 : Int32)), .val (.int (1 : Int32))] [(.int (1 : Int32))])) (fun t k => XS.iconst X19.here hx rfl (hb hby at_53) k) ?_
    refine Goes.to (T' := T19.setTop (mkF m 58 #[.val (.int p0), .val (.int (5 : Int32)), .val (.ref w_Topic_HISTORY), .val (.int (1 : Int32)), .val (.int (1 : Int32))] [(.int (1 : Int32))])) (fun t k => XS.goto X19.here hx rfl (pc0 := 54) (pc' := 58) rfl (hb hby at_54) (by decide) (by decide) k) ?_
    obtain ⟨fs, hrL, hrun, hended, hW, hsame⟩ := X19.leave (v := some (.int (1 : Int32))) (fun h => by rw [Bd.returns] at h; cases h)
    subst hQf
    refine ⟨_, _, retN X19 hx (t := .boolean) Bd.returns (by simp) (hb hby at_58) hrL, hrun, hended, _, _, rfl, ?_, ⟨_, rfl⟩, hW, hsame.mono (by decide) (by decide)⟩
    show (fun (v : Option Value) (h : Heap) (L : List Loc) => v = some (.int 1) ∧ Fr n0 L) (some (.int (1 : Int32))) T19.heap _
    rw [e19]
    exact ⟨rfl, N19⟩
  · rw [hv_1]
    refine Goes.to (T' := s₁.setTop (mkF m 8 #[.val (.int p0), .val (.int (6 : Int32)), .unset, .unset, .unset] [])) (fun t k => XS.istoreN X0.here hx rfl (hb hby at_7) rfl (l' := #[.val (.int p0), .val (.int (6 : Int32)), .unset, .unset, .unset]) rfl k) ?_
    refine Goes.to (T' := s₁.setTop (mkF m 9 #[.val (.int p0), .val (.int (6 : Int32)), .unset, .unset, .unset] [(.int (6 : Int32))])) (fun t k => XS.iloadN X0.here hx rfl (hb hby at_8) rfl k) ?_
    obtain ⟨_, _, ⟨T20, L20, k20, n20⟩, -, X20, ⟨Lc20, hQ20, l20, y20, z20⟩, st20⟩ := Jvm.LawKit.callS X0 hx (y := (⟨"com/example/issuer/issuer/kafka/TopicIsKeptPinLaw", "pick", "(I)Lcom/example/issuer/issuer/kafka/Topic;"⟩ : MethodName)) hown (mvT hZ (hw _ (List.mem_of_getElem? (i := 1) rfl))) (mvT hZ (hw _ (List.mem_of_getElem? (i := 2) rfl))) (mvT hZ (hw _ (List.mem_of_getElem? (i := 3) rfl))) (mvT hZ (hw _ (List.mem_of_getElem? (i := 4) rfl))) (by decide) (backOf (W := 0) (rmP l Z a0 hw [] (6 : Int32) w_Topic_INPUT w_Topic_INPUT_defaultName w_Topic_REJECTED w_Topic_REJECTED_defaultName w_Topic_BLOCK_LIST w_Topic_BLOCK_LIST_suffix w_Topic_DECIDED w_Topic_DECIDED_suffix w_Topic_ALERT w_Topic_ALERT_defaultName w_Topic_DECISION w_Topic_DECISION_defaultName w_Topic_REFUSED w_Topic_REFUSED_defaultName w_Topic_HISTORY w_Topic_HISTORY_suffix w_Topic_BLOCK_LIST h0 n0 O0 NF (by simp)) hZ (hw _ (List.mem_of_getElem? (i := 4) rfl)) (hw _ (List.mem_of_getElem? (i := 3) rfl)) (by decide) (by decide)) (g := (mkF m 9 #[.val (.int p0), .val (.int (6 : Int32)), .unset, .unset, .unset] [(.int (6 : Int32))])) rfl (by rw [hml]; rfl) (argsL := [(.int (6 : Int32))]) (rest := []) (lenOf pd_49 rfl) rfl (by show 2 * 0 + _ ≤ _; exact Nat.le_of_eq rfl) (hb hby at_9) (fun _ _ => ⟨rfl, e0, (by decide : 0 + 0 ≤ _), (by decide : 0 + 0 ≤ _)⟩)
    dsimp only [Pt.U, Pt.locs, Pt.cells, Pt.slots] at X20 l20 y20 z20 st20 hQ20
    subst l20 y20 z20
    obtain ⟨rfl, Nq20, e20⟩ := hQ20
    have N20 := Fr.app N0 Nq20
    refine Goes.to (T' := T20.setTop (mkF m 12 #[.val (.int p0), .val (.int (6 : Int32)), .unset, .unset, .unset] [(.ref w_Topic_BLOCK_LIST)])) st20 ?_
    refine Goes.to (T' := T20.setTop (mkF m 13 #[.val (.int p0), .val (.int (6 : Int32)), .val (.ref w_Topic_BLOCK_LIST), .unset, .unset] [])) (fun t k => XS.astoreN X20.here hx rfl (hb hby at_12) rfl rfl (l' := #[.val (.int p0), .val (.int (6 : Int32)), .val (.ref w_Topic_BLOCK_LIST), .unset, .unset]) rfl k) ?_
    refine Goes.to (T' := T20.setTop (mkF m 14 #[.val (.int p0), .val (.int (6 : Int32)), .val (.ref w_Topic_BLOCK_LIST), .unset, .unset] [(.int (6 : Int32))])) (fun t k => XS.iloadN X20.here hx rfl (hb hby at_13) rfl k) ?_
    refine Goes.to (T' := T20.setTop (mkF m 15 #[.val (.int p0), .val (.int (6 : Int32)), .val (.ref w_Topic_BLOCK_LIST), .unset, .unset] [(.int (5 : Int32)), (.int (6 : Int32))])) (fun t k => XS.iconst X20.here hx rfl (hb hby at_14) k) ?_
    refine Goes.to (T' := T20.setTop (mkF m 18 #[.val (.int p0), .val (.int (6 : Int32)), .val (.ref w_Topic_BLOCK_LIST), .unset, .unset] [])) (fun t k => XS.icmpNo X20.here hx rfl (hb hby at_15) rfl (flt (by decide)).1 k) ?_
    refine Goes.to (T' := T20.setTop (mkF m 19 #[.val (.int p0), .val (.int (6 : Int32)), .val (.ref w_Topic_BLOCK_LIST), .unset, .unset] [(.int (1 : Int32))])) (fun t k => XS.iconst X20.here hx rfl (hb hby at_18) k) ?_
    refine Goes.to (T' := T20.setTop (mkF m 23 #[.val (.int p0), .val (.int (6 : Int32)), .val (.ref w_Topic_BLOCK_LIST), .unset, .unset] [(.int (1 : Int32))])) (fun t k => XS.goto X20.here hx rfl (pc0 := 19) (pc' := 23) rfl (hb hby at_19) (by decide) (by decide) k) ?_
    refine Goes.to (T' := T20.setTop (mkF m 24 #[.val (.int p0), .val (.int (6 : Int32)), .val (.ref w_Topic_BLOCK_LIST), .val (.int (1 : Int32)), .unset] [])) (fun t k => XS.istoreN X20.here hx rfl (hb hby at_23) rfl (l' := #[.val (.int p0), .val (.int (6 : Int32)), .val (.ref w_Topic_BLOCK_LIST), .val (.int (1 : Int32)), .unset]) rfl k) ?_
    refine Goes.to (T' := T20.setTop (mkF m 25 #[.val (.int p0), .val (.int (6 : Int32)), .val (.ref w_Topic_BLOCK_LIST), .val (.int (1 : Int32)), .unset] [(.ref w_Topic_BLOCK_LIST)])) (fun t k => XS.aloadN X20.here hx rfl (hb hby at_24) rfl rfl k) ?_
    obtain ⟨cq21, kq21, q21a, q21b, q21c⟩ := isOf hZ e20 (E_w_Topic_BLOCK_LIST.ext O0.2)
    obtain ⟨_, _, ⟨T21, L21, k21, n21⟩, -, X21, ⟨Lc21, hQ21, l21, y21, z21⟩, st21⟩ := X20.virtualBack hx (y := (⟨"com/example/issuer/issuer/kafka/Topic", "isKept", "()Z"⟩ : MethodName)) (z := (⟨"com/example/issuer/issuer/kafka/Topic", "isKept", "()Z"⟩ : MethodName)) hown (mvT hZ (hw _ (List.mem_of_getElem? (i := 8) rfl))) (mvT hZ (hw _ (List.mem_of_getElem? (i := 9) rfl))) (notFace_of_selects (args := #[]) (mvT hZ (hw _ (List.mem_of_getElem? (i := 11) rfl)))) (mvT hZ (hw _ (List.mem_of_getElem? (i := 11) rfl))) (mvT hZ (hw _ (List.mem_of_getElem? (i := 10) rfl))) (by decide) (backOf (W := 0) (rmKy l Z a0 hw [] w_Topic_BLOCK_LIST w_Topic_INPUT w_Topic_INPUT_defaultName w_Topic_REJECTED w_Topic_REJECTED_defaultName w_Topic_BLOCK_LIST w_Topic_BLOCK_LIST_suffix w_Topic_DECIDED w_Topic_DECIDED_suffix w_Topic_ALERT w_Topic_ALERT_defaultName w_Topic_DECISION w_Topic_DECISION_defaultName w_Topic_REFUSED w_Topic_REFUSED_defaultName w_Topic_HISTORY w_Topic_HISTORY_suffix w_Topic_BLOCK_LIST_suffix h0 n0 O0 NF (F_suffix_w_Topic_BLOCK_LIST.ext O0.2)) hZ (hw _ (List.mem_of_getElem? (i := 12) rfl)) (hw _ (List.mem_of_getElem? (i := 6) rfl)) (by decide) (by decide)) q21a q21c (g := (mkF m 25 #[.val (.int p0), .val (.int (6 : Int32)), .val (.ref w_Topic_BLOCK_LIST), .val (.int (1 : Int32)), .unset] [(.ref w_Topic_BLOCK_LIST)])) rfl (by rw [hml]; rfl) (Steps.refl _) (argsL := []) (rest := []) (lenOf pd_50 rfl) rfl (by show 2 * 0 + _ ≤ _; exact Nat.le_of_eq rfl) (hb hby at_25) (fun _ _ => ⟨rfl, e20, (by decide : 0 + 0 ≤ _), (by decide : 0 + 0 ≤ _)⟩)
    dsimp only [Pt.U, Pt.locs, Pt.cells, Pt.slots] at X21 l21 y21 z21 st21 hQ21
    subst l21 y21 z21
    obtain ⟨rfl, Nq21, e21⟩ := hQ21
    have N21 := Fr.app N20 Nq21
    refine Goes.thru (T' := T21.setTop (mkF m 28 #[.val (.int p0), .val (.int (6 : Int32)), .val (.ref w_Topic_BLOCK_LIST), .val (.int (1 : Int32)), .unset] [(.int (1 : Int32))])) st21 ?_
    refine Goes.to (T' := T21.setTop (mkF m 30 #[.val (.int p0), .val (.int (6 : Int32)), .val (.ref w_Topic_BLOCK_LIST), .val (.int (1 : Int32)), .val (.int (1 : Int32))] [])) (fun t k => XS.istore X21.here hx rfl (hb hby at_28) rfl (l' := #[.val (.int p0), .val (.int (6 : Int32)), .val (.ref w_Topic_BLOCK_LIST), .val (.int (1 : Int32)), .val (.int (1 : Int32))]) rfl k) ?_
    refine Goes.to (T' := T21.setTop (mkF m 32 #[.val (.int p0), .val (.int (6 : Int32)), .val (.ref w_Topic_BLOCK_LIST), .val (.int (1 : Int32)), .val (.int (1 : Int32))] [(.int (1 : Int32))])) (fun t k => XS.iload X21.here hx rfl (hb hby at_30) rfl k) ?_
    refine Goes.to (T' := T21.setTop (mkF m 33 #[.val (.int p0), .val (.int (6 : Int32)), .val (.ref w_Topic_BLOCK_LIST), .val (.int (1 : Int32)), .val (.int (1 : Int32))] [(.int (1 : Int32)), (.int (1 : Int32))])) (fun t k => XS.iloadN X21.here hx rfl (hb hby at_32) rfl k) ?_
    refine Goes.to (T' := T21.setTop (mkF m 36 #[.val (.int p0), .val (.int (6 : Int32)), .val (.ref w_Topic_BLOCK_LIST), .val (.int (1 : Int32)), .val (.int (1 : Int32))] [])) (fun t k => XS.icmpNo X21.here hx rfl (hb hby at_33) rfl (teq (by decide)).2 k) ?_
    refine Goes.to (T' := T21.setTop (mkF m 38 #[.val (.int p0), .val (.int (6 : Int32)), .val (.ref w_Topic_BLOCK_LIST), .val (.int (1 : Int32)), .val (.int (1 : Int32))] [(.int (1 : Int32))])) (fun t k => XS.iload X21.here hx rfl (hb hby at_36) rfl k) ?_
    refine Goes.to (T' := T21.setTop (mkF m 39 #[.val (.int p0), .val (.int (6 : Int32)), .val (.ref w_Topic_BLOCK_LIST), .val (.int (1 : Int32)), .val (.int (1 : Int32))] [(.ref w_Topic_BLOCK_LIST), (.int (1 : Int32))])) (fun t k => XS.aloadN X21.here hx rfl (hb hby at_38) rfl rfl k) ?_
    obtain ⟨cq22, kq22, q22a, q22b, q22c⟩ := isOf hZ e21 (E_w_Topic_BLOCK_LIST.ext O0.2)
    obtain ⟨_, _, ⟨T22, L22, k22, n22⟩, -, X22, ⟨Lc22, hQ22, l22, y22, z22⟩, st22⟩ := X21.virtualBack hx (y := (⟨"com/example/issuer/issuer/kafka/Topic", "getDefaultName", "()Ljava/lang/String;"⟩ : MethodName)) (z := (⟨"com/example/issuer/issuer/kafka/Topic", "getDefaultName", "()Ljava/lang/String;"⟩ : MethodName)) hown (mvT hZ (hw _ (List.mem_of_getElem? (i := 15) rfl))) (mvT hZ (hw _ (List.mem_of_getElem? (i := 16) rfl))) (notFace_of_selects (args := #[]) (mvT hZ (hw _ (List.mem_of_getElem? (i := 18) rfl)))) (mvT hZ (hw _ (List.mem_of_getElem? (i := 18) rfl))) (mvT hZ (hw _ (List.mem_of_getElem? (i := 17) rfl))) (by decide) (backOf (W := 1) (rmDn l Z a0 hw [] w_Topic_BLOCK_LIST w_Topic_INPUT w_Topic_INPUT_defaultName w_Topic_REJECTED w_Topic_REJECTED_defaultName w_Topic_BLOCK_LIST w_Topic_BLOCK_LIST_suffix w_Topic_DECIDED w_Topic_DECIDED_suffix w_Topic_ALERT w_Topic_ALERT_defaultName w_Topic_DECISION w_Topic_DECISION_defaultName w_Topic_REFUSED w_Topic_REFUSED_defaultName w_Topic_HISTORY w_Topic_HISTORY_suffix  h0 n0 O0 NF (F_defaultName_w_Topic_BLOCK_LIST.ext O0.2)) hZ (hw _ (List.mem_of_getElem? (i := 19) rfl)) (hw _ (List.mem_of_getElem? (i := 6) rfl)) (by decide) (by decide)) q22a q22c (g := (mkF m 39 #[.val (.int p0), .val (.int (6 : Int32)), .val (.ref w_Topic_BLOCK_LIST), .val (.int (1 : Int32)), .val (.int (1 : Int32))] [(.ref w_Topic_BLOCK_LIST), (.int (1 : Int32))])) rfl (by rw [hml]; rfl) (Steps.refl _) (argsL := []) (rest := [(.int (1 : Int32))]) (lenOf pd_51 rfl) rfl (by show 2 * 0 + _ ≤ _; exact Nat.le_of_eq rfl) (hb hby at_39) (fun _ _ => ⟨rfl, e21, (by decide : 0 + 0 ≤ _), (by decide : 0 + 0 ≤ _)⟩)
    dsimp only [Pt.U, Pt.locs, Pt.cells, Pt.slots] at X22 l22 y22 z22 st22 hQ22
    subst l22 y22 z22
    obtain ⟨rfl, Nq22, e22⟩ := hQ22
    have N22 := Fr.app N21 Nq22
    refine Goes.thru (T' := T22.setTop (mkF m 42 #[.val (.int p0), .val (.int (6 : Int32)), .val (.ref w_Topic_BLOCK_LIST), .val (.int (1 : Int32)), .val (.int (1 : Int32))] [.null, (.int (1 : Int32))])) st22 ?_
    refine Goes.to (T' := T22.setTop (mkF m 45 #[.val (.int p0), .val (.int (6 : Int32)), .val (.ref w_Topic_BLOCK_LIST), .val (.int (1 : Int32)), .val (.int (1 : Int32))] [(.int (1 : Int32))])) (fun t k => XS.ifnonnullNo X22.here hx rfl (hb hby at_42) rfl k) ?_
    refine Goes.to (T' := T22.setTop (mkF m 46 #[.val (.int p0), .val (.int (6 : Int32)), .val (.ref w_Topic_BLOCK_LIST), .val (.int (1 : Int32)), .val (.int (1 : Int32))] [(.int (1 : Int32)), (.int (1 : Int32))])) (fun t k => XS.iconst X22.here hx rfl (hb hby at_45) k) ?_
    refine Goes.to (T' := T22.setTop (mkF m 50 #[.val (.int p0), .val (.int (6 : Int32)), .val (.ref w_Topic_BLOCK_LIST), .val (.int (1 : Int32)), .val (.int (1 : Int32))] [(.int (1 : Int32)), (.int (1 : Int32))])) (fun t k => XS.goto X22.here hx rfl (pc0 := 46) (pc' := 50) rfl (hb hby at_46) (by decide) (by decide) k) ?_
    refine Goes.to (T' := T22.setTop (mkF m 53 #[.val (.int p0), .val (.int (6 : Int32)), .val (.ref w_Topic_BLOCK_LIST), .val (.int (1 : Int32)), .val (.int (1 : Int32))] [])) (fun t k => XS.icmpNo X22.here hx rfl (hb hby at_50) rfl (teq (by decide)).2 k) ?_
    refine Goes.to (T' := T22.setTop (mkF m 54 #[.val (.int p0), .val (.int (6 : Int32)), .val (.ref w_Topic_BLOCK_LIST), .val (.int (1 : Int32)), .val (.int (1 : Int32))] [(.int (1 : Int32))])) (fun t k => XS.iconst X22.here hx rfl (hb hby at_53) k) ?_
    refine Goes.to (T' := T22.setTop (mkF m 58 #[.val (.int p0), .val (.int (6 : Int32)), .val (.ref w_Topic_BLOCK_LIST), .val (.int (1 : Int32)), .val (.int (1 : Int32))] [(.int (1 : Int32))])) (fun t k => XS.goto X22.here hx rfl (pc0 := 54) (pc' := 58) rfl (hb hby at_54) (by decide) (by decide) k) ?_
    obtain ⟨fs, hrL, hrun, hended, hW, hsame⟩ := X22.leave (v := some (.int (1 : Int32))) (fun h => by rw [Bd.returns] at h; cases h)
    subst hQf
    refine ⟨_, _, retN X22 hx (t := .boolean) Bd.returns (by simp) (hb hby at_58) hrL, hrun, hended, _, _, rfl, ?_, ⟨_, rfl⟩, hW, hsame.mono (by decide) (by decide)⟩
    show (fun (v : Option Value) (h : Heap) (L : List Loc) => v = some (.int 1) ∧ Fr n0 L) (some (.int (1 : Int32))) T22.heap _
    rw [e22]
    exact ⟨rfl, N22⟩
  · rw [hv_1]
    refine Goes.to (T' := s₁.setTop (mkF m 8 #[.val (.int p0), .val (.int (7 : Int32)), .unset, .unset, .unset] [])) (fun t k => XS.istoreN X0.here hx rfl (hb hby at_7) rfl (l' := #[.val (.int p0), .val (.int (7 : Int32)), .unset, .unset, .unset]) rfl k) ?_
    refine Goes.to (T' := s₁.setTop (mkF m 9 #[.val (.int p0), .val (.int (7 : Int32)), .unset, .unset, .unset] [(.int (7 : Int32))])) (fun t k => XS.iloadN X0.here hx rfl (hb hby at_8) rfl k) ?_
    obtain ⟨_, _, ⟨T23, L23, k23, n23⟩, -, X23, ⟨Lc23, hQ23, l23, y23, z23⟩, st23⟩ := Jvm.LawKit.callS X0 hx (y := (⟨"com/example/issuer/issuer/kafka/TopicIsKeptPinLaw", "pick", "(I)Lcom/example/issuer/issuer/kafka/Topic;"⟩ : MethodName)) hown (mvT hZ (hw _ (List.mem_of_getElem? (i := 1) rfl))) (mvT hZ (hw _ (List.mem_of_getElem? (i := 2) rfl))) (mvT hZ (hw _ (List.mem_of_getElem? (i := 3) rfl))) (mvT hZ (hw _ (List.mem_of_getElem? (i := 4) rfl))) (by decide) (backOf (W := 0) (rmP l Z a0 hw [] (7 : Int32) w_Topic_INPUT w_Topic_INPUT_defaultName w_Topic_REJECTED w_Topic_REJECTED_defaultName w_Topic_BLOCK_LIST w_Topic_BLOCK_LIST_suffix w_Topic_DECIDED w_Topic_DECIDED_suffix w_Topic_ALERT w_Topic_ALERT_defaultName w_Topic_DECISION w_Topic_DECISION_defaultName w_Topic_REFUSED w_Topic_REFUSED_defaultName w_Topic_HISTORY w_Topic_HISTORY_suffix w_Topic_DECIDED h0 n0 O0 NF (by simp)) hZ (hw _ (List.mem_of_getElem? (i := 4) rfl)) (hw _ (List.mem_of_getElem? (i := 3) rfl)) (by decide) (by decide)) (g := (mkF m 9 #[.val (.int p0), .val (.int (7 : Int32)), .unset, .unset, .unset] [(.int (7 : Int32))])) rfl (by rw [hml]; rfl) (argsL := [(.int (7 : Int32))]) (rest := []) (lenOf pd_49 rfl) rfl (by show 2 * 0 + _ ≤ _; exact Nat.le_of_eq rfl) (hb hby at_9) (fun _ _ => ⟨rfl, e0, (by decide : 0 + 0 ≤ _), (by decide : 0 + 0 ≤ _)⟩)
    dsimp only [Pt.U, Pt.locs, Pt.cells, Pt.slots] at X23 l23 y23 z23 st23 hQ23
    subst l23 y23 z23
    obtain ⟨rfl, Nq23, e23⟩ := hQ23
    have N23 := Fr.app N0 Nq23
    refine Goes.to (T' := T23.setTop (mkF m 12 #[.val (.int p0), .val (.int (7 : Int32)), .unset, .unset, .unset] [(.ref w_Topic_DECIDED)])) st23 ?_
    refine Goes.to (T' := T23.setTop (mkF m 13 #[.val (.int p0), .val (.int (7 : Int32)), .val (.ref w_Topic_DECIDED), .unset, .unset] [])) (fun t k => XS.astoreN X23.here hx rfl (hb hby at_12) rfl rfl (l' := #[.val (.int p0), .val (.int (7 : Int32)), .val (.ref w_Topic_DECIDED), .unset, .unset]) rfl k) ?_
    refine Goes.to (T' := T23.setTop (mkF m 14 #[.val (.int p0), .val (.int (7 : Int32)), .val (.ref w_Topic_DECIDED), .unset, .unset] [(.int (7 : Int32))])) (fun t k => XS.iloadN X23.here hx rfl (hb hby at_13) rfl k) ?_
    refine Goes.to (T' := T23.setTop (mkF m 15 #[.val (.int p0), .val (.int (7 : Int32)), .val (.ref w_Topic_DECIDED), .unset, .unset] [(.int (5 : Int32)), (.int (7 : Int32))])) (fun t k => XS.iconst X23.here hx rfl (hb hby at_14) k) ?_
    refine Goes.to (T' := T23.setTop (mkF m 18 #[.val (.int p0), .val (.int (7 : Int32)), .val (.ref w_Topic_DECIDED), .unset, .unset] [])) (fun t k => XS.icmpNo X23.here hx rfl (hb hby at_15) rfl (flt (by decide)).1 k) ?_
    refine Goes.to (T' := T23.setTop (mkF m 19 #[.val (.int p0), .val (.int (7 : Int32)), .val (.ref w_Topic_DECIDED), .unset, .unset] [(.int (1 : Int32))])) (fun t k => XS.iconst X23.here hx rfl (hb hby at_18) k) ?_
    refine Goes.to (T' := T23.setTop (mkF m 23 #[.val (.int p0), .val (.int (7 : Int32)), .val (.ref w_Topic_DECIDED), .unset, .unset] [(.int (1 : Int32))])) (fun t k => XS.goto X23.here hx rfl (pc0 := 19) (pc' := 23) rfl (hb hby at_19) (by decide) (by decide) k) ?_
    refine Goes.to (T' := T23.setTop (mkF m 24 #[.val (.int p0), .val (.int (7 : Int32)), .val (.ref w_Topic_DECIDED), .val (.int (1 : Int32)), .unset] [])) (fun t k => XS.istoreN X23.here hx rfl (hb hby at_23) rfl (l' := #[.val (.int p0), .val (.int (7 : Int32)), .val (.ref w_Topic_DECIDED), .val (.int (1 : Int32)), .unset]) rfl k) ?_
    refine Goes.to (T' := T23.setTop (mkF m 25 #[.val (.int p0), .val (.int (7 : Int32)), .val (.ref w_Topic_DECIDED), .val (.int (1 : Int32)), .unset] [(.ref w_Topic_DECIDED)])) (fun t k => XS.aloadN X23.here hx rfl (hb hby at_24) rfl rfl k) ?_
    obtain ⟨cq24, kq24, q24a, q24b, q24c⟩ := isOf hZ e23 (E_w_Topic_DECIDED.ext O0.2)
    obtain ⟨_, _, ⟨T24, L24, k24, n24⟩, -, X24, ⟨Lc24, hQ24, l24, y24, z24⟩, st24⟩ := X23.virtualBack hx (y := (⟨"com/example/issuer/issuer/kafka/Topic", "isKept", "()Z"⟩ : MethodName)) (z := (⟨"com/example/issuer/issuer/kafka/Topic", "isKept", "()Z"⟩ : MethodName)) hown (mvT hZ (hw _ (List.mem_of_getElem? (i := 8) rfl))) (mvT hZ (hw _ (List.mem_of_getElem? (i := 9) rfl))) (notFace_of_selects (args := #[]) (mvT hZ (hw _ (List.mem_of_getElem? (i := 11) rfl)))) (mvT hZ (hw _ (List.mem_of_getElem? (i := 11) rfl))) (mvT hZ (hw _ (List.mem_of_getElem? (i := 10) rfl))) (by decide) (backOf (W := 0) (rmKy l Z a0 hw [] w_Topic_DECIDED w_Topic_INPUT w_Topic_INPUT_defaultName w_Topic_REJECTED w_Topic_REJECTED_defaultName w_Topic_BLOCK_LIST w_Topic_BLOCK_LIST_suffix w_Topic_DECIDED w_Topic_DECIDED_suffix w_Topic_ALERT w_Topic_ALERT_defaultName w_Topic_DECISION w_Topic_DECISION_defaultName w_Topic_REFUSED w_Topic_REFUSED_defaultName w_Topic_HISTORY w_Topic_HISTORY_suffix w_Topic_DECIDED_suffix h0 n0 O0 NF (F_suffix_w_Topic_DECIDED.ext O0.2)) hZ (hw _ (List.mem_of_getElem? (i := 12) rfl)) (hw _ (List.mem_of_getElem? (i := 6) rfl)) (by decide) (by decide)) q24a q24c (g := (mkF m 25 #[.val (.int p0), .val (.int (7 : Int32)), .val (.ref w_Topic_DECIDED), .val (.int (1 : Int32)), .unset] [(.ref w_Topic_DECIDED)])) rfl (by rw [hml]; rfl) (Steps.refl _) (argsL := []) (rest := []) (lenOf pd_50 rfl) rfl (by show 2 * 0 + _ ≤ _; exact Nat.le_of_eq rfl) (hb hby at_25) (fun _ _ => ⟨rfl, e23, (by decide : 0 + 0 ≤ _), (by decide : 0 + 0 ≤ _)⟩)
    dsimp only [Pt.U, Pt.locs, Pt.cells, Pt.slots] at X24 l24 y24 z24 st24 hQ24
    subst l24 y24 z24
    obtain ⟨rfl, Nq24, e24⟩ := hQ24
    have N24 := Fr.app N23 Nq24
    refine Goes.thru (T' := T24.setTop (mkF m 28 #[.val (.int p0), .val (.int (7 : Int32)), .val (.ref w_Topic_DECIDED), .val (.int (1 : Int32)), .unset] [(.int (1 : Int32))])) st24 ?_
    refine Goes.to (T' := T24.setTop (mkF m 30 #[.val (.int p0), .val (.int (7 : Int32)), .val (.ref w_Topic_DECIDED), .val (.int (1 : Int32)), .val (.int (1 : Int32))] [])) (fun t k => XS.istore X24.here hx rfl (hb hby at_28) rfl (l' := #[.val (.int p0), .val (.int (7 : Int32)), .val (.ref w_Topic_DECIDED), .val (.int (1 : Int32)), .val (.int (1 : Int32))]) rfl k) ?_
    refine Goes.to (T' := T24.setTop (mkF m 32 #[.val (.int p0), .val (.int (7 : Int32)), .val (.ref w_Topic_DECIDED), .val (.int (1 : Int32)), .val (.int (1 : Int32))] [(.int (1 : Int32))])) (fun t k => XS.iload X24.here hx rfl (hb hby at_30) rfl k) ?_
    refine Goes.to (T' := T24.setTop (mkF m 33 #[.val (.int p0), .val (.int (7 : Int32)), .val (.ref w_Topic_DECIDED), .val (.int (1 : Int32)), .val (.int (1 : Int32))] [(.int (1 : Int32)), (.int (1 : Int32))])) (fun t k => XS.iloadN X24.here hx rfl (hb hby at_32) rfl k) ?_
    refine Goes.to (T' := T24.setTop (mkF m 36 #[.val (.int p0), .val (.int (7 : Int32)), .val (.ref w_Topic_DECIDED), .val (.int (1 : Int32)), .val (.int (1 : Int32))] [])) (fun t k => XS.icmpNo X24.here hx rfl (hb hby at_33) rfl (teq (by decide)).2 k) ?_
    refine Goes.to (T' := T24.setTop (mkF m 38 #[.val (.int p0), .val (.int (7 : Int32)), .val (.ref w_Topic_DECIDED), .val (.int (1 : Int32)), .val (.int (1 : Int32))] [(.int (1 : Int32))])) (fun t k => XS.iload X24.here hx rfl (hb hby at_36) rfl k) ?_
    refine Goes.to (T' := T24.setTop (mkF m 39 #[.val (.int p0), .val (.int (7 : Int32)), .val (.ref w_Topic_DECIDED), .val (.int (1 : Int32)), .val (.int (1 : Int32))] [(.ref w_Topic_DECIDED), (.int (1 : Int32))])) (fun t k => XS.aloadN X24.here hx rfl (hb hby at_38) rfl rfl k) ?_
    obtain ⟨cq25, kq25, q25a, q25b, q25c⟩ := isOf hZ e24 (E_w_Topic_DECIDED.ext O0.2)
    obtain ⟨_, _, ⟨T25, L25, k25, n25⟩, -, X25, ⟨Lc25, hQ25, l25, y25, z25⟩, st25⟩ := X24.virtualBack hx (y := (⟨"com/example/issuer/issuer/kafka/Topic", "getDefaultName", "()Ljava/lang/String;"⟩ : MethodName)) (z := (⟨"com/example/issuer/issuer/kafka/Topic", "getDefaultName", "()Ljava/lang/String;"⟩ : MethodName)) hown (mvT hZ (hw _ (List.mem_of_getElem? (i := 15) rfl))) (mvT hZ (hw _ (List.mem_of_getElem? (i := 16) rfl))) (notFace_of_selects (args := #[]) (mvT hZ (hw _ (List.mem_of_getElem? (i := 18) rfl)))) (mvT hZ (hw _ (List.mem_of_getElem? (i := 18) rfl))) (mvT hZ (hw _ (List.mem_of_getElem? (i := 17) rfl))) (by decide) (backOf (W := 1) (rmDn l Z a0 hw [] w_Topic_DECIDED w_Topic_INPUT w_Topic_INPUT_defaultName w_Topic_REJECTED w_Topic_REJECTED_defaultName w_Topic_BLOCK_LIST w_Topic_BLOCK_LIST_suffix w_Topic_DECIDED w_Topic_DECIDED_suffix w_Topic_ALERT w_Topic_ALERT_defaultName w_Topic_DECISION w_Topic_DECISION_defaultName w_Topic_REFUSED w_Topic_REFUSED_defaultName w_Topic_HISTORY w_Topic_HISTORY_suffix  h0 n0 O0 NF (F_defaultName_w_Topic_DECIDED.ext O0.2)) hZ (hw _ (List.mem_of_getElem? (i := 19) rfl)) (hw _ (List.mem_of_getElem? (i := 6) rfl)) (by decide) (by decide)) q25a q25c (g := (mkF m 39 #[.val (.int p0), .val (.int (7 : Int32)), .val (.ref w_Topic_DECIDED), .val (.int (1 : Int32)), .val (.int (1 : Int32))] [(.ref w_Topic_DECIDED), (.int (1 : Int32))])) rfl (by rw [hml]; rfl) (Steps.refl _) (argsL := []) (rest := [(.int (1 : Int32))]) (lenOf pd_51 rfl) rfl (by show 2 * 0 + _ ≤ _; exact Nat.le_of_eq rfl) (hb hby at_39) (fun _ _ => ⟨rfl, e24, (by decide : 0 + 0 ≤ _), (by decide : 0 + 0 ≤ _)⟩)
    dsimp only [Pt.U, Pt.locs, Pt.cells, Pt.slots] at X25 l25 y25 z25 st25 hQ25
    subst l25 y25 z25
    obtain ⟨rfl, Nq25, e25⟩ := hQ25
    have N25 := Fr.app N24 Nq25
    refine Goes.thru (T' := T25.setTop (mkF m 42 #[.val (.int p0), .val (.int (7 : Int32)), .val (.ref w_Topic_DECIDED), .val (.int (1 : Int32)), .val (.int (1 : Int32))] [.null, (.int (1 : Int32))])) st25 ?_
    refine Goes.to (T' := T25.setTop (mkF m 45 #[.val (.int p0), .val (.int (7 : Int32)), .val (.ref w_Topic_DECIDED), .val (.int (1 : Int32)), .val (.int (1 : Int32))] [(.int (1 : Int32))])) (fun t k => XS.ifnonnullNo X25.here hx rfl (hb hby at_42) rfl k) ?_
    refine Goes.to (T' := T25.setTop (mkF m 46 #[.val (.int p0), .val (.int (7 : Int32)), .val (.ref w_Topic_DECIDED), .val (.int (1 : Int32)), .val (.int (1 : Int32))] [(.int (1 : Int32)), (.int (1 : Int32))])) (fun t k => XS.iconst X25.here hx rfl (hb hby at_45) k) ?_
    refine Goes.to (T' := T25.setTop (mkF m 50 #[.val (.int p0), .val (.int (7 : Int32)), .val (.ref w_Topic_DECIDED), .val (.int (1 : Int32)), .val (.int (1 : Int32))] [(.int (1 : Int32)), (.int (1 : Int32))])) (fun t k => XS.goto X25.here hx rfl (pc0 := 46) (pc' := 50) rfl (hb hby at_46) (by decide) (by decide) k) ?_
    refine Goes.to (T' := T25.setTop (mkF m 53 #[.val (.int p0), .val (.int (7 : Int32)), .val (.ref w_Topic_DECIDED), .val (.int (1 : Int32)), .val (.int (1 : Int32))] [])) (fun t k => XS.icmpNo X25.here hx rfl (hb hby at_50) rfl (teq (by decide)).2 k) ?_
    refine Goes.to (T' := T25.setTop (mkF m 54 #[.val (.int p0), .val (.int (7 : Int32)), .val (.ref w_Topic_DECIDED), .val (.int (1 : Int32)), .val (.int (1 : Int32))] [(.int (1 : Int32))])) (fun t k => XS.iconst X25.here hx rfl (hb hby at_53) k) ?_
    refine Goes.to (T' := T25.setTop (mkF m 58 #[.val (.int p0), .val (.int (7 : Int32)), .val (.ref w_Topic_DECIDED), .val (.int (1 : Int32)), .val (.int (1 : Int32))] [(.int (1 : Int32))])) (fun t k => XS.goto X25.here hx rfl (pc0 := 54) (pc' := 58) rfl (hb hby at_54) (by decide) (by decide) k) ?_
    obtain ⟨fs, hrL, hrun, hended, hW, hsame⟩ := X25.leave (v := some (.int (1 : Int32))) (fun h => by rw [Bd.returns] at h; cases h)
    subst hQf
    refine ⟨_, _, retN X25 hx (t := .boolean) Bd.returns (by simp) (hb hby at_58) hrL, hrun, hended, _, _, rfl, ?_, ⟨_, rfl⟩, hW, hsame.mono (by decide) (by decide)⟩
    show (fun (v : Option Value) (h : Heap) (L : List Loc) => v = some (.int 1) ∧ Fr n0 L) (some (.int (1 : Int32))) T25.heap _
    rw [e25]
    exact ⟨rfl, N25⟩
set_option maxRecDepth 65536 in
set_option maxHeartbeats 40000000 in
theorem comes_1 {Post : Tables → Env → Array Value → State → Outcome → State → Prop} (hpost : ∀ tb e args s v u, (limb_1_1.after args s (.returned v) u = true ∧ limb_1_2.after args s (.returned v) u = true ∧ True) → FrameEnd s (.returned v) u (Jvm.fieldLocs frame_1_writes args s ++ Jvm.arrayLocs frame_1_arrays args s ++ Jvm.staticLocs frame_1_statics s) 0 0 → Post tb e args s (.returned v) u) :
    ArmFor flags0 classFile x code maxLocals ret World_1 tables_1 room_1 Calls_1 rest_1 Pre_1 Post := by
  intro l hfl _ _ p e ha hc hk s m args below hf hA hF happ hP
  obtain ⟨hcalls, hrest, hpre⟩ := hP
  obtain ⟨-, -, -, hnamed, -, -, -, hat⟩ := (Spec.applies_iff hf).mp happ
  obtain ⟨hg, hn⟩ := and_e (Cond.before_iff.mp (show (Jvm.Cond.and given_1 narrow_1).before args s = true from hpre))
  obtain ⟨gc, gr0⟩ := and_e hg
  obtain ⟨w0, rfl⟩ : ∃ w0 : Value, args = #[w0] := by
    have hs : args.size = 1 := by simpa [Cond.value, given_1] using gc
    obtain ⟨L⟩ := args
    match L, hs with
    | [w0], _ => exact ⟨w0, rfl⟩
  have hw := fun d (hd : d ∈ tables_1) => atoms_spec (ws := Jvm.Cond.code x code maxLocals ret :: tables_1) hat d (List.mem_cons_of_mem _ hd)
  have hfit : Fit s := fun {y c} hc i hi => by
    obtain ⟨ha, rfl⟩ := Array.getElem?_eq_some_iff.mp hc
    have q := List.all_eq_true.mp ((Array.all_eq_true_iff_forall_mem.mp hF) _ (Array.getElem_mem ha)) i (List.mem_range.mpr hi)
    simpa [Array.getElem?_eq_getElem hi] using q
  obtain ⟨i0, ei0⟩ := is_v gr0
  obtain rfl : w0 = (.int i0) := Option.some.inj ei0
  obtain ⟨nl1, nr1⟩ := and_e hn
  obtain ⟨nl2, nr2⟩ := and_e nr1
  obtain ⟨nl3, nr3⟩ := and_e nr2
  obtain ⟨nl4, nr4⟩ := and_e nr3
  obtain ⟨nl5, nr5⟩ := and_e nr4
  obtain ⟨nl6, nr6⟩ := and_e nr5
  obtain ⟨nl7, nr7⟩ := and_e nr6
  obtain ⟨nl8, nr8⟩ := and_e nr7
  obtain ⟨nl9, nr9⟩ := and_e nr8
  obtain ⟨nl10, nr10⟩ := and_e nr9
  obtain ⟨nl11, nr11⟩ := and_e nr10
  obtain ⟨nl12, nr12⟩ := and_e nr11
  obtain ⟨nl13, nr13⟩ := and_e nr12
  obtain ⟨nl14, nr14⟩ := and_e nr13
  obtain ⟨nl15, nr15⟩ := and_e nr14
  obtain ⟨nl16, nr16⟩ := and_e nr15
  obtain ⟨nl17, nr17⟩ := and_e nr16
  obtain ⟨nl18, nr18⟩ := and_e nr17
  obtain ⟨nl19, nr19⟩ := and_e nr18
  obtain ⟨nl20, nr20⟩ := and_e nr19
  obtain ⟨nl21, nr21⟩ := and_e nr20
  obtain ⟨nl22, nr22⟩ := and_e nr21
  obtain ⟨nl23, nr23⟩ := and_e nr22
  obtain ⟨w_Topic_INPUT, ev_w_Topic_INPUT⟩ := exa_v nl1
  have S_w_Topic_INPUT : Sta s s.heap "com/example/issuer/issuer/kafka/Topic" "INPUT" "Lcom/example/issuer/issuer/kafka/Topic;" (.ref w_Topic_INPUT) := Sta.start ev_w_Topic_INPUT (Or.inr ⟨(hw _ (List.mem_of_getElem? (i := 6) rfl)), (hw _ (List.mem_of_getElem? (i := 7) rfl))⟩)
  have E_w_Topic_INPUT : Exa s s.heap w_Topic_INPUT "com/example/issuer/issuer/kafka/Topic" := Exa.start ev_w_Topic_INPUT nl1
  obtain ⟨w_Topic_INPUT_defaultName, ev_w_Topic_INPUT_defaultName⟩ := exa_v nl3
  have F_defaultName_w_Topic_INPUT : Fld s s.heap w_Topic_INPUT "com/example/issuer/issuer/kafka/Topic" "defaultName" "Ljava/lang/String;" (.ref w_Topic_INPUT_defaultName) := own_fldR ev_w_Topic_INPUT ev_w_Topic_INPUT_defaultName
  have E_w_Topic_INPUT_defaultName : Exa s s.heap w_Topic_INPUT_defaultName "java/lang/String" := Exa.start ev_w_Topic_INPUT_defaultName nl3
  obtain ⟨w_Topic_REJECTED, ev_w_Topic_REJECTED⟩ := exa_v nl4
  have S_w_Topic_REJECTED : Sta s s.heap "com/example/issuer/issuer/kafka/Topic" "REJECTED" "Lcom/example/issuer/issuer/kafka/Topic;" (.ref w_Topic_REJECTED) := Sta.start ev_w_Topic_REJECTED (Or.inr ⟨(hw _ (List.mem_of_getElem? (i := 6) rfl)), (hw _ (List.mem_of_getElem? (i := 23) rfl))⟩)
  have E_w_Topic_REJECTED : Exa s s.heap w_Topic_REJECTED "com/example/issuer/issuer/kafka/Topic" := Exa.start ev_w_Topic_REJECTED nl4
  obtain ⟨w_Topic_REJECTED_defaultName, ev_w_Topic_REJECTED_defaultName⟩ := exa_v nl6
  have F_defaultName_w_Topic_REJECTED : Fld s s.heap w_Topic_REJECTED "com/example/issuer/issuer/kafka/Topic" "defaultName" "Ljava/lang/String;" (.ref w_Topic_REJECTED_defaultName) := own_fldR ev_w_Topic_REJECTED ev_w_Topic_REJECTED_defaultName
  have E_w_Topic_REJECTED_defaultName : Exa s s.heap w_Topic_REJECTED_defaultName "java/lang/String" := Exa.start ev_w_Topic_REJECTED_defaultName nl6
  obtain ⟨w_Topic_BLOCK_LIST, ev_w_Topic_BLOCK_LIST⟩ := exa_v nl7
  have S_w_Topic_BLOCK_LIST : Sta s s.heap "com/example/issuer/issuer/kafka/Topic" "BLOCK_LIST" "Lcom/example/issuer/issuer/kafka/Topic;" (.ref w_Topic_BLOCK_LIST) := Sta.start ev_w_Topic_BLOCK_LIST (Or.inr ⟨(hw _ (List.mem_of_getElem? (i := 6) rfl)), (hw _ (List.mem_of_getElem? (i := 25) rfl))⟩)
  have E_w_Topic_BLOCK_LIST : Exa s s.heap w_Topic_BLOCK_LIST "com/example/issuer/issuer/kafka/Topic" := Exa.start ev_w_Topic_BLOCK_LIST nl7
  obtain ⟨w_Topic_BLOCK_LIST_suffix, ev_w_Topic_BLOCK_LIST_suffix⟩ := exa_v nl8
  have F_suffix_w_Topic_BLOCK_LIST : Fld s s.heap w_Topic_BLOCK_LIST "com/example/issuer/issuer/kafka/Topic" "suffix" "Ljava/lang/String;" (.ref w_Topic_BLOCK_LIST_suffix) := own_fldR ev_w_Topic_BLOCK_LIST ev_w_Topic_BLOCK_LIST_suffix
  have E_w_Topic_BLOCK_LIST_suffix : Exa s s.heap w_Topic_BLOCK_LIST_suffix "java/lang/String" := Exa.start ev_w_Topic_BLOCK_LIST_suffix nl8
  obtain ⟨w_Topic_DECIDED, ev_w_Topic_DECIDED⟩ := exa_v nl10
  have S_w_Topic_DECIDED : Sta s s.heap "com/example/issuer/issuer/kafka/Topic" "DECIDED" "Lcom/example/issuer/issuer/kafka/Topic;" (.ref w_Topic_DECIDED) := Sta.start ev_w_Topic_DECIDED (Or.inr ⟨(hw _ (List.mem_of_getElem? (i := 6) rfl)), (hw _ (List.mem_of_getElem? (i := 27) rfl))⟩)
  have E_w_Topic_DECIDED : Exa s s.heap w_Topic_DECIDED "com/example/issuer/issuer/kafka/Topic" := Exa.start ev_w_Topic_DECIDED nl10
  obtain ⟨w_Topic_DECIDED_suffix, ev_w_Topic_DECIDED_suffix⟩ := exa_v nl11
  have F_suffix_w_Topic_DECIDED : Fld s s.heap w_Topic_DECIDED "com/example/issuer/issuer/kafka/Topic" "suffix" "Ljava/lang/String;" (.ref w_Topic_DECIDED_suffix) := own_fldR ev_w_Topic_DECIDED ev_w_Topic_DECIDED_suffix
  have E_w_Topic_DECIDED_suffix : Exa s s.heap w_Topic_DECIDED_suffix "java/lang/String" := Exa.start ev_w_Topic_DECIDED_suffix nl11
  obtain ⟨w_Topic_ALERT, ev_w_Topic_ALERT⟩ := exa_v nl13
  have S_w_Topic_ALERT : Sta s s.heap "com/example/issuer/issuer/kafka/Topic" "ALERT" "Lcom/example/issuer/issuer/kafka/Topic;" (.ref w_Topic_ALERT) := Sta.start ev_w_Topic_ALERT (Or.inr ⟨(hw _ (List.mem_of_getElem? (i := 6) rfl)), (hw _ (List.mem_of_getElem? (i := 29) rfl))⟩)
  have E_w_Topic_ALERT : Exa s s.heap w_Topic_ALERT "com/example/issuer/issuer/kafka/Topic" := Exa.start ev_w_Topic_ALERT nl13
  obtain ⟨w_Topic_ALERT_defaultName, ev_w_Topic_ALERT_defaultName⟩ := exa_v nl15
  have F_defaultName_w_Topic_ALERT : Fld s s.heap w_Topic_ALERT "com/example/issuer/issuer/kafka/Topic" "defaultName" "Ljava/lang/String;" (.ref w_Topic_ALERT_defaultName) := own_fldR ev_w_Topic_ALERT ev_w_Topic_ALERT_defaultName
  have E_w_Topic_ALERT_defaultName : Exa s s.heap w_Topic_ALERT_defaultName "java/lang/String" := Exa.start ev_w_Topic_ALERT_defaultName nl15
  obtain ⟨w_Topic_DECISION, ev_w_Topic_DECISION⟩ := exa_v nl16
  have S_w_Topic_DECISION : Sta s s.heap "com/example/issuer/issuer/kafka/Topic" "DECISION" "Lcom/example/issuer/issuer/kafka/Topic;" (.ref w_Topic_DECISION) := Sta.start ev_w_Topic_DECISION (Or.inr ⟨(hw _ (List.mem_of_getElem? (i := 6) rfl)), (hw _ (List.mem_of_getElem? (i := 31) rfl))⟩)
  have E_w_Topic_DECISION : Exa s s.heap w_Topic_DECISION "com/example/issuer/issuer/kafka/Topic" := Exa.start ev_w_Topic_DECISION nl16
  obtain ⟨w_Topic_DECISION_defaultName, ev_w_Topic_DECISION_defaultName⟩ := exa_v nl18
  have F_defaultName_w_Topic_DECISION : Fld s s.heap w_Topic_DECISION "com/example/issuer/issuer/kafka/Topic" "defaultName" "Ljava/lang/String;" (.ref w_Topic_DECISION_defaultName) := own_fldR ev_w_Topic_DECISION ev_w_Topic_DECISION_defaultName
  have E_w_Topic_DECISION_defaultName : Exa s s.heap w_Topic_DECISION_defaultName "java/lang/String" := Exa.start ev_w_Topic_DECISION_defaultName nl18
  obtain ⟨w_Topic_REFUSED, ev_w_Topic_REFUSED⟩ := exa_v nl19
  have S_w_Topic_REFUSED : Sta s s.heap "com/example/issuer/issuer/kafka/Topic" "REFUSED" "Lcom/example/issuer/issuer/kafka/Topic;" (.ref w_Topic_REFUSED) := Sta.start ev_w_Topic_REFUSED (Or.inr ⟨(hw _ (List.mem_of_getElem? (i := 6) rfl)), (hw _ (List.mem_of_getElem? (i := 33) rfl))⟩)
  have E_w_Topic_REFUSED : Exa s s.heap w_Topic_REFUSED "com/example/issuer/issuer/kafka/Topic" := Exa.start ev_w_Topic_REFUSED nl19
  obtain ⟨w_Topic_REFUSED_defaultName, ev_w_Topic_REFUSED_defaultName⟩ := exa_v nl21
  have F_defaultName_w_Topic_REFUSED : Fld s s.heap w_Topic_REFUSED "com/example/issuer/issuer/kafka/Topic" "defaultName" "Ljava/lang/String;" (.ref w_Topic_REFUSED_defaultName) := own_fldR ev_w_Topic_REFUSED ev_w_Topic_REFUSED_defaultName
  have E_w_Topic_REFUSED_defaultName : Exa s s.heap w_Topic_REFUSED_defaultName "java/lang/String" := Exa.start ev_w_Topic_REFUSED_defaultName nl21
  obtain ⟨w_Topic_HISTORY, ev_w_Topic_HISTORY⟩ := exa_v nl22
  have S_w_Topic_HISTORY : Sta s s.heap "com/example/issuer/issuer/kafka/Topic" "HISTORY" "Lcom/example/issuer/issuer/kafka/Topic;" (.ref w_Topic_HISTORY) := Sta.start ev_w_Topic_HISTORY (Or.inr ⟨(hw _ (List.mem_of_getElem? (i := 6) rfl)), (hw _ (List.mem_of_getElem? (i := 35) rfl))⟩)
  have E_w_Topic_HISTORY : Exa s s.heap w_Topic_HISTORY "com/example/issuer/issuer/kafka/Topic" := Exa.start ev_w_Topic_HISTORY nl22
  obtain ⟨w_Topic_HISTORY_suffix, ev_w_Topic_HISTORY_suffix⟩ := exa_v nl23
  have F_suffix_w_Topic_HISTORY : Fld s s.heap w_Topic_HISTORY "com/example/issuer/issuer/kafka/Topic" "suffix" "Ljava/lang/String;" (.ref w_Topic_HISTORY_suffix) := own_fldR ev_w_Topic_HISTORY ev_w_Topic_HISTORY_suffix
  have E_w_Topic_HISTORY_suffix : Exa s s.heap w_Topic_HISTORY_suffix "java/lang/String" := Exa.start ev_w_Topic_HISTORY_suffix nl23
  have F_suffix_w_Topic_INPUT : Fld s s.heap w_Topic_INPUT "com/example/issuer/issuer/kafka/Topic" "suffix" "Ljava/lang/String;" .null := own_fldN ev_w_Topic_INPUT nl2
  have F_suffix_w_Topic_REJECTED : Fld s s.heap w_Topic_REJECTED "com/example/issuer/issuer/kafka/Topic" "suffix" "Ljava/lang/String;" .null := own_fldN ev_w_Topic_REJECTED nl5
  have F_defaultName_w_Topic_BLOCK_LIST : Fld s s.heap w_Topic_BLOCK_LIST "com/example/issuer/issuer/kafka/Topic" "defaultName" "Ljava/lang/String;" .null := own_fldN ev_w_Topic_BLOCK_LIST nl9
  have F_defaultName_w_Topic_DECIDED : Fld s s.heap w_Topic_DECIDED "com/example/issuer/issuer/kafka/Topic" "defaultName" "Ljava/lang/String;" .null := own_fldN ev_w_Topic_DECIDED nl12
  have F_suffix_w_Topic_ALERT : Fld s s.heap w_Topic_ALERT "com/example/issuer/issuer/kafka/Topic" "suffix" "Ljava/lang/String;" .null := own_fldN ev_w_Topic_ALERT nl14
  have F_suffix_w_Topic_DECISION : Fld s s.heap w_Topic_DECISION "com/example/issuer/issuer/kafka/Topic" "suffix" "Ljava/lang/String;" .null := own_fldN ev_w_Topic_DECISION nl17
  have F_suffix_w_Topic_REFUSED : Fld s s.heap w_Topic_REFUSED "com/example/issuer/issuer/kafka/Topic" "suffix" "Ljava/lang/String;" .null := own_fldN ev_w_Topic_REFUSED nl20
  have F_defaultName_w_Topic_HISTORY : Fld s s.heap w_Topic_HISTORY "com/example/issuer/issuer/kafka/Topic" "defaultName" "Ljava/lang/String;" .null := own_fldN ev_w_Topic_HISTORY nr23
  obtain ⟨n, o, h1, h2, h3, _, L, rfl, ⟨rfl, N⟩, hq⟩ := rm0 l s _ hw tables_1 i0 w_Topic_INPUT w_Topic_INPUT_defaultName w_Topic_REJECTED w_Topic_REJECTED_defaultName w_Topic_BLOCK_LIST w_Topic_BLOCK_LIST_suffix w_Topic_DECIDED w_Topic_DECIDED_suffix w_Topic_ALERT w_Topic_ALERT_defaultName w_Topic_DECISION w_Topic_DECISION_defaultName w_Topic_REFUSED w_Topic_REFUSED_defaultName w_Topic_HISTORY w_Topic_HISTORY_suffix s.heap s.heap.size (Old.start s) ⟨S_w_Topic_INPUT, E_w_Topic_INPUT, F_defaultName_w_Topic_INPUT, E_w_Topic_INPUT_defaultName, S_w_Topic_REJECTED, E_w_Topic_REJECTED, F_defaultName_w_Topic_REJECTED, E_w_Topic_REJECTED_defaultName, S_w_Topic_BLOCK_LIST, E_w_Topic_BLOCK_LIST, F_suffix_w_Topic_BLOCK_LIST, E_w_Topic_BLOCK_LIST_suffix, S_w_Topic_DECIDED, E_w_Topic_DECIDED, F_suffix_w_Topic_DECIDED, E_w_Topic_DECIDED_suffix, S_w_Topic_ALERT, E_w_Topic_ALERT, F_defaultName_w_Topic_ALERT, E_w_Topic_ALERT_defaultName, S_w_Topic_DECISION, E_w_Topic_DECISION, F_defaultName_w_Topic_DECISION, E_w_Topic_DECISION_defaultName, S_w_Topic_REFUSED, E_w_Topic_REFUSED, F_defaultName_w_Topic_REFUSED, E_w_Topic_REFUSED_defaultName, S_w_Topic_HISTORY, E_w_Topic_HISTORY, F_suffix_w_Topic_HISTORY, E_w_Topic_HISTORY_suffix, F_suffix_w_Topic_INPUT, F_suffix_w_Topic_REJECTED, F_defaultName_w_Topic_BLOCK_LIST, F_defaultName_w_Topic_DECIDED, F_suffix_w_Topic_ALERT, F_suffix_w_Topic_DECISION, F_suffix_w_Topic_REFUSED, F_defaultName_w_Topic_HISTORY⟩ p e ha hc hk s m _ below hf ((Spec.applies_iff_loose hf).mp happ).1 ⟨rfl, State.Warmed39.refl s, rfl⟩ trivial
  refine ⟨n, _, h1, h2, h3, hpost _ _ _ _ _ _ ⟨Cond.after_iff.mpr rfl, Cond.after_iff.mpr (eq_i res_at (Term.int_eval (1)) rfl), trivial⟩ ⟨hq.1, hq.2.1, (hq.2.2.sift fun y hy => Or.inr (N y hy)).mono (by decide) (by decide)⟩⟩
theorem main_1_1 : Claimed_1_1 := comes_1 fun _ _ _ _ _ _ h hF => ⟨h.1, hF⟩
theorem main_1_2 : Claimed_1_2 := comes_1 fun _ _ _ _ _ _ h hF => ⟨h.2.1, hF⟩
end Jvm.Pilot.@@N@@
namespace Jvm.Pilot.@@N@@
open Jvm Jvm.ClassFile Sem Op Lib Jvm.Free Jvm.Stand Jvm.Pilot.@@N@@.Jvm.D
/-! MADE BY PROGRAM (witnessworld.py) out of the Statement's table words and the real class files: 15 classes; the members and pool entries that the words name. The judged class is class 1, her method 2. -/
namespace start1
open Jvm.ClassFile
def u (s : String) : CpInfo := .utf8 (stringToUtf16 s)
/-- a pool by its gaps: so many unusable entries, then the entry; so many at the end -/
def gap : Nat → List CpInfo → List CpInfo
  | 0, r => r
  | n + 1, r => .unusable :: gap n r
def poolList (es : List (Nat × CpInfo)) (last : Nat) : List CpInfo := es.foldr (fun e r => gap e.1 (e.2 :: r)) (gap last [])
def pool (es : List (Nat × CpInfo)) (last : Nat) : Array CpInfo := ⟨poolList es last⟩
def fileOf (pool : Array CpInfo) (this : Nat) (attrs : Array Attribute := #[]) (ms : Array MethodInfo := #[]) (fl : Nat := 33) (sup : Nat := 0) (ifs : Array Nat := #[]) (fds : Array FieldInfo := #[]) : ClassFile where
  minorVersion := 0
  majorVersion := 65
  constantPool := pool
  accessFlags := fl
  thisClass := this
  superClass := sup
  interfaces := ifs
  fields := fds
  methods := ms
  attributes := attrs
def plain (name : String) (sup : Option ClassId) : Class where
  name := name
  kind := .ordinary
  loader := none
  accessFlags := 33
  super := sup
  interfaces := #[]
  cf := none
  fields := #[]
  methods := #[]
  instanceTypes := #[]
  staticTypes := #[]
  resolved := #[]
  callSites := []
  init := .initialized
  statics := none
  mirror := none

def pool0 : Array CpInfo := pool [(5, u "<init>"), (0, u "()V"), (1, .class_ 10), (1, u "java/lang/Object")] 113

def k0m0 : Method := { name := "<init>", desc := "()V", sig := { parameters := [], returnType := none }, accessFlags := 1, code := none }
/-- java/lang/Object -/
def k0 : Class := { plain "java/lang/Object" none with
  accessFlags := 33
  interfaces := #[]
  cf := some (fileOf pool0 8 #[] #[{ accessFlags := 1, nameIndex := 5, descriptorIndex := 6, attributes := #[] }] 33 0 #[] #[])
  fields := #[]
  methods := #[k0m0]
  instanceTypes := #[]
  staticTypes := #[]
  resolved := Array.replicate 124 none
  statics := none }

def pool1 : Array CpInfo := pool [(2, .class_ 4), (1, u "java/lang/Object"), (0, u "<init>"), (0, u "()V"), (0, .fieldref 8 9), (0, .class_ 10), (0, .nameAndType 11 12), (0, u "com/example/issuer/issuer/kafka/Topic"), (0, u "INPUT"), (0, u "Lcom/example/issuer/issuer/kafka/Topic;"), (0, .fieldref 8 14), (0, .nameAndType 15 12), (0, u "DECISION"), (0, .fieldref 8 17), (0, .nameAndType 18 12), (0, u "ALERT"), (0, .fieldref 8 20), (0, .nameAndType 21 12), (0, u "REJECTED"), (0, .fieldref 8 23), (0, .nameAndType 24 12), (0, u "REFUSED"), (0, .fieldref 8 26), (0, .nameAndType 27 12), (0, u "HISTORY"), (0, .fieldref 8 29), (0, .nameAndType 30 12), (0, u "BLOCK_LIST"), (0, .fieldref 8 32), (0, .nameAndType 33 12), (0, u "DECIDED"), (0, .integer 2147483647), (0, .methodref 36 37), (0, .class_ 38), (0, .nameAndType 39 40), (0, u "com/example/issuer/issuer/kafka/TopicIsKeptPinLaw"), (0, u "pick"), (0, u "(I)Lcom/example/issuer/issuer/kafka/Topic;"), (0, .methodref 8 42), (0, .nameAndType 43 44), (0, u "isKept"), (0, u "()Z"), (0, .methodref 8 46), (0, .nameAndType 47 48), (0, u "getDefaultName"), (0, u "()Ljava/lang/String;"), (3, u "law"), (0, u "(I)Z")] 2

def k1m0 : Method := { name := "<init>", desc := "()V", sig := { parameters := [], returnType := none }, accessFlags := 1, code := none }
def k1c1 : Code := { maxStack := 2, maxLocals := 1, code := method_2_code, exceptionTable := #[], attributes := #[] }
def k1m1 : Method := { name := "pick", desc := "(I)Lcom/example/issuer/issuer/kafka/Topic;", sig := { parameters := [.int], returnType := some (.object "com/example/issuer/issuer/kafka/Topic") }, accessFlags := 10, code := some k1c1 }
def k1c2 : Code := { maxStack := 2, maxLocals := 5, code := code, exceptionTable := #[], attributes := #[] }
def k1m2 : Method := { name := "law", desc := "(I)Z", sig := { parameters := [.int], returnType := some .boolean }, accessFlags := 9, code := some k1c2 }
/-- com/example/issuer/issuer/kafka/TopicIsKeptPinLaw -/
def k1 : Class := { plain "com/example/issuer/issuer/kafka/TopicIsKeptPinLaw" (some 0) with
  accessFlags := 49
  interfaces := #[]
  cf := some (fileOf pool1 36 #[] #[{ accessFlags := 1, nameIndex := 5, descriptorIndex := 6, attributes := #[] }, { accessFlags := 10, nameIndex := 39, descriptorIndex := 40, attributes := #[] }, { accessFlags := 9, nameIndex := 52, descriptorIndex := 53, attributes := #[] }] 49 2 #[] #[])
  fields := #[]
  methods := #[k1m0, k1m1, k1m2]
  instanceTypes := #[]
  staticTypes := #[]
  resolved := Array.replicate 56 none
  statics := none }

def pool2 : Array CpInfo := pool [(1, .class_ 2), (0, u "java/lang/constant/Constable"), (0, .class_ 4), (0, u "java/lang/Object")] 6

/-- java/lang/constant/Constable -/
def k2 : Class := { plain "java/lang/constant/Constable" (some 0) with
  accessFlags := 1537
  interfaces := #[]
  cf := some (fileOf pool2 1 #[] #[] 1537 3 #[] #[])
  fields := #[]
  methods := #[]
  instanceTypes := #[]
  staticTypes := #[]
  resolved := Array.replicate 11 none
  statics := none }

def pool3 : Array CpInfo := pool [(1, .class_ 2), (0, u "java/lang/Comparable"), (0, .class_ 4), (0, u "java/lang/Object")] 7

/-- java/lang/Comparable -/
def k3 : Class := { plain "java/lang/Comparable" (some 0) with
  accessFlags := 1537
  interfaces := #[]
  cf := some (fileOf pool3 1 #[] #[] 1537 3 #[] #[])
  fields := #[]
  methods := #[]
  instanceTypes := #[]
  staticTypes := #[]
  resolved := Array.replicate 12 none
  statics := none }

def pool4 : Array CpInfo := pool [(1, .class_ 2), (0, u "java/io/Serializable"), (0, .class_ 4), (0, u "java/lang/Object")] 2

/-- java/io/Serializable -/
def k4 : Class := { plain "java/io/Serializable" (some 0) with
  accessFlags := 1537
  interfaces := #[]
  cf := some (fileOf pool4 1 #[] #[] 1537 3 #[] #[])
  fields := #[]
  methods := #[]
  instanceTypes := #[]
  staticTypes := #[]
  resolved := Array.replicate 7 none
  statics := none }

def pool5 : Array CpInfo := pool [(2, .class_ 4), (1, u "java/lang/Enum"), (0, u "name"), (0, u "Ljava/lang/String;"), (2, u "ordinal"), (0, u "I"), (1, .class_ 14), (1, u "java/lang/Object"), (4, u "hash"), (86, .class_ 108), (1, u "java/lang/Enum$EnumDesc"), (2, .class_ 112), (0, u "java/lang/constant/Constable"), (0, .class_ 114), (0, u "java/lang/Comparable"), (0, .class_ 116), (0, u "java/io/Serializable")] 87

/-- java/lang/Enum -/
def k5 : Class := { plain "java/lang/Enum" (some 0) with
  accessFlags := 1057
  interfaces := #[2, 3, 4]
  cf := some (fileOf pool5 2 #[.nestMembers #[106]] #[] 1057 12 #[111, 113, 115] #[{ accessFlags := 18, nameIndex := 5, descriptorIndex := 6, attributes := #[] }, { accessFlags := 18, nameIndex := 9, descriptorIndex := 10, attributes := #[] }, { accessFlags := 2, nameIndex := 19, descriptorIndex := 10, attributes := #[] }])
  fields := #[{ name := "name", type := (.object "java/lang/String"), accessFlags := 18, slot := 0, constantValue := 0 }, { name := "ordinal", type := .int, accessFlags := 18, slot := 1, constantValue := 0 }, { name := "hash", type := .int, accessFlags := 2, slot := 2, constantValue := 0 }]
  methods := #[]
  instanceTypes := #[(.object "java/lang/String"), .int, .int]
  staticTypes := #[]
  resolved := Array.replicate 204 none
  statics := none }

def pool6 : Array CpInfo := pool [(1, .class_ 2), (0, u "com/example/issuer/issuer/kafka/Topic"), (2, u "INPUT"), (0, u "Lcom/example/issuer/issuer/kafka/Topic;"), (2, u "DECISION"), (2, u "ALERT"), (2, u "REJECTED"), (2, u "REFUSED"), (2, u "HISTORY"), (2, u "BLOCK_LIST"), (2, u "DECIDED"), (2, u "$VALUES"), (0, u "[Lcom/example/issuer/issuer/kafka/Topic;"), (6, .class_ 40), (1, u "java/lang/Enum"), (8, u "option"), (0, u "Ljava/lang/String;"), (0, .fieldref 1 52), (0, .nameAndType 53 50), (0, u "defaultName"), (0, .fieldref 1 55), (0, .nameAndType 56 50), (0, u "suffix"), (59, u "()Ljava/lang/String;"), (0, u "getDefaultName"), (0, u "isKept"), (0, u "()Z")] 24

def k6c0 : Code := { maxStack := 1, maxLocals := 1, code := prog_6_method_5_code, exceptionTable := #[], attributes := #[] }
def k6m0 : Method := { name := "getDefaultName", desc := "()Ljava/lang/String;", sig := { parameters := [], returnType := some (.object "java/lang/String") }, accessFlags := 1, code := some k6c0 }
def k6c1 : Code := { maxStack := 1, maxLocals := 1, code := prog_6_method_6_code, exceptionTable := #[], attributes := #[] }
def k6m1 : Method := { name := "isKept", desc := "()Z", sig := { parameters := [], returnType := some .boolean }, accessFlags := 1, code := some k6c1 }
/-- com/example/issuer/issuer/kafka/Topic -/
def k6 : Class := { plain "com/example/issuer/issuer/kafka/Topic" (some 5) with
  accessFlags := 16433
  interfaces := #[]
  cf := some (fileOf pool6 1 #[] #[{ accessFlags := 1, nameIndex := 117, descriptorIndex := 116, attributes := #[] }, { accessFlags := 1, nameIndex := 118, descriptorIndex := 119, attributes := #[] }] 16433 38 #[] #[{ accessFlags := 16409, nameIndex := 5, descriptorIndex := 6, attributes := #[] }, { accessFlags := 16409, nameIndex := 9, descriptorIndex := 6, attributes := #[] }, { accessFlags := 16409, nameIndex := 12, descriptorIndex := 6, attributes := #[] }, { accessFlags := 16409, nameIndex := 15, descriptorIndex := 6, attributes := #[] }, { accessFlags := 16409, nameIndex := 18, descriptorIndex := 6, attributes := #[] }, { accessFlags := 16409, nameIndex := 21, descriptorIndex := 6, attributes := #[] }, { accessFlags := 16409, nameIndex := 24, descriptorIndex := 6, attributes := #[] }, { accessFlags := 16409, nameIndex := 27, descriptorIndex := 6, attributes := #[] }, { accessFlags := 18, nameIndex := 49, descriptorIndex := 50, attributes := #[] }, { accessFlags := 18, nameIndex := 53, descriptorIndex := 50, attributes := #[] }, { accessFlags := 18, nameIndex := 56, descriptorIndex := 50, attributes := #[] }, { accessFlags := 4122, nameIndex := 30, descriptorIndex := 31, attributes := #[] }])
  fields := #[{ name := "INPUT", type := (.object "com/example/issuer/issuer/kafka/Topic"), accessFlags := 16409, slot := 0, constantValue := 0 }, { name := "DECISION", type := (.object "com/example/issuer/issuer/kafka/Topic"), accessFlags := 16409, slot := 1, constantValue := 0 }, { name := "ALERT", type := (.object "com/example/issuer/issuer/kafka/Topic"), accessFlags := 16409, slot := 2, constantValue := 0 }, { name := "REJECTED", type := (.object "com/example/issuer/issuer/kafka/Topic"), accessFlags := 16409, slot := 3, constantValue := 0 }, { name := "REFUSED", type := (.object "com/example/issuer/issuer/kafka/Topic"), accessFlags := 16409, slot := 4, constantValue := 0 }, { name := "HISTORY", type := (.object "com/example/issuer/issuer/kafka/Topic"), accessFlags := 16409, slot := 5, constantValue := 0 }, { name := "BLOCK_LIST", type := (.object "com/example/issuer/issuer/kafka/Topic"), accessFlags := 16409, slot := 6, constantValue := 0 }, { name := "DECIDED", type := (.object "com/example/issuer/issuer/kafka/Topic"), accessFlags := 16409, slot := 7, constantValue := 0 }, { name := "option", type := (.object "java/lang/String"), accessFlags := 18, slot := 3, constantValue := 0 }, { name := "defaultName", type := (.object "java/lang/String"), accessFlags := 18, slot := 4, constantValue := 0 }, { name := "suffix", type := (.object "java/lang/String"), accessFlags := 18, slot := 5, constantValue := 0 }, { name := "$VALUES", type := (.array (.object "com/example/issuer/issuer/kafka/Topic")), accessFlags := 4122, slot := 8, constantValue := 0 }]
  methods := #[k6m0, k6m1]
  instanceTypes := #[(.object "java/lang/String"), .int, .int, (.object "java/lang/String"), (.object "java/lang/String"), (.object "java/lang/String")]
  staticTypes := #[(.object "com/example/issuer/issuer/kafka/Topic"), (.object "com/example/issuer/issuer/kafka/Topic"), (.object "com/example/issuer/issuer/kafka/Topic"), (.object "com/example/issuer/issuer/kafka/Topic"), (.object "com/example/issuer/issuer/kafka/Topic"), (.object "com/example/issuer/issuer/kafka/Topic"), (.object "com/example/issuer/issuer/kafka/Topic"), (.object "com/example/issuer/issuer/kafka/Topic"), (.array (.object "com/example/issuer/issuer/kafka/Topic"))]
  resolved := Array.replicate 144 none
  statics := some 0 }

def pool7 : Array CpInfo := pool [(2, .class_ 4), (1, u "java/lang/CharSequence"), (42, .class_ 48), (0, u "java/lang/CharSequence$1CodePointIterator"), (10, .class_ 60), (0, u "java/lang/CharSequence$1CharIterator"), (5, .class_ 67), (0, u "java/lang/Object")] 63

/-- java/lang/CharSequence -/
def k7 : Class := { plain "java/lang/CharSequence" (some 0) with
  accessFlags := 1537
  interfaces := #[]
  cf := some (fileOf pool7 2 #[.nestMembers #[47, 59]] #[] 1537 66 #[] #[])
  fields := #[]
  methods := #[]
  instanceTypes := #[]
  staticTypes := #[]
  resolved := Array.replicate 131 none
  statics := none }

def pool8 : Array CpInfo := pool [(1, .class_ 2), (0, u "java/lang/constant/ConstantDesc"), (0, .class_ 4), (0, u "java/lang/Object")] 32

/-- java/lang/constant/ConstantDesc -/
def k8 : Class := { plain "java/lang/constant/ConstantDesc" (some 0) with
  accessFlags := 1537
  interfaces := #[]
  cf := some (fileOf pool8 1 #[] #[] 1537 3 #[] #[])
  fields := #[]
  methods := #[]
  instanceTypes := #[]
  staticTypes := #[]
  resolved := Array.replicate 37 none
  statics := none }

def pool9 : Array CpInfo := pool [(2, .class_ 4), (1, u "java/lang/Object"), (0, u "<init>"), (0, u "()V"), (3, .class_ 12), (1, u "java/lang/String"), (0, u "value"), (0, u "[B"), (2, u "coder"), (0, u "B"), (2, u "hash"), (0, u "I"), (2, u "hashIsZero"), (0, u "Z"), (13, u "COMPACT_STRINGS"), (534, .class_ 576), (0, u "java/lang/CharSequence"), (22, u "CASE_INSENSITIVE_ORDER"), (0, u "Ljava/util/Comparator;"), (500, u "serialPersistentFields"), (0, u "[Ljava/io/ObjectStreamField;"), (0, .class_ 1104), (0, u "java/lang/String$CaseInsensitiveComparator"), (1, .class_ 1107), (0, u "java/io/Serializable"), (0, .class_ 1109), (0, u "java/lang/Comparable"), (0, .class_ 1111), (0, u "java/lang/constant/Constable"), (0, .class_ 1113), (0, u "java/lang/constant/ConstantDesc"), (2, u "serialVersionUID"), (0, u "J"), (3, u "REPL"), (0, u "C"), (2, u "LATIN1"), (1, u "UTF16")] 323

def k9m0 : Method := { name := "<init>", desc := "()V", sig := { parameters := [], returnType := none }, accessFlags := 1, code := none }
/-- java/lang/String -/
def k9 : Class := { plain "java/lang/String" (some 0) with
  accessFlags := 49
  interfaces := #[4, 3, 7, 2, 8]
  cf := some (fileOf pool9 10 #[.nestMembers #[1103]] #[{ accessFlags := 1, nameIndex := 5, descriptorIndex := 6, attributes := #[] }] 49 2 #[1106, 1108, 575, 1110, 1112] #[{ accessFlags := 18, nameIndex := 13, descriptorIndex := 14, attributes := #[] }, { accessFlags := 18, nameIndex := 17, descriptorIndex := 18, attributes := #[] }, { accessFlags := 2, nameIndex := 21, descriptorIndex := 22, attributes := #[] }, { accessFlags := 2, nameIndex := 25, descriptorIndex := 26, attributes := #[] }, { accessFlags := 26, nameIndex := 1116, descriptorIndex := 1117, attributes := #[] }, { accessFlags := 24, nameIndex := 40, descriptorIndex := 26, attributes := #[] }, { accessFlags := 26, nameIndex := 1101, descriptorIndex := 1102, attributes := #[] }, { accessFlags := 26, nameIndex := 1121, descriptorIndex := 1122, attributes := #[] }, { accessFlags := 25, nameIndex := 599, descriptorIndex := 600, attributes := #[] }, { accessFlags := 24, nameIndex := 1125, descriptorIndex := 18, attributes := #[] }, { accessFlags := 24, nameIndex := 1127, descriptorIndex := 18, attributes := #[] }])
  fields := #[{ name := "value", type := (.array .byte), accessFlags := 18, slot := 0, constantValue := 0 }, { name := "coder", type := .byte, accessFlags := 18, slot := 1, constantValue := 0 }, { name := "hash", type := .int, accessFlags := 2, slot := 2, constantValue := 0 }, { name := "hashIsZero", type := .boolean, accessFlags := 2, slot := 3, constantValue := 0 }, { name := "serialVersionUID", type := .long, accessFlags := 26, slot := 0, constantValue := 0 }, { name := "COMPACT_STRINGS", type := .boolean, accessFlags := 24, slot := 1, constantValue := 0 }, { name := "serialPersistentFields", type := (.array (.object "java/io/ObjectStreamField")), accessFlags := 26, slot := 2, constantValue := 0 }, { name := "REPL", type := .char, accessFlags := 26, slot := 3, constantValue := 0 }, { name := "CASE_INSENSITIVE_ORDER", type := (.object "java/util/Comparator"), accessFlags := 25, slot := 4, constantValue := 0 }, { name := "LATIN1", type := .byte, accessFlags := 24, slot := 5, constantValue := 0 }, { name := "UTF16", type := .byte, accessFlags := 24, slot := 6, constantValue := 0 }]
  methods := #[k9m0]
  instanceTypes := #[(.array .byte), .byte, .int, .boolean]
  staticTypes := #[.long, .boolean, (.array (.object "java/io/ObjectStreamField")), .char, (.object "java/util/Comparator"), .byte, .byte]
  resolved := Array.replicate 1451 none
  statics := none }

def pool10 : Array CpInfo := pool [(1, u "java/lang/Cloneable"), (0, .class_ 1), (0, u "java/lang/Object"), (0, .class_ 3)] 3

/-- java/lang/Cloneable -/
def k10 : Class := { plain "java/lang/Cloneable" (some 0) with
  accessFlags := 1537
  interfaces := #[]
  cf := some (fileOf pool10 2 #[] #[] 1537 4 #[] #[])
  fields := #[]
  methods := #[]
  instanceTypes := #[]
  staticTypes := #[]
  resolved := Array.replicate 8 none
  statics := none }

/-- the primitive byte -/
def k11 : Class := { plain "byte" none with kind := .primitive 'B', accessFlags := 0x411 }
/-- [B -/
def k12 : Class := { plain "[B" (some 0) with kind := .array 11 .byte, interfaces := #[10, 4], accessFlags := 1041 }

/-- the primitive int -/
def k13 : Class := { plain "int" none with kind := .primitive 'I', accessFlags := 0x411 }
/-- [I -/
def k14 : Class := { plain "[I" (some 0) with kind := .array 13 .int, interfaces := #[10, 4], accessFlags := 1041 }

def heap : Heap := #[{ cls := 6, slots := #[.ref 1, .ref 6, .ref 5, .ref 2, .ref 7, .ref 8, .ref 3, .ref 4, .null], vm := .statics 6 },
  { cls := 6, slots := #[.null, .int 0, .int 0, .null, .ref 9, .null], vm := .none },
  { cls := 6, slots := #[.null, .int 0, .int 0, .null, .ref 10, .null], vm := .none },
  { cls := 6, slots := #[.null, .int 0, .int 0, .null, .null, .ref 11], vm := .none },
  { cls := 6, slots := #[.null, .int 0, .int 0, .null, .null, .ref 12], vm := .none },
  { cls := 6, slots := #[.null, .int 0, .int 0, .null, .ref 13, .null], vm := .none },
  { cls := 6, slots := #[.null, .int 0, .int 0, .null, .ref 14, .null], vm := .none },
  { cls := 6, slots := #[.null, .int 0, .int 0, .null, .ref 15, .null], vm := .none },
  { cls := 6, slots := #[.null, .int 0, .int 0, .null, .null, .ref 16], vm := .none },
  { cls := 9, slots := #[.null, .int 0, .int 0, .int 0], vm := .none },
  { cls := 9, slots := #[.null, .int 0, .int 0, .int 0], vm := .none },
  { cls := 9, slots := #[.null, .int 0, .int 0, .int 0], vm := .none },
  { cls := 9, slots := #[.null, .int 0, .int 0, .int 0], vm := .none },
  { cls := 9, slots := #[.null, .int 0, .int 0, .int 0], vm := .none },
  { cls := 9, slots := #[.null, .int 0, .int 0, .int 0], vm := .none },
  { cls := 9, slots := #[.null, .int 0, .int 0, .int 0], vm := .none },
  { cls := 9, slots := #[.null, .int 0, .int 0, .int 0], vm := .none }]
def classes : Array Class := #[k0, k1, k2, k3, k4, k5, k6, k7, k8, k9, k10, k11, k12, k13, k14]
def interned : List (Array UInt16 × Addr) := []
def slotsUsed : Nat := 89
def theMethod : MethodId := ⟨1, 2⟩
def args0 : Array Value := #[.int 5]
def aboutOver (below : List Frame) : State where
  vm := { classes := classes, interned := interned.toArray }
  heap := heap
  slotsUsed := slotsUsed
  threads := #[{ frames := .invoking theMethod args0 :: below }]
def below0 : List Frame := [.native { method := ⟨0, 0⟩, args := #[] }]
def about1 : State := aboutOver below0
def p0 : Program := .bare "" "" ""
def e0 : Env := launch0.env 0 0 0
theorem w_frames : about1.frames = Frame.invoking theMethod args0 :: below0 := rfl
set_option maxRecDepth 65536 in
theorem w_args : argsFit about1.vm theMethod args0 = true := by decide +kernel
set_option maxRecDepth 65536 in
theorem w_heap : heapFits about1 = true := by decide +kernel
set_option maxRecDepth 65536 in
theorem w_runnable : about1.curStatus? = some .runnable := by decide +kernel
set_option maxRecDepth 65536 in
theorem w_alone : about1.alone = true := by decide +kernel
set_option maxRecDepth 65536 in
theorem w_named : about1.methodNamed? x = some theMethod := by decide +kernel
set_option maxRecDepth 65536 in
theorem w_hears : about1.hears theMethod below0 = true := by decide +kernel
set_option maxRecDepth 65536 in
theorem w_ripe : about1.ripe theMethod args0 below0 = true := by decide +kernel
theorem w_running : about1.status = .running := rfl
set_option maxRecDepth 65536 in
theorem w_room : about1.hasRoom e0.platform room_1 = true :=
  launch0.hasRoom_least _ room_1 (by decide +kernel) (by decide +kernel) (by decide +kernel) (by decide +kernel) (by decide +kernel) (by decide +kernel)
theorem allAtoms_all (ts : List Jvm.Cond) (a : Array Jvm.Value) (st : Jvm.State) : (allAtoms ts).before a st = ts.all (fun c => c.before a st) := by
  induction ts with
  | nil => rfl
  | cons c t ih =>
    show (Jvm.Cond.and c (allAtoms t)).before a st = _
    rw [Jvm.Cond.before_and, ih, List.all_cons]
def words1 : List Jvm.Cond := Jvm.Cond.code x code maxLocals ret :: tables_1
/-- a 'code' word, met by the world's own term for the bytes: nothing is compared byte by byte -/
theorem code_word {y : MethodName} {bytes : ByteArray} {mx : Nat} {rt : Option FieldType} {a : Array Value} {s : State} {m : MethodId} {meth : Method} {c : Code} (h1 : s.methodNamed? y = some m) (h2 : s.vm.method? m = some meth) (h3 : meth.code = some c) (h4 : c.code = bytes)
    (h5 : (c.maxLocals == mx && c.exceptionTable.isEmpty && decide (c.maxStack ≤ mostOperands) && decide (meth.sig.returnType = rt) && !meth.locks && decide (parseMethodDescriptor y.desc = some meth.sig)) = true) : (Jvm.Cond.code y bytes mx rt).before a s = true := by
  simp only [Bool.and_eq_true, beq_iff_eq, Bool.not_eq_true', decide_eq_true_eq] at h5
  obtain ⟨⟨⟨⟨⟨g1, g2⟩, g3⟩, g4⟩, g5⟩, g6⟩ := h5
  simp [Cond.before, Cond.holds, Cond.value, h1, h2, h3, h4, g1, g2, g3, g4, g5, g6]
def isCode : Jvm.Cond → Bool
  | .code _ _ _ _ => true
  | _ => false
theorem all_split {L : List Jvm.Cond} {P : Jvm.Cond → Bool} (h1 : L.all (fun c => isCode c || P c) = true) (h2 : ∀ c ∈ L.filter isCode, P c = true) : L.all P = true := by
  refine List.all_eq_true.mpr fun c hc => ?_
  have h := List.all_eq_true.mp h1 c hc
  rcases Bool.eq_false_or_eq_true (isCode c) with hi | hi
  · exact h2 c (List.mem_filter.mpr ⟨hc, hi⟩)
  · simpa [hi] using h
set_option maxRecDepth 65536 in
theorem w_c0 : (Jvm.Cond.code x code maxLocals ret).before args0 about1 = true := code_word (m := ⟨1, 2⟩) (meth := k1m2) (c := k1c2) (by decide +kernel) rfl rfl rfl (by decide +kernel)
set_option maxRecDepth 65536 in
theorem w_c1 : (Jvm.Cond.code ({ cls := "com/example/issuer/issuer/kafka/TopicIsKeptPinLaw", name := "pick", desc := "(I)Lcom/example/issuer/issuer/kafka/Topic;" } : Jvm.MethodName) method_2_code (1 : Nat) (Option.some (Jvm.ClassFile.FieldType.object "com/example/issuer/issuer/kafka/Topic"))).before args0 about1 = true := code_word (m := ⟨1, 1⟩) (meth := k1m1) (c := k1c1) (by decide +kernel) rfl rfl rfl (by decide +kernel)
set_option maxRecDepth 65536 in
theorem w_c2 : (Jvm.Cond.code ({ cls := "com/example/issuer/issuer/kafka/Topic", name := "isKept", desc := "()Z" } : Jvm.MethodName) prog_6_method_6_code (1 : Nat) (Option.some Jvm.ClassFile.FieldType.boolean)).before args0 about1 = true := code_word (m := ⟨6, 1⟩) (meth := k6m1) (c := k6c1) (by decide +kernel) rfl rfl rfl (by decide +kernel)
set_option maxRecDepth 65536 in
theorem w_c3 : (Jvm.Cond.code ({ cls := "com/example/issuer/issuer/kafka/Topic", name := "getDefaultName", desc := "()Ljava/lang/String;" } : Jvm.MethodName) prog_6_method_5_code (1 : Nat) (Option.some (Jvm.ClassFile.FieldType.object "java/lang/String"))).before args0 about1 = true := code_word (m := ⟨6, 0⟩) (meth := k6m0) (c := k6c0) (by decide +kernel) rfl rfl rfl (by decide +kernel)
def codes1 : List Jvm.Cond := [Jvm.Cond.code x code maxLocals ret, Jvm.Cond.code ({ cls := "com/example/issuer/issuer/kafka/TopicIsKeptPinLaw", name := "pick", desc := "(I)Lcom/example/issuer/issuer/kafka/Topic;" } : Jvm.MethodName) method_2_code (1 : Nat) (Option.some (Jvm.ClassFile.FieldType.object "com/example/issuer/issuer/kafka/Topic")), Jvm.Cond.code ({ cls := "com/example/issuer/issuer/kafka/Topic", name := "isKept", desc := "()Z" } : Jvm.MethodName) prog_6_method_6_code (1 : Nat) (Option.some Jvm.ClassFile.FieldType.boolean), Jvm.Cond.code ({ cls := "com/example/issuer/issuer/kafka/Topic", name := "getDefaultName", desc := "()Ljava/lang/String;" } : Jvm.MethodName) prog_6_method_5_code (1 : Nat) (Option.some (Jvm.ClassFile.FieldType.object "java/lang/String"))]
set_option maxRecDepth 65536 in
theorem codes_eq : words1.filter isCode = codes1 := rfl
theorem w_codes : ∀ c ∈ words1.filter isCode, c.before args0 about1 = true := by
  rw [codes_eq]
  intro c hc
  simp only [codes1, List.mem_cons, List.not_mem_nil, or_false] at hc
  rcases hc with rfl | rfl | rfl | rfl
  · exact w_c0
  · exact w_c1
  · exact w_c2
  · exact w_c3
set_option maxRecDepth 65536 in
theorem w_t1 : (words1.take 24).all (fun c => isCode c || c.before args0 about1) = true := by decide +kernel
set_option maxRecDepth 65536 in
theorem w_t2 : (words1.drop 24).all (fun c => isCode c || c.before args0 about1) = true := by decide +kernel
theorem w_tables : (allAtoms (Jvm.Cond.code x code maxLocals ret :: tables_1)).before args0 about1 = true := by
  rw [allAtoms_all]
  show words1.all (fun c => c.before args0 about1) = true
  refine all_split ?_ w_codes
  rw [← List.take_append_drop 24 words1, List.all_append, w_t1, w_t2]
  rfl
set_option maxRecDepth 65536 in
theorem w_case : (Jvm.Cond.and given_1 narrow_1).before args0 about1 = true := by decide +kernel
theorem w_applies : (headSpec (Jvm.Cond.code x code maxLocals ret :: tables_1) room_1).applies x e0.platform about1 = true :=
  (Spec.applies_iff w_frames).mpr ⟨w_running, w_runnable, w_alone, w_named, w_hears, w_ripe, w_room, w_tables⟩
theorem atStart : AtStart classFile x code maxLocals ret World_1 tables_1 room_1 Calls_1 rest_1 Pre_1 launch0 p0 e0 about1 theMethod args0 below0 :=
  ⟨lists_1, trivial, launch0.admits_env _ _ _, launch0.least_env, fairChoices_fair.cas, fairChoices_fair.clock, w_frames, w_args, w_heap, w_applies, trivial, trivial, w_case⟩
end start1
theorem witness_1 : WitnessClaimed_1 := ⟨start1.p0, start1.e0, start1.about1, start1.theMethod, start1.args0, start1.below0, start1.atStart⟩
end Jvm.Pilot.@@N@@
