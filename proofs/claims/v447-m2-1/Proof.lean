import JvmDerived
import JvmDerived.Pilot.@@N@@Statement
import JvmDerived.Pilot.@@N@@Code
set_option linter.unusedVariables false
set_option linter.unusedSimpArgs false
namespace Jvm.Pilot.@@N@@
open Jvm Jvm.ClassFile Sem Op Lib Jvm.Free Jvm.Stand Jvm.LawKit Jvm.RoadKit Bundle Jvm.Pilot.@@N@@.Jvm.D
/-- from A the run comes to B -/
def Go (p : Program) (e : Env) (below : List Frame) (A B : State) : Prop := ∀ t, Steps p.tables e below B t → Steps p.tables e below A t
def own_b (P : Prop) [Decidable P] : Int32 := if P then 1 else 0
theorem own_b1 {P : Prop} [Decidable P] (h : P) : ¬ own_b P = (0 : Int32) := by simp [own_b, h]
theorem own_b0 {P : Prop} [Decidable P] (h : ¬ P) : own_b P = (0 : Int32) := by simp [own_b, h]
theorem own_bt {P : Prop} [Decidable P] (h : P) : own_b P = (1 : Int32) := by simp [own_b, h]
theorem own_nb {P : Prop} [Decidable P] : nar .boolean (own_b P) = own_b P := by by_cases h : P <;> simp [own_b, h] <;> decide
theorem own_beq {P R : Prop} [Decidable P] [Decidable R] (h : P ↔ R) : own_b P = own_b R := by by_cases q : P <;> simp [own_b, q, ← h]
theorem d1_0 : decode method_2_code 0 = .ok (.iload_n 0, 1) := by decide +kernel
theorem d1_1 : decode method_2_code 1 = .ok (.ldc 7, 2) := by decide +kernel
theorem d1_3 : decode method_2_code 3 = .ok (.iand, 1) := by decide +kernel
theorem d1_4 : decode method_2_code 4 = .ok (.bipush 6, 2) := by decide +kernel
theorem d1_6 : decode method_2_code 6 = .ok (.irem, 1) := by decide +kernel
theorem d1_7 : decode method_2_code 7 = .ok (.istore_n 1, 1) := by decide +kernel
theorem d1_8 : decode method_2_code 8 = .ok (.iload_n 1, 1) := by decide +kernel
theorem d1_9 : decode method_2_code 9 = .ok (.ifCond .ne 7, 3) := by decide +kernel
theorem d1_12 : decode method_2_code 12 = .ok (.getstatic 8, 3) := by decide +kernel
theorem d1_15 : decode method_2_code 15 = .ok (.areturn, 1) := by decide +kernel
theorem d1_16 : decode method_2_code 16 = .ok (.iload_n 1, 1) := by decide +kernel
theorem d1_17 : decode method_2_code 17 = .ok (.iconst 1, 1) := by decide +kernel
theorem d1_18 : decode method_2_code 18 = .ok (.if_icmp .ne 7, 3) := by decide +kernel
theorem d1_21 : decode method_2_code 21 = .ok (.getstatic 14, 3) := by decide +kernel
theorem d1_24 : decode method_2_code 24 = .ok (.areturn, 1) := by decide +kernel
theorem d1_25 : decode method_2_code 25 = .ok (.iload_n 1, 1) := by decide +kernel
theorem d1_26 : decode method_2_code 26 = .ok (.iconst 2, 1) := by decide +kernel
theorem d1_27 : decode method_2_code 27 = .ok (.if_icmp .ne 7, 3) := by decide +kernel
theorem d1_30 : decode method_2_code 30 = .ok (.getstatic 17, 3) := by decide +kernel
theorem d1_33 : decode method_2_code 33 = .ok (.areturn, 1) := by decide +kernel
theorem d1_34 : decode method_2_code 34 = .ok (.iload_n 1, 1) := by decide +kernel
theorem d1_35 : decode method_2_code 35 = .ok (.iconst 3, 1) := by decide +kernel
theorem d1_36 : decode method_2_code 36 = .ok (.if_icmp .ne 7, 3) := by decide +kernel
theorem d1_39 : decode method_2_code 39 = .ok (.getstatic 20, 3) := by decide +kernel
theorem d1_42 : decode method_2_code 42 = .ok (.areturn, 1) := by decide +kernel
theorem d1_43 : decode method_2_code 43 = .ok (.iload_n 1, 1) := by decide +kernel
theorem d1_44 : decode method_2_code 44 = .ok (.iconst 4, 1) := by decide +kernel
theorem d1_45 : decode method_2_code 45 = .ok (.if_icmp .ne 7, 3) := by decide +kernel
theorem d1_48 : decode method_2_code 48 = .ok (.getstatic 23, 3) := by decide +kernel
theorem d1_51 : decode method_2_code 51 = .ok (.areturn, 1) := by decide +kernel
theorem d1_52 : decode method_2_code 52 = .ok (.getstatic 26, 3) := by decide +kernel
theorem d1_55 : decode method_2_code 55 = .ok (.areturn, 1) := by decide +kernel
theorem d2_0 : decode prog_85_method_5_code 0 = .ok (.aload_n 0, 1) := by decide +kernel
theorem d2_1 : decode prog_85_method_5_code 1 = .ok (.getstatic 16, 3) := by decide +kernel
theorem d2_4 : decode prog_85_method_5_code 4 = .ok (.if_acmp .eq 14, 3) := by decide +kernel
theorem d2_7 : decode prog_85_method_5_code 7 = .ok (.aload_n 0, 1) := by decide +kernel
theorem d2_8 : decode prog_85_method_5_code 8 = .ok (.getstatic 19, 3) := by decide +kernel
theorem d2_11 : decode prog_85_method_5_code 11 = .ok (.if_acmp .eq 7, 3) := by decide +kernel
theorem d2_14 : decode prog_85_method_5_code 14 = .ok (.iconst 1, 1) := by decide +kernel
theorem d2_15 : decode prog_85_method_5_code 15 = .ok (.goto 4, 3) := by decide +kernel
theorem d2_18 : decode prog_85_method_5_code 18 = .ok (.iconst 0, 1) := by decide +kernel
theorem d2_19 : decode prog_85_method_5_code 19 = .ok (.ireturn, 1) := by decide +kernel
theorem d3_0 : decode prog_85_method_7_code 0 = .ok (.aload_n 0, 1) := by decide +kernel
theorem d3_1 : decode prog_85_method_7_code 1 = .ok (.invokevirtual 45, 3) := by decide +kernel
theorem d3_4 : decode prog_85_method_7_code 4 = .ok (.tableswitch 40 0 5 #[50, 62, 74, 86, 98, 110], 40) := by decide +kernel
theorem d3_54 : decode prog_85_method_7_code 54 = .ok (.iload_n 1, 1) := by decide +kernel
theorem d3_55 : decode prog_85_method_7_code 55 = .ok (.ifCond .ge 7, 3) := by decide +kernel
theorem d3_58 : decode prog_85_method_7_code 58 = .ok (.iconst 1, 1) := by decide +kernel
theorem d3_59 : decode prog_85_method_7_code 59 = .ok (.goto 64, 3) := by decide +kernel
theorem d3_62 : decode prog_85_method_7_code 62 = .ok (.iconst 0, 1) := by decide +kernel
theorem d3_63 : decode prog_85_method_7_code 63 = .ok (.goto 60, 3) := by decide +kernel
theorem d3_66 : decode prog_85_method_7_code 66 = .ok (.iload_n 1, 1) := by decide +kernel
theorem d3_67 : decode prog_85_method_7_code 67 = .ok (.ifCond .gt 7, 3) := by decide +kernel
theorem d3_70 : decode prog_85_method_7_code 70 = .ok (.iconst 1, 1) := by decide +kernel
theorem d3_71 : decode prog_85_method_7_code 71 = .ok (.goto 52, 3) := by decide +kernel
theorem d3_74 : decode prog_85_method_7_code 74 = .ok (.iconst 0, 1) := by decide +kernel
theorem d3_75 : decode prog_85_method_7_code 75 = .ok (.goto 48, 3) := by decide +kernel
theorem d3_78 : decode prog_85_method_7_code 78 = .ok (.iload_n 1, 1) := by decide +kernel
theorem d3_79 : decode prog_85_method_7_code 79 = .ok (.ifCond .le 7, 3) := by decide +kernel
theorem d3_82 : decode prog_85_method_7_code 82 = .ok (.iconst 1, 1) := by decide +kernel
theorem d3_83 : decode prog_85_method_7_code 83 = .ok (.goto 40, 3) := by decide +kernel
theorem d3_86 : decode prog_85_method_7_code 86 = .ok (.iconst 0, 1) := by decide +kernel
theorem d3_87 : decode prog_85_method_7_code 87 = .ok (.goto 36, 3) := by decide +kernel
theorem d3_90 : decode prog_85_method_7_code 90 = .ok (.iload_n 1, 1) := by decide +kernel
theorem d3_91 : decode prog_85_method_7_code 91 = .ok (.ifCond .lt 7, 3) := by decide +kernel
theorem d3_94 : decode prog_85_method_7_code 94 = .ok (.iconst 1, 1) := by decide +kernel
theorem d3_95 : decode prog_85_method_7_code 95 = .ok (.goto 28, 3) := by decide +kernel
theorem d3_98 : decode prog_85_method_7_code 98 = .ok (.iconst 0, 1) := by decide +kernel
theorem d3_99 : decode prog_85_method_7_code 99 = .ok (.goto 24, 3) := by decide +kernel
theorem d3_102 : decode prog_85_method_7_code 102 = .ok (.iload_n 1, 1) := by decide +kernel
theorem d3_103 : decode prog_85_method_7_code 103 = .ok (.ifCond .ne 7, 3) := by decide +kernel
theorem d3_106 : decode prog_85_method_7_code 106 = .ok (.iconst 1, 1) := by decide +kernel
theorem d3_107 : decode prog_85_method_7_code 107 = .ok (.goto 16, 3) := by decide +kernel
theorem d3_110 : decode prog_85_method_7_code 110 = .ok (.iconst 0, 1) := by decide +kernel
theorem d3_111 : decode prog_85_method_7_code 111 = .ok (.goto 12, 3) := by decide +kernel
theorem d3_114 : decode prog_85_method_7_code 114 = .ok (.iload_n 1, 1) := by decide +kernel
theorem d3_115 : decode prog_85_method_7_code 115 = .ok (.ifCond .eq 7, 3) := by decide +kernel
theorem d3_118 : decode prog_85_method_7_code 118 = .ok (.iconst 1, 1) := by decide +kernel
theorem d3_119 : decode prog_85_method_7_code 119 = .ok (.goto 4, 3) := by decide +kernel
theorem d3_122 : decode prog_85_method_7_code 122 = .ok (.iconst 0, 1) := by decide +kernel
theorem d3_123 : decode prog_85_method_7_code 123 = .ok (.ireturn, 1) := by decide +kernel
theorem d4_0 : decode jdk_37_method_2_code 0 = .ok (.aload_n 0, 1) := by decide +kernel
theorem d4_1 : decode jdk_37_method_2_code 1 = .ok (.getfield 7, 3) := by decide +kernel
theorem d4_4 : decode jdk_37_method_2_code 4 = .ok (.ireturn, 1) := by decide +kernel
theorem d5_0 : decode prog_85_method_6_code 0 = .ok (.aload_n 0, 1) := by decide +kernel
theorem d5_1 : decode prog_85_method_6_code 1 = .ok (.invokevirtual 45, 3) := by decide +kernel
theorem d5_4 : decode prog_85_method_6_code 4 = .ok (.tableswitch 40 0 5 #[50, 56, 62, 68, 74, 80], 40) := by decide +kernel
theorem d5_54 : decode prog_85_method_6_code 54 = .ok (.getstatic 13, 3) := by decide +kernel
theorem d5_57 : decode prog_85_method_6_code 57 = .ok (.goto 30, 3) := by decide +kernel
theorem d5_60 : decode prog_85_method_6_code 60 = .ok (.getstatic 10, 3) := by decide +kernel
theorem d5_63 : decode prog_85_method_6_code 63 = .ok (.goto 24, 3) := by decide +kernel
theorem d5_66 : decode prog_85_method_6_code 66 = .ok (.getstatic 7, 3) := by decide +kernel
theorem d5_69 : decode prog_85_method_6_code 69 = .ok (.goto 18, 3) := by decide +kernel
theorem d5_72 : decode prog_85_method_6_code 72 = .ok (.getstatic 3, 3) := by decide +kernel
theorem d5_75 : decode prog_85_method_6_code 75 = .ok (.goto 12, 3) := by decide +kernel
theorem d5_78 : decode prog_85_method_6_code 78 = .ok (.getstatic 19, 3) := by decide +kernel
theorem d5_81 : decode prog_85_method_6_code 81 = .ok (.goto 6, 3) := by decide +kernel
theorem d5_84 : decode prog_85_method_6_code 84 = .ok (.getstatic 16, 3) := by decide +kernel
theorem d5_87 : decode prog_85_method_6_code 87 = .ok (.areturn, 1) := by decide +kernel
theorem pn_0 : plainName "java/lang/Enum" = true := by first | (simp [plainName, overriddenIn]; done) | decide +kernel
theorem pn_1 : plainName "com/example/tube2/tube2/logic/Operator" = true := by first | (simp [plainName, overriddenIn]; done) | decide +kernel
theorem pn_2 : plainName "com/example/tube2/tube2/logic/OperatorIsOrderingPinLaw" = true := by first | (simp [plainName, overriddenIn]; done) | decide +kernel
theorem pd_0 : parseMethodDescriptor "()I" = some ⟨[], some .int⟩ := by decide +kernel
theorem pd_1 : parseMethodDescriptor "(I)Lcom/example/tube2/tube2/logic/Operator;" = some ⟨[.int], some (.object "com/example/tube2/tube2/logic/Operator")⟩ := by decide +kernel
theorem pd_2 : parseMethodDescriptor "()Z" = some ⟨[], some .boolean⟩ := by decide +kernel
theorem pd_3 : parseMethodDescriptor "(I)Z" = some ⟨[.int], some .boolean⟩ := by decide +kernel
theorem pd_4 : parseMethodDescriptor "()Lcom/example/tube2/tube2/logic/Operator;" = some ⟨[], some (.object "com/example/tube2/tube2/logic/Operator")⟩ := by decide +kernel
theorem ef_rm4 (m : MethodId) (x0 : Addr) : entryFrame m #[(.ref x0)] 1 = mkF m 0 #[.val (.ref x0)] [] := by first | (simp [entryFrame, mkF, argsToLocals, Value.category]; done) | rfl
theorem ef_rm2 (m : MethodId) (x0 : Addr) : entryFrame m #[(.ref x0)] 1 = mkF m 0 #[.val (.ref x0)] [] := by first | (simp [entryFrame, mkF, argsToLocals, Value.category]; done) | rfl
theorem ef_rm3_0 (m : MethodId) (x0 : Addr) (x1 : Int32) : entryFrame m #[(.ref x0), (.int x1)] 2 = mkF m 0 #[.val (.ref x0), .val (.int x1)] [] := by first | (simp [entryFrame, mkF, argsToLocals, Value.category]; done) | rfl
theorem ef_rm5_0 (m : MethodId) (x0 : Addr) : entryFrame m #[(.ref x0)] 1 = mkF m 0 #[.val (.ref x0)] [] := by first | (simp [entryFrame, mkF, argsToLocals, Value.category]; done) | rfl
theorem ef_rm3_1 (m : MethodId) (x0 : Addr) (x1 : Int32) : entryFrame m #[(.ref x0), (.int x1)] 2 = mkF m 0 #[.val (.ref x0), .val (.int x1)] [] := by first | (simp [entryFrame, mkF, argsToLocals, Value.category]; done) | rfl
theorem ef_rm5_1 (m : MethodId) (x0 : Addr) : entryFrame m #[(.ref x0)] 1 = mkF m 0 #[.val (.ref x0)] [] := by first | (simp [entryFrame, mkF, argsToLocals, Value.category]; done) | rfl
theorem ef_rm3_2 (m : MethodId) (x0 : Addr) (x1 : Int32) : entryFrame m #[(.ref x0), (.int x1)] 2 = mkF m 0 #[.val (.ref x0), .val (.int x1)] [] := by first | (simp [entryFrame, mkF, argsToLocals, Value.category]; done) | rfl
theorem ef_rm5_2 (m : MethodId) (x0 : Addr) : entryFrame m #[(.ref x0)] 1 = mkF m 0 #[.val (.ref x0)] [] := by first | (simp [entryFrame, mkF, argsToLocals, Value.category]; done) | rfl
theorem ef_rm3_3 (m : MethodId) (x0 : Addr) (x1 : Int32) : entryFrame m #[(.ref x0), (.int x1)] 2 = mkF m 0 #[.val (.ref x0), .val (.int x1)] [] := by first | (simp [entryFrame, mkF, argsToLocals, Value.category]; done) | rfl
theorem ef_rm5_3 (m : MethodId) (x0 : Addr) : entryFrame m #[(.ref x0)] 1 = mkF m 0 #[.val (.ref x0)] [] := by first | (simp [entryFrame, mkF, argsToLocals, Value.category]; done) | rfl
theorem ef_rm3_4 (m : MethodId) (x0 : Addr) (x1 : Int32) : entryFrame m #[(.ref x0), (.int x1)] 2 = mkF m 0 #[.val (.ref x0), .val (.int x1)] [] := by first | (simp [entryFrame, mkF, argsToLocals, Value.category]; done) | rfl
theorem ef_rm5_4 (m : MethodId) (x0 : Addr) : entryFrame m #[(.ref x0)] 1 = mkF m 0 #[.val (.ref x0)] [] := by first | (simp [entryFrame, mkF, argsToLocals, Value.category]; done) | rfl
theorem ef_rm3_5 (m : MethodId) (x0 : Addr) (x1 : Int32) : entryFrame m #[(.ref x0), (.int x1)] 2 = mkF m 0 #[.val (.ref x0), .val (.int x1)] [] := by first | (simp [entryFrame, mkF, argsToLocals, Value.category]; done) | rfl
theorem ef_rm5_5 (m : MethodId) (x0 : Addr) : entryFrame m #[(.ref x0)] 1 = mkF m 0 #[.val (.ref x0)] [] := by first | (simp [entryFrame, mkF, argsToLocals, Value.category]; done) | rfl
theorem ef_rm1 (m : MethodId) (x0 : Int32) : entryFrame m #[(.int x0)] 2 = mkF m 0 #[.val (.int x0), .unset] [] := by first | (simp [entryFrame, mkF, argsToLocals, Value.category]; done) | rfl
theorem ef_rm0 (m : MethodId) (x0 : Int32) (x1 : Int32) : entryFrame m #[(.int x0), (.int x1)] maxLocals = mkF m 0 #[.val (.int x0), .val (.int x1), .unset, .unset, .unset, .unset, .unset] [] := by first | (simp [entryFrame, mkF, argsToLocals, Value.category, maxLocals]; done) | rfl
theorem own_eqI {args : Array Value} {s : State} {t : Term} {k : Int32} (h : (Jvm.Cond.eq t (.int k)).value args s none s [] = some true) : t.eval args s none [] s = some (.int k) := by
  simp only [Cond.value, Term.eval] at h
  cases ht : t.eval args s none [] s with
  | none => simp [ht] at h
  | some x => cases x <;> simp [ht] at h ⊢; exact h
theorem own_eqR {args : Array Value} {s : State} {t u : Term} {b : Addr} (h : (Jvm.Cond.eq t u).value args s none s [] = some true) (hu : u.eval args s none [] s = some (.ref b)) : t.eval args s none [] s = some (.ref b) := by
  simp only [Cond.value, hu] at h
  cases ht : t.eval args s none [] s with
  | none => simp [ht] at h
  | some x => cases x <;> simp [ht] at h ⊢; exact h
theorem own_n (x : Int32) : (0 : Int32) < ((x &&& (2147483647 : Int32)) ||| (1 : Int32)) ∧ (-((x &&& (2147483647 : Int32)) ||| (1 : Int32))) < (0 : Int32) := by
  have a1 := (c_and x 2147483647 (by decide)).1
  have a2 := (c_or0 (x &&& 2147483647) 1 a1 (by decide)).2
  have e1 : (1 : Int32).toInt = 1 := by decide
  have e0 : (0 : Int32).toInt = 0 := by decide
  rw [e1] at a2
  have a3 := c_ineg ((x &&& 2147483647) ||| 1)
  have a4 := rng32 ((x &&& 2147483647) ||| 1)
  have a5 := rng32 (-((x &&& 2147483647) ||| 1))
  rw [Int32.lt_iff_toInt_lt, Int32.lt_iff_toInt_lt, e0]
  constructor <;> omega
theorem own_npos {n : Int32} (h : (0 : Int32) < n) : ¬ n < (0 : Int32) ∧ ¬ n = (0 : Int32) := by
  rw [Int32.lt_iff_toInt_lt] at *
  refine ⟨by omega, fun q => ?_⟩
  subst q; omega
theorem own_nneg {n : Int32} (h : n < (0 : Int32)) : ¬ (0 : Int32) < n ∧ ¬ n = (0 : Int32) := by
  rw [Int32.lt_iff_toInt_lt] at *
  refine ⟨by omega, fun q => ?_⟩
  subst q; omega
def Qr (r : Value) (h0 : Heap) (n0 : Nat) (v : Option Value) (h : Heap) (L : List Loc) : Prop := v = some r ∧ Fr n0 L ∧ h = h0
set_option maxRecDepth 65536 in
set_option maxHeartbeats 40000000 in
theorem rm4 (l : Launch) (Z : State) (a0 : Array Value) (hw : ∀ d ∈ tables_1, d.before a0 Z = true) (ws : List Jvm.Cond) (a : Addr) (o : Int32) (h0 : Heap) (n0 : Nat) (Z0 : n0 ≤ h0.size) (F : Fld Z h0 a "java/lang/Enum" "ordinal" "I" (.int o)) :
    MetFree l (⟨"java/lang/Enum", "ordinal", "()I"⟩ : MethodName) (head1 (Jvm.Cond.code (⟨"java/lang/Enum", "ordinal", "()I"⟩ : MethodName) jdk_37_method_2_code 1 (some .int) :: ws) ({ frames := 0, cells := 0, slots := 0, locals := 0 } : Room)) (fun aa UU => aa = #[(.ref a)] ∧ Z.Warmed39 UU.vm ∧ UU.heap = h0) (fun _ _ _ _ _ => True) (fun _ UU oo U' => ∃ v L, oo = .returned v ∧ Qr (.int o) h0 n0 v U'.heap L ∧ FrameEnd UU oo U' L ({ frames := 0, cells := 0, slots := 0, locals := 0 } : Room).cells ({ frames := 0, cells := 0, slots := 0, locals := 0 } : Room).slots) := by
  refine MetFree.of_bodySF (plainFor_of_name pn_0) hisR ?_
  intro p e s m args below meth c s₁ Bd hml0 hP hK
  obtain ⟨rfl, hZ, hh⟩ := hP
  have hx := Bd.exec
  have hby := Bd.bytes
  have hml : c.maxLocals = 1 := hml0
  have hown : s.vm.findClass "java/lang/Enum" = some m.cls := findClass_of_methodNamed Bd.named
  have hnm := (name_of_methodNamed Bd.named Bd.method).1
  have X0 : Stand p l e ({ frames := 0, cells := 0, slots := 0, locals := 0 } : Room) s m #[(.ref a)] below meth c s₁ [] 0 0 := Stand.of_body Bd
  have e0 : s₁.heap = h0 := by rw [← hh, Bd.state]; rfl
  have N0 := Fr.nil n0
  obtain ⟨A0, hA0⟩ : ∃ A, A = s₁.setTop (entryFrame m #[(.ref a)] 1) := ⟨_, rfl⟩
  have G0 : Go p e below A0 (s₁.setTop (mkF m 0 #[.val (.ref a)] [])) := fun tq kq => by rw [hA0]; exact castTop (ef_rm4 m a) kq
  have G1 : Go p e below A0 (s₁.setTop (mkF m 1 #[.val (.ref a)] [(.ref a)])) := fun tq kq => G0 tq (by
    refine XS.aloadN X0.here hx rfl (hb hby d4_0) rfl rfl ?_
    show Steps p.tables e below (s₁.setTop (mkF m 1 #[.val (.ref a)] [(.ref a)])) _
    exact kq)
  obtain ⟨T2, X2, e2, st2⟩ := getF X0 hx hZ hown (host := "") (Or.inl (hw _ (List.mem_of_getElem? (i := 29) rfl))) Via.refl e0 F (g := (mkF m 1 #[.val (.ref a)] [(.ref a)])) rfl rfl (hb hby d4_1)
  have G3 : Go p e below A0 (T2.setTop (mkF m 4 #[.val (.ref a)] [(.int o)])) := fun tq kq => G1 tq (st2 _ kq)
  obtain ⟨fs, hr, hrun, hended, hW, hsame⟩ := X2.leave (v := some (.int o)) (fun h => by rw [Bd.returns] at h; cases h)
  refine ⟨_, _, (by rw [← hA0]; exact G3 _ (retOut X2 hx (t := .int) Bd.returns rfl (Or.inl ⟨rfl, Or.inl rfl, _, rfl⟩) (hb hby d4_4) hr)), hrun, hended, _, _, rfl, ?_, ⟨_, rfl⟩, hW, hsame.mono (by decide) (by decide)⟩
  exact ⟨rfl, N0, e2⟩
set_option maxRecDepth 65536 in
set_option maxHeartbeats 40000000 in
theorem rm2 (l : Launch) (Z : State) (a0 : Array Value) (hw : ∀ d ∈ tables_1, d.before a0 Z = true) (ws : List Jvm.Cond) (a a_EQUAL a_NOT_EQUAL : Addr) (r : Int32) (h0 : Heap) (n0 : Nat) (Z0 : n0 ≤ h0.size) (S_EQUAL : Sta Z h0 "com/example/tube2/tube2/logic/Operator" "EQUAL" "Lcom/example/tube2/tube2/logic/Operator;" (.ref a_EQUAL)) (S_NOT_EQUAL : Sta Z h0 "com/example/tube2/tube2/logic/Operator" "NOT_EQUAL" "Lcom/example/tube2/tube2/logic/Operator;" (.ref a_NOT_EQUAL)) (hr0 : own_b (¬ a = a_EQUAL ∧ ¬ a = a_NOT_EQUAL) = r) :
    MetFree l (⟨"com/example/tube2/tube2/logic/Operator", "isOrdering", "()Z"⟩ : MethodName) (head1 (Jvm.Cond.code (⟨"com/example/tube2/tube2/logic/Operator", "isOrdering", "()Z"⟩ : MethodName) prog_85_method_5_code 1 (some .boolean) :: ws) ({ frames := 0, cells := 0, slots := 0, locals := 0 } : Room)) (fun aa UU => aa = #[(.ref a)] ∧ Z.Warmed39 UU.vm ∧ UU.heap = h0) (fun _ _ _ _ _ => True) (fun _ UU oo U' => ∃ v L, oo = .returned v ∧ Qr (.int r) h0 n0 v U'.heap L ∧ FrameEnd UU oo U' L ({ frames := 0, cells := 0, slots := 0, locals := 0 } : Room).cells ({ frames := 0, cells := 0, slots := 0, locals := 0 } : Room).slots) := by
  refine MetFree.of_bodySF (plainFor_of_name pn_1) hisR ?_
  intro p e s m args below meth c s₁ Bd hml0 hP hK
  obtain ⟨rfl, hZ, hh⟩ := hP
  have hx := Bd.exec
  have hby := Bd.bytes
  have hml : c.maxLocals = 1 := hml0
  have hown : s.vm.findClass "com/example/tube2/tube2/logic/Operator" = some m.cls := findClass_of_methodNamed Bd.named
  have hnm := (name_of_methodNamed Bd.named Bd.method).1
  have X0 : Stand p l e ({ frames := 0, cells := 0, slots := 0, locals := 0 } : Room) s m #[(.ref a)] below meth c s₁ [] 0 0 := Stand.of_body Bd
  have e0 : s₁.heap = h0 := by rw [← hh, Bd.state]; rfl
  have N0 := Fr.nil n0
  obtain ⟨A0, hA0⟩ : ∃ A, A = s₁.setTop (entryFrame m #[(.ref a)] 1) := ⟨_, rfl⟩
  have G0 : Go p e below A0 (s₁.setTop (mkF m 0 #[.val (.ref a)] [])) := fun tq kq => by rw [hA0]; exact castTop (ef_rm2 m a) kq
  have G4 : Go p e below A0 (s₁.setTop (mkF m 1 #[.val (.ref a)] [(.ref a)])) := fun tq kq => G0 tq (by
    refine XS.aloadN X0.here hx rfl (hb hby d2_0) rfl rfl ?_
    show Steps p.tables e below (s₁.setTop (mkF m 1 #[.val (.ref a)] [(.ref a)])) _
    exact kq)
  obtain ⟨T5, X5, e5, st5⟩ := getS2 X0 hx hZ hown (host := "") (Or.inl (hw _ (List.mem_of_getElem? (i := 13) rfl))) Via.refl e0 S_EQUAL (g := (mkF m 1 #[.val (.ref a)] [(.ref a)])) rfl (hb hby d2_1)
  have G6 : Go p e below A0 (T5.setTop (mkF m 4 #[.val (.ref a)] [(.ref a_EQUAL), (.ref a)])) := fun tq kq => G4 tq (st5 _ kq)
  by_cases hc7 : a = a_EQUAL
  · have G8 : Go p e below A0 (T5.setTop (mkF m 19 #[.val (.ref a)] [(.int (0 : Int32))])) := fun tq kq => G6 tq (by
      refine Jvm.RoadKit.acmp (g := (mkF m 4 #[.val (.ref a)] [(.ref a_EQUAL), (.ref a)])) X5 hx rfl rfl rfl (pc0 := 4) (pc' := 18) (same := true) rfl (hb hby d2_4) rfl (decide_eq_true (congrArg Value.ref hc7)) (by decide) (by decide) ?_
      show Steps p.tables e below (T5.setTop (mkF m 18 #[.val (.ref a)] [])) _
      refine XS.iconst X5.here hx rfl (hb hby d2_18) ?_
      show Steps p.tables e below (T5.setTop (mkF m 19 #[.val (.ref a)] [(.int (0 : Int32))])) _
      exact kq)
    obtain ⟨fs, hr, hrun, hended, hW, hsame⟩ := X5.leave (v := some (.int (nar .boolean (0 : Int32)))) (fun h => by rw [Bd.returns] at h; cases h)
    refine ⟨_, _, (by rw [← hA0]; exact G8 _ (retN X5 hx (t := .boolean) Bd.returns (by simp) (hb hby d2_19) hr)), hrun, hended, _, _, rfl, ?_, ⟨_, rfl⟩, hW, hsame.mono (by decide) (by decide)⟩
    exact ⟨(by rw [← hr0, show own_b (¬ a = a_EQUAL ∧ ¬ a = a_NOT_EQUAL) = (0 : Int32) from by simp [own_b, hc7]]; rfl), N0, e5⟩
  · have G9 : Go p e below A0 (T5.setTop (mkF m 8 #[.val (.ref a)] [(.ref a)])) := fun tq kq => G6 tq (by
      refine Jvm.RoadKit.acmp (g := (mkF m 4 #[.val (.ref a)] [(.ref a_EQUAL), (.ref a)])) X5 hx rfl rfl rfl (pc0 := 4) (pc' := 7) (same := false) rfl (hb hby d2_4) rfl (decide_eq_false fun q => hc7 (Value.ref.inj q)) (by decide) (by decide) ?_
      show Steps p.tables e below (T5.setTop (mkF m 7 #[.val (.ref a)] [])) _
      refine XS.aloadN X5.here hx rfl (hb hby d2_7) rfl rfl ?_
      show Steps p.tables e below (T5.setTop (mkF m 8 #[.val (.ref a)] [(.ref a)])) _
      exact kq)
    obtain ⟨T10, X10, e10, st10⟩ := getS2 X5 hx hZ hown (host := "") (Or.inl (hw _ (List.mem_of_getElem? (i := 15) rfl))) Via.refl e5 S_NOT_EQUAL (g := (mkF m 8 #[.val (.ref a)] [(.ref a)])) rfl (hb hby d2_8)
    have G11 : Go p e below A0 (T10.setTop (mkF m 11 #[.val (.ref a)] [(.ref a_NOT_EQUAL), (.ref a)])) := fun tq kq => G9 tq (st10 _ kq)
    by_cases hc12 : a = a_NOT_EQUAL
    · have G13 : Go p e below A0 (T10.setTop (mkF m 19 #[.val (.ref a)] [(.int (0 : Int32))])) := fun tq kq => G11 tq (by
        refine Jvm.RoadKit.acmp (g := (mkF m 11 #[.val (.ref a)] [(.ref a_NOT_EQUAL), (.ref a)])) X10 hx rfl rfl rfl (pc0 := 11) (pc' := 18) (same := true) rfl (hb hby d2_11) rfl (decide_eq_true (congrArg Value.ref hc12)) (by decide) (by decide) ?_
        show Steps p.tables e below (T10.setTop (mkF m 18 #[.val (.ref a)] [])) _
        refine XS.iconst X10.here hx rfl (hb hby d2_18) ?_
        show Steps p.tables e below (T10.setTop (mkF m 19 #[.val (.ref a)] [(.int (0 : Int32))])) _
        exact kq)
      obtain ⟨fs, hr, hrun, hended, hW, hsame⟩ := X10.leave (v := some (.int (nar .boolean (0 : Int32)))) (fun h => by rw [Bd.returns] at h; cases h)
      refine ⟨_, _, (by rw [← hA0]; exact G13 _ (retN X10 hx (t := .boolean) Bd.returns (by simp) (hb hby d2_19) hr)), hrun, hended, _, _, rfl, ?_, ⟨_, rfl⟩, hW, hsame.mono (by decide) (by decide)⟩
      exact ⟨(by rw [← hr0, show own_b (¬ a = a_EQUAL ∧ ¬ a = a_NOT_EQUAL) = (0 : Int32) from by simp [own_b, hc7, hc12]]; rfl), N0, e10⟩
    · have G14 : Go p e below A0 (T10.setTop (mkF m 19 #[.val (.ref a)] [(.int (1 : Int32))])) := fun tq kq => G11 tq (by
        refine Jvm.RoadKit.acmp (g := (mkF m 11 #[.val (.ref a)] [(.ref a_NOT_EQUAL), (.ref a)])) X10 hx rfl rfl rfl (pc0 := 11) (pc' := 14) (same := false) rfl (hb hby d2_11) rfl (decide_eq_false fun q => hc12 (Value.ref.inj q)) (by decide) (by decide) ?_
        show Steps p.tables e below (T10.setTop (mkF m 14 #[.val (.ref a)] [])) _
        refine XS.iconst X10.here hx rfl (hb hby d2_14) ?_
        show Steps p.tables e below (T10.setTop (mkF m 15 #[.val (.ref a)] [(.int (1 : Int32))])) _
        refine XS.goto X10.here hx rfl (pc0 := 15) (pc' := 19) rfl (hb hby d2_15) (by decide) (by decide) ?_
        show Steps p.tables e below (T10.setTop (mkF m 19 #[.val (.ref a)] [(.int (1 : Int32))])) _
        exact kq)
      obtain ⟨fs, hr, hrun, hended, hW, hsame⟩ := X10.leave (v := some (.int (nar .boolean (1 : Int32)))) (fun h => by rw [Bd.returns] at h; cases h)
      refine ⟨_, _, (by rw [← hA0]; exact G14 _ (retN X10 hx (t := .boolean) Bd.returns (by simp) (hb hby d2_19) hr)), hrun, hended, _, _, rfl, ?_, ⟨_, rfl⟩, hW, hsame.mono (by decide) (by decide)⟩
      exact ⟨(by rw [← hr0, show own_b (¬ a = a_EQUAL ∧ ¬ a = a_NOT_EQUAL) = (1 : Int32) from by simp [own_b, hc7, hc12]]; rfl), N0, e10⟩
set_option maxRecDepth 65536 in
set_option maxHeartbeats 40000000 in
theorem rm3_0 (l : Launch) (Z : State) (a0 : Array Value) (hw : ∀ d ∈ tables_1, d.before a0 Z = true) (ws : List Jvm.Cond) (a : Addr) (i r : Int32) (h0 : Heap) (n0 : Nat) (Z0 : n0 ≤ h0.size) (E : Exa Z h0 a "com/example/tube2/tube2/logic/Operator") (F : Fld Z h0 a "java/lang/Enum" "ordinal" "I" (.int (0 : Int32))) (hr0 : own_b (i < (0 : Int32)) = r) :
    MetFree l (⟨"com/example/tube2/tube2/logic/Operator", "holds", "(I)Z"⟩ : MethodName) (head1 (Jvm.Cond.code (⟨"com/example/tube2/tube2/logic/Operator", "holds", "(I)Z"⟩ : MethodName) prog_85_method_7_code 2 (some .boolean) :: ws) ({ frames := 1, cells := 0, slots := 0, locals := 12 } : Room)) (fun aa UU => aa = #[(.ref a), (.int i)] ∧ Z.Warmed39 UU.vm ∧ UU.heap = h0) (fun _ _ _ _ _ => True) (fun _ UU oo U' => ∃ v L, oo = .returned v ∧ Qr (.int r) h0 n0 v U'.heap L ∧ FrameEnd UU oo U' L ({ frames := 1, cells := 0, slots := 0, locals := 12 } : Room).cells ({ frames := 1, cells := 0, slots := 0, locals := 12 } : Room).slots) := by
  refine MetFree.of_bodySF (plainFor_of_name pn_1) hisR ?_
  intro p e s m args below meth c s₁ Bd hml0 hP hK
  obtain ⟨rfl, hZ, hh⟩ := hP
  have hx := Bd.exec
  have hby := Bd.bytes
  have hml : c.maxLocals = 2 := hml0
  have hown : s.vm.findClass "com/example/tube2/tube2/logic/Operator" = some m.cls := findClass_of_methodNamed Bd.named
  have hnm := (name_of_methodNamed Bd.named Bd.method).1
  have X0 : Stand p l e ({ frames := 1, cells := 0, slots := 0, locals := 12 } : Room) s m #[(.ref a), (.int i)] below meth c s₁ [] 0 0 := Stand.of_body Bd
  have e0 : s₁.heap = h0 := by rw [← hh, Bd.state]; rfl
  have N0 := Fr.nil n0
  obtain ⟨A0, hA0⟩ : ∃ A, A = s₁.setTop (entryFrame m #[(.ref a), (.int i)] 2) := ⟨_, rfl⟩
  have G0 : Go p e below A0 (s₁.setTop (mkF m 0 #[.val (.ref a), .val (.int i)] [])) := fun tq kq => by rw [hA0]; exact castTop (ef_rm3_0 m a i) kq
  have G15 : Go p e below A0 (s₁.setTop (mkF m 1 #[.val (.ref a), .val (.int i)] [(.ref a)])) := fun tq kq => G0 tq (by
    refine XS.aloadN X0.here hx rfl (hb hby d3_0) rfl rfl ?_
    show Steps p.tables e below (s₁.setTop (mkF m 1 #[.val (.ref a), .val (.int i)] [(.ref a)])) _
    exact kq)
  obtain ⟨cq16, kq16, q16a, q16b, q16c⟩ := isOf hZ e0 E
  obtain ⟨_, _, ⟨T16, L16, k16, n16⟩, -, X16, ⟨Lc16, hQ16, l16, y16, z16⟩, st16⟩ := X0.virtualBackUp hx (owner := "java/lang/Enum") (x := (⟨"com/example/tube2/tube2/logic/Operator", "ordinal", "()I"⟩ : MethodName)) (y := (⟨"java/lang/Enum", "ordinal", "()I"⟩ : MethodName)) hown (mvT hZ (hw _ (List.mem_of_getElem? (i := 22) rfl))) (mvT hZ (hw _ (List.mem_of_getElem? (i := 23) rfl))) (mvT hZ (hw _ (List.mem_of_getElem? (i := 24) rfl))) (by decide) (mvT hZ (hw _ (List.mem_of_getElem? (i := 26) rfl))) (mvT hZ (hw _ (List.mem_of_getElem? (i := 25) rfl))) (backOf (W := 0) (rm4 l Z a0 hw [] a (0 : Int32) h0 n0 Z0 F) hZ (hw _ (List.mem_of_getElem? (i := 28) rfl)) (hw _ (List.mem_of_getElem? (i := 27) rfl)) (by decide) (by decide)) q16a q16c (g := (mkF m 1 #[.val (.ref a), .val (.int i)] [(.ref a)])) rfl (by rw [hml]; rfl) (Steps.refl _) (argsL := []) (rest := []) (lenOf pd_0 rfl) rfl (by show 2 * 0 + _ ≤ _; exact Nat.le_of_eq rfl) (hb hby d3_1) (fun _ _ => ⟨rfl, e0, (by decide : 0 + 0 ≤ _), (by decide : 0 + 0 ≤ _)⟩)
  dsimp only [Pt.U, Pt.locs, Pt.cells, Pt.slots] at X16 l16 y16 z16 st16 hQ16
  subst l16 y16 z16
  obtain ⟨rfl, N16q, e16⟩ := hQ16
  have N16 := Fr.app N0 N16q
  have G17 : Go p e below A0 (T16.setTop (mkF m 4 #[.val (.ref a), .val (.int i)] [(.int (0 : Int32))])) := fun tq kq => G15 tq (st16.trans kq)
  have G18 : Go p e below A0 (T16.setTop (mkF m 55 #[.val (.ref a), .val (.int i)] [(.int i)])) := fun tq kq => G17 tq (by
    refine XS.tswIn X16.here hx rfl (pc0 := 4) (pc' := 54) rfl (hb hby d3_4) rfl (by decide) (o := 50) (by decide) (by decide) (by decide) ?_
    show Steps p.tables e below (T16.setTop (mkF m 54 #[.val (.ref a), .val (.int i)] [])) _
    refine XS.iloadN X16.here hx rfl (hb hby d3_54) rfl ?_
    show Steps p.tables e below (T16.setTop (mkF m 55 #[.val (.ref a), .val (.int i)] [(.int i)])) _
    exact kq)
  by_cases hc19 : i < (0 : Int32)
  · have G20 : Go p e below A0 (T16.setTop (mkF m 123 #[.val (.ref a), .val (.int i)] [(.int (1 : Int32))])) := fun tq kq => G18 tq (by
      refine XS.ifNo X16.here hx rfl (hb hby d3_55) rfl ((if0 _ _).trans (tlt hc19).2.1) ?_
      show Steps p.tables e below (T16.setTop (mkF m 58 #[.val (.ref a), .val (.int i)] [])) _
      refine XS.iconst X16.here hx rfl (hb hby d3_58) ?_
      show Steps p.tables e below (T16.setTop (mkF m 59 #[.val (.ref a), .val (.int i)] [(.int (1 : Int32))])) _
      refine XS.goto X16.here hx rfl (pc0 := 59) (pc' := 123) rfl (hb hby d3_59) (by decide) (by decide) ?_
      show Steps p.tables e below (T16.setTop (mkF m 123 #[.val (.ref a), .val (.int i)] [(.int (1 : Int32))])) _
      exact kq)
    obtain ⟨fs, hr, hrun, hended, hW, hsame⟩ := X16.leave (v := some (.int (nar .boolean (1 : Int32)))) (fun h => by rw [Bd.returns] at h; cases h)
    refine ⟨_, _, (by rw [← hA0]; exact G20 _ (retN X16 hx (t := .boolean) Bd.returns (by simp) (hb hby d3_123) hr)), hrun, hended, _, _, rfl, ?_, ⟨_, rfl⟩, hW, hsame.mono (by decide) (by decide)⟩
    exact ⟨(by rw [← hr0, show own_b (i < (0 : Int32)) = (1 : Int32) from by simp [own_b, hc19]]; rfl), N16, e16⟩
  · have G21 : Go p e below A0 (T16.setTop (mkF m 123 #[.val (.ref a), .val (.int i)] [(.int (0 : Int32))])) := fun tq kq => G18 tq (by
      refine XS.ifYes X16.here hx rfl (pc0 := 55) (pc' := 62) rfl (hb hby d3_55) rfl ((if0 _ _).trans (flt hc19).2.1) (by decide) (by decide) ?_
      show Steps p.tables e below (T16.setTop (mkF m 62 #[.val (.ref a), .val (.int i)] [])) _
      refine XS.iconst X16.here hx rfl (hb hby d3_62) ?_
      show Steps p.tables e below (T16.setTop (mkF m 63 #[.val (.ref a), .val (.int i)] [(.int (0 : Int32))])) _
      refine XS.goto X16.here hx rfl (pc0 := 63) (pc' := 123) rfl (hb hby d3_63) (by decide) (by decide) ?_
      show Steps p.tables e below (T16.setTop (mkF m 123 #[.val (.ref a), .val (.int i)] [(.int (0 : Int32))])) _
      exact kq)
    obtain ⟨fs, hr, hrun, hended, hW, hsame⟩ := X16.leave (v := some (.int (nar .boolean (0 : Int32)))) (fun h => by rw [Bd.returns] at h; cases h)
    refine ⟨_, _, (by rw [← hA0]; exact G21 _ (retN X16 hx (t := .boolean) Bd.returns (by simp) (hb hby d3_123) hr)), hrun, hended, _, _, rfl, ?_, ⟨_, rfl⟩, hW, hsame.mono (by decide) (by decide)⟩
    exact ⟨(by rw [← hr0, show own_b (i < (0 : Int32)) = (0 : Int32) from by simp [own_b, hc19]]; rfl), N16, e16⟩
set_option maxRecDepth 65536 in
set_option maxHeartbeats 40000000 in
theorem rm5_0 (l : Launch) (Z : State) (a0 : Array Value) (hw : ∀ d ∈ tables_1, d.before a0 Z = true) (ws : List Jvm.Cond) (a r : Addr) (h0 : Heap) (n0 : Nat) (Z0 : n0 ≤ h0.size) (E : Exa Z h0 a "com/example/tube2/tube2/logic/Operator") (F : Fld Z h0 a "java/lang/Enum" "ordinal" "I" (.int (0 : Int32))) (S : Sta Z h0 "com/example/tube2/tube2/logic/Operator" "GREATER_OR_EQUAL" "Lcom/example/tube2/tube2/logic/Operator;" (.ref r)) :
    MetFree l (⟨"com/example/tube2/tube2/logic/Operator", "complement", "()Lcom/example/tube2/tube2/logic/Operator;"⟩ : MethodName) (head1 (Jvm.Cond.code (⟨"com/example/tube2/tube2/logic/Operator", "complement", "()Lcom/example/tube2/tube2/logic/Operator;"⟩ : MethodName) prog_85_method_6_code 1 (some (.object "com/example/tube2/tube2/logic/Operator")) :: ws) ({ frames := 1, cells := 0, slots := 0, locals := 12 } : Room)) (fun aa UU => aa = #[(.ref a)] ∧ Z.Warmed39 UU.vm ∧ UU.heap = h0) (fun _ _ _ _ _ => True) (fun _ UU oo U' => ∃ v L, oo = .returned v ∧ Qr (.ref r) h0 n0 v U'.heap L ∧ FrameEnd UU oo U' L ({ frames := 1, cells := 0, slots := 0, locals := 12 } : Room).cells ({ frames := 1, cells := 0, slots := 0, locals := 12 } : Room).slots) := by
  refine MetFree.of_bodySF (plainFor_of_name pn_1) hisR ?_
  intro p e s m args below meth c s₁ Bd hml0 hP hK
  obtain ⟨rfl, hZ, hh⟩ := hP
  have hx := Bd.exec
  have hby := Bd.bytes
  have hml : c.maxLocals = 1 := hml0
  have hown : s.vm.findClass "com/example/tube2/tube2/logic/Operator" = some m.cls := findClass_of_methodNamed Bd.named
  have hnm := (name_of_methodNamed Bd.named Bd.method).1
  have X0 : Stand p l e ({ frames := 1, cells := 0, slots := 0, locals := 12 } : Room) s m #[(.ref a)] below meth c s₁ [] 0 0 := Stand.of_body Bd
  have e0 : s₁.heap = h0 := by rw [← hh, Bd.state]; rfl
  have N0 := Fr.nil n0
  obtain ⟨A0, hA0⟩ : ∃ A, A = s₁.setTop (entryFrame m #[(.ref a)] 1) := ⟨_, rfl⟩
  have G0 : Go p e below A0 (s₁.setTop (mkF m 0 #[.val (.ref a)] [])) := fun tq kq => by rw [hA0]; exact castTop (ef_rm5_0 m a) kq
  have G22 : Go p e below A0 (s₁.setTop (mkF m 1 #[.val (.ref a)] [(.ref a)])) := fun tq kq => G0 tq (by
    refine XS.aloadN X0.here hx rfl (hb hby d5_0) rfl rfl ?_
    show Steps p.tables e below (s₁.setTop (mkF m 1 #[.val (.ref a)] [(.ref a)])) _
    exact kq)
  obtain ⟨cq23, kq23, q23a, q23b, q23c⟩ := isOf hZ e0 E
  obtain ⟨_, _, ⟨T23, L23, k23, n23⟩, -, X23, ⟨Lc23, hQ23, l23, y23, z23⟩, st23⟩ := X0.virtualBackUp hx (owner := "java/lang/Enum") (x := (⟨"com/example/tube2/tube2/logic/Operator", "ordinal", "()I"⟩ : MethodName)) (y := (⟨"java/lang/Enum", "ordinal", "()I"⟩ : MethodName)) hown (mvT hZ (hw _ (List.mem_of_getElem? (i := 22) rfl))) (mvT hZ (hw _ (List.mem_of_getElem? (i := 23) rfl))) (mvT hZ (hw _ (List.mem_of_getElem? (i := 24) rfl))) (by decide) (mvT hZ (hw _ (List.mem_of_getElem? (i := 26) rfl))) (mvT hZ (hw _ (List.mem_of_getElem? (i := 25) rfl))) (backOf (W := 0) (rm4 l Z a0 hw [] a (0 : Int32) h0 n0 Z0 F) hZ (hw _ (List.mem_of_getElem? (i := 28) rfl)) (hw _ (List.mem_of_getElem? (i := 27) rfl)) (by decide) (by decide)) q23a q23c (g := (mkF m 1 #[.val (.ref a)] [(.ref a)])) rfl (by rw [hml]; rfl) (Steps.refl _) (argsL := []) (rest := []) (lenOf pd_0 rfl) rfl (by show 2 * 0 + _ ≤ _; exact Nat.le_of_eq rfl) (hb hby d5_1) (fun _ _ => ⟨rfl, e0, (by decide : 0 + 0 ≤ _), (by decide : 0 + 0 ≤ _)⟩)
  dsimp only [Pt.U, Pt.locs, Pt.cells, Pt.slots] at X23 l23 y23 z23 st23 hQ23
  subst l23 y23 z23
  obtain ⟨rfl, N23q, e23⟩ := hQ23
  have N23 := Fr.app N0 N23q
  have G24 : Go p e below A0 (T23.setTop (mkF m 4 #[.val (.ref a)] [(.int (0 : Int32))])) := fun tq kq => G22 tq (st23.trans kq)
  have G25 : Go p e below A0 (T23.setTop (mkF m 54 #[.val (.ref a)] [])) := fun tq kq => G24 tq (by
    refine XS.tswIn X23.here hx rfl (pc0 := 4) (pc' := 54) rfl (hb hby d5_4) rfl (by decide) (o := 50) (by decide) (by decide) (by decide) ?_
    show Steps p.tables e below (T23.setTop (mkF m 54 #[.val (.ref a)] [])) _
    exact kq)
  obtain ⟨T26, X26, e26, st26⟩ := getS2 X23 hx hZ hown (host := "") (Or.inl (hw _ (List.mem_of_getElem? (i := 36) rfl))) Via.refl e23 S (g := (mkF m 54 #[.val (.ref a)] [])) rfl (hb hby d5_54)
  have G27 : Go p e below A0 (T26.setTop (mkF m 57 #[.val (.ref a)] [(.ref r)])) := fun tq kq => G25 tq (st26 _ kq)
  have G28 : Go p e below A0 (T26.setTop (mkF m 87 #[.val (.ref a)] [(.ref r)])) := fun tq kq => G27 tq (by
    refine XS.goto X26.here hx rfl (pc0 := 57) (pc' := 87) rfl (hb hby d5_57) (by decide) (by decide) ?_
    show Steps p.tables e below (T26.setTop (mkF m 87 #[.val (.ref a)] [(.ref r)])) _
    exact kq)
  obtain ⟨fs, hr, hrun, hended, hW, hsame⟩ := X26.leave (v := some (.ref r)) (fun h => by rw [Bd.returns] at h; cases h)
  refine ⟨_, _, (by rw [← hA0]; exact G28 _ (retOut X26 hx (t := (.object "com/example/tube2/tube2/logic/Operator")) Bd.returns rfl (Or.inr (Or.inr (Or.inr (Or.inr ⟨rfl, rfl, rfl⟩)))) (hb hby d5_87) hr)), hrun, hended, _, _, rfl, ?_, ⟨_, rfl⟩, hW, hsame.mono (by decide) (by decide)⟩
  exact ⟨rfl, N23, e26⟩
set_option maxRecDepth 65536 in
set_option maxHeartbeats 40000000 in
theorem rm3_1 (l : Launch) (Z : State) (a0 : Array Value) (hw : ∀ d ∈ tables_1, d.before a0 Z = true) (ws : List Jvm.Cond) (a : Addr) (i r : Int32) (h0 : Heap) (n0 : Nat) (Z0 : n0 ≤ h0.size) (E : Exa Z h0 a "com/example/tube2/tube2/logic/Operator") (F : Fld Z h0 a "java/lang/Enum" "ordinal" "I" (.int (1 : Int32))) (hr0 : own_b (¬ (0 : Int32) < i) = r) :
    MetFree l (⟨"com/example/tube2/tube2/logic/Operator", "holds", "(I)Z"⟩ : MethodName) (head1 (Jvm.Cond.code (⟨"com/example/tube2/tube2/logic/Operator", "holds", "(I)Z"⟩ : MethodName) prog_85_method_7_code 2 (some .boolean) :: ws) ({ frames := 1, cells := 0, slots := 0, locals := 12 } : Room)) (fun aa UU => aa = #[(.ref a), (.int i)] ∧ Z.Warmed39 UU.vm ∧ UU.heap = h0) (fun _ _ _ _ _ => True) (fun _ UU oo U' => ∃ v L, oo = .returned v ∧ Qr (.int r) h0 n0 v U'.heap L ∧ FrameEnd UU oo U' L ({ frames := 1, cells := 0, slots := 0, locals := 12 } : Room).cells ({ frames := 1, cells := 0, slots := 0, locals := 12 } : Room).slots) := by
  refine MetFree.of_bodySF (plainFor_of_name pn_1) hisR ?_
  intro p e s m args below meth c s₁ Bd hml0 hP hK
  obtain ⟨rfl, hZ, hh⟩ := hP
  have hx := Bd.exec
  have hby := Bd.bytes
  have hml : c.maxLocals = 2 := hml0
  have hown : s.vm.findClass "com/example/tube2/tube2/logic/Operator" = some m.cls := findClass_of_methodNamed Bd.named
  have hnm := (name_of_methodNamed Bd.named Bd.method).1
  have X0 : Stand p l e ({ frames := 1, cells := 0, slots := 0, locals := 12 } : Room) s m #[(.ref a), (.int i)] below meth c s₁ [] 0 0 := Stand.of_body Bd
  have e0 : s₁.heap = h0 := by rw [← hh, Bd.state]; rfl
  have N0 := Fr.nil n0
  obtain ⟨A0, hA0⟩ : ∃ A, A = s₁.setTop (entryFrame m #[(.ref a), (.int i)] 2) := ⟨_, rfl⟩
  have G0 : Go p e below A0 (s₁.setTop (mkF m 0 #[.val (.ref a), .val (.int i)] [])) := fun tq kq => by rw [hA0]; exact castTop (ef_rm3_1 m a i) kq
  have G29 : Go p e below A0 (s₁.setTop (mkF m 1 #[.val (.ref a), .val (.int i)] [(.ref a)])) := fun tq kq => G0 tq (by
    refine XS.aloadN X0.here hx rfl (hb hby d3_0) rfl rfl ?_
    show Steps p.tables e below (s₁.setTop (mkF m 1 #[.val (.ref a), .val (.int i)] [(.ref a)])) _
    exact kq)
  obtain ⟨cq30, kq30, q30a, q30b, q30c⟩ := isOf hZ e0 E
  obtain ⟨_, _, ⟨T30, L30, k30, n30⟩, -, X30, ⟨Lc30, hQ30, l30, y30, z30⟩, st30⟩ := X0.virtualBackUp hx (owner := "java/lang/Enum") (x := (⟨"com/example/tube2/tube2/logic/Operator", "ordinal", "()I"⟩ : MethodName)) (y := (⟨"java/lang/Enum", "ordinal", "()I"⟩ : MethodName)) hown (mvT hZ (hw _ (List.mem_of_getElem? (i := 22) rfl))) (mvT hZ (hw _ (List.mem_of_getElem? (i := 23) rfl))) (mvT hZ (hw _ (List.mem_of_getElem? (i := 24) rfl))) (by decide) (mvT hZ (hw _ (List.mem_of_getElem? (i := 26) rfl))) (mvT hZ (hw _ (List.mem_of_getElem? (i := 25) rfl))) (backOf (W := 0) (rm4 l Z a0 hw [] a (1 : Int32) h0 n0 Z0 F) hZ (hw _ (List.mem_of_getElem? (i := 28) rfl)) (hw _ (List.mem_of_getElem? (i := 27) rfl)) (by decide) (by decide)) q30a q30c (g := (mkF m 1 #[.val (.ref a), .val (.int i)] [(.ref a)])) rfl (by rw [hml]; rfl) (Steps.refl _) (argsL := []) (rest := []) (lenOf pd_0 rfl) rfl (by show 2 * 0 + _ ≤ _; exact Nat.le_of_eq rfl) (hb hby d3_1) (fun _ _ => ⟨rfl, e0, (by decide : 0 + 0 ≤ _), (by decide : 0 + 0 ≤ _)⟩)
  dsimp only [Pt.U, Pt.locs, Pt.cells, Pt.slots] at X30 l30 y30 z30 st30 hQ30
  subst l30 y30 z30
  obtain ⟨rfl, N30q, e30⟩ := hQ30
  have N30 := Fr.app N0 N30q
  have G31 : Go p e below A0 (T30.setTop (mkF m 4 #[.val (.ref a), .val (.int i)] [(.int (1 : Int32))])) := fun tq kq => G29 tq (st30.trans kq)
  have G32 : Go p e below A0 (T30.setTop (mkF m 67 #[.val (.ref a), .val (.int i)] [(.int i)])) := fun tq kq => G31 tq (by
    refine XS.tswIn X30.here hx rfl (pc0 := 4) (pc' := 66) rfl (hb hby d3_4) rfl (by decide) (o := 62) (by decide) (by decide) (by decide) ?_
    show Steps p.tables e below (T30.setTop (mkF m 66 #[.val (.ref a), .val (.int i)] [])) _
    refine XS.iloadN X30.here hx rfl (hb hby d3_66) rfl ?_
    show Steps p.tables e below (T30.setTop (mkF m 67 #[.val (.ref a), .val (.int i)] [(.int i)])) _
    exact kq)
  by_cases hc33 : (0 : Int32) < i
  · have G34 : Go p e below A0 (T30.setTop (mkF m 123 #[.val (.ref a), .val (.int i)] [(.int (0 : Int32))])) := fun tq kq => G32 tq (by
      refine XS.ifYes X30.here hx rfl (pc0 := 67) (pc' := 74) rfl (hb hby d3_67) rfl ((if0 _ _).trans (tlt hc33).2.2.1) (by decide) (by decide) ?_
      show Steps p.tables e below (T30.setTop (mkF m 74 #[.val (.ref a), .val (.int i)] [])) _
      refine XS.iconst X30.here hx rfl (hb hby d3_74) ?_
      show Steps p.tables e below (T30.setTop (mkF m 75 #[.val (.ref a), .val (.int i)] [(.int (0 : Int32))])) _
      refine XS.goto X30.here hx rfl (pc0 := 75) (pc' := 123) rfl (hb hby d3_75) (by decide) (by decide) ?_
      show Steps p.tables e below (T30.setTop (mkF m 123 #[.val (.ref a), .val (.int i)] [(.int (0 : Int32))])) _
      exact kq)
    obtain ⟨fs, hr, hrun, hended, hW, hsame⟩ := X30.leave (v := some (.int (nar .boolean (0 : Int32)))) (fun h => by rw [Bd.returns] at h; cases h)
    refine ⟨_, _, (by rw [← hA0]; exact G34 _ (retN X30 hx (t := .boolean) Bd.returns (by simp) (hb hby d3_123) hr)), hrun, hended, _, _, rfl, ?_, ⟨_, rfl⟩, hW, hsame.mono (by decide) (by decide)⟩
    exact ⟨(by rw [← hr0, show own_b (¬ (0 : Int32) < i) = (0 : Int32) from by simp [own_b, hc33]]; rfl), N30, e30⟩
  · have G35 : Go p e below A0 (T30.setTop (mkF m 123 #[.val (.ref a), .val (.int i)] [(.int (1 : Int32))])) := fun tq kq => G32 tq (by
      refine XS.ifNo X30.here hx rfl (hb hby d3_67) rfl ((if0 _ _).trans (flt hc33).2.2.1) ?_
      show Steps p.tables e below (T30.setTop (mkF m 70 #[.val (.ref a), .val (.int i)] [])) _
      refine XS.iconst X30.here hx rfl (hb hby d3_70) ?_
      show Steps p.tables e below (T30.setTop (mkF m 71 #[.val (.ref a), .val (.int i)] [(.int (1 : Int32))])) _
      refine XS.goto X30.here hx rfl (pc0 := 71) (pc' := 123) rfl (hb hby d3_71) (by decide) (by decide) ?_
      show Steps p.tables e below (T30.setTop (mkF m 123 #[.val (.ref a), .val (.int i)] [(.int (1 : Int32))])) _
      exact kq)
    obtain ⟨fs, hr, hrun, hended, hW, hsame⟩ := X30.leave (v := some (.int (nar .boolean (1 : Int32)))) (fun h => by rw [Bd.returns] at h; cases h)
    refine ⟨_, _, (by rw [← hA0]; exact G35 _ (retN X30 hx (t := .boolean) Bd.returns (by simp) (hb hby d3_123) hr)), hrun, hended, _, _, rfl, ?_, ⟨_, rfl⟩, hW, hsame.mono (by decide) (by decide)⟩
    exact ⟨(by rw [← hr0, show own_b (¬ (0 : Int32) < i) = (1 : Int32) from by simp [own_b, hc33]]; rfl), N30, e30⟩
set_option maxRecDepth 65536 in
set_option maxHeartbeats 40000000 in
theorem rm5_1 (l : Launch) (Z : State) (a0 : Array Value) (hw : ∀ d ∈ tables_1, d.before a0 Z = true) (ws : List Jvm.Cond) (a r : Addr) (h0 : Heap) (n0 : Nat) (Z0 : n0 ≤ h0.size) (E : Exa Z h0 a "com/example/tube2/tube2/logic/Operator") (F : Fld Z h0 a "java/lang/Enum" "ordinal" "I" (.int (1 : Int32))) (S : Sta Z h0 "com/example/tube2/tube2/logic/Operator" "GREATER" "Lcom/example/tube2/tube2/logic/Operator;" (.ref r)) :
    MetFree l (⟨"com/example/tube2/tube2/logic/Operator", "complement", "()Lcom/example/tube2/tube2/logic/Operator;"⟩ : MethodName) (head1 (Jvm.Cond.code (⟨"com/example/tube2/tube2/logic/Operator", "complement", "()Lcom/example/tube2/tube2/logic/Operator;"⟩ : MethodName) prog_85_method_6_code 1 (some (.object "com/example/tube2/tube2/logic/Operator")) :: ws) ({ frames := 1, cells := 0, slots := 0, locals := 12 } : Room)) (fun aa UU => aa = #[(.ref a)] ∧ Z.Warmed39 UU.vm ∧ UU.heap = h0) (fun _ _ _ _ _ => True) (fun _ UU oo U' => ∃ v L, oo = .returned v ∧ Qr (.ref r) h0 n0 v U'.heap L ∧ FrameEnd UU oo U' L ({ frames := 1, cells := 0, slots := 0, locals := 12 } : Room).cells ({ frames := 1, cells := 0, slots := 0, locals := 12 } : Room).slots) := by
  refine MetFree.of_bodySF (plainFor_of_name pn_1) hisR ?_
  intro p e s m args below meth c s₁ Bd hml0 hP hK
  obtain ⟨rfl, hZ, hh⟩ := hP
  have hx := Bd.exec
  have hby := Bd.bytes
  have hml : c.maxLocals = 1 := hml0
  have hown : s.vm.findClass "com/example/tube2/tube2/logic/Operator" = some m.cls := findClass_of_methodNamed Bd.named
  have hnm := (name_of_methodNamed Bd.named Bd.method).1
  have X0 : Stand p l e ({ frames := 1, cells := 0, slots := 0, locals := 12 } : Room) s m #[(.ref a)] below meth c s₁ [] 0 0 := Stand.of_body Bd
  have e0 : s₁.heap = h0 := by rw [← hh, Bd.state]; rfl
  have N0 := Fr.nil n0
  obtain ⟨A0, hA0⟩ : ∃ A, A = s₁.setTop (entryFrame m #[(.ref a)] 1) := ⟨_, rfl⟩
  have G0 : Go p e below A0 (s₁.setTop (mkF m 0 #[.val (.ref a)] [])) := fun tq kq => by rw [hA0]; exact castTop (ef_rm5_1 m a) kq
  have G36 : Go p e below A0 (s₁.setTop (mkF m 1 #[.val (.ref a)] [(.ref a)])) := fun tq kq => G0 tq (by
    refine XS.aloadN X0.here hx rfl (hb hby d5_0) rfl rfl ?_
    show Steps p.tables e below (s₁.setTop (mkF m 1 #[.val (.ref a)] [(.ref a)])) _
    exact kq)
  obtain ⟨cq37, kq37, q37a, q37b, q37c⟩ := isOf hZ e0 E
  obtain ⟨_, _, ⟨T37, L37, k37, n37⟩, -, X37, ⟨Lc37, hQ37, l37, y37, z37⟩, st37⟩ := X0.virtualBackUp hx (owner := "java/lang/Enum") (x := (⟨"com/example/tube2/tube2/logic/Operator", "ordinal", "()I"⟩ : MethodName)) (y := (⟨"java/lang/Enum", "ordinal", "()I"⟩ : MethodName)) hown (mvT hZ (hw _ (List.mem_of_getElem? (i := 22) rfl))) (mvT hZ (hw _ (List.mem_of_getElem? (i := 23) rfl))) (mvT hZ (hw _ (List.mem_of_getElem? (i := 24) rfl))) (by decide) (mvT hZ (hw _ (List.mem_of_getElem? (i := 26) rfl))) (mvT hZ (hw _ (List.mem_of_getElem? (i := 25) rfl))) (backOf (W := 0) (rm4 l Z a0 hw [] a (1 : Int32) h0 n0 Z0 F) hZ (hw _ (List.mem_of_getElem? (i := 28) rfl)) (hw _ (List.mem_of_getElem? (i := 27) rfl)) (by decide) (by decide)) q37a q37c (g := (mkF m 1 #[.val (.ref a)] [(.ref a)])) rfl (by rw [hml]; rfl) (Steps.refl _) (argsL := []) (rest := []) (lenOf pd_0 rfl) rfl (by show 2 * 0 + _ ≤ _; exact Nat.le_of_eq rfl) (hb hby d5_1) (fun _ _ => ⟨rfl, e0, (by decide : 0 + 0 ≤ _), (by decide : 0 + 0 ≤ _)⟩)
  dsimp only [Pt.U, Pt.locs, Pt.cells, Pt.slots] at X37 l37 y37 z37 st37 hQ37
  subst l37 y37 z37
  obtain ⟨rfl, N37q, e37⟩ := hQ37
  have N37 := Fr.app N0 N37q
  have G38 : Go p e below A0 (T37.setTop (mkF m 4 #[.val (.ref a)] [(.int (1 : Int32))])) := fun tq kq => G36 tq (st37.trans kq)
  have G39 : Go p e below A0 (T37.setTop (mkF m 60 #[.val (.ref a)] [])) := fun tq kq => G38 tq (by
    refine XS.tswIn X37.here hx rfl (pc0 := 4) (pc' := 60) rfl (hb hby d5_4) rfl (by decide) (o := 56) (by decide) (by decide) (by decide) ?_
    show Steps p.tables e below (T37.setTop (mkF m 60 #[.val (.ref a)] [])) _
    exact kq)
  obtain ⟨T40, X40, e40, st40⟩ := getS2 X37 hx hZ hown (host := "") (Or.inl (hw _ (List.mem_of_getElem? (i := 44) rfl))) Via.refl e37 S (g := (mkF m 60 #[.val (.ref a)] [])) rfl (hb hby d5_60)
  have G41 : Go p e below A0 (T40.setTop (mkF m 63 #[.val (.ref a)] [(.ref r)])) := fun tq kq => G39 tq (st40 _ kq)
  have G42 : Go p e below A0 (T40.setTop (mkF m 87 #[.val (.ref a)] [(.ref r)])) := fun tq kq => G41 tq (by
    refine XS.goto X40.here hx rfl (pc0 := 63) (pc' := 87) rfl (hb hby d5_63) (by decide) (by decide) ?_
    show Steps p.tables e below (T40.setTop (mkF m 87 #[.val (.ref a)] [(.ref r)])) _
    exact kq)
  obtain ⟨fs, hr, hrun, hended, hW, hsame⟩ := X40.leave (v := some (.ref r)) (fun h => by rw [Bd.returns] at h; cases h)
  refine ⟨_, _, (by rw [← hA0]; exact G42 _ (retOut X40 hx (t := (.object "com/example/tube2/tube2/logic/Operator")) Bd.returns rfl (Or.inr (Or.inr (Or.inr (Or.inr ⟨rfl, rfl, rfl⟩)))) (hb hby d5_87) hr)), hrun, hended, _, _, rfl, ?_, ⟨_, rfl⟩, hW, hsame.mono (by decide) (by decide)⟩
  exact ⟨rfl, N37, e40⟩
set_option maxRecDepth 65536 in
set_option maxHeartbeats 40000000 in
theorem rm3_2 (l : Launch) (Z : State) (a0 : Array Value) (hw : ∀ d ∈ tables_1, d.before a0 Z = true) (ws : List Jvm.Cond) (a : Addr) (i r : Int32) (h0 : Heap) (n0 : Nat) (Z0 : n0 ≤ h0.size) (E : Exa Z h0 a "com/example/tube2/tube2/logic/Operator") (F : Fld Z h0 a "java/lang/Enum" "ordinal" "I" (.int (2 : Int32))) (hr0 : own_b ((0 : Int32) < i) = r) :
    MetFree l (⟨"com/example/tube2/tube2/logic/Operator", "holds", "(I)Z"⟩ : MethodName) (head1 (Jvm.Cond.code (⟨"com/example/tube2/tube2/logic/Operator", "holds", "(I)Z"⟩ : MethodName) prog_85_method_7_code 2 (some .boolean) :: ws) ({ frames := 1, cells := 0, slots := 0, locals := 12 } : Room)) (fun aa UU => aa = #[(.ref a), (.int i)] ∧ Z.Warmed39 UU.vm ∧ UU.heap = h0) (fun _ _ _ _ _ => True) (fun _ UU oo U' => ∃ v L, oo = .returned v ∧ Qr (.int r) h0 n0 v U'.heap L ∧ FrameEnd UU oo U' L ({ frames := 1, cells := 0, slots := 0, locals := 12 } : Room).cells ({ frames := 1, cells := 0, slots := 0, locals := 12 } : Room).slots) := by
  refine MetFree.of_bodySF (plainFor_of_name pn_1) hisR ?_
  intro p e s m args below meth c s₁ Bd hml0 hP hK
  obtain ⟨rfl, hZ, hh⟩ := hP
  have hx := Bd.exec
  have hby := Bd.bytes
  have hml : c.maxLocals = 2 := hml0
  have hown : s.vm.findClass "com/example/tube2/tube2/logic/Operator" = some m.cls := findClass_of_methodNamed Bd.named
  have hnm := (name_of_methodNamed Bd.named Bd.method).1
  have X0 : Stand p l e ({ frames := 1, cells := 0, slots := 0, locals := 12 } : Room) s m #[(.ref a), (.int i)] below meth c s₁ [] 0 0 := Stand.of_body Bd
  have e0 : s₁.heap = h0 := by rw [← hh, Bd.state]; rfl
  have N0 := Fr.nil n0
  obtain ⟨A0, hA0⟩ : ∃ A, A = s₁.setTop (entryFrame m #[(.ref a), (.int i)] 2) := ⟨_, rfl⟩
  have G0 : Go p e below A0 (s₁.setTop (mkF m 0 #[.val (.ref a), .val (.int i)] [])) := fun tq kq => by rw [hA0]; exact castTop (ef_rm3_2 m a i) kq
  have G43 : Go p e below A0 (s₁.setTop (mkF m 1 #[.val (.ref a), .val (.int i)] [(.ref a)])) := fun tq kq => G0 tq (by
    refine XS.aloadN X0.here hx rfl (hb hby d3_0) rfl rfl ?_
    show Steps p.tables e below (s₁.setTop (mkF m 1 #[.val (.ref a), .val (.int i)] [(.ref a)])) _
    exact kq)
  obtain ⟨cq44, kq44, q44a, q44b, q44c⟩ := isOf hZ e0 E
  obtain ⟨_, _, ⟨T44, L44, k44, n44⟩, -, X44, ⟨Lc44, hQ44, l44, y44, z44⟩, st44⟩ := X0.virtualBackUp hx (owner := "java/lang/Enum") (x := (⟨"com/example/tube2/tube2/logic/Operator", "ordinal", "()I"⟩ : MethodName)) (y := (⟨"java/lang/Enum", "ordinal", "()I"⟩ : MethodName)) hown (mvT hZ (hw _ (List.mem_of_getElem? (i := 22) rfl))) (mvT hZ (hw _ (List.mem_of_getElem? (i := 23) rfl))) (mvT hZ (hw _ (List.mem_of_getElem? (i := 24) rfl))) (by decide) (mvT hZ (hw _ (List.mem_of_getElem? (i := 26) rfl))) (mvT hZ (hw _ (List.mem_of_getElem? (i := 25) rfl))) (backOf (W := 0) (rm4 l Z a0 hw [] a (2 : Int32) h0 n0 Z0 F) hZ (hw _ (List.mem_of_getElem? (i := 28) rfl)) (hw _ (List.mem_of_getElem? (i := 27) rfl)) (by decide) (by decide)) q44a q44c (g := (mkF m 1 #[.val (.ref a), .val (.int i)] [(.ref a)])) rfl (by rw [hml]; rfl) (Steps.refl _) (argsL := []) (rest := []) (lenOf pd_0 rfl) rfl (by show 2 * 0 + _ ≤ _; exact Nat.le_of_eq rfl) (hb hby d3_1) (fun _ _ => ⟨rfl, e0, (by decide : 0 + 0 ≤ _), (by decide : 0 + 0 ≤ _)⟩)
  dsimp only [Pt.U, Pt.locs, Pt.cells, Pt.slots] at X44 l44 y44 z44 st44 hQ44
  subst l44 y44 z44
  obtain ⟨rfl, N44q, e44⟩ := hQ44
  have N44 := Fr.app N0 N44q
  have G45 : Go p e below A0 (T44.setTop (mkF m 4 #[.val (.ref a), .val (.int i)] [(.int (2 : Int32))])) := fun tq kq => G43 tq (st44.trans kq)
  have G46 : Go p e below A0 (T44.setTop (mkF m 79 #[.val (.ref a), .val (.int i)] [(.int i)])) := fun tq kq => G45 tq (by
    refine XS.tswIn X44.here hx rfl (pc0 := 4) (pc' := 78) rfl (hb hby d3_4) rfl (by decide) (o := 74) (by decide) (by decide) (by decide) ?_
    show Steps p.tables e below (T44.setTop (mkF m 78 #[.val (.ref a), .val (.int i)] [])) _
    refine XS.iloadN X44.here hx rfl (hb hby d3_78) rfl ?_
    show Steps p.tables e below (T44.setTop (mkF m 79 #[.val (.ref a), .val (.int i)] [(.int i)])) _
    exact kq)
  by_cases hc47 : (0 : Int32) < i
  · have G48 : Go p e below A0 (T44.setTop (mkF m 123 #[.val (.ref a), .val (.int i)] [(.int (1 : Int32))])) := fun tq kq => G46 tq (by
      refine XS.ifNo X44.here hx rfl (hb hby d3_79) rfl ((if0 _ _).trans (tlt hc47).2.2.2) ?_
      show Steps p.tables e below (T44.setTop (mkF m 82 #[.val (.ref a), .val (.int i)] [])) _
      refine XS.iconst X44.here hx rfl (hb hby d3_82) ?_
      show Steps p.tables e below (T44.setTop (mkF m 83 #[.val (.ref a), .val (.int i)] [(.int (1 : Int32))])) _
      refine XS.goto X44.here hx rfl (pc0 := 83) (pc' := 123) rfl (hb hby d3_83) (by decide) (by decide) ?_
      show Steps p.tables e below (T44.setTop (mkF m 123 #[.val (.ref a), .val (.int i)] [(.int (1 : Int32))])) _
      exact kq)
    obtain ⟨fs, hr, hrun, hended, hW, hsame⟩ := X44.leave (v := some (.int (nar .boolean (1 : Int32)))) (fun h => by rw [Bd.returns] at h; cases h)
    refine ⟨_, _, (by rw [← hA0]; exact G48 _ (retN X44 hx (t := .boolean) Bd.returns (by simp) (hb hby d3_123) hr)), hrun, hended, _, _, rfl, ?_, ⟨_, rfl⟩, hW, hsame.mono (by decide) (by decide)⟩
    exact ⟨(by rw [← hr0, show own_b ((0 : Int32) < i) = (1 : Int32) from by simp [own_b, hc47]]; rfl), N44, e44⟩
  · have G49 : Go p e below A0 (T44.setTop (mkF m 123 #[.val (.ref a), .val (.int i)] [(.int (0 : Int32))])) := fun tq kq => G46 tq (by
      refine XS.ifYes X44.here hx rfl (pc0 := 79) (pc' := 86) rfl (hb hby d3_79) rfl ((if0 _ _).trans (flt hc47).2.2.2) (by decide) (by decide) ?_
      show Steps p.tables e below (T44.setTop (mkF m 86 #[.val (.ref a), .val (.int i)] [])) _
      refine XS.iconst X44.here hx rfl (hb hby d3_86) ?_
      show Steps p.tables e below (T44.setTop (mkF m 87 #[.val (.ref a), .val (.int i)] [(.int (0 : Int32))])) _
      refine XS.goto X44.here hx rfl (pc0 := 87) (pc' := 123) rfl (hb hby d3_87) (by decide) (by decide) ?_
      show Steps p.tables e below (T44.setTop (mkF m 123 #[.val (.ref a), .val (.int i)] [(.int (0 : Int32))])) _
      exact kq)
    obtain ⟨fs, hr, hrun, hended, hW, hsame⟩ := X44.leave (v := some (.int (nar .boolean (0 : Int32)))) (fun h => by rw [Bd.returns] at h; cases h)
    refine ⟨_, _, (by rw [← hA0]; exact G49 _ (retN X44 hx (t := .boolean) Bd.returns (by simp) (hb hby d3_123) hr)), hrun, hended, _, _, rfl, ?_, ⟨_, rfl⟩, hW, hsame.mono (by decide) (by decide)⟩
    exact ⟨(by rw [← hr0, show own_b ((0 : Int32) < i) = (0 : Int32) from by simp [own_b, hc47]]; rfl), N44, e44⟩
set_option maxRecDepth 65536 in
set_option maxHeartbeats 40000000 in
theorem rm5_2 (l : Launch) (Z : State) (a0 : Array Value) (hw : ∀ d ∈ tables_1, d.before a0 Z = true) (ws : List Jvm.Cond) (a r : Addr) (h0 : Heap) (n0 : Nat) (Z0 : n0 ≤ h0.size) (E : Exa Z h0 a "com/example/tube2/tube2/logic/Operator") (F : Fld Z h0 a "java/lang/Enum" "ordinal" "I" (.int (2 : Int32))) (S : Sta Z h0 "com/example/tube2/tube2/logic/Operator" "LESS_OR_EQUAL" "Lcom/example/tube2/tube2/logic/Operator;" (.ref r)) :
    MetFree l (⟨"com/example/tube2/tube2/logic/Operator", "complement", "()Lcom/example/tube2/tube2/logic/Operator;"⟩ : MethodName) (head1 (Jvm.Cond.code (⟨"com/example/tube2/tube2/logic/Operator", "complement", "()Lcom/example/tube2/tube2/logic/Operator;"⟩ : MethodName) prog_85_method_6_code 1 (some (.object "com/example/tube2/tube2/logic/Operator")) :: ws) ({ frames := 1, cells := 0, slots := 0, locals := 12 } : Room)) (fun aa UU => aa = #[(.ref a)] ∧ Z.Warmed39 UU.vm ∧ UU.heap = h0) (fun _ _ _ _ _ => True) (fun _ UU oo U' => ∃ v L, oo = .returned v ∧ Qr (.ref r) h0 n0 v U'.heap L ∧ FrameEnd UU oo U' L ({ frames := 1, cells := 0, slots := 0, locals := 12 } : Room).cells ({ frames := 1, cells := 0, slots := 0, locals := 12 } : Room).slots) := by
  refine MetFree.of_bodySF (plainFor_of_name pn_1) hisR ?_
  intro p e s m args below meth c s₁ Bd hml0 hP hK
  obtain ⟨rfl, hZ, hh⟩ := hP
  have hx := Bd.exec
  have hby := Bd.bytes
  have hml : c.maxLocals = 1 := hml0
  have hown : s.vm.findClass "com/example/tube2/tube2/logic/Operator" = some m.cls := findClass_of_methodNamed Bd.named
  have hnm := (name_of_methodNamed Bd.named Bd.method).1
  have X0 : Stand p l e ({ frames := 1, cells := 0, slots := 0, locals := 12 } : Room) s m #[(.ref a)] below meth c s₁ [] 0 0 := Stand.of_body Bd
  have e0 : s₁.heap = h0 := by rw [← hh, Bd.state]; rfl
  have N0 := Fr.nil n0
  obtain ⟨A0, hA0⟩ : ∃ A, A = s₁.setTop (entryFrame m #[(.ref a)] 1) := ⟨_, rfl⟩
  have G0 : Go p e below A0 (s₁.setTop (mkF m 0 #[.val (.ref a)] [])) := fun tq kq => by rw [hA0]; exact castTop (ef_rm5_2 m a) kq
  have G50 : Go p e below A0 (s₁.setTop (mkF m 1 #[.val (.ref a)] [(.ref a)])) := fun tq kq => G0 tq (by
    refine XS.aloadN X0.here hx rfl (hb hby d5_0) rfl rfl ?_
    show Steps p.tables e below (s₁.setTop (mkF m 1 #[.val (.ref a)] [(.ref a)])) _
    exact kq)
  obtain ⟨cq51, kq51, q51a, q51b, q51c⟩ := isOf hZ e0 E
  obtain ⟨_, _, ⟨T51, L51, k51, n51⟩, -, X51, ⟨Lc51, hQ51, l51, y51, z51⟩, st51⟩ := X0.virtualBackUp hx (owner := "java/lang/Enum") (x := (⟨"com/example/tube2/tube2/logic/Operator", "ordinal", "()I"⟩ : MethodName)) (y := (⟨"java/lang/Enum", "ordinal", "()I"⟩ : MethodName)) hown (mvT hZ (hw _ (List.mem_of_getElem? (i := 22) rfl))) (mvT hZ (hw _ (List.mem_of_getElem? (i := 23) rfl))) (mvT hZ (hw _ (List.mem_of_getElem? (i := 24) rfl))) (by decide) (mvT hZ (hw _ (List.mem_of_getElem? (i := 26) rfl))) (mvT hZ (hw _ (List.mem_of_getElem? (i := 25) rfl))) (backOf (W := 0) (rm4 l Z a0 hw [] a (2 : Int32) h0 n0 Z0 F) hZ (hw _ (List.mem_of_getElem? (i := 28) rfl)) (hw _ (List.mem_of_getElem? (i := 27) rfl)) (by decide) (by decide)) q51a q51c (g := (mkF m 1 #[.val (.ref a)] [(.ref a)])) rfl (by rw [hml]; rfl) (Steps.refl _) (argsL := []) (rest := []) (lenOf pd_0 rfl) rfl (by show 2 * 0 + _ ≤ _; exact Nat.le_of_eq rfl) (hb hby d5_1) (fun _ _ => ⟨rfl, e0, (by decide : 0 + 0 ≤ _), (by decide : 0 + 0 ≤ _)⟩)
  dsimp only [Pt.U, Pt.locs, Pt.cells, Pt.slots] at X51 l51 y51 z51 st51 hQ51
  subst l51 y51 z51
  obtain ⟨rfl, N51q, e51⟩ := hQ51
  have N51 := Fr.app N0 N51q
  have G52 : Go p e below A0 (T51.setTop (mkF m 4 #[.val (.ref a)] [(.int (2 : Int32))])) := fun tq kq => G50 tq (st51.trans kq)
  have G53 : Go p e below A0 (T51.setTop (mkF m 66 #[.val (.ref a)] [])) := fun tq kq => G52 tq (by
    refine XS.tswIn X51.here hx rfl (pc0 := 4) (pc' := 66) rfl (hb hby d5_4) rfl (by decide) (o := 62) (by decide) (by decide) (by decide) ?_
    show Steps p.tables e below (T51.setTop (mkF m 66 #[.val (.ref a)] [])) _
    exact kq)
  obtain ⟨T54, X54, e54, st54⟩ := getS2 X51 hx hZ hown (host := "") (Or.inl (hw _ (List.mem_of_getElem? (i := 40) rfl))) Via.refl e51 S (g := (mkF m 66 #[.val (.ref a)] [])) rfl (hb hby d5_66)
  have G55 : Go p e below A0 (T54.setTop (mkF m 69 #[.val (.ref a)] [(.ref r)])) := fun tq kq => G53 tq (st54 _ kq)
  have G56 : Go p e below A0 (T54.setTop (mkF m 87 #[.val (.ref a)] [(.ref r)])) := fun tq kq => G55 tq (by
    refine XS.goto X54.here hx rfl (pc0 := 69) (pc' := 87) rfl (hb hby d5_69) (by decide) (by decide) ?_
    show Steps p.tables e below (T54.setTop (mkF m 87 #[.val (.ref a)] [(.ref r)])) _
    exact kq)
  obtain ⟨fs, hr, hrun, hended, hW, hsame⟩ := X54.leave (v := some (.ref r)) (fun h => by rw [Bd.returns] at h; cases h)
  refine ⟨_, _, (by rw [← hA0]; exact G56 _ (retOut X54 hx (t := (.object "com/example/tube2/tube2/logic/Operator")) Bd.returns rfl (Or.inr (Or.inr (Or.inr (Or.inr ⟨rfl, rfl, rfl⟩)))) (hb hby d5_87) hr)), hrun, hended, _, _, rfl, ?_, ⟨_, rfl⟩, hW, hsame.mono (by decide) (by decide)⟩
  exact ⟨rfl, N51, e54⟩
set_option maxRecDepth 65536 in
set_option maxHeartbeats 40000000 in
theorem rm3_3 (l : Launch) (Z : State) (a0 : Array Value) (hw : ∀ d ∈ tables_1, d.before a0 Z = true) (ws : List Jvm.Cond) (a : Addr) (i r : Int32) (h0 : Heap) (n0 : Nat) (Z0 : n0 ≤ h0.size) (E : Exa Z h0 a "com/example/tube2/tube2/logic/Operator") (F : Fld Z h0 a "java/lang/Enum" "ordinal" "I" (.int (3 : Int32))) (hr0 : own_b (¬ i < (0 : Int32)) = r) :
    MetFree l (⟨"com/example/tube2/tube2/logic/Operator", "holds", "(I)Z"⟩ : MethodName) (head1 (Jvm.Cond.code (⟨"com/example/tube2/tube2/logic/Operator", "holds", "(I)Z"⟩ : MethodName) prog_85_method_7_code 2 (some .boolean) :: ws) ({ frames := 1, cells := 0, slots := 0, locals := 12 } : Room)) (fun aa UU => aa = #[(.ref a), (.int i)] ∧ Z.Warmed39 UU.vm ∧ UU.heap = h0) (fun _ _ _ _ _ => True) (fun _ UU oo U' => ∃ v L, oo = .returned v ∧ Qr (.int r) h0 n0 v U'.heap L ∧ FrameEnd UU oo U' L ({ frames := 1, cells := 0, slots := 0, locals := 12 } : Room).cells ({ frames := 1, cells := 0, slots := 0, locals := 12 } : Room).slots) := by
  refine MetFree.of_bodySF (plainFor_of_name pn_1) hisR ?_
  intro p e s m args below meth c s₁ Bd hml0 hP hK
  obtain ⟨rfl, hZ, hh⟩ := hP
  have hx := Bd.exec
  have hby := Bd.bytes
  have hml : c.maxLocals = 2 := hml0
  have hown : s.vm.findClass "com/example/tube2/tube2/logic/Operator" = some m.cls := findClass_of_methodNamed Bd.named
  have hnm := (name_of_methodNamed Bd.named Bd.method).1
  have X0 : Stand p l e ({ frames := 1, cells := 0, slots := 0, locals := 12 } : Room) s m #[(.ref a), (.int i)] below meth c s₁ [] 0 0 := Stand.of_body Bd
  have e0 : s₁.heap = h0 := by rw [← hh, Bd.state]; rfl
  have N0 := Fr.nil n0
  obtain ⟨A0, hA0⟩ : ∃ A, A = s₁.setTop (entryFrame m #[(.ref a), (.int i)] 2) := ⟨_, rfl⟩
  have G0 : Go p e below A0 (s₁.setTop (mkF m 0 #[.val (.ref a), .val (.int i)] [])) := fun tq kq => by rw [hA0]; exact castTop (ef_rm3_3 m a i) kq
  have G57 : Go p e below A0 (s₁.setTop (mkF m 1 #[.val (.ref a), .val (.int i)] [(.ref a)])) := fun tq kq => G0 tq (by
    refine XS.aloadN X0.here hx rfl (hb hby d3_0) rfl rfl ?_
    show Steps p.tables e below (s₁.setTop (mkF m 1 #[.val (.ref a), .val (.int i)] [(.ref a)])) _
    exact kq)
  obtain ⟨cq58, kq58, q58a, q58b, q58c⟩ := isOf hZ e0 E
  obtain ⟨_, _, ⟨T58, L58, k58, n58⟩, -, X58, ⟨Lc58, hQ58, l58, y58, z58⟩, st58⟩ := X0.virtualBackUp hx (owner := "java/lang/Enum") (x := (⟨"com/example/tube2/tube2/logic/Operator", "ordinal", "()I"⟩ : MethodName)) (y := (⟨"java/lang/Enum", "ordinal", "()I"⟩ : MethodName)) hown (mvT hZ (hw _ (List.mem_of_getElem? (i := 22) rfl))) (mvT hZ (hw _ (List.mem_of_getElem? (i := 23) rfl))) (mvT hZ (hw _ (List.mem_of_getElem? (i := 24) rfl))) (by decide) (mvT hZ (hw _ (List.mem_of_getElem? (i := 26) rfl))) (mvT hZ (hw _ (List.mem_of_getElem? (i := 25) rfl))) (backOf (W := 0) (rm4 l Z a0 hw [] a (3 : Int32) h0 n0 Z0 F) hZ (hw _ (List.mem_of_getElem? (i := 28) rfl)) (hw _ (List.mem_of_getElem? (i := 27) rfl)) (by decide) (by decide)) q58a q58c (g := (mkF m 1 #[.val (.ref a), .val (.int i)] [(.ref a)])) rfl (by rw [hml]; rfl) (Steps.refl _) (argsL := []) (rest := []) (lenOf pd_0 rfl) rfl (by show 2 * 0 + _ ≤ _; exact Nat.le_of_eq rfl) (hb hby d3_1) (fun _ _ => ⟨rfl, e0, (by decide : 0 + 0 ≤ _), (by decide : 0 + 0 ≤ _)⟩)
  dsimp only [Pt.U, Pt.locs, Pt.cells, Pt.slots] at X58 l58 y58 z58 st58 hQ58
  subst l58 y58 z58
  obtain ⟨rfl, N58q, e58⟩ := hQ58
  have N58 := Fr.app N0 N58q
  have G59 : Go p e below A0 (T58.setTop (mkF m 4 #[.val (.ref a), .val (.int i)] [(.int (3 : Int32))])) := fun tq kq => G57 tq (st58.trans kq)
  have G60 : Go p e below A0 (T58.setTop (mkF m 91 #[.val (.ref a), .val (.int i)] [(.int i)])) := fun tq kq => G59 tq (by
    refine XS.tswIn X58.here hx rfl (pc0 := 4) (pc' := 90) rfl (hb hby d3_4) rfl (by decide) (o := 86) (by decide) (by decide) (by decide) ?_
    show Steps p.tables e below (T58.setTop (mkF m 90 #[.val (.ref a), .val (.int i)] [])) _
    refine XS.iloadN X58.here hx rfl (hb hby d3_90) rfl ?_
    show Steps p.tables e below (T58.setTop (mkF m 91 #[.val (.ref a), .val (.int i)] [(.int i)])) _
    exact kq)
  by_cases hc61 : i < (0 : Int32)
  · have G62 : Go p e below A0 (T58.setTop (mkF m 123 #[.val (.ref a), .val (.int i)] [(.int (0 : Int32))])) := fun tq kq => G60 tq (by
      refine XS.ifYes X58.here hx rfl (pc0 := 91) (pc' := 98) rfl (hb hby d3_91) rfl ((if0 _ _).trans (tlt hc61).1) (by decide) (by decide) ?_
      show Steps p.tables e below (T58.setTop (mkF m 98 #[.val (.ref a), .val (.int i)] [])) _
      refine XS.iconst X58.here hx rfl (hb hby d3_98) ?_
      show Steps p.tables e below (T58.setTop (mkF m 99 #[.val (.ref a), .val (.int i)] [(.int (0 : Int32))])) _
      refine XS.goto X58.here hx rfl (pc0 := 99) (pc' := 123) rfl (hb hby d3_99) (by decide) (by decide) ?_
      show Steps p.tables e below (T58.setTop (mkF m 123 #[.val (.ref a), .val (.int i)] [(.int (0 : Int32))])) _
      exact kq)
    obtain ⟨fs, hr, hrun, hended, hW, hsame⟩ := X58.leave (v := some (.int (nar .boolean (0 : Int32)))) (fun h => by rw [Bd.returns] at h; cases h)
    refine ⟨_, _, (by rw [← hA0]; exact G62 _ (retN X58 hx (t := .boolean) Bd.returns (by simp) (hb hby d3_123) hr)), hrun, hended, _, _, rfl, ?_, ⟨_, rfl⟩, hW, hsame.mono (by decide) (by decide)⟩
    exact ⟨(by rw [← hr0, show own_b (¬ i < (0 : Int32)) = (0 : Int32) from by simp [own_b, hc61]]; rfl), N58, e58⟩
  · have G63 : Go p e below A0 (T58.setTop (mkF m 123 #[.val (.ref a), .val (.int i)] [(.int (1 : Int32))])) := fun tq kq => G60 tq (by
      refine XS.ifNo X58.here hx rfl (hb hby d3_91) rfl ((if0 _ _).trans (flt hc61).1) ?_
      show Steps p.tables e below (T58.setTop (mkF m 94 #[.val (.ref a), .val (.int i)] [])) _
      refine XS.iconst X58.here hx rfl (hb hby d3_94) ?_
      show Steps p.tables e below (T58.setTop (mkF m 95 #[.val (.ref a), .val (.int i)] [(.int (1 : Int32))])) _
      refine XS.goto X58.here hx rfl (pc0 := 95) (pc' := 123) rfl (hb hby d3_95) (by decide) (by decide) ?_
      show Steps p.tables e below (T58.setTop (mkF m 123 #[.val (.ref a), .val (.int i)] [(.int (1 : Int32))])) _
      exact kq)
    obtain ⟨fs, hr, hrun, hended, hW, hsame⟩ := X58.leave (v := some (.int (nar .boolean (1 : Int32)))) (fun h => by rw [Bd.returns] at h; cases h)
    refine ⟨_, _, (by rw [← hA0]; exact G63 _ (retN X58 hx (t := .boolean) Bd.returns (by simp) (hb hby d3_123) hr)), hrun, hended, _, _, rfl, ?_, ⟨_, rfl⟩, hW, hsame.mono (by decide) (by decide)⟩
    exact ⟨(by rw [← hr0, show own_b (¬ i < (0 : Int32)) = (1 : Int32) from by simp [own_b, hc61]]; rfl), N58, e58⟩
set_option maxRecDepth 65536 in
set_option maxHeartbeats 40000000 in
theorem rm5_3 (l : Launch) (Z : State) (a0 : Array Value) (hw : ∀ d ∈ tables_1, d.before a0 Z = true) (ws : List Jvm.Cond) (a r : Addr) (h0 : Heap) (n0 : Nat) (Z0 : n0 ≤ h0.size) (E : Exa Z h0 a "com/example/tube2/tube2/logic/Operator") (F : Fld Z h0 a "java/lang/Enum" "ordinal" "I" (.int (3 : Int32))) (S : Sta Z h0 "com/example/tube2/tube2/logic/Operator" "LESS" "Lcom/example/tube2/tube2/logic/Operator;" (.ref r)) :
    MetFree l (⟨"com/example/tube2/tube2/logic/Operator", "complement", "()Lcom/example/tube2/tube2/logic/Operator;"⟩ : MethodName) (head1 (Jvm.Cond.code (⟨"com/example/tube2/tube2/logic/Operator", "complement", "()Lcom/example/tube2/tube2/logic/Operator;"⟩ : MethodName) prog_85_method_6_code 1 (some (.object "com/example/tube2/tube2/logic/Operator")) :: ws) ({ frames := 1, cells := 0, slots := 0, locals := 12 } : Room)) (fun aa UU => aa = #[(.ref a)] ∧ Z.Warmed39 UU.vm ∧ UU.heap = h0) (fun _ _ _ _ _ => True) (fun _ UU oo U' => ∃ v L, oo = .returned v ∧ Qr (.ref r) h0 n0 v U'.heap L ∧ FrameEnd UU oo U' L ({ frames := 1, cells := 0, slots := 0, locals := 12 } : Room).cells ({ frames := 1, cells := 0, slots := 0, locals := 12 } : Room).slots) := by
  refine MetFree.of_bodySF (plainFor_of_name pn_1) hisR ?_
  intro p e s m args below meth c s₁ Bd hml0 hP hK
  obtain ⟨rfl, hZ, hh⟩ := hP
  have hx := Bd.exec
  have hby := Bd.bytes
  have hml : c.maxLocals = 1 := hml0
  have hown : s.vm.findClass "com/example/tube2/tube2/logic/Operator" = some m.cls := findClass_of_methodNamed Bd.named
  have hnm := (name_of_methodNamed Bd.named Bd.method).1
  have X0 : Stand p l e ({ frames := 1, cells := 0, slots := 0, locals := 12 } : Room) s m #[(.ref a)] below meth c s₁ [] 0 0 := Stand.of_body Bd
  have e0 : s₁.heap = h0 := by rw [← hh, Bd.state]; rfl
  have N0 := Fr.nil n0
  obtain ⟨A0, hA0⟩ : ∃ A, A = s₁.setTop (entryFrame m #[(.ref a)] 1) := ⟨_, rfl⟩
  have G0 : Go p e below A0 (s₁.setTop (mkF m 0 #[.val (.ref a)] [])) := fun tq kq => by rw [hA0]; exact castTop (ef_rm5_3 m a) kq
  have G64 : Go p e below A0 (s₁.setTop (mkF m 1 #[.val (.ref a)] [(.ref a)])) := fun tq kq => G0 tq (by
    refine XS.aloadN X0.here hx rfl (hb hby d5_0) rfl rfl ?_
    show Steps p.tables e below (s₁.setTop (mkF m 1 #[.val (.ref a)] [(.ref a)])) _
    exact kq)
  obtain ⟨cq65, kq65, q65a, q65b, q65c⟩ := isOf hZ e0 E
  obtain ⟨_, _, ⟨T65, L65, k65, n65⟩, -, X65, ⟨Lc65, hQ65, l65, y65, z65⟩, st65⟩ := X0.virtualBackUp hx (owner := "java/lang/Enum") (x := (⟨"com/example/tube2/tube2/logic/Operator", "ordinal", "()I"⟩ : MethodName)) (y := (⟨"java/lang/Enum", "ordinal", "()I"⟩ : MethodName)) hown (mvT hZ (hw _ (List.mem_of_getElem? (i := 22) rfl))) (mvT hZ (hw _ (List.mem_of_getElem? (i := 23) rfl))) (mvT hZ (hw _ (List.mem_of_getElem? (i := 24) rfl))) (by decide) (mvT hZ (hw _ (List.mem_of_getElem? (i := 26) rfl))) (mvT hZ (hw _ (List.mem_of_getElem? (i := 25) rfl))) (backOf (W := 0) (rm4 l Z a0 hw [] a (3 : Int32) h0 n0 Z0 F) hZ (hw _ (List.mem_of_getElem? (i := 28) rfl)) (hw _ (List.mem_of_getElem? (i := 27) rfl)) (by decide) (by decide)) q65a q65c (g := (mkF m 1 #[.val (.ref a)] [(.ref a)])) rfl (by rw [hml]; rfl) (Steps.refl _) (argsL := []) (rest := []) (lenOf pd_0 rfl) rfl (by show 2 * 0 + _ ≤ _; exact Nat.le_of_eq rfl) (hb hby d5_1) (fun _ _ => ⟨rfl, e0, (by decide : 0 + 0 ≤ _), (by decide : 0 + 0 ≤ _)⟩)
  dsimp only [Pt.U, Pt.locs, Pt.cells, Pt.slots] at X65 l65 y65 z65 st65 hQ65
  subst l65 y65 z65
  obtain ⟨rfl, N65q, e65⟩ := hQ65
  have N65 := Fr.app N0 N65q
  have G66 : Go p e below A0 (T65.setTop (mkF m 4 #[.val (.ref a)] [(.int (3 : Int32))])) := fun tq kq => G64 tq (st65.trans kq)
  have G67 : Go p e below A0 (T65.setTop (mkF m 72 #[.val (.ref a)] [])) := fun tq kq => G66 tq (by
    refine XS.tswIn X65.here hx rfl (pc0 := 4) (pc' := 72) rfl (hb hby d5_4) rfl (by decide) (o := 68) (by decide) (by decide) (by decide) ?_
    show Steps p.tables e below (T65.setTop (mkF m 72 #[.val (.ref a)] [])) _
    exact kq)
  obtain ⟨T68, X68, e68, st68⟩ := getS2 X65 hx hZ hown (host := "") (Or.inl (hw _ (List.mem_of_getElem? (i := 47) rfl))) Via.refl e65 S (g := (mkF m 72 #[.val (.ref a)] [])) rfl (hb hby d5_72)
  have G69 : Go p e below A0 (T68.setTop (mkF m 75 #[.val (.ref a)] [(.ref r)])) := fun tq kq => G67 tq (st68 _ kq)
  have G70 : Go p e below A0 (T68.setTop (mkF m 87 #[.val (.ref a)] [(.ref r)])) := fun tq kq => G69 tq (by
    refine XS.goto X68.here hx rfl (pc0 := 75) (pc' := 87) rfl (hb hby d5_75) (by decide) (by decide) ?_
    show Steps p.tables e below (T68.setTop (mkF m 87 #[.val (.ref a)] [(.ref r)])) _
    exact kq)
  obtain ⟨fs, hr, hrun, hended, hW, hsame⟩ := X68.leave (v := some (.ref r)) (fun h => by rw [Bd.returns] at h; cases h)
  refine ⟨_, _, (by rw [← hA0]; exact G70 _ (retOut X68 hx (t := (.object "com/example/tube2/tube2/logic/Operator")) Bd.returns rfl (Or.inr (Or.inr (Or.inr (Or.inr ⟨rfl, rfl, rfl⟩)))) (hb hby d5_87) hr)), hrun, hended, _, _, rfl, ?_, ⟨_, rfl⟩, hW, hsame.mono (by decide) (by decide)⟩
  exact ⟨rfl, N65, e68⟩
set_option maxRecDepth 65536 in
set_option maxHeartbeats 40000000 in
theorem rm3_4 (l : Launch) (Z : State) (a0 : Array Value) (hw : ∀ d ∈ tables_1, d.before a0 Z = true) (ws : List Jvm.Cond) (a : Addr) (i r : Int32) (h0 : Heap) (n0 : Nat) (Z0 : n0 ≤ h0.size) (E : Exa Z h0 a "com/example/tube2/tube2/logic/Operator") (F : Fld Z h0 a "java/lang/Enum" "ordinal" "I" (.int (4 : Int32))) (hr0 : own_b (i = (0 : Int32)) = r) :
    MetFree l (⟨"com/example/tube2/tube2/logic/Operator", "holds", "(I)Z"⟩ : MethodName) (head1 (Jvm.Cond.code (⟨"com/example/tube2/tube2/logic/Operator", "holds", "(I)Z"⟩ : MethodName) prog_85_method_7_code 2 (some .boolean) :: ws) ({ frames := 1, cells := 0, slots := 0, locals := 12 } : Room)) (fun aa UU => aa = #[(.ref a), (.int i)] ∧ Z.Warmed39 UU.vm ∧ UU.heap = h0) (fun _ _ _ _ _ => True) (fun _ UU oo U' => ∃ v L, oo = .returned v ∧ Qr (.int r) h0 n0 v U'.heap L ∧ FrameEnd UU oo U' L ({ frames := 1, cells := 0, slots := 0, locals := 12 } : Room).cells ({ frames := 1, cells := 0, slots := 0, locals := 12 } : Room).slots) := by
  refine MetFree.of_bodySF (plainFor_of_name pn_1) hisR ?_
  intro p e s m args below meth c s₁ Bd hml0 hP hK
  obtain ⟨rfl, hZ, hh⟩ := hP
  have hx := Bd.exec
  have hby := Bd.bytes
  have hml : c.maxLocals = 2 := hml0
  have hown : s.vm.findClass "com/example/tube2/tube2/logic/Operator" = some m.cls := findClass_of_methodNamed Bd.named
  have hnm := (name_of_methodNamed Bd.named Bd.method).1
  have X0 : Stand p l e ({ frames := 1, cells := 0, slots := 0, locals := 12 } : Room) s m #[(.ref a), (.int i)] below meth c s₁ [] 0 0 := Stand.of_body Bd
  have e0 : s₁.heap = h0 := by rw [← hh, Bd.state]; rfl
  have N0 := Fr.nil n0
  obtain ⟨A0, hA0⟩ : ∃ A, A = s₁.setTop (entryFrame m #[(.ref a), (.int i)] 2) := ⟨_, rfl⟩
  have G0 : Go p e below A0 (s₁.setTop (mkF m 0 #[.val (.ref a), .val (.int i)] [])) := fun tq kq => by rw [hA0]; exact castTop (ef_rm3_4 m a i) kq
  have G71 : Go p e below A0 (s₁.setTop (mkF m 1 #[.val (.ref a), .val (.int i)] [(.ref a)])) := fun tq kq => G0 tq (by
    refine XS.aloadN X0.here hx rfl (hb hby d3_0) rfl rfl ?_
    show Steps p.tables e below (s₁.setTop (mkF m 1 #[.val (.ref a), .val (.int i)] [(.ref a)])) _
    exact kq)
  obtain ⟨cq72, kq72, q72a, q72b, q72c⟩ := isOf hZ e0 E
  obtain ⟨_, _, ⟨T72, L72, k72, n72⟩, -, X72, ⟨Lc72, hQ72, l72, y72, z72⟩, st72⟩ := X0.virtualBackUp hx (owner := "java/lang/Enum") (x := (⟨"com/example/tube2/tube2/logic/Operator", "ordinal", "()I"⟩ : MethodName)) (y := (⟨"java/lang/Enum", "ordinal", "()I"⟩ : MethodName)) hown (mvT hZ (hw _ (List.mem_of_getElem? (i := 22) rfl))) (mvT hZ (hw _ (List.mem_of_getElem? (i := 23) rfl))) (mvT hZ (hw _ (List.mem_of_getElem? (i := 24) rfl))) (by decide) (mvT hZ (hw _ (List.mem_of_getElem? (i := 26) rfl))) (mvT hZ (hw _ (List.mem_of_getElem? (i := 25) rfl))) (backOf (W := 0) (rm4 l Z a0 hw [] a (4 : Int32) h0 n0 Z0 F) hZ (hw _ (List.mem_of_getElem? (i := 28) rfl)) (hw _ (List.mem_of_getElem? (i := 27) rfl)) (by decide) (by decide)) q72a q72c (g := (mkF m 1 #[.val (.ref a), .val (.int i)] [(.ref a)])) rfl (by rw [hml]; rfl) (Steps.refl _) (argsL := []) (rest := []) (lenOf pd_0 rfl) rfl (by show 2 * 0 + _ ≤ _; exact Nat.le_of_eq rfl) (hb hby d3_1) (fun _ _ => ⟨rfl, e0, (by decide : 0 + 0 ≤ _), (by decide : 0 + 0 ≤ _)⟩)
  dsimp only [Pt.U, Pt.locs, Pt.cells, Pt.slots] at X72 l72 y72 z72 st72 hQ72
  subst l72 y72 z72
  obtain ⟨rfl, N72q, e72⟩ := hQ72
  have N72 := Fr.app N0 N72q
  have G73 : Go p e below A0 (T72.setTop (mkF m 4 #[.val (.ref a), .val (.int i)] [(.int (4 : Int32))])) := fun tq kq => G71 tq (st72.trans kq)
  have G74 : Go p e below A0 (T72.setTop (mkF m 103 #[.val (.ref a), .val (.int i)] [(.int i)])) := fun tq kq => G73 tq (by
    refine XS.tswIn X72.here hx rfl (pc0 := 4) (pc' := 102) rfl (hb hby d3_4) rfl (by decide) (o := 98) (by decide) (by decide) (by decide) ?_
    show Steps p.tables e below (T72.setTop (mkF m 102 #[.val (.ref a), .val (.int i)] [])) _
    refine XS.iloadN X72.here hx rfl (hb hby d3_102) rfl ?_
    show Steps p.tables e below (T72.setTop (mkF m 103 #[.val (.ref a), .val (.int i)] [(.int i)])) _
    exact kq)
  by_cases hc75 : i = (0 : Int32)
  · have G76 : Go p e below A0 (T72.setTop (mkF m 123 #[.val (.ref a), .val (.int i)] [(.int (1 : Int32))])) := fun tq kq => G74 tq (by
      refine XS.ifNo X72.here hx rfl (hb hby d3_103) rfl ((if0 _ _).trans (teq hc75).2) ?_
      show Steps p.tables e below (T72.setTop (mkF m 106 #[.val (.ref a), .val (.int i)] [])) _
      refine XS.iconst X72.here hx rfl (hb hby d3_106) ?_
      show Steps p.tables e below (T72.setTop (mkF m 107 #[.val (.ref a), .val (.int i)] [(.int (1 : Int32))])) _
      refine XS.goto X72.here hx rfl (pc0 := 107) (pc' := 123) rfl (hb hby d3_107) (by decide) (by decide) ?_
      show Steps p.tables e below (T72.setTop (mkF m 123 #[.val (.ref a), .val (.int i)] [(.int (1 : Int32))])) _
      exact kq)
    obtain ⟨fs, hr, hrun, hended, hW, hsame⟩ := X72.leave (v := some (.int (nar .boolean (1 : Int32)))) (fun h => by rw [Bd.returns] at h; cases h)
    refine ⟨_, _, (by rw [← hA0]; exact G76 _ (retN X72 hx (t := .boolean) Bd.returns (by simp) (hb hby d3_123) hr)), hrun, hended, _, _, rfl, ?_, ⟨_, rfl⟩, hW, hsame.mono (by decide) (by decide)⟩
    exact ⟨(by rw [← hr0, show own_b (i = (0 : Int32)) = (1 : Int32) from by simp [own_b, hc75]]; rfl), N72, e72⟩
  · have G77 : Go p e below A0 (T72.setTop (mkF m 123 #[.val (.ref a), .val (.int i)] [(.int (0 : Int32))])) := fun tq kq => G74 tq (by
      refine XS.ifYes X72.here hx rfl (pc0 := 103) (pc' := 110) rfl (hb hby d3_103) rfl ((if0 _ _).trans (feq hc75).2) (by decide) (by decide) ?_
      show Steps p.tables e below (T72.setTop (mkF m 110 #[.val (.ref a), .val (.int i)] [])) _
      refine XS.iconst X72.here hx rfl (hb hby d3_110) ?_
      show Steps p.tables e below (T72.setTop (mkF m 111 #[.val (.ref a), .val (.int i)] [(.int (0 : Int32))])) _
      refine XS.goto X72.here hx rfl (pc0 := 111) (pc' := 123) rfl (hb hby d3_111) (by decide) (by decide) ?_
      show Steps p.tables e below (T72.setTop (mkF m 123 #[.val (.ref a), .val (.int i)] [(.int (0 : Int32))])) _
      exact kq)
    obtain ⟨fs, hr, hrun, hended, hW, hsame⟩ := X72.leave (v := some (.int (nar .boolean (0 : Int32)))) (fun h => by rw [Bd.returns] at h; cases h)
    refine ⟨_, _, (by rw [← hA0]; exact G77 _ (retN X72 hx (t := .boolean) Bd.returns (by simp) (hb hby d3_123) hr)), hrun, hended, _, _, rfl, ?_, ⟨_, rfl⟩, hW, hsame.mono (by decide) (by decide)⟩
    exact ⟨(by rw [← hr0, show own_b (i = (0 : Int32)) = (0 : Int32) from by simp [own_b, hc75]]; rfl), N72, e72⟩
set_option maxRecDepth 65536 in
set_option maxHeartbeats 40000000 in
theorem rm5_4 (l : Launch) (Z : State) (a0 : Array Value) (hw : ∀ d ∈ tables_1, d.before a0 Z = true) (ws : List Jvm.Cond) (a r : Addr) (h0 : Heap) (n0 : Nat) (Z0 : n0 ≤ h0.size) (E : Exa Z h0 a "com/example/tube2/tube2/logic/Operator") (F : Fld Z h0 a "java/lang/Enum" "ordinal" "I" (.int (4 : Int32))) (S : Sta Z h0 "com/example/tube2/tube2/logic/Operator" "NOT_EQUAL" "Lcom/example/tube2/tube2/logic/Operator;" (.ref r)) :
    MetFree l (⟨"com/example/tube2/tube2/logic/Operator", "complement", "()Lcom/example/tube2/tube2/logic/Operator;"⟩ : MethodName) (head1 (Jvm.Cond.code (⟨"com/example/tube2/tube2/logic/Operator", "complement", "()Lcom/example/tube2/tube2/logic/Operator;"⟩ : MethodName) prog_85_method_6_code 1 (some (.object "com/example/tube2/tube2/logic/Operator")) :: ws) ({ frames := 1, cells := 0, slots := 0, locals := 12 } : Room)) (fun aa UU => aa = #[(.ref a)] ∧ Z.Warmed39 UU.vm ∧ UU.heap = h0) (fun _ _ _ _ _ => True) (fun _ UU oo U' => ∃ v L, oo = .returned v ∧ Qr (.ref r) h0 n0 v U'.heap L ∧ FrameEnd UU oo U' L ({ frames := 1, cells := 0, slots := 0, locals := 12 } : Room).cells ({ frames := 1, cells := 0, slots := 0, locals := 12 } : Room).slots) := by
  refine MetFree.of_bodySF (plainFor_of_name pn_1) hisR ?_
  intro p e s m args below meth c s₁ Bd hml0 hP hK
  obtain ⟨rfl, hZ, hh⟩ := hP
  have hx := Bd.exec
  have hby := Bd.bytes
  have hml : c.maxLocals = 1 := hml0
  have hown : s.vm.findClass "com/example/tube2/tube2/logic/Operator" = some m.cls := findClass_of_methodNamed Bd.named
  have hnm := (name_of_methodNamed Bd.named Bd.method).1
  have X0 : Stand p l e ({ frames := 1, cells := 0, slots := 0, locals := 12 } : Room) s m #[(.ref a)] below meth c s₁ [] 0 0 := Stand.of_body Bd
  have e0 : s₁.heap = h0 := by rw [← hh, Bd.state]; rfl
  have N0 := Fr.nil n0
  obtain ⟨A0, hA0⟩ : ∃ A, A = s₁.setTop (entryFrame m #[(.ref a)] 1) := ⟨_, rfl⟩
  have G0 : Go p e below A0 (s₁.setTop (mkF m 0 #[.val (.ref a)] [])) := fun tq kq => by rw [hA0]; exact castTop (ef_rm5_4 m a) kq
  have G78 : Go p e below A0 (s₁.setTop (mkF m 1 #[.val (.ref a)] [(.ref a)])) := fun tq kq => G0 tq (by
    refine XS.aloadN X0.here hx rfl (hb hby d5_0) rfl rfl ?_
    show Steps p.tables e below (s₁.setTop (mkF m 1 #[.val (.ref a)] [(.ref a)])) _
    exact kq)
  obtain ⟨cq79, kq79, q79a, q79b, q79c⟩ := isOf hZ e0 E
  obtain ⟨_, _, ⟨T79, L79, k79, n79⟩, -, X79, ⟨Lc79, hQ79, l79, y79, z79⟩, st79⟩ := X0.virtualBackUp hx (owner := "java/lang/Enum") (x := (⟨"com/example/tube2/tube2/logic/Operator", "ordinal", "()I"⟩ : MethodName)) (y := (⟨"java/lang/Enum", "ordinal", "()I"⟩ : MethodName)) hown (mvT hZ (hw _ (List.mem_of_getElem? (i := 22) rfl))) (mvT hZ (hw _ (List.mem_of_getElem? (i := 23) rfl))) (mvT hZ (hw _ (List.mem_of_getElem? (i := 24) rfl))) (by decide) (mvT hZ (hw _ (List.mem_of_getElem? (i := 26) rfl))) (mvT hZ (hw _ (List.mem_of_getElem? (i := 25) rfl))) (backOf (W := 0) (rm4 l Z a0 hw [] a (4 : Int32) h0 n0 Z0 F) hZ (hw _ (List.mem_of_getElem? (i := 28) rfl)) (hw _ (List.mem_of_getElem? (i := 27) rfl)) (by decide) (by decide)) q79a q79c (g := (mkF m 1 #[.val (.ref a)] [(.ref a)])) rfl (by rw [hml]; rfl) (Steps.refl _) (argsL := []) (rest := []) (lenOf pd_0 rfl) rfl (by show 2 * 0 + _ ≤ _; exact Nat.le_of_eq rfl) (hb hby d5_1) (fun _ _ => ⟨rfl, e0, (by decide : 0 + 0 ≤ _), (by decide : 0 + 0 ≤ _)⟩)
  dsimp only [Pt.U, Pt.locs, Pt.cells, Pt.slots] at X79 l79 y79 z79 st79 hQ79
  subst l79 y79 z79
  obtain ⟨rfl, N79q, e79⟩ := hQ79
  have N79 := Fr.app N0 N79q
  have G80 : Go p e below A0 (T79.setTop (mkF m 4 #[.val (.ref a)] [(.int (4 : Int32))])) := fun tq kq => G78 tq (st79.trans kq)
  have G81 : Go p e below A0 (T79.setTop (mkF m 78 #[.val (.ref a)] [])) := fun tq kq => G80 tq (by
    refine XS.tswIn X79.here hx rfl (pc0 := 4) (pc' := 78) rfl (hb hby d5_4) rfl (by decide) (o := 74) (by decide) (by decide) (by decide) ?_
    show Steps p.tables e below (T79.setTop (mkF m 78 #[.val (.ref a)] [])) _
    exact kq)
  obtain ⟨T82, X82, e82, st82⟩ := getS2 X79 hx hZ hown (host := "") (Or.inl (hw _ (List.mem_of_getElem? (i := 15) rfl))) Via.refl e79 S (g := (mkF m 78 #[.val (.ref a)] [])) rfl (hb hby d5_78)
  have G83 : Go p e below A0 (T82.setTop (mkF m 81 #[.val (.ref a)] [(.ref r)])) := fun tq kq => G81 tq (st82 _ kq)
  have G84 : Go p e below A0 (T82.setTop (mkF m 87 #[.val (.ref a)] [(.ref r)])) := fun tq kq => G83 tq (by
    refine XS.goto X82.here hx rfl (pc0 := 81) (pc' := 87) rfl (hb hby d5_81) (by decide) (by decide) ?_
    show Steps p.tables e below (T82.setTop (mkF m 87 #[.val (.ref a)] [(.ref r)])) _
    exact kq)
  obtain ⟨fs, hr, hrun, hended, hW, hsame⟩ := X82.leave (v := some (.ref r)) (fun h => by rw [Bd.returns] at h; cases h)
  refine ⟨_, _, (by rw [← hA0]; exact G84 _ (retOut X82 hx (t := (.object "com/example/tube2/tube2/logic/Operator")) Bd.returns rfl (Or.inr (Or.inr (Or.inr (Or.inr ⟨rfl, rfl, rfl⟩)))) (hb hby d5_87) hr)), hrun, hended, _, _, rfl, ?_, ⟨_, rfl⟩, hW, hsame.mono (by decide) (by decide)⟩
  exact ⟨rfl, N79, e82⟩
set_option maxRecDepth 65536 in
set_option maxHeartbeats 40000000 in
theorem rm3_5 (l : Launch) (Z : State) (a0 : Array Value) (hw : ∀ d ∈ tables_1, d.before a0 Z = true) (ws : List Jvm.Cond) (a : Addr) (i r : Int32) (h0 : Heap) (n0 : Nat) (Z0 : n0 ≤ h0.size) (E : Exa Z h0 a "com/example/tube2/tube2/logic/Operator") (F : Fld Z h0 a "java/lang/Enum" "ordinal" "I" (.int (5 : Int32))) (hr0 : own_b (¬ i = (0 : Int32)) = r) :
    MetFree l (⟨"com/example/tube2/tube2/logic/Operator", "holds", "(I)Z"⟩ : MethodName) (head1 (Jvm.Cond.code (⟨"com/example/tube2/tube2/logic/Operator", "holds", "(I)Z"⟩ : MethodName) prog_85_method_7_code 2 (some .boolean) :: ws) ({ frames := 1, cells := 0, slots := 0, locals := 12 } : Room)) (fun aa UU => aa = #[(.ref a), (.int i)] ∧ Z.Warmed39 UU.vm ∧ UU.heap = h0) (fun _ _ _ _ _ => True) (fun _ UU oo U' => ∃ v L, oo = .returned v ∧ Qr (.int r) h0 n0 v U'.heap L ∧ FrameEnd UU oo U' L ({ frames := 1, cells := 0, slots := 0, locals := 12 } : Room).cells ({ frames := 1, cells := 0, slots := 0, locals := 12 } : Room).slots) := by
  refine MetFree.of_bodySF (plainFor_of_name pn_1) hisR ?_
  intro p e s m args below meth c s₁ Bd hml0 hP hK
  obtain ⟨rfl, hZ, hh⟩ := hP
  have hx := Bd.exec
  have hby := Bd.bytes
  have hml : c.maxLocals = 2 := hml0
  have hown : s.vm.findClass "com/example/tube2/tube2/logic/Operator" = some m.cls := findClass_of_methodNamed Bd.named
  have hnm := (name_of_methodNamed Bd.named Bd.method).1
  have X0 : Stand p l e ({ frames := 1, cells := 0, slots := 0, locals := 12 } : Room) s m #[(.ref a), (.int i)] below meth c s₁ [] 0 0 := Stand.of_body Bd
  have e0 : s₁.heap = h0 := by rw [← hh, Bd.state]; rfl
  have N0 := Fr.nil n0
  obtain ⟨A0, hA0⟩ : ∃ A, A = s₁.setTop (entryFrame m #[(.ref a), (.int i)] 2) := ⟨_, rfl⟩
  have G0 : Go p e below A0 (s₁.setTop (mkF m 0 #[.val (.ref a), .val (.int i)] [])) := fun tq kq => by rw [hA0]; exact castTop (ef_rm3_5 m a i) kq
  have G85 : Go p e below A0 (s₁.setTop (mkF m 1 #[.val (.ref a), .val (.int i)] [(.ref a)])) := fun tq kq => G0 tq (by
    refine XS.aloadN X0.here hx rfl (hb hby d3_0) rfl rfl ?_
    show Steps p.tables e below (s₁.setTop (mkF m 1 #[.val (.ref a), .val (.int i)] [(.ref a)])) _
    exact kq)
  obtain ⟨cq86, kq86, q86a, q86b, q86c⟩ := isOf hZ e0 E
  obtain ⟨_, _, ⟨T86, L86, k86, n86⟩, -, X86, ⟨Lc86, hQ86, l86, y86, z86⟩, st86⟩ := X0.virtualBackUp hx (owner := "java/lang/Enum") (x := (⟨"com/example/tube2/tube2/logic/Operator", "ordinal", "()I"⟩ : MethodName)) (y := (⟨"java/lang/Enum", "ordinal", "()I"⟩ : MethodName)) hown (mvT hZ (hw _ (List.mem_of_getElem? (i := 22) rfl))) (mvT hZ (hw _ (List.mem_of_getElem? (i := 23) rfl))) (mvT hZ (hw _ (List.mem_of_getElem? (i := 24) rfl))) (by decide) (mvT hZ (hw _ (List.mem_of_getElem? (i := 26) rfl))) (mvT hZ (hw _ (List.mem_of_getElem? (i := 25) rfl))) (backOf (W := 0) (rm4 l Z a0 hw [] a (5 : Int32) h0 n0 Z0 F) hZ (hw _ (List.mem_of_getElem? (i := 28) rfl)) (hw _ (List.mem_of_getElem? (i := 27) rfl)) (by decide) (by decide)) q86a q86c (g := (mkF m 1 #[.val (.ref a), .val (.int i)] [(.ref a)])) rfl (by rw [hml]; rfl) (Steps.refl _) (argsL := []) (rest := []) (lenOf pd_0 rfl) rfl (by show 2 * 0 + _ ≤ _; exact Nat.le_of_eq rfl) (hb hby d3_1) (fun _ _ => ⟨rfl, e0, (by decide : 0 + 0 ≤ _), (by decide : 0 + 0 ≤ _)⟩)
  dsimp only [Pt.U, Pt.locs, Pt.cells, Pt.slots] at X86 l86 y86 z86 st86 hQ86
  subst l86 y86 z86
  obtain ⟨rfl, N86q, e86⟩ := hQ86
  have N86 := Fr.app N0 N86q
  have G87 : Go p e below A0 (T86.setTop (mkF m 4 #[.val (.ref a), .val (.int i)] [(.int (5 : Int32))])) := fun tq kq => G85 tq (st86.trans kq)
  have G88 : Go p e below A0 (T86.setTop (mkF m 115 #[.val (.ref a), .val (.int i)] [(.int i)])) := fun tq kq => G87 tq (by
    refine XS.tswIn X86.here hx rfl (pc0 := 4) (pc' := 114) rfl (hb hby d3_4) rfl (by decide) (o := 110) (by decide) (by decide) (by decide) ?_
    show Steps p.tables e below (T86.setTop (mkF m 114 #[.val (.ref a), .val (.int i)] [])) _
    refine XS.iloadN X86.here hx rfl (hb hby d3_114) rfl ?_
    show Steps p.tables e below (T86.setTop (mkF m 115 #[.val (.ref a), .val (.int i)] [(.int i)])) _
    exact kq)
  by_cases hc89 : i = (0 : Int32)
  · have G90 : Go p e below A0 (T86.setTop (mkF m 123 #[.val (.ref a), .val (.int i)] [(.int (0 : Int32))])) := fun tq kq => G88 tq (by
      refine XS.ifYes X86.here hx rfl (pc0 := 115) (pc' := 122) rfl (hb hby d3_115) rfl ((if0 _ _).trans (teq hc89).1) (by decide) (by decide) ?_
      show Steps p.tables e below (T86.setTop (mkF m 122 #[.val (.ref a), .val (.int i)] [])) _
      refine XS.iconst X86.here hx rfl (hb hby d3_122) ?_
      show Steps p.tables e below (T86.setTop (mkF m 123 #[.val (.ref a), .val (.int i)] [(.int (0 : Int32))])) _
      exact kq)
    obtain ⟨fs, hr, hrun, hended, hW, hsame⟩ := X86.leave (v := some (.int (nar .boolean (0 : Int32)))) (fun h => by rw [Bd.returns] at h; cases h)
    refine ⟨_, _, (by rw [← hA0]; exact G90 _ (retN X86 hx (t := .boolean) Bd.returns (by simp) (hb hby d3_123) hr)), hrun, hended, _, _, rfl, ?_, ⟨_, rfl⟩, hW, hsame.mono (by decide) (by decide)⟩
    exact ⟨(by rw [← hr0, show own_b (¬ i = (0 : Int32)) = (0 : Int32) from by simp [own_b, hc89]]; rfl), N86, e86⟩
  · have G91 : Go p e below A0 (T86.setTop (mkF m 123 #[.val (.ref a), .val (.int i)] [(.int (1 : Int32))])) := fun tq kq => G88 tq (by
      refine XS.ifNo X86.here hx rfl (hb hby d3_115) rfl ((if0 _ _).trans (feq hc89).1) ?_
      show Steps p.tables e below (T86.setTop (mkF m 118 #[.val (.ref a), .val (.int i)] [])) _
      refine XS.iconst X86.here hx rfl (hb hby d3_118) ?_
      show Steps p.tables e below (T86.setTop (mkF m 119 #[.val (.ref a), .val (.int i)] [(.int (1 : Int32))])) _
      refine XS.goto X86.here hx rfl (pc0 := 119) (pc' := 123) rfl (hb hby d3_119) (by decide) (by decide) ?_
      show Steps p.tables e below (T86.setTop (mkF m 123 #[.val (.ref a), .val (.int i)] [(.int (1 : Int32))])) _
      exact kq)
    obtain ⟨fs, hr, hrun, hended, hW, hsame⟩ := X86.leave (v := some (.int (nar .boolean (1 : Int32)))) (fun h => by rw [Bd.returns] at h; cases h)
    refine ⟨_, _, (by rw [← hA0]; exact G91 _ (retN X86 hx (t := .boolean) Bd.returns (by simp) (hb hby d3_123) hr)), hrun, hended, _, _, rfl, ?_, ⟨_, rfl⟩, hW, hsame.mono (by decide) (by decide)⟩
    exact ⟨(by rw [← hr0, show own_b (¬ i = (0 : Int32)) = (1 : Int32) from by simp [own_b, hc89]]; rfl), N86, e86⟩
set_option maxRecDepth 65536 in
set_option maxHeartbeats 40000000 in
theorem rm5_5 (l : Launch) (Z : State) (a0 : Array Value) (hw : ∀ d ∈ tables_1, d.before a0 Z = true) (ws : List Jvm.Cond) (a r : Addr) (h0 : Heap) (n0 : Nat) (Z0 : n0 ≤ h0.size) (E : Exa Z h0 a "com/example/tube2/tube2/logic/Operator") (F : Fld Z h0 a "java/lang/Enum" "ordinal" "I" (.int (5 : Int32))) (S : Sta Z h0 "com/example/tube2/tube2/logic/Operator" "EQUAL" "Lcom/example/tube2/tube2/logic/Operator;" (.ref r)) :
    MetFree l (⟨"com/example/tube2/tube2/logic/Operator", "complement", "()Lcom/example/tube2/tube2/logic/Operator;"⟩ : MethodName) (head1 (Jvm.Cond.code (⟨"com/example/tube2/tube2/logic/Operator", "complement", "()Lcom/example/tube2/tube2/logic/Operator;"⟩ : MethodName) prog_85_method_6_code 1 (some (.object "com/example/tube2/tube2/logic/Operator")) :: ws) ({ frames := 1, cells := 0, slots := 0, locals := 12 } : Room)) (fun aa UU => aa = #[(.ref a)] ∧ Z.Warmed39 UU.vm ∧ UU.heap = h0) (fun _ _ _ _ _ => True) (fun _ UU oo U' => ∃ v L, oo = .returned v ∧ Qr (.ref r) h0 n0 v U'.heap L ∧ FrameEnd UU oo U' L ({ frames := 1, cells := 0, slots := 0, locals := 12 } : Room).cells ({ frames := 1, cells := 0, slots := 0, locals := 12 } : Room).slots) := by
  refine MetFree.of_bodySF (plainFor_of_name pn_1) hisR ?_
  intro p e s m args below meth c s₁ Bd hml0 hP hK
  obtain ⟨rfl, hZ, hh⟩ := hP
  have hx := Bd.exec
  have hby := Bd.bytes
  have hml : c.maxLocals = 1 := hml0
  have hown : s.vm.findClass "com/example/tube2/tube2/logic/Operator" = some m.cls := findClass_of_methodNamed Bd.named
  have hnm := (name_of_methodNamed Bd.named Bd.method).1
  have X0 : Stand p l e ({ frames := 1, cells := 0, slots := 0, locals := 12 } : Room) s m #[(.ref a)] below meth c s₁ [] 0 0 := Stand.of_body Bd
  have e0 : s₁.heap = h0 := by rw [← hh, Bd.state]; rfl
  have N0 := Fr.nil n0
  obtain ⟨A0, hA0⟩ : ∃ A, A = s₁.setTop (entryFrame m #[(.ref a)] 1) := ⟨_, rfl⟩
  have G0 : Go p e below A0 (s₁.setTop (mkF m 0 #[.val (.ref a)] [])) := fun tq kq => by rw [hA0]; exact castTop (ef_rm5_5 m a) kq
  have G92 : Go p e below A0 (s₁.setTop (mkF m 1 #[.val (.ref a)] [(.ref a)])) := fun tq kq => G0 tq (by
    refine XS.aloadN X0.here hx rfl (hb hby d5_0) rfl rfl ?_
    show Steps p.tables e below (s₁.setTop (mkF m 1 #[.val (.ref a)] [(.ref a)])) _
    exact kq)
  obtain ⟨cq93, kq93, q93a, q93b, q93c⟩ := isOf hZ e0 E
  obtain ⟨_, _, ⟨T93, L93, k93, n93⟩, -, X93, ⟨Lc93, hQ93, l93, y93, z93⟩, st93⟩ := X0.virtualBackUp hx (owner := "java/lang/Enum") (x := (⟨"com/example/tube2/tube2/logic/Operator", "ordinal", "()I"⟩ : MethodName)) (y := (⟨"java/lang/Enum", "ordinal", "()I"⟩ : MethodName)) hown (mvT hZ (hw _ (List.mem_of_getElem? (i := 22) rfl))) (mvT hZ (hw _ (List.mem_of_getElem? (i := 23) rfl))) (mvT hZ (hw _ (List.mem_of_getElem? (i := 24) rfl))) (by decide) (mvT hZ (hw _ (List.mem_of_getElem? (i := 26) rfl))) (mvT hZ (hw _ (List.mem_of_getElem? (i := 25) rfl))) (backOf (W := 0) (rm4 l Z a0 hw [] a (5 : Int32) h0 n0 Z0 F) hZ (hw _ (List.mem_of_getElem? (i := 28) rfl)) (hw _ (List.mem_of_getElem? (i := 27) rfl)) (by decide) (by decide)) q93a q93c (g := (mkF m 1 #[.val (.ref a)] [(.ref a)])) rfl (by rw [hml]; rfl) (Steps.refl _) (argsL := []) (rest := []) (lenOf pd_0 rfl) rfl (by show 2 * 0 + _ ≤ _; exact Nat.le_of_eq rfl) (hb hby d5_1) (fun _ _ => ⟨rfl, e0, (by decide : 0 + 0 ≤ _), (by decide : 0 + 0 ≤ _)⟩)
  dsimp only [Pt.U, Pt.locs, Pt.cells, Pt.slots] at X93 l93 y93 z93 st93 hQ93
  subst l93 y93 z93
  obtain ⟨rfl, N93q, e93⟩ := hQ93
  have N93 := Fr.app N0 N93q
  have G94 : Go p e below A0 (T93.setTop (mkF m 4 #[.val (.ref a)] [(.int (5 : Int32))])) := fun tq kq => G92 tq (st93.trans kq)
  have G95 : Go p e below A0 (T93.setTop (mkF m 84 #[.val (.ref a)] [])) := fun tq kq => G94 tq (by
    refine XS.tswIn X93.here hx rfl (pc0 := 4) (pc' := 84) rfl (hb hby d5_4) rfl (by decide) (o := 80) (by decide) (by decide) (by decide) ?_
    show Steps p.tables e below (T93.setTop (mkF m 84 #[.val (.ref a)] [])) _
    exact kq)
  obtain ⟨T96, X96, e96, st96⟩ := getS2 X93 hx hZ hown (host := "") (Or.inl (hw _ (List.mem_of_getElem? (i := 13) rfl))) Via.refl e93 S (g := (mkF m 84 #[.val (.ref a)] [])) rfl (hb hby d5_84)
  have G97 : Go p e below A0 (T96.setTop (mkF m 87 #[.val (.ref a)] [(.ref r)])) := fun tq kq => G95 tq (st96 _ kq)
  obtain ⟨fs, hr, hrun, hended, hW, hsame⟩ := X96.leave (v := some (.ref r)) (fun h => by rw [Bd.returns] at h; cases h)
  refine ⟨_, _, (by rw [← hA0]; exact G97 _ (retOut X96 hx (t := (.object "com/example/tube2/tube2/logic/Operator")) Bd.returns rfl (Or.inr (Or.inr (Or.inr (Or.inr ⟨rfl, rfl, rfl⟩)))) (hb hby d5_87) hr)), hrun, hended, _, _, rfl, ?_, ⟨_, rfl⟩, hW, hsame.mono (by decide) (by decide)⟩
  exact ⟨rfl, N93, e96⟩
set_option maxRecDepth 65536 in
set_option maxHeartbeats 40000000 in
theorem rm1 (l : Launch) (Z : State) (a0 : Array Value) (hw : ∀ d ∈ tables_1, d.before a0 Z = true) (ws : List Jvm.Cond) (p0 : Int32) (a_LESS a_LESS_OR_EQUAL a_GREATER a_GREATER_OR_EQUAL a_EQUAL a_NOT_EQUAL r : Addr) (h0 : Heap) (n0 : Nat) (Z0 : n0 ≤ h0.size) (S_LESS : Sta Z h0 "com/example/tube2/tube2/logic/Operator" "LESS" "Lcom/example/tube2/tube2/logic/Operator;" (.ref a_LESS)) (S_LESS_OR_EQUAL : Sta Z h0 "com/example/tube2/tube2/logic/Operator" "LESS_OR_EQUAL" "Lcom/example/tube2/tube2/logic/Operator;" (.ref a_LESS_OR_EQUAL)) (S_GREATER : Sta Z h0 "com/example/tube2/tube2/logic/Operator" "GREATER" "Lcom/example/tube2/tube2/logic/Operator;" (.ref a_GREATER)) (S_GREATER_OR_EQUAL : Sta Z h0 "com/example/tube2/tube2/logic/Operator" "GREATER_OR_EQUAL" "Lcom/example/tube2/tube2/logic/Operator;" (.ref a_GREATER_OR_EQUAL)) (S_EQUAL : Sta Z h0 "com/example/tube2/tube2/logic/Operator" "EQUAL" "Lcom/example/tube2/tube2/logic/Operator;" (.ref a_EQUAL)) (S_NOT_EQUAL : Sta Z h0 "com/example/tube2/tube2/logic/Operator" "NOT_EQUAL" "Lcom/example/tube2/tube2/logic/Operator;" (.ref a_NOT_EQUAL)) (hr0 : (if ((p0 &&& (2147483647 : Int32)) % (6 : Int32)) = (0 : Int32) then a_LESS else if ((p0 &&& (2147483647 : Int32)) % (6 : Int32)) = (1 : Int32) then a_LESS_OR_EQUAL else if ((p0 &&& (2147483647 : Int32)) % (6 : Int32)) = (2 : Int32) then a_GREATER else if ((p0 &&& (2147483647 : Int32)) % (6 : Int32)) = (3 : Int32) then a_GREATER_OR_EQUAL else if ((p0 &&& (2147483647 : Int32)) % (6 : Int32)) = (4 : Int32) then a_EQUAL else a_NOT_EQUAL) = r) :
    MetFree l (⟨"com/example/tube2/tube2/logic/OperatorIsOrderingPinLaw", "pick", "(I)Lcom/example/tube2/tube2/logic/Operator;"⟩ : MethodName) (head1 (Jvm.Cond.code (⟨"com/example/tube2/tube2/logic/OperatorIsOrderingPinLaw", "pick", "(I)Lcom/example/tube2/tube2/logic/Operator;"⟩ : MethodName) method_2_code 2 (some (.object "com/example/tube2/tube2/logic/Operator")) :: ws) ({ frames := 0, cells := 0, slots := 0, locals := 0 } : Room)) (fun aa UU => aa = #[(.int p0)] ∧ Z.Warmed39 UU.vm ∧ UU.heap = h0) (fun _ _ _ _ _ => True) (fun _ UU oo U' => ∃ v L, oo = .returned v ∧ Qr (.ref r) h0 n0 v U'.heap L ∧ FrameEnd UU oo U' L ({ frames := 0, cells := 0, slots := 0, locals := 0 } : Room).cells ({ frames := 0, cells := 0, slots := 0, locals := 0 } : Room).slots) := by
  refine MetFree.of_bodySF (plainFor_of_name pn_2) hisR ?_
  intro p e s m args below meth c s₁ Bd hml0 hP hK
  obtain ⟨rfl, hZ, hh⟩ := hP
  have hx := Bd.exec
  have hby := Bd.bytes
  have hml : c.maxLocals = 2 := hml0
  have hown : s.vm.findClass "com/example/tube2/tube2/logic/OperatorIsOrderingPinLaw" = some m.cls := findClass_of_methodNamed Bd.named
  have hnm := (name_of_methodNamed Bd.named Bd.method).1
  have X0 : Stand p l e ({ frames := 0, cells := 0, slots := 0, locals := 0 } : Room) s m #[(.int p0)] below meth c s₁ [] 0 0 := Stand.of_body Bd
  have e0 : s₁.heap = h0 := by rw [← hh, Bd.state]; rfl
  have N0 := Fr.nil n0
  obtain ⟨A0, hA0⟩ : ∃ A, A = s₁.setTop (entryFrame m #[(.int p0)] 2) := ⟨_, rfl⟩
  have G0 : Go p e below A0 (s₁.setTop (mkF m 0 #[.val (.int p0), .unset] [])) := fun tq kq => by rw [hA0]; exact castTop (ef_rm1 m p0) kq
  have G98 : Go p e below A0 (s₁.setTop (mkF m 9 #[.val (.int p0), .val (.int ((p0 &&& (2147483647 : Int32)) % (6 : Int32)))] [(.int ((p0 &&& (2147483647 : Int32)) % (6 : Int32)))])) := fun tq kq => G0 tq (by
    refine XS.iloadN X0.here hx rfl (hb hby d1_0) rfl ?_
    show Steps p.tables e below (s₁.setTop (mkF m 1 #[.val (.int p0), .unset] [(.int p0)])) _
    refine X0.ldcInt hx hown (mvT hZ (hw _ (List.mem_of_getElem? (i := 4) rfl))) (g := (mkF m 1 #[.val (.int p0), .unset] [(.int p0)])) rfl (hb hby d1_1) _ ?_
    show Steps p.tables e below (s₁.setTop (mkF m 3 #[.val (.int p0), .unset] [(.int (2147483647 : Int32)), (.int p0)])) _
    refine XS.iand X0.here hx rfl (hb hby d1_3) rfl ?_
    show Steps p.tables e below (s₁.setTop (mkF m 4 #[.val (.int p0), .unset] [(.int (p0 &&& (2147483647 : Int32)))])) _
    refine XS.bipush X0.here hx rfl (hb hby d1_4) ?_
    show Steps p.tables e below (s₁.setTop (mkF m 6 #[.val (.int p0), .unset] [(.int (6 : Int32)), (.int (p0 &&& (2147483647 : Int32)))])) _
    refine iremM X0 hx rfl (hb hby d1_6) rfl (by decide) ?_
    show Steps p.tables e below (s₁.setTop (mkF m 7 #[.val (.int p0), .unset] [(.int ((p0 &&& (2147483647 : Int32)) % (6 : Int32)))])) _
    refine XS.istoreN X0.here hx rfl (hb hby d1_7) rfl (l' := #[.val (.int p0), .val (.int ((p0 &&& (2147483647 : Int32)) % (6 : Int32)))]) rfl ?_
    show Steps p.tables e below (s₁.setTop (mkF m 8 #[.val (.int p0), .val (.int ((p0 &&& (2147483647 : Int32)) % (6 : Int32)))] [])) _
    refine XS.iloadN X0.here hx rfl (hb hby d1_8) rfl ?_
    show Steps p.tables e below (s₁.setTop (mkF m 9 #[.val (.int p0), .val (.int ((p0 &&& (2147483647 : Int32)) % (6 : Int32)))] [(.int ((p0 &&& (2147483647 : Int32)) % (6 : Int32)))])) _
    exact kq)
  by_cases hc99 : ((p0 &&& (2147483647 : Int32)) % (6 : Int32)) = (0 : Int32)
  · have G100 : Go p e below A0 (s₁.setTop (mkF m 12 #[.val (.int p0), .val (.int ((p0 &&& (2147483647 : Int32)) % (6 : Int32)))] [])) := fun tq kq => G98 tq (by
      refine XS.ifNo X0.here hx rfl (hb hby d1_9) rfl ((if0 _ _).trans (teq hc99).2) ?_
      show Steps p.tables e below (s₁.setTop (mkF m 12 #[.val (.int p0), .val (.int ((p0 &&& (2147483647 : Int32)) % (6 : Int32)))] [])) _
      exact kq)
    obtain ⟨T101, X101, e101, st101⟩ := getS2 X0 hx hZ hown (host := "") (Or.inl (hw _ (List.mem_of_getElem? (i := 5) rfl))) Via.refl e0 S_LESS (g := (mkF m 12 #[.val (.int p0), .val (.int ((p0 &&& (2147483647 : Int32)) % (6 : Int32)))] [])) rfl (hb hby d1_12)
    have G102 : Go p e below A0 (T101.setTop (mkF m 15 #[.val (.int p0), .val (.int ((p0 &&& (2147483647 : Int32)) % (6 : Int32)))] [(.ref a_LESS)])) := fun tq kq => G100 tq (st101 _ kq)
    obtain ⟨fs, hr, hrun, hended, hW, hsame⟩ := X101.leave (v := some (.ref a_LESS)) (fun h => by rw [Bd.returns] at h; cases h)
    refine ⟨_, _, (by rw [← hA0]; exact G102 _ (retOut X101 hx (t := (.object "com/example/tube2/tube2/logic/Operator")) Bd.returns rfl (Or.inr (Or.inr (Or.inr (Or.inr ⟨rfl, rfl, rfl⟩)))) (hb hby d1_15) hr)), hrun, hended, _, _, rfl, ?_, ⟨_, rfl⟩, hW, hsame.mono (by decide) (by decide)⟩
    exact ⟨(by rw [← hr0]; simp [hc99]), N0, e101⟩
  · have G103 : Go p e below A0 (s₁.setTop (mkF m 18 #[.val (.int p0), .val (.int ((p0 &&& (2147483647 : Int32)) % (6 : Int32)))] [(.int (1 : Int32)), (.int ((p0 &&& (2147483647 : Int32)) % (6 : Int32)))])) := fun tq kq => G98 tq (by
      refine XS.ifYes X0.here hx rfl (pc0 := 9) (pc' := 16) rfl (hb hby d1_9) rfl ((if0 _ _).trans (feq hc99).2) (by decide) (by decide) ?_
      show Steps p.tables e below (s₁.setTop (mkF m 16 #[.val (.int p0), .val (.int ((p0 &&& (2147483647 : Int32)) % (6 : Int32)))] [])) _
      refine XS.iloadN X0.here hx rfl (hb hby d1_16) rfl ?_
      show Steps p.tables e below (s₁.setTop (mkF m 17 #[.val (.int p0), .val (.int ((p0 &&& (2147483647 : Int32)) % (6 : Int32)))] [(.int ((p0 &&& (2147483647 : Int32)) % (6 : Int32)))])) _
      refine XS.iconst X0.here hx rfl (hb hby d1_17) ?_
      show Steps p.tables e below (s₁.setTop (mkF m 18 #[.val (.int p0), .val (.int ((p0 &&& (2147483647 : Int32)) % (6 : Int32)))] [(.int (1 : Int32)), (.int ((p0 &&& (2147483647 : Int32)) % (6 : Int32)))])) _
      exact kq)
    by_cases hc104 : ((p0 &&& (2147483647 : Int32)) % (6 : Int32)) = (1 : Int32)
    · have G105 : Go p e below A0 (s₁.setTop (mkF m 21 #[.val (.int p0), .val (.int ((p0 &&& (2147483647 : Int32)) % (6 : Int32)))] [])) := fun tq kq => G103 tq (by
        refine XS.icmpNo X0.here hx rfl (hb hby d1_18) rfl (teq hc104).2 ?_
        show Steps p.tables e below (s₁.setTop (mkF m 21 #[.val (.int p0), .val (.int ((p0 &&& (2147483647 : Int32)) % (6 : Int32)))] [])) _
        exact kq)
      obtain ⟨T106, X106, e106, st106⟩ := getS2 X0 hx hZ hown (host := "") (Or.inl (hw _ (List.mem_of_getElem? (i := 43) rfl))) Via.refl e0 S_LESS_OR_EQUAL (g := (mkF m 21 #[.val (.int p0), .val (.int ((p0 &&& (2147483647 : Int32)) % (6 : Int32)))] [])) rfl (hb hby d1_21)
      have G107 : Go p e below A0 (T106.setTop (mkF m 24 #[.val (.int p0), .val (.int ((p0 &&& (2147483647 : Int32)) % (6 : Int32)))] [(.ref a_LESS_OR_EQUAL)])) := fun tq kq => G105 tq (st106 _ kq)
      obtain ⟨fs, hr, hrun, hended, hW, hsame⟩ := X106.leave (v := some (.ref a_LESS_OR_EQUAL)) (fun h => by rw [Bd.returns] at h; cases h)
      refine ⟨_, _, (by rw [← hA0]; exact G107 _ (retOut X106 hx (t := (.object "com/example/tube2/tube2/logic/Operator")) Bd.returns rfl (Or.inr (Or.inr (Or.inr (Or.inr ⟨rfl, rfl, rfl⟩)))) (hb hby d1_24) hr)), hrun, hended, _, _, rfl, ?_, ⟨_, rfl⟩, hW, hsame.mono (by decide) (by decide)⟩
      exact ⟨(by rw [← hr0]; simp [hc99, hc104]), N0, e106⟩
    · have G108 : Go p e below A0 (s₁.setTop (mkF m 27 #[.val (.int p0), .val (.int ((p0 &&& (2147483647 : Int32)) % (6 : Int32)))] [(.int (2 : Int32)), (.int ((p0 &&& (2147483647 : Int32)) % (6 : Int32)))])) := fun tq kq => G103 tq (by
        refine XS.icmpYes X0.here hx rfl (pc0 := 18) (pc' := 25) rfl (hb hby d1_18) rfl (feq hc104).2 (by decide) (by decide) ?_
        show Steps p.tables e below (s₁.setTop (mkF m 25 #[.val (.int p0), .val (.int ((p0 &&& (2147483647 : Int32)) % (6 : Int32)))] [])) _
        refine XS.iloadN X0.here hx rfl (hb hby d1_25) rfl ?_
        show Steps p.tables e below (s₁.setTop (mkF m 26 #[.val (.int p0), .val (.int ((p0 &&& (2147483647 : Int32)) % (6 : Int32)))] [(.int ((p0 &&& (2147483647 : Int32)) % (6 : Int32)))])) _
        refine XS.iconst X0.here hx rfl (hb hby d1_26) ?_
        show Steps p.tables e below (s₁.setTop (mkF m 27 #[.val (.int p0), .val (.int ((p0 &&& (2147483647 : Int32)) % (6 : Int32)))] [(.int (2 : Int32)), (.int ((p0 &&& (2147483647 : Int32)) % (6 : Int32)))])) _
        exact kq)
      by_cases hc109 : ((p0 &&& (2147483647 : Int32)) % (6 : Int32)) = (2 : Int32)
      · have G110 : Go p e below A0 (s₁.setTop (mkF m 30 #[.val (.int p0), .val (.int ((p0 &&& (2147483647 : Int32)) % (6 : Int32)))] [])) := fun tq kq => G108 tq (by
          refine XS.icmpNo X0.here hx rfl (hb hby d1_27) rfl (teq hc109).2 ?_
          show Steps p.tables e below (s₁.setTop (mkF m 30 #[.val (.int p0), .val (.int ((p0 &&& (2147483647 : Int32)) % (6 : Int32)))] [])) _
          exact kq)
        obtain ⟨T111, X111, e111, st111⟩ := getS2 X0 hx hZ hown (host := "") (Or.inl (hw _ (List.mem_of_getElem? (i := 38) rfl))) Via.refl e0 S_GREATER (g := (mkF m 30 #[.val (.int p0), .val (.int ((p0 &&& (2147483647 : Int32)) % (6 : Int32)))] [])) rfl (hb hby d1_30)
        have G112 : Go p e below A0 (T111.setTop (mkF m 33 #[.val (.int p0), .val (.int ((p0 &&& (2147483647 : Int32)) % (6 : Int32)))] [(.ref a_GREATER)])) := fun tq kq => G110 tq (st111 _ kq)
        obtain ⟨fs, hr, hrun, hended, hW, hsame⟩ := X111.leave (v := some (.ref a_GREATER)) (fun h => by rw [Bd.returns] at h; cases h)
        refine ⟨_, _, (by rw [← hA0]; exact G112 _ (retOut X111 hx (t := (.object "com/example/tube2/tube2/logic/Operator")) Bd.returns rfl (Or.inr (Or.inr (Or.inr (Or.inr ⟨rfl, rfl, rfl⟩)))) (hb hby d1_33) hr)), hrun, hended, _, _, rfl, ?_, ⟨_, rfl⟩, hW, hsame.mono (by decide) (by decide)⟩
        exact ⟨(by rw [← hr0]; simp [hc99, hc104, hc109]), N0, e111⟩
      · have G113 : Go p e below A0 (s₁.setTop (mkF m 36 #[.val (.int p0), .val (.int ((p0 &&& (2147483647 : Int32)) % (6 : Int32)))] [(.int (3 : Int32)), (.int ((p0 &&& (2147483647 : Int32)) % (6 : Int32)))])) := fun tq kq => G108 tq (by
          refine XS.icmpYes X0.here hx rfl (pc0 := 27) (pc' := 34) rfl (hb hby d1_27) rfl (feq hc109).2 (by decide) (by decide) ?_
          show Steps p.tables e below (s₁.setTop (mkF m 34 #[.val (.int p0), .val (.int ((p0 &&& (2147483647 : Int32)) % (6 : Int32)))] [])) _
          refine XS.iloadN X0.here hx rfl (hb hby d1_34) rfl ?_
          show Steps p.tables e below (s₁.setTop (mkF m 35 #[.val (.int p0), .val (.int ((p0 &&& (2147483647 : Int32)) % (6 : Int32)))] [(.int ((p0 &&& (2147483647 : Int32)) % (6 : Int32)))])) _
          refine XS.iconst X0.here hx rfl (hb hby d1_35) ?_
          show Steps p.tables e below (s₁.setTop (mkF m 36 #[.val (.int p0), .val (.int ((p0 &&& (2147483647 : Int32)) % (6 : Int32)))] [(.int (3 : Int32)), (.int ((p0 &&& (2147483647 : Int32)) % (6 : Int32)))])) _
          exact kq)
        by_cases hc114 : ((p0 &&& (2147483647 : Int32)) % (6 : Int32)) = (3 : Int32)
        · have G115 : Go p e below A0 (s₁.setTop (mkF m 39 #[.val (.int p0), .val (.int ((p0 &&& (2147483647 : Int32)) % (6 : Int32)))] [])) := fun tq kq => G113 tq (by
            refine XS.icmpNo X0.here hx rfl (hb hby d1_36) rfl (teq hc114).2 ?_
            show Steps p.tables e below (s₁.setTop (mkF m 39 #[.val (.int p0), .val (.int ((p0 &&& (2147483647 : Int32)) % (6 : Int32)))] [])) _
            exact kq)
          obtain ⟨T116, X116, e116, st116⟩ := getS2 X0 hx hZ hown (host := "") (Or.inl (hw _ (List.mem_of_getElem? (i := 46) rfl))) Via.refl e0 S_GREATER_OR_EQUAL (g := (mkF m 39 #[.val (.int p0), .val (.int ((p0 &&& (2147483647 : Int32)) % (6 : Int32)))] [])) rfl (hb hby d1_39)
          have G117 : Go p e below A0 (T116.setTop (mkF m 42 #[.val (.int p0), .val (.int ((p0 &&& (2147483647 : Int32)) % (6 : Int32)))] [(.ref a_GREATER_OR_EQUAL)])) := fun tq kq => G115 tq (st116 _ kq)
          obtain ⟨fs, hr, hrun, hended, hW, hsame⟩ := X116.leave (v := some (.ref a_GREATER_OR_EQUAL)) (fun h => by rw [Bd.returns] at h; cases h)
          refine ⟨_, _, (by rw [← hA0]; exact G117 _ (retOut X116 hx (t := (.object "com/example/tube2/tube2/logic/Operator")) Bd.returns rfl (Or.inr (Or.inr (Or.inr (Or.inr ⟨rfl, rfl, rfl⟩)))) (hb hby d1_42) hr)), hrun, hended, _, _, rfl, ?_, ⟨_, rfl⟩, hW, hsame.mono (by decide) (by decide)⟩
          exact ⟨(by rw [← hr0]; simp [hc99, hc104, hc109, hc114]), N0, e116⟩
        · have G118 : Go p e below A0 (s₁.setTop (mkF m 45 #[.val (.int p0), .val (.int ((p0 &&& (2147483647 : Int32)) % (6 : Int32)))] [(.int (4 : Int32)), (.int ((p0 &&& (2147483647 : Int32)) % (6 : Int32)))])) := fun tq kq => G113 tq (by
            refine XS.icmpYes X0.here hx rfl (pc0 := 36) (pc' := 43) rfl (hb hby d1_36) rfl (feq hc114).2 (by decide) (by decide) ?_
            show Steps p.tables e below (s₁.setTop (mkF m 43 #[.val (.int p0), .val (.int ((p0 &&& (2147483647 : Int32)) % (6 : Int32)))] [])) _
            refine XS.iloadN X0.here hx rfl (hb hby d1_43) rfl ?_
            show Steps p.tables e below (s₁.setTop (mkF m 44 #[.val (.int p0), .val (.int ((p0 &&& (2147483647 : Int32)) % (6 : Int32)))] [(.int ((p0 &&& (2147483647 : Int32)) % (6 : Int32)))])) _
            refine XS.iconst X0.here hx rfl (hb hby d1_44) ?_
            show Steps p.tables e below (s₁.setTop (mkF m 45 #[.val (.int p0), .val (.int ((p0 &&& (2147483647 : Int32)) % (6 : Int32)))] [(.int (4 : Int32)), (.int ((p0 &&& (2147483647 : Int32)) % (6 : Int32)))])) _
            exact kq)
          by_cases hc119 : ((p0 &&& (2147483647 : Int32)) % (6 : Int32)) = (4 : Int32)
          · have G120 : Go p e below A0 (s₁.setTop (mkF m 48 #[.val (.int p0), .val (.int ((p0 &&& (2147483647 : Int32)) % (6 : Int32)))] [])) := fun tq kq => G118 tq (by
              refine XS.icmpNo X0.here hx rfl (hb hby d1_45) rfl (teq hc119).2 ?_
              show Steps p.tables e below (s₁.setTop (mkF m 48 #[.val (.int p0), .val (.int ((p0 &&& (2147483647 : Int32)) % (6 : Int32)))] [])) _
              exact kq)
            obtain ⟨T121, X121, e121, st121⟩ := getS2 X0 hx hZ hown (host := "") (Or.inl (hw _ (List.mem_of_getElem? (i := 42) rfl))) Via.refl e0 S_EQUAL (g := (mkF m 48 #[.val (.int p0), .val (.int ((p0 &&& (2147483647 : Int32)) % (6 : Int32)))] [])) rfl (hb hby d1_48)
            have G122 : Go p e below A0 (T121.setTop (mkF m 51 #[.val (.int p0), .val (.int ((p0 &&& (2147483647 : Int32)) % (6 : Int32)))] [(.ref a_EQUAL)])) := fun tq kq => G120 tq (st121 _ kq)
            obtain ⟨fs, hr, hrun, hended, hW, hsame⟩ := X121.leave (v := some (.ref a_EQUAL)) (fun h => by rw [Bd.returns] at h; cases h)
            refine ⟨_, _, (by rw [← hA0]; exact G122 _ (retOut X121 hx (t := (.object "com/example/tube2/tube2/logic/Operator")) Bd.returns rfl (Or.inr (Or.inr (Or.inr (Or.inr ⟨rfl, rfl, rfl⟩)))) (hb hby d1_51) hr)), hrun, hended, _, _, rfl, ?_, ⟨_, rfl⟩, hW, hsame.mono (by decide) (by decide)⟩
            exact ⟨(by rw [← hr0]; simp [hc99, hc104, hc109, hc114, hc119]), N0, e121⟩
          · have G123 : Go p e below A0 (s₁.setTop (mkF m 52 #[.val (.int p0), .val (.int ((p0 &&& (2147483647 : Int32)) % (6 : Int32)))] [])) := fun tq kq => G118 tq (by
              refine XS.icmpYes X0.here hx rfl (pc0 := 45) (pc' := 52) rfl (hb hby d1_45) rfl (feq hc119).2 (by decide) (by decide) ?_
              show Steps p.tables e below (s₁.setTop (mkF m 52 #[.val (.int p0), .val (.int ((p0 &&& (2147483647 : Int32)) % (6 : Int32)))] [])) _
              exact kq)
            obtain ⟨T124, X124, e124, st124⟩ := getS2 X0 hx hZ hown (host := "") (Or.inl (hw _ (List.mem_of_getElem? (i := 45) rfl))) Via.refl e0 S_NOT_EQUAL (g := (mkF m 52 #[.val (.int p0), .val (.int ((p0 &&& (2147483647 : Int32)) % (6 : Int32)))] [])) rfl (hb hby d1_52)
            have G125 : Go p e below A0 (T124.setTop (mkF m 55 #[.val (.int p0), .val (.int ((p0 &&& (2147483647 : Int32)) % (6 : Int32)))] [(.ref a_NOT_EQUAL)])) := fun tq kq => G123 tq (st124 _ kq)
            obtain ⟨fs, hr, hrun, hended, hW, hsame⟩ := X124.leave (v := some (.ref a_NOT_EQUAL)) (fun h => by rw [Bd.returns] at h; cases h)
            refine ⟨_, _, (by rw [← hA0]; exact G125 _ (retOut X124 hx (t := (.object "com/example/tube2/tube2/logic/Operator")) Bd.returns rfl (Or.inr (Or.inr (Or.inr (Or.inr ⟨rfl, rfl, rfl⟩)))) (hb hby d1_55) hr)), hrun, hended, _, _, rfl, ?_, ⟨_, rfl⟩, hW, hsame.mono (by decide) (by decide)⟩
            exact ⟨(by rw [← hr0]; simp [hc99, hc104, hc109, hc114, hc119]), N0, e124⟩
def Q0c (n0 : Nat) (v : Option Value) (L : List Loc) : Prop := v = some (.int 1) ∧ Fr n0 L
set_option maxRecDepth 65536 in
set_option maxHeartbeats 40000000 in
theorem rm0 (l : Launch) (Z : State) (a0 : Array Value) (hw : ∀ d ∈ tables_1, d.before a0 Z = true) (ws : List Jvm.Cond) (p0 p1 : Int32) (a_LESS a_LESS_OR_EQUAL a_GREATER a_GREATER_OR_EQUAL a_EQUAL a_NOT_EQUAL : Addr) (h0 : Heap) (n0 : Nat) (Z0 : n0 ≤ h0.size) (S_LESS : Sta Z h0 "com/example/tube2/tube2/logic/Operator" "LESS" "Lcom/example/tube2/tube2/logic/Operator;" (.ref a_LESS)) (E_a_LESS : Exa Z h0 a_LESS "com/example/tube2/tube2/logic/Operator") (S_EQUAL : Sta Z h0 "com/example/tube2/tube2/logic/Operator" "EQUAL" "Lcom/example/tube2/tube2/logic/Operator;" (.ref a_EQUAL)) (E_a_EQUAL : Exa Z h0 a_EQUAL "com/example/tube2/tube2/logic/Operator") (F_a_LESS_ordinal : Fld Z h0 a_LESS "java/lang/Enum" "ordinal" "I" (.int (0 : Int32))) (F_a_EQUAL_ordinal : Fld Z h0 a_EQUAL "java/lang/Enum" "ordinal" "I" (.int (4 : Int32))) (S_NOT_EQUAL : Sta Z h0 "com/example/tube2/tube2/logic/Operator" "NOT_EQUAL" "Lcom/example/tube2/tube2/logic/Operator;" (.ref a_NOT_EQUAL)) (E_a_NOT_EQUAL : Exa Z h0 a_NOT_EQUAL "com/example/tube2/tube2/logic/Operator") (F_a_NOT_EQUAL_ordinal : Fld Z h0 a_NOT_EQUAL "java/lang/Enum" "ordinal" "I" (.int (5 : Int32))) (S_GREATER_OR_EQUAL : Sta Z h0 "com/example/tube2/tube2/logic/Operator" "GREATER_OR_EQUAL" "Lcom/example/tube2/tube2/logic/Operator;" (.ref a_GREATER_OR_EQUAL)) (E_a_GREATER_OR_EQUAL : Exa Z h0 a_GREATER_OR_EQUAL "com/example/tube2/tube2/logic/Operator") (F_a_GREATER_OR_EQUAL_ordinal : Fld Z h0 a_GREATER_OR_EQUAL "java/lang/Enum" "ordinal" "I" (.int (3 : Int32))) (S_GREATER : Sta Z h0 "com/example/tube2/tube2/logic/Operator" "GREATER" "Lcom/example/tube2/tube2/logic/Operator;" (.ref a_GREATER)) (E_a_GREATER : Exa Z h0 a_GREATER "com/example/tube2/tube2/logic/Operator") (F_a_GREATER_ordinal : Fld Z h0 a_GREATER "java/lang/Enum" "ordinal" "I" (.int (2 : Int32))) (S_LESS_OR_EQUAL : Sta Z h0 "com/example/tube2/tube2/logic/Operator" "LESS_OR_EQUAL" "Lcom/example/tube2/tube2/logic/Operator;" (.ref a_LESS_OR_EQUAL)) (E_a_LESS_OR_EQUAL : Exa Z h0 a_LESS_OR_EQUAL "com/example/tube2/tube2/logic/Operator") (F_a_LESS_OR_EQUAL_ordinal : Fld Z h0 a_LESS_OR_EQUAL "java/lang/Enum" "ordinal" "I" (.int (1 : Int32))) :
    MetFree l x (head1 (Jvm.Cond.code x code maxLocals ret :: ws) room_1) (fun aa UU => aa = #[(.int p0), (.int p1)] ∧ Z.Warmed39 UU.vm ∧ UU.heap = h0) (fun _ _ _ _ _ => True) (fun _ UU oo U' => ∃ v L, oo = .returned v ∧ Q0c n0 v L ∧ FrameEnd UU oo U' L room_1.cells room_1.slots) := by
  refine MetFree.of_bodySF (plainFor_of_name pn_2) hisR ?_
  intro p e s m args below meth c s₁ Bd hml0 hP hK
  obtain ⟨rfl, hZ, hh⟩ := hP
  have hx := Bd.exec
  have hby := Bd.bytes
  have hml : c.maxLocals = 7 := hml0
  have hown : s.vm.findClass "com/example/tube2/tube2/logic/OperatorIsOrderingPinLaw" = some m.cls := findClass_of_methodNamed Bd.named
  have hnm := (name_of_methodNamed Bd.named Bd.method).1
  have X0 : Stand p l e room_1 s m #[(.int p0), (.int p1)] below meth c s₁ [] 0 0 := Stand.of_body Bd
  have e0 : s₁.heap = h0 := by rw [← hh, Bd.state]; rfl
  have N0 := Fr.nil n0
  obtain ⟨A0, hA0⟩ : ∃ A, A = s₁.setTop (entryFrame m #[(.int p0), (.int p1)] maxLocals) := ⟨_, rfl⟩
  have G0 : Go p e below A0 (s₁.setTop (mkF m 0 #[.val (.int p0), .val (.int p1), .unset, .unset, .unset, .unset, .unset] [])) := fun tq kq => by rw [hA0]; exact castTop (ef_rm0 m p0 p1) kq
  have hn := own_n p1
  have ne_LESS_EQUAL : ¬ (a_LESS = a_EQUAL) := Fld.ne F_a_LESS_ordinal F_a_EQUAL_ordinal (by decide)
  have ne_LESS_NOT_EQUAL : ¬ (a_LESS = a_NOT_EQUAL) := Fld.ne F_a_LESS_ordinal F_a_NOT_EQUAL_ordinal (by decide)
  have ne_LESS_OR_EQUAL_EQUAL : ¬ (a_LESS_OR_EQUAL = a_EQUAL) := Fld.ne F_a_LESS_OR_EQUAL_ordinal F_a_EQUAL_ordinal (by decide)
  have ne_LESS_OR_EQUAL_NOT_EQUAL : ¬ (a_LESS_OR_EQUAL = a_NOT_EQUAL) := Fld.ne F_a_LESS_OR_EQUAL_ordinal F_a_NOT_EQUAL_ordinal (by decide)
  have ne_GREATER_EQUAL : ¬ (a_GREATER = a_EQUAL) := Fld.ne F_a_GREATER_ordinal F_a_EQUAL_ordinal (by decide)
  have ne_GREATER_NOT_EQUAL : ¬ (a_GREATER = a_NOT_EQUAL) := Fld.ne F_a_GREATER_ordinal F_a_NOT_EQUAL_ordinal (by decide)
  have ne_GREATER_OR_EQUAL_EQUAL : ¬ (a_GREATER_OR_EQUAL = a_EQUAL) := Fld.ne F_a_GREATER_OR_EQUAL_ordinal F_a_EQUAL_ordinal (by decide)
  have ne_GREATER_OR_EQUAL_NOT_EQUAL : ¬ (a_GREATER_OR_EQUAL = a_NOT_EQUAL) := Fld.ne F_a_GREATER_OR_EQUAL_ordinal F_a_NOT_EQUAL_ordinal (by decide)
  by_cases hc126 : ((p0 &&& (2147483647 : Int32)) % (6 : Int32)) = (0 : Int32)
  · have G127 : Go p e below A0 (s₁.setTop (mkF m 1 #[.val (.int p0), .val (.int p1), .unset, .unset, .unset, .unset, .unset] [(.int p0)])) := fun tq kq => G0 tq (by
      refine XS.iloadN X0.here hx rfl (hb hby at_0) rfl ?_
      show Steps p.tables e below (s₁.setTop (mkF m 1 #[.val (.int p0), .val (.int p1), .unset, .unset, .unset, .unset, .unset] [(.int p0)])) _
      exact kq)
    obtain ⟨_, _, ⟨T128, L128, k128, n128⟩, -, X128, ⟨Lc128, hQ128, l128, y128, z128⟩, st128⟩ := Jvm.LawKit.callS X0 hx (y := (⟨"com/example/tube2/tube2/logic/OperatorIsOrderingPinLaw", "pick", "(I)Lcom/example/tube2/tube2/logic/Operator;"⟩ : MethodName)) hown (mvT hZ (hw _ (List.mem_of_getElem? (i := 0) rfl))) (mvT hZ (hw _ (List.mem_of_getElem? (i := 1) rfl))) (mvT hZ (hw _ (List.mem_of_getElem? (i := 2) rfl))) (mvT hZ (hw _ (List.mem_of_getElem? (i := 3) rfl))) (by decide) (backOf (W := 0) (rm1 l Z a0 hw [] p0 a_LESS a_LESS_OR_EQUAL a_GREATER a_GREATER_OR_EQUAL a_EQUAL a_NOT_EQUAL a_LESS h0 n0 Z0 S_LESS S_LESS_OR_EQUAL S_GREATER S_GREATER_OR_EQUAL S_EQUAL S_NOT_EQUAL (by simp [hc126])) hZ (hw _ (List.mem_of_getElem? (i := 3) rfl)) (hw _ (List.mem_of_getElem? (i := 2) rfl)) (by decide) (by decide)) (g := (mkF m 1 #[.val (.int p0), .val (.int p1), .unset, .unset, .unset, .unset, .unset] [(.int p0)])) rfl (by rw [hml]; rfl) (argsL := [(.int p0)]) (rest := []) (lenOf pd_1 rfl) rfl (by show 2 * 0 + _ ≤ _; exact Nat.le_of_eq rfl) (hb hby at_1) (fun _ _ => ⟨rfl, e0, (by decide : 0 + 0 ≤ _), (by decide : 0 + 0 ≤ _)⟩)
    dsimp only [Pt.U, Pt.locs, Pt.cells, Pt.slots] at X128 l128 y128 z128 st128 hQ128
    subst l128 y128 z128
    obtain ⟨rfl, N128q, e128⟩ := hQ128
    have N128 := Fr.app N0 N128q
    have G129 : Go p e below A0 (T128.setTop (mkF m 4 #[.val (.int p0), .val (.int p1), .unset, .unset, .unset, .unset, .unset] [(.ref a_LESS)])) := fun tq kq => G127 tq (st128 _ kq)
    have G130 : Go p e below A0 (T128.setTop (mkF m 13 #[.val (.int p0), .val (.int p1), .val (.ref a_LESS), .val (.int ((p1 &&& (2147483647 : Int32)) ||| (1 : Int32))), .unset, .unset, .unset] [(.ref a_LESS)])) := fun tq kq => G129 tq (by
      refine XS.astoreN X128.here hx rfl (hb hby at_4) rfl rfl (l' := #[.val (.int p0), .val (.int p1), .val (.ref a_LESS), .unset, .unset, .unset, .unset]) rfl ?_
      show Steps p.tables e below (T128.setTop (mkF m 5 #[.val (.int p0), .val (.int p1), .val (.ref a_LESS), .unset, .unset, .unset, .unset] [])) _
      refine XS.iloadN X128.here hx rfl (hb hby at_5) rfl ?_
      show Steps p.tables e below (T128.setTop (mkF m 6 #[.val (.int p0), .val (.int p1), .val (.ref a_LESS), .unset, .unset, .unset, .unset] [(.int p1)])) _
      refine X128.ldcInt hx hown (mvT hZ (hw _ (List.mem_of_getElem? (i := 4) rfl))) (g := (mkF m 6 #[.val (.int p0), .val (.int p1), .val (.ref a_LESS), .unset, .unset, .unset, .unset] [(.int p1)])) rfl (hb hby at_6) _ ?_
      show Steps p.tables e below (T128.setTop (mkF m 8 #[.val (.int p0), .val (.int p1), .val (.ref a_LESS), .unset, .unset, .unset, .unset] [(.int (2147483647 : Int32)), (.int p1)])) _
      refine XS.iand X128.here hx rfl (hb hby at_8) rfl ?_
      show Steps p.tables e below (T128.setTop (mkF m 9 #[.val (.int p0), .val (.int p1), .val (.ref a_LESS), .unset, .unset, .unset, .unset] [(.int (p1 &&& (2147483647 : Int32)))])) _
      refine XS.iconst X128.here hx rfl (hb hby at_9) ?_
      show Steps p.tables e below (T128.setTop (mkF m 10 #[.val (.int p0), .val (.int p1), .val (.ref a_LESS), .unset, .unset, .unset, .unset] [(.int (1 : Int32)), (.int (p1 &&& (2147483647 : Int32)))])) _
      refine XS.ior X128.here hx rfl (hb hby at_10) rfl ?_
      show Steps p.tables e below (T128.setTop (mkF m 11 #[.val (.int p0), .val (.int p1), .val (.ref a_LESS), .unset, .unset, .unset, .unset] [(.int ((p1 &&& (2147483647 : Int32)) ||| (1 : Int32)))])) _
      refine XS.istoreN X128.here hx rfl (hb hby at_11) rfl (l' := #[.val (.int p0), .val (.int p1), .val (.ref a_LESS), .val (.int ((p1 &&& (2147483647 : Int32)) ||| (1 : Int32))), .unset, .unset, .unset]) rfl ?_
      show Steps p.tables e below (T128.setTop (mkF m 12 #[.val (.int p0), .val (.int p1), .val (.ref a_LESS), .val (.int ((p1 &&& (2147483647 : Int32)) ||| (1 : Int32))), .unset, .unset, .unset] [])) _
      refine XS.aloadN X128.here hx rfl (hb hby at_12) rfl rfl ?_
      show Steps p.tables e below (T128.setTop (mkF m 13 #[.val (.int p0), .val (.int p1), .val (.ref a_LESS), .val (.int ((p1 &&& (2147483647 : Int32)) ||| (1 : Int32))), .unset, .unset, .unset] [(.ref a_LESS)])) _
      exact kq)
    obtain ⟨cq131, kq131, q131a, q131b, q131c⟩ := isOf hZ e128 E_a_LESS
    obtain ⟨_, _, ⟨T131, L131, k131, n131⟩, -, X131, ⟨Lc131, hQ131, l131, y131, z131⟩, st131⟩ := X128.virtualBack hx (y := (⟨"com/example/tube2/tube2/logic/Operator", "isOrdering", "()Z"⟩ : MethodName)) (z := (⟨"com/example/tube2/tube2/logic/Operator", "isOrdering", "()Z"⟩ : MethodName)) hown (mvT hZ (hw _ (List.mem_of_getElem? (i := 8) rfl))) (mvT hZ (hw _ (List.mem_of_getElem? (i := 9) rfl))) (notFace_of_selects (args := #[]) (mvT hZ (hw _ (List.mem_of_getElem? (i := 11) rfl)))) (mvT hZ (hw _ (List.mem_of_getElem? (i := 11) rfl))) (mvT hZ (hw _ (List.mem_of_getElem? (i := 10) rfl))) (by decide) (backOf (W := 0) (rm2 l Z a0 hw [] a_LESS a_EQUAL a_NOT_EQUAL (1 : Int32) h0 n0 Z0 S_EQUAL S_NOT_EQUAL (own_bt ⟨ne_LESS_EQUAL, ne_LESS_NOT_EQUAL⟩)) hZ (hw _ (List.mem_of_getElem? (i := 12) rfl)) (hw _ (List.mem_of_getElem? (i := 6) rfl)) (by decide) (by decide)) q131a q131c (g := (mkF m 13 #[.val (.int p0), .val (.int p1), .val (.ref a_LESS), .val (.int ((p1 &&& (2147483647 : Int32)) ||| (1 : Int32))), .unset, .unset, .unset] [(.ref a_LESS)])) rfl (by rw [hml]; rfl) (Steps.refl _) (argsL := []) (rest := []) (lenOf pd_2 rfl) rfl (by show 2 * 0 + _ ≤ _; exact Nat.le_of_eq rfl) (hb hby at_13) (fun _ _ => ⟨rfl, e128, (by decide : 0 + 0 ≤ _), (by decide : 0 + 0 ≤ _)⟩)
    dsimp only [Pt.U, Pt.locs, Pt.cells, Pt.slots] at X131 l131 y131 z131 st131 hQ131
    subst l131 y131 z131
    obtain ⟨rfl, N131q, e131⟩ := hQ131
    have N131 := Fr.app N128 N131q
    have G132 : Go p e below A0 (T131.setTop (mkF m 16 #[.val (.int p0), .val (.int p1), .val (.ref a_LESS), .val (.int ((p1 &&& (2147483647 : Int32)) ||| (1 : Int32))), .unset, .unset, .unset] [(.int (1 : Int32))])) := fun tq kq => G130 tq (st131.trans kq)
    have G133 : Go p e below A0 (T131.setTop (mkF m 20 #[.val (.int p0), .val (.int p1), .val (.ref a_LESS), .val (.int ((p1 &&& (2147483647 : Int32)) ||| (1 : Int32))), .val (.int (1 : Int32)), .unset, .unset] [(.int ((p1 &&& (2147483647 : Int32)) ||| (1 : Int32))), (.ref a_LESS)])) := fun tq kq => G132 tq (by
      refine XS.istore X131.here hx rfl (hb hby at_16) rfl (l' := #[.val (.int p0), .val (.int p1), .val (.ref a_LESS), .val (.int ((p1 &&& (2147483647 : Int32)) ||| (1 : Int32))), .val (.int (1 : Int32)), .unset, .unset]) rfl ?_
      show Steps p.tables e below (T131.setTop (mkF m 18 #[.val (.int p0), .val (.int p1), .val (.ref a_LESS), .val (.int ((p1 &&& (2147483647 : Int32)) ||| (1 : Int32))), .val (.int (1 : Int32)), .unset, .unset] [])) _
      refine XS.aloadN X131.here hx rfl (hb hby at_18) rfl rfl ?_
      show Steps p.tables e below (T131.setTop (mkF m 19 #[.val (.int p0), .val (.int p1), .val (.ref a_LESS), .val (.int ((p1 &&& (2147483647 : Int32)) ||| (1 : Int32))), .val (.int (1 : Int32)), .unset, .unset] [(.ref a_LESS)])) _
      refine XS.iloadN X131.here hx rfl (hb hby at_19) rfl ?_
      show Steps p.tables e below (T131.setTop (mkF m 20 #[.val (.int p0), .val (.int p1), .val (.ref a_LESS), .val (.int ((p1 &&& (2147483647 : Int32)) ||| (1 : Int32))), .val (.int (1 : Int32)), .unset, .unset] [(.int ((p1 &&& (2147483647 : Int32)) ||| (1 : Int32))), (.ref a_LESS)])) _
      exact kq)
    obtain ⟨cq134, kq134, q134a, q134b, q134c⟩ := isOf hZ e131 E_a_LESS
    obtain ⟨_, _, ⟨T134, L134, k134, n134⟩, -, X134, ⟨Lc134, hQ134, l134, y134, z134⟩, st134⟩ := X131.virtualBack hx (y := (⟨"com/example/tube2/tube2/logic/Operator", "holds", "(I)Z"⟩ : MethodName)) (z := (⟨"com/example/tube2/tube2/logic/Operator", "holds", "(I)Z"⟩ : MethodName)) hown (mvT hZ (hw _ (List.mem_of_getElem? (i := 17) rfl))) (mvT hZ (hw _ (List.mem_of_getElem? (i := 18) rfl))) (notFace_of_selects (args := #[]) (mvT hZ (hw _ (List.mem_of_getElem? (i := 20) rfl)))) (mvT hZ (hw _ (List.mem_of_getElem? (i := 20) rfl))) (mvT hZ (hw _ (List.mem_of_getElem? (i := 19) rfl))) (by decide) (backOf (W := 0) (rm3_0 l Z a0 hw [] a_LESS ((p1 &&& (2147483647 : Int32)) ||| (1 : Int32)) (0 : Int32) h0 n0 Z0 E_a_LESS F_a_LESS_ordinal (own_b0 (own_npos hn.1).1)) hZ (hw _ (List.mem_of_getElem? (i := 21) rfl)) (hw _ (List.mem_of_getElem? (i := 6) rfl)) (by decide) (by decide)) q134a q134c (g := (mkF m 20 #[.val (.int p0), .val (.int p1), .val (.ref a_LESS), .val (.int ((p1 &&& (2147483647 : Int32)) ||| (1 : Int32))), .val (.int (1 : Int32)), .unset, .unset] [(.int ((p1 &&& (2147483647 : Int32)) ||| (1 : Int32))), (.ref a_LESS)])) rfl (by rw [hml]; rfl) (Steps.refl _) (argsL := [(.int ((p1 &&& (2147483647 : Int32)) ||| (1 : Int32)))]) (rest := []) (lenOf pd_3 rfl) rfl (by show 2 * 0 + _ ≤ _; exact Nat.le_of_eq rfl) (hb hby at_20) (fun _ _ => ⟨rfl, e131, (by decide : 0 + 0 ≤ _), (by decide : 0 + 0 ≤ _)⟩)
    dsimp only [Pt.U, Pt.locs, Pt.cells, Pt.slots] at X134 l134 y134 z134 st134 hQ134
    subst l134 y134 z134
    obtain ⟨rfl, N134q, e134⟩ := hQ134
    have N134 := Fr.app N131 N134q
    have G135 : Go p e below A0 (T134.setTop (mkF m 23 #[.val (.int p0), .val (.int p1), .val (.ref a_LESS), .val (.int ((p1 &&& (2147483647 : Int32)) ||| (1 : Int32))), .val (.int (1 : Int32)), .unset, .unset] [(.int (0 : Int32))])) := fun tq kq => G133 tq (st134.trans kq)
    have G136 : Go p e below A0 (T134.setTop (mkF m 26 #[.val (.int p0), .val (.int p1), .val (.ref a_LESS), .val (.int ((p1 &&& (2147483647 : Int32)) ||| (1 : Int32))), .val (.int (1 : Int32)), .unset, .unset] [(.int (-((p1 &&& (2147483647 : Int32)) ||| (1 : Int32)))), (.ref a_LESS), (.int (0 : Int32))])) := fun tq kq => G135 tq (by
      refine XS.aloadN X134.here hx rfl (hb hby at_23) rfl rfl ?_
      show Steps p.tables e below (T134.setTop (mkF m 24 #[.val (.int p0), .val (.int p1), .val (.ref a_LESS), .val (.int ((p1 &&& (2147483647 : Int32)) ||| (1 : Int32))), .val (.int (1 : Int32)), .unset, .unset] [(.ref a_LESS), (.int (0 : Int32))])) _
      refine XS.iloadN X134.here hx rfl (hb hby at_24) rfl ?_
      show Steps p.tables e below (T134.setTop (mkF m 25 #[.val (.int p0), .val (.int p1), .val (.ref a_LESS), .val (.int ((p1 &&& (2147483647 : Int32)) ||| (1 : Int32))), .val (.int (1 : Int32)), .unset, .unset] [(.int ((p1 &&& (2147483647 : Int32)) ||| (1 : Int32))), (.ref a_LESS), (.int (0 : Int32))])) _
      refine XS.ineg X134.here hx rfl (hb hby at_25) rfl ?_
      show Steps p.tables e below (T134.setTop (mkF m 26 #[.val (.int p0), .val (.int p1), .val (.ref a_LESS), .val (.int ((p1 &&& (2147483647 : Int32)) ||| (1 : Int32))), .val (.int (1 : Int32)), .unset, .unset] [(.int (-((p1 &&& (2147483647 : Int32)) ||| (1 : Int32)))), (.ref a_LESS), (.int (0 : Int32))])) _
      exact kq)
    obtain ⟨cq137, kq137, q137a, q137b, q137c⟩ := isOf hZ e134 E_a_LESS
    obtain ⟨_, _, ⟨T137, L137, k137, n137⟩, -, X137, ⟨Lc137, hQ137, l137, y137, z137⟩, st137⟩ := X134.virtualBack hx (y := (⟨"com/example/tube2/tube2/logic/Operator", "holds", "(I)Z"⟩ : MethodName)) (z := (⟨"com/example/tube2/tube2/logic/Operator", "holds", "(I)Z"⟩ : MethodName)) hown (mvT hZ (hw _ (List.mem_of_getElem? (i := 17) rfl))) (mvT hZ (hw _ (List.mem_of_getElem? (i := 18) rfl))) (notFace_of_selects (args := #[]) (mvT hZ (hw _ (List.mem_of_getElem? (i := 20) rfl)))) (mvT hZ (hw _ (List.mem_of_getElem? (i := 20) rfl))) (mvT hZ (hw _ (List.mem_of_getElem? (i := 19) rfl))) (by decide) (backOf (W := 1) (rm3_0 l Z a0 hw [] a_LESS (-((p1 &&& (2147483647 : Int32)) ||| (1 : Int32))) (1 : Int32) h0 n0 Z0 E_a_LESS F_a_LESS_ordinal (own_bt hn.2)) hZ (hw _ (List.mem_of_getElem? (i := 21) rfl)) (hw _ (List.mem_of_getElem? (i := 6) rfl)) (by decide) (by decide)) q137a q137c (g := (mkF m 26 #[.val (.int p0), .val (.int p1), .val (.ref a_LESS), .val (.int ((p1 &&& (2147483647 : Int32)) ||| (1 : Int32))), .val (.int (1 : Int32)), .unset, .unset] [(.int (-((p1 &&& (2147483647 : Int32)) ||| (1 : Int32)))), (.ref a_LESS), (.int (0 : Int32))])) rfl (by rw [hml]; rfl) (Steps.refl _) (argsL := [(.int (-((p1 &&& (2147483647 : Int32)) ||| (1 : Int32))))]) (rest := [(.int (0 : Int32))]) (lenOf pd_3 rfl) rfl (by show 2 * 0 + _ ≤ _; exact Nat.le_of_eq rfl) (hb hby at_26) (fun _ _ => ⟨rfl, e134, (by decide : 0 + 0 ≤ _), (by decide : 0 + 0 ≤ _)⟩)
    dsimp only [Pt.U, Pt.locs, Pt.cells, Pt.slots] at X137 l137 y137 z137 st137 hQ137
    subst l137 y137 z137
    obtain ⟨rfl, N137q, e137⟩ := hQ137
    have N137 := Fr.app N134 N137q
    have G138 : Go p e below A0 (T137.setTop (mkF m 29 #[.val (.int p0), .val (.int p1), .val (.ref a_LESS), .val (.int ((p1 &&& (2147483647 : Int32)) ||| (1 : Int32))), .val (.int (1 : Int32)), .unset, .unset] [(.int (1 : Int32)), (.int (0 : Int32))])) := fun tq kq => G136 tq (st137.trans kq)
    have G139 : Go p e below A0 (T137.setTop (mkF m 40 #[.val (.int p0), .val (.int p1), .val (.ref a_LESS), .val (.int ((p1 &&& (2147483647 : Int32)) ||| (1 : Int32))), .val (.int (1 : Int32)), .val (.int (1 : Int32)), .unset] [(.ref a_LESS)])) := fun tq kq => G138 tq (by
      refine XS.icmpNo X137.here hx rfl (hb hby at_29) rfl (by decide) ?_
      show Steps p.tables e below (T137.setTop (mkF m 32 #[.val (.int p0), .val (.int p1), .val (.ref a_LESS), .val (.int ((p1 &&& (2147483647 : Int32)) ||| (1 : Int32))), .val (.int (1 : Int32)), .unset, .unset] [])) _
      refine XS.iconst X137.here hx rfl (hb hby at_32) ?_
      show Steps p.tables e below (T137.setTop (mkF m 33 #[.val (.int p0), .val (.int p1), .val (.ref a_LESS), .val (.int ((p1 &&& (2147483647 : Int32)) ||| (1 : Int32))), .val (.int (1 : Int32)), .unset, .unset] [(.int (1 : Int32))])) _
      refine XS.goto X137.here hx rfl (pc0 := 33) (pc' := 37) rfl (hb hby at_33) (by decide) (by decide) ?_
      show Steps p.tables e below (T137.setTop (mkF m 37 #[.val (.int p0), .val (.int p1), .val (.ref a_LESS), .val (.int ((p1 &&& (2147483647 : Int32)) ||| (1 : Int32))), .val (.int (1 : Int32)), .unset, .unset] [(.int (1 : Int32))])) _
      refine XS.istore X137.here hx rfl (hb hby at_37) rfl (l' := #[.val (.int p0), .val (.int p1), .val (.ref a_LESS), .val (.int ((p1 &&& (2147483647 : Int32)) ||| (1 : Int32))), .val (.int (1 : Int32)), .val (.int (1 : Int32)), .unset]) rfl ?_
      show Steps p.tables e below (T137.setTop (mkF m 39 #[.val (.int p0), .val (.int p1), .val (.ref a_LESS), .val (.int ((p1 &&& (2147483647 : Int32)) ||| (1 : Int32))), .val (.int (1 : Int32)), .val (.int (1 : Int32)), .unset] [])) _
      refine XS.aloadN X137.here hx rfl (hb hby at_39) rfl rfl ?_
      show Steps p.tables e below (T137.setTop (mkF m 40 #[.val (.int p0), .val (.int p1), .val (.ref a_LESS), .val (.int ((p1 &&& (2147483647 : Int32)) ||| (1 : Int32))), .val (.int (1 : Int32)), .val (.int (1 : Int32)), .unset] [(.ref a_LESS)])) _
      exact kq)
    obtain ⟨cq140, kq140, q140a, q140b, q140c⟩ := isOf hZ e137 E_a_LESS
    obtain ⟨_, _, ⟨T140, L140, k140, n140⟩, -, X140, ⟨Lc140, hQ140, l140, y140, z140⟩, st140⟩ := X137.virtualBack hx (y := (⟨"com/example/tube2/tube2/logic/Operator", "complement", "()Lcom/example/tube2/tube2/logic/Operator;"⟩ : MethodName)) (z := (⟨"com/example/tube2/tube2/logic/Operator", "complement", "()Lcom/example/tube2/tube2/logic/Operator;"⟩ : MethodName)) hown (mvT hZ (hw _ (List.mem_of_getElem? (i := 31) rfl))) (mvT hZ (hw _ (List.mem_of_getElem? (i := 32) rfl))) (notFace_of_selects (args := #[]) (mvT hZ (hw _ (List.mem_of_getElem? (i := 34) rfl)))) (mvT hZ (hw _ (List.mem_of_getElem? (i := 34) rfl))) (mvT hZ (hw _ (List.mem_of_getElem? (i := 33) rfl))) (by decide) (backOf (W := 0) (rm5_0 l Z a0 hw [] a_LESS a_GREATER_OR_EQUAL h0 n0 Z0 E_a_LESS F_a_LESS_ordinal S_GREATER_OR_EQUAL) hZ (hw _ (List.mem_of_getElem? (i := 35) rfl)) (hw _ (List.mem_of_getElem? (i := 6) rfl)) (by decide) (by decide)) q140a q140c (g := (mkF m 40 #[.val (.int p0), .val (.int p1), .val (.ref a_LESS), .val (.int ((p1 &&& (2147483647 : Int32)) ||| (1 : Int32))), .val (.int (1 : Int32)), .val (.int (1 : Int32)), .unset] [(.ref a_LESS)])) rfl (by rw [hml]; rfl) (Steps.refl _) (argsL := []) (rest := []) (lenOf pd_4 rfl) rfl (by show 2 * 0 + _ ≤ _; exact Nat.le_of_eq rfl) (hb hby at_40) (fun _ _ => ⟨rfl, e137, (by decide : 0 + 0 ≤ _), (by decide : 0 + 0 ≤ _)⟩)
    dsimp only [Pt.U, Pt.locs, Pt.cells, Pt.slots] at X140 l140 y140 z140 st140 hQ140
    subst l140 y140 z140
    obtain ⟨rfl, N140q, e140⟩ := hQ140
    have N140 := Fr.app N137 N140q
    have G141 : Go p e below A0 (T140.setTop (mkF m 43 #[.val (.int p0), .val (.int p1), .val (.ref a_LESS), .val (.int ((p1 &&& (2147483647 : Int32)) ||| (1 : Int32))), .val (.int (1 : Int32)), .val (.int (1 : Int32)), .unset] [(.ref a_GREATER_OR_EQUAL)])) := fun tq kq => G139 tq (st140.trans kq)
    obtain ⟨cq142, kq142, q142a, q142b, q142c⟩ := isOf hZ e140 E_a_GREATER_OR_EQUAL
    obtain ⟨_, _, ⟨T142, L142, k142, n142⟩, -, X142, ⟨Lc142, hQ142, l142, y142, z142⟩, st142⟩ := X140.virtualBack hx (y := (⟨"com/example/tube2/tube2/logic/Operator", "isOrdering", "()Z"⟩ : MethodName)) (z := (⟨"com/example/tube2/tube2/logic/Operator", "isOrdering", "()Z"⟩ : MethodName)) hown (mvT hZ (hw _ (List.mem_of_getElem? (i := 8) rfl))) (mvT hZ (hw _ (List.mem_of_getElem? (i := 9) rfl))) (notFace_of_selects (args := #[]) (mvT hZ (hw _ (List.mem_of_getElem? (i := 11) rfl)))) (mvT hZ (hw _ (List.mem_of_getElem? (i := 11) rfl))) (mvT hZ (hw _ (List.mem_of_getElem? (i := 10) rfl))) (by decide) (backOf (W := 0) (rm2 l Z a0 hw [] a_GREATER_OR_EQUAL a_EQUAL a_NOT_EQUAL (1 : Int32) h0 n0 Z0 S_EQUAL S_NOT_EQUAL (own_bt ⟨ne_GREATER_OR_EQUAL_EQUAL, ne_GREATER_OR_EQUAL_NOT_EQUAL⟩)) hZ (hw _ (List.mem_of_getElem? (i := 12) rfl)) (hw _ (List.mem_of_getElem? (i := 6) rfl)) (by decide) (by decide)) q142a q142c (g := (mkF m 43 #[.val (.int p0), .val (.int p1), .val (.ref a_LESS), .val (.int ((p1 &&& (2147483647 : Int32)) ||| (1 : Int32))), .val (.int (1 : Int32)), .val (.int (1 : Int32)), .unset] [(.ref a_GREATER_OR_EQUAL)])) rfl (by rw [hml]; rfl) (Steps.refl _) (argsL := []) (rest := []) (lenOf pd_2 rfl) rfl (by show 2 * 0 + _ ≤ _; exact Nat.le_of_eq rfl) (hb hby at_43) (fun _ _ => ⟨rfl, e140, (by decide : 0 + 0 ≤ _), (by decide : 0 + 0 ≤ _)⟩)
    dsimp only [Pt.U, Pt.locs, Pt.cells, Pt.slots] at X142 l142 y142 z142 st142 hQ142
    subst l142 y142 z142
    obtain ⟨rfl, N142q, e142⟩ := hQ142
    have N142 := Fr.app N140 N142q
    have G143 : Go p e below A0 (T142.setTop (mkF m 46 #[.val (.int p0), .val (.int p1), .val (.ref a_LESS), .val (.int ((p1 &&& (2147483647 : Int32)) ||| (1 : Int32))), .val (.int (1 : Int32)), .val (.int (1 : Int32)), .unset] [(.int (1 : Int32))])) := fun tq kq => G141 tq (st142.trans kq)
    have G144 : Go p e below A0 (T142.setTop (mkF m 67 #[.val (.int p0), .val (.int p1), .val (.ref a_LESS), .val (.int ((p1 &&& (2147483647 : Int32)) ||| (1 : Int32))), .val (.int (1 : Int32)), .val (.int (1 : Int32)), .val (.int (1 : Int32))] [(.int (1 : Int32))])) := fun tq kq => G143 tq (by
      refine XS.istore X142.here hx rfl (hb hby at_46) rfl (l' := #[.val (.int p0), .val (.int p1), .val (.ref a_LESS), .val (.int ((p1 &&& (2147483647 : Int32)) ||| (1 : Int32))), .val (.int (1 : Int32)), .val (.int (1 : Int32)), .val (.int (1 : Int32))]) rfl ?_
      show Steps p.tables e below (T142.setTop (mkF m 48 #[.val (.int p0), .val (.int p1), .val (.ref a_LESS), .val (.int ((p1 &&& (2147483647 : Int32)) ||| (1 : Int32))), .val (.int (1 : Int32)), .val (.int (1 : Int32)), .val (.int (1 : Int32))] [])) _
      refine XS.iload X142.here hx rfl (hb hby at_48) rfl ?_
      show Steps p.tables e below (T142.setTop (mkF m 50 #[.val (.int p0), .val (.int p1), .val (.ref a_LESS), .val (.int ((p1 &&& (2147483647 : Int32)) ||| (1 : Int32))), .val (.int (1 : Int32)), .val (.int (1 : Int32)), .val (.int (1 : Int32))] [(.int (1 : Int32))])) _
      refine XS.iload X142.here hx rfl (hb hby at_50) rfl ?_
      show Steps p.tables e below (T142.setTop (mkF m 52 #[.val (.int p0), .val (.int p1), .val (.ref a_LESS), .val (.int ((p1 &&& (2147483647 : Int32)) ||| (1 : Int32))), .val (.int (1 : Int32)), .val (.int (1 : Int32)), .val (.int (1 : Int32))] [(.int (1 : Int32)), (.int (1 : Int32))])) _
      refine XS.icmpNo X142.here hx rfl (hb hby at_52) rfl (by decide) ?_
      show Steps p.tables e below (T142.setTop (mkF m 55 #[.val (.int p0), .val (.int p1), .val (.ref a_LESS), .val (.int ((p1 &&& (2147483647 : Int32)) ||| (1 : Int32))), .val (.int (1 : Int32)), .val (.int (1 : Int32)), .val (.int (1 : Int32))] [])) _
      refine XS.iload X142.here hx rfl (hb hby at_55) rfl ?_
      show Steps p.tables e below (T142.setTop (mkF m 57 #[.val (.int p0), .val (.int p1), .val (.ref a_LESS), .val (.int ((p1 &&& (2147483647 : Int32)) ||| (1 : Int32))), .val (.int (1 : Int32)), .val (.int (1 : Int32)), .val (.int (1 : Int32))] [(.int (1 : Int32))])) _
      refine XS.iload X142.here hx rfl (hb hby at_57) rfl ?_
      show Steps p.tables e below (T142.setTop (mkF m 59 #[.val (.int p0), .val (.int p1), .val (.ref a_LESS), .val (.int ((p1 &&& (2147483647 : Int32)) ||| (1 : Int32))), .val (.int (1 : Int32)), .val (.int (1 : Int32)), .val (.int (1 : Int32))] [(.int (1 : Int32)), (.int (1 : Int32))])) _
      refine XS.icmpNo X142.here hx rfl (hb hby at_59) rfl (by decide) ?_
      show Steps p.tables e below (T142.setTop (mkF m 62 #[.val (.int p0), .val (.int p1), .val (.ref a_LESS), .val (.int ((p1 &&& (2147483647 : Int32)) ||| (1 : Int32))), .val (.int (1 : Int32)), .val (.int (1 : Int32)), .val (.int (1 : Int32))] [])) _
      refine XS.iconst X142.here hx rfl (hb hby at_62) ?_
      show Steps p.tables e below (T142.setTop (mkF m 63 #[.val (.int p0), .val (.int p1), .val (.ref a_LESS), .val (.int ((p1 &&& (2147483647 : Int32)) ||| (1 : Int32))), .val (.int (1 : Int32)), .val (.int (1 : Int32)), .val (.int (1 : Int32))] [(.int (1 : Int32))])) _
      refine XS.goto X142.here hx rfl (pc0 := 63) (pc' := 67) rfl (hb hby at_63) (by decide) (by decide) ?_
      show Steps p.tables e below (T142.setTop (mkF m 67 #[.val (.int p0), .val (.int p1), .val (.ref a_LESS), .val (.int ((p1 &&& (2147483647 : Int32)) ||| (1 : Int32))), .val (.int (1 : Int32)), .val (.int (1 : Int32)), .val (.int (1 : Int32))] [(.int (1 : Int32))])) _
      exact kq)
    obtain ⟨fs, hr, hrun, hended, hW, hsame⟩ := X142.leave (v := some (.int (nar .boolean (1 : Int32)))) (fun h => by rw [Bd.returns] at h; cases h)
    refine ⟨_, _, (by rw [← hA0]; exact G144 _ (retN X142 hx (t := .boolean) Bd.returns (by simp) (hb hby at_67) hr)), hrun, hended, _, _, rfl, ?_, ⟨_, rfl⟩, hW, hsame.mono (by decide) (by decide)⟩
    exact ⟨rfl, N142⟩
  · by_cases hc145 : ((p0 &&& (2147483647 : Int32)) % (6 : Int32)) = (1 : Int32)
    · have G146 : Go p e below A0 (s₁.setTop (mkF m 1 #[.val (.int p0), .val (.int p1), .unset, .unset, .unset, .unset, .unset] [(.int p0)])) := fun tq kq => G0 tq (by
        refine XS.iloadN X0.here hx rfl (hb hby at_0) rfl ?_
        show Steps p.tables e below (s₁.setTop (mkF m 1 #[.val (.int p0), .val (.int p1), .unset, .unset, .unset, .unset, .unset] [(.int p0)])) _
        exact kq)
      obtain ⟨_, _, ⟨T147, L147, k147, n147⟩, -, X147, ⟨Lc147, hQ147, l147, y147, z147⟩, st147⟩ := Jvm.LawKit.callS X0 hx (y := (⟨"com/example/tube2/tube2/logic/OperatorIsOrderingPinLaw", "pick", "(I)Lcom/example/tube2/tube2/logic/Operator;"⟩ : MethodName)) hown (mvT hZ (hw _ (List.mem_of_getElem? (i := 0) rfl))) (mvT hZ (hw _ (List.mem_of_getElem? (i := 1) rfl))) (mvT hZ (hw _ (List.mem_of_getElem? (i := 2) rfl))) (mvT hZ (hw _ (List.mem_of_getElem? (i := 3) rfl))) (by decide) (backOf (W := 0) (rm1 l Z a0 hw [] p0 a_LESS a_LESS_OR_EQUAL a_GREATER a_GREATER_OR_EQUAL a_EQUAL a_NOT_EQUAL a_LESS_OR_EQUAL h0 n0 Z0 S_LESS S_LESS_OR_EQUAL S_GREATER S_GREATER_OR_EQUAL S_EQUAL S_NOT_EQUAL (by simp [hc126, hc145])) hZ (hw _ (List.mem_of_getElem? (i := 3) rfl)) (hw _ (List.mem_of_getElem? (i := 2) rfl)) (by decide) (by decide)) (g := (mkF m 1 #[.val (.int p0), .val (.int p1), .unset, .unset, .unset, .unset, .unset] [(.int p0)])) rfl (by rw [hml]; rfl) (argsL := [(.int p0)]) (rest := []) (lenOf pd_1 rfl) rfl (by show 2 * 0 + _ ≤ _; exact Nat.le_of_eq rfl) (hb hby at_1) (fun _ _ => ⟨rfl, e0, (by decide : 0 + 0 ≤ _), (by decide : 0 + 0 ≤ _)⟩)
      dsimp only [Pt.U, Pt.locs, Pt.cells, Pt.slots] at X147 l147 y147 z147 st147 hQ147
      subst l147 y147 z147
      obtain ⟨rfl, N147q, e147⟩ := hQ147
      have N147 := Fr.app N0 N147q
      have G148 : Go p e below A0 (T147.setTop (mkF m 4 #[.val (.int p0), .val (.int p1), .unset, .unset, .unset, .unset, .unset] [(.ref a_LESS_OR_EQUAL)])) := fun tq kq => G146 tq (st147 _ kq)
      have G149 : Go p e below A0 (T147.setTop (mkF m 13 #[.val (.int p0), .val (.int p1), .val (.ref a_LESS_OR_EQUAL), .val (.int ((p1 &&& (2147483647 : Int32)) ||| (1 : Int32))), .unset, .unset, .unset] [(.ref a_LESS_OR_EQUAL)])) := fun tq kq => G148 tq (by
        refine XS.astoreN X147.here hx rfl (hb hby at_4) rfl rfl (l' := #[.val (.int p0), .val (.int p1), .val (.ref a_LESS_OR_EQUAL), .unset, .unset, .unset, .unset]) rfl ?_
        show Steps p.tables e below (T147.setTop (mkF m 5 #[.val (.int p0), .val (.int p1), .val (.ref a_LESS_OR_EQUAL), .unset, .unset, .unset, .unset] [])) _
        refine XS.iloadN X147.here hx rfl (hb hby at_5) rfl ?_
        show Steps p.tables e below (T147.setTop (mkF m 6 #[.val (.int p0), .val (.int p1), .val (.ref a_LESS_OR_EQUAL), .unset, .unset, .unset, .unset] [(.int p1)])) _
        refine X147.ldcInt hx hown (mvT hZ (hw _ (List.mem_of_getElem? (i := 4) rfl))) (g := (mkF m 6 #[.val (.int p0), .val (.int p1), .val (.ref a_LESS_OR_EQUAL), .unset, .unset, .unset, .unset] [(.int p1)])) rfl (hb hby at_6) _ ?_
        show Steps p.tables e below (T147.setTop (mkF m 8 #[.val (.int p0), .val (.int p1), .val (.ref a_LESS_OR_EQUAL), .unset, .unset, .unset, .unset] [(.int (2147483647 : Int32)), (.int p1)])) _
        refine XS.iand X147.here hx rfl (hb hby at_8) rfl ?_
        show Steps p.tables e below (T147.setTop (mkF m 9 #[.val (.int p0), .val (.int p1), .val (.ref a_LESS_OR_EQUAL), .unset, .unset, .unset, .unset] [(.int (p1 &&& (2147483647 : Int32)))])) _
        refine XS.iconst X147.here hx rfl (hb hby at_9) ?_
        show Steps p.tables e below (T147.setTop (mkF m 10 #[.val (.int p0), .val (.int p1), .val (.ref a_LESS_OR_EQUAL), .unset, .unset, .unset, .unset] [(.int (1 : Int32)), (.int (p1 &&& (2147483647 : Int32)))])) _
        refine XS.ior X147.here hx rfl (hb hby at_10) rfl ?_
        show Steps p.tables e below (T147.setTop (mkF m 11 #[.val (.int p0), .val (.int p1), .val (.ref a_LESS_OR_EQUAL), .unset, .unset, .unset, .unset] [(.int ((p1 &&& (2147483647 : Int32)) ||| (1 : Int32)))])) _
        refine XS.istoreN X147.here hx rfl (hb hby at_11) rfl (l' := #[.val (.int p0), .val (.int p1), .val (.ref a_LESS_OR_EQUAL), .val (.int ((p1 &&& (2147483647 : Int32)) ||| (1 : Int32))), .unset, .unset, .unset]) rfl ?_
        show Steps p.tables e below (T147.setTop (mkF m 12 #[.val (.int p0), .val (.int p1), .val (.ref a_LESS_OR_EQUAL), .val (.int ((p1 &&& (2147483647 : Int32)) ||| (1 : Int32))), .unset, .unset, .unset] [])) _
        refine XS.aloadN X147.here hx rfl (hb hby at_12) rfl rfl ?_
        show Steps p.tables e below (T147.setTop (mkF m 13 #[.val (.int p0), .val (.int p1), .val (.ref a_LESS_OR_EQUAL), .val (.int ((p1 &&& (2147483647 : Int32)) ||| (1 : Int32))), .unset, .unset, .unset] [(.ref a_LESS_OR_EQUAL)])) _
        exact kq)
      obtain ⟨cq150, kq150, q150a, q150b, q150c⟩ := isOf hZ e147 E_a_LESS_OR_EQUAL
      obtain ⟨_, _, ⟨T150, L150, k150, n150⟩, -, X150, ⟨Lc150, hQ150, l150, y150, z150⟩, st150⟩ := X147.virtualBack hx (y := (⟨"com/example/tube2/tube2/logic/Operator", "isOrdering", "()Z"⟩ : MethodName)) (z := (⟨"com/example/tube2/tube2/logic/Operator", "isOrdering", "()Z"⟩ : MethodName)) hown (mvT hZ (hw _ (List.mem_of_getElem? (i := 8) rfl))) (mvT hZ (hw _ (List.mem_of_getElem? (i := 9) rfl))) (notFace_of_selects (args := #[]) (mvT hZ (hw _ (List.mem_of_getElem? (i := 11) rfl)))) (mvT hZ (hw _ (List.mem_of_getElem? (i := 11) rfl))) (mvT hZ (hw _ (List.mem_of_getElem? (i := 10) rfl))) (by decide) (backOf (W := 0) (rm2 l Z a0 hw [] a_LESS_OR_EQUAL a_EQUAL a_NOT_EQUAL (1 : Int32) h0 n0 Z0 S_EQUAL S_NOT_EQUAL (own_bt ⟨ne_LESS_OR_EQUAL_EQUAL, ne_LESS_OR_EQUAL_NOT_EQUAL⟩)) hZ (hw _ (List.mem_of_getElem? (i := 12) rfl)) (hw _ (List.mem_of_getElem? (i := 6) rfl)) (by decide) (by decide)) q150a q150c (g := (mkF m 13 #[.val (.int p0), .val (.int p1), .val (.ref a_LESS_OR_EQUAL), .val (.int ((p1 &&& (2147483647 : Int32)) ||| (1 : Int32))), .unset, .unset, .unset] [(.ref a_LESS_OR_EQUAL)])) rfl (by rw [hml]; rfl) (Steps.refl _) (argsL := []) (rest := []) (lenOf pd_2 rfl) rfl (by show 2 * 0 + _ ≤ _; exact Nat.le_of_eq rfl) (hb hby at_13) (fun _ _ => ⟨rfl, e147, (by decide : 0 + 0 ≤ _), (by decide : 0 + 0 ≤ _)⟩)
      dsimp only [Pt.U, Pt.locs, Pt.cells, Pt.slots] at X150 l150 y150 z150 st150 hQ150
      subst l150 y150 z150
      obtain ⟨rfl, N150q, e150⟩ := hQ150
      have N150 := Fr.app N147 N150q
      have G151 : Go p e below A0 (T150.setTop (mkF m 16 #[.val (.int p0), .val (.int p1), .val (.ref a_LESS_OR_EQUAL), .val (.int ((p1 &&& (2147483647 : Int32)) ||| (1 : Int32))), .unset, .unset, .unset] [(.int (1 : Int32))])) := fun tq kq => G149 tq (st150.trans kq)
      have G152 : Go p e below A0 (T150.setTop (mkF m 20 #[.val (.int p0), .val (.int p1), .val (.ref a_LESS_OR_EQUAL), .val (.int ((p1 &&& (2147483647 : Int32)) ||| (1 : Int32))), .val (.int (1 : Int32)), .unset, .unset] [(.int ((p1 &&& (2147483647 : Int32)) ||| (1 : Int32))), (.ref a_LESS_OR_EQUAL)])) := fun tq kq => G151 tq (by
        refine XS.istore X150.here hx rfl (hb hby at_16) rfl (l' := #[.val (.int p0), .val (.int p1), .val (.ref a_LESS_OR_EQUAL), .val (.int ((p1 &&& (2147483647 : Int32)) ||| (1 : Int32))), .val (.int (1 : Int32)), .unset, .unset]) rfl ?_
        show Steps p.tables e below (T150.setTop (mkF m 18 #[.val (.int p0), .val (.int p1), .val (.ref a_LESS_OR_EQUAL), .val (.int ((p1 &&& (2147483647 : Int32)) ||| (1 : Int32))), .val (.int (1 : Int32)), .unset, .unset] [])) _
        refine XS.aloadN X150.here hx rfl (hb hby at_18) rfl rfl ?_
        show Steps p.tables e below (T150.setTop (mkF m 19 #[.val (.int p0), .val (.int p1), .val (.ref a_LESS_OR_EQUAL), .val (.int ((p1 &&& (2147483647 : Int32)) ||| (1 : Int32))), .val (.int (1 : Int32)), .unset, .unset] [(.ref a_LESS_OR_EQUAL)])) _
        refine XS.iloadN X150.here hx rfl (hb hby at_19) rfl ?_
        show Steps p.tables e below (T150.setTop (mkF m 20 #[.val (.int p0), .val (.int p1), .val (.ref a_LESS_OR_EQUAL), .val (.int ((p1 &&& (2147483647 : Int32)) ||| (1 : Int32))), .val (.int (1 : Int32)), .unset, .unset] [(.int ((p1 &&& (2147483647 : Int32)) ||| (1 : Int32))), (.ref a_LESS_OR_EQUAL)])) _
        exact kq)
      obtain ⟨cq153, kq153, q153a, q153b, q153c⟩ := isOf hZ e150 E_a_LESS_OR_EQUAL
      obtain ⟨_, _, ⟨T153, L153, k153, n153⟩, -, X153, ⟨Lc153, hQ153, l153, y153, z153⟩, st153⟩ := X150.virtualBack hx (y := (⟨"com/example/tube2/tube2/logic/Operator", "holds", "(I)Z"⟩ : MethodName)) (z := (⟨"com/example/tube2/tube2/logic/Operator", "holds", "(I)Z"⟩ : MethodName)) hown (mvT hZ (hw _ (List.mem_of_getElem? (i := 17) rfl))) (mvT hZ (hw _ (List.mem_of_getElem? (i := 18) rfl))) (notFace_of_selects (args := #[]) (mvT hZ (hw _ (List.mem_of_getElem? (i := 20) rfl)))) (mvT hZ (hw _ (List.mem_of_getElem? (i := 20) rfl))) (mvT hZ (hw _ (List.mem_of_getElem? (i := 19) rfl))) (by decide) (backOf (W := 0) (rm3_1 l Z a0 hw [] a_LESS_OR_EQUAL ((p1 &&& (2147483647 : Int32)) ||| (1 : Int32)) (0 : Int32) h0 n0 Z0 E_a_LESS_OR_EQUAL F_a_LESS_OR_EQUAL_ordinal (own_b0 (fun q => q hn.1))) hZ (hw _ (List.mem_of_getElem? (i := 21) rfl)) (hw _ (List.mem_of_getElem? (i := 6) rfl)) (by decide) (by decide)) q153a q153c (g := (mkF m 20 #[.val (.int p0), .val (.int p1), .val (.ref a_LESS_OR_EQUAL), .val (.int ((p1 &&& (2147483647 : Int32)) ||| (1 : Int32))), .val (.int (1 : Int32)), .unset, .unset] [(.int ((p1 &&& (2147483647 : Int32)) ||| (1 : Int32))), (.ref a_LESS_OR_EQUAL)])) rfl (by rw [hml]; rfl) (Steps.refl _) (argsL := [(.int ((p1 &&& (2147483647 : Int32)) ||| (1 : Int32)))]) (rest := []) (lenOf pd_3 rfl) rfl (by show 2 * 0 + _ ≤ _; exact Nat.le_of_eq rfl) (hb hby at_20) (fun _ _ => ⟨rfl, e150, (by decide : 0 + 0 ≤ _), (by decide : 0 + 0 ≤ _)⟩)
      dsimp only [Pt.U, Pt.locs, Pt.cells, Pt.slots] at X153 l153 y153 z153 st153 hQ153
      subst l153 y153 z153
      obtain ⟨rfl, N153q, e153⟩ := hQ153
      have N153 := Fr.app N150 N153q
      have G154 : Go p e below A0 (T153.setTop (mkF m 23 #[.val (.int p0), .val (.int p1), .val (.ref a_LESS_OR_EQUAL), .val (.int ((p1 &&& (2147483647 : Int32)) ||| (1 : Int32))), .val (.int (1 : Int32)), .unset, .unset] [(.int (0 : Int32))])) := fun tq kq => G152 tq (st153.trans kq)
      have G155 : Go p e below A0 (T153.setTop (mkF m 26 #[.val (.int p0), .val (.int p1), .val (.ref a_LESS_OR_EQUAL), .val (.int ((p1 &&& (2147483647 : Int32)) ||| (1 : Int32))), .val (.int (1 : Int32)), .unset, .unset] [(.int (-((p1 &&& (2147483647 : Int32)) ||| (1 : Int32)))), (.ref a_LESS_OR_EQUAL), (.int (0 : Int32))])) := fun tq kq => G154 tq (by
        refine XS.aloadN X153.here hx rfl (hb hby at_23) rfl rfl ?_
        show Steps p.tables e below (T153.setTop (mkF m 24 #[.val (.int p0), .val (.int p1), .val (.ref a_LESS_OR_EQUAL), .val (.int ((p1 &&& (2147483647 : Int32)) ||| (1 : Int32))), .val (.int (1 : Int32)), .unset, .unset] [(.ref a_LESS_OR_EQUAL), (.int (0 : Int32))])) _
        refine XS.iloadN X153.here hx rfl (hb hby at_24) rfl ?_
        show Steps p.tables e below (T153.setTop (mkF m 25 #[.val (.int p0), .val (.int p1), .val (.ref a_LESS_OR_EQUAL), .val (.int ((p1 &&& (2147483647 : Int32)) ||| (1 : Int32))), .val (.int (1 : Int32)), .unset, .unset] [(.int ((p1 &&& (2147483647 : Int32)) ||| (1 : Int32))), (.ref a_LESS_OR_EQUAL), (.int (0 : Int32))])) _
        refine XS.ineg X153.here hx rfl (hb hby at_25) rfl ?_
        show Steps p.tables e below (T153.setTop (mkF m 26 #[.val (.int p0), .val (.int p1), .val (.ref a_LESS_OR_EQUAL), .val (.int ((p1 &&& (2147483647 : Int32)) ||| (1 : Int32))), .val (.int (1 : Int32)), .unset, .unset] [(.int (-((p1 &&& (2147483647 : Int32)) ||| (1 : Int32)))), (.ref a_LESS_OR_EQUAL), (.int (0 : Int32))])) _
        exact kq)
      obtain ⟨cq156, kq156, q156a, q156b, q156c⟩ := isOf hZ e153 E_a_LESS_OR_EQUAL
      obtain ⟨_, _, ⟨T156, L156, k156, n156⟩, -, X156, ⟨Lc156, hQ156, l156, y156, z156⟩, st156⟩ := X153.virtualBack hx (y := (⟨"com/example/tube2/tube2/logic/Operator", "holds", "(I)Z"⟩ : MethodName)) (z := (⟨"com/example/tube2/tube2/logic/Operator", "holds", "(I)Z"⟩ : MethodName)) hown (mvT hZ (hw _ (List.mem_of_getElem? (i := 17) rfl))) (mvT hZ (hw _ (List.mem_of_getElem? (i := 18) rfl))) (notFace_of_selects (args := #[]) (mvT hZ (hw _ (List.mem_of_getElem? (i := 20) rfl)))) (mvT hZ (hw _ (List.mem_of_getElem? (i := 20) rfl))) (mvT hZ (hw _ (List.mem_of_getElem? (i := 19) rfl))) (by decide) (backOf (W := 1) (rm3_1 l Z a0 hw [] a_LESS_OR_EQUAL (-((p1 &&& (2147483647 : Int32)) ||| (1 : Int32))) (1 : Int32) h0 n0 Z0 E_a_LESS_OR_EQUAL F_a_LESS_OR_EQUAL_ordinal (own_bt (own_nneg hn.2).1)) hZ (hw _ (List.mem_of_getElem? (i := 21) rfl)) (hw _ (List.mem_of_getElem? (i := 6) rfl)) (by decide) (by decide)) q156a q156c (g := (mkF m 26 #[.val (.int p0), .val (.int p1), .val (.ref a_LESS_OR_EQUAL), .val (.int ((p1 &&& (2147483647 : Int32)) ||| (1 : Int32))), .val (.int (1 : Int32)), .unset, .unset] [(.int (-((p1 &&& (2147483647 : Int32)) ||| (1 : Int32)))), (.ref a_LESS_OR_EQUAL), (.int (0 : Int32))])) rfl (by rw [hml]; rfl) (Steps.refl _) (argsL := [(.int (-((p1 &&& (2147483647 : Int32)) ||| (1 : Int32))))]) (rest := [(.int (0 : Int32))]) (lenOf pd_3 rfl) rfl (by show 2 * 0 + _ ≤ _; exact Nat.le_of_eq rfl) (hb hby at_26) (fun _ _ => ⟨rfl, e153, (by decide : 0 + 0 ≤ _), (by decide : 0 + 0 ≤ _)⟩)
      dsimp only [Pt.U, Pt.locs, Pt.cells, Pt.slots] at X156 l156 y156 z156 st156 hQ156
      subst l156 y156 z156
      obtain ⟨rfl, N156q, e156⟩ := hQ156
      have N156 := Fr.app N153 N156q
      have G157 : Go p e below A0 (T156.setTop (mkF m 29 #[.val (.int p0), .val (.int p1), .val (.ref a_LESS_OR_EQUAL), .val (.int ((p1 &&& (2147483647 : Int32)) ||| (1 : Int32))), .val (.int (1 : Int32)), .unset, .unset] [(.int (1 : Int32)), (.int (0 : Int32))])) := fun tq kq => G155 tq (st156.trans kq)
      have G158 : Go p e below A0 (T156.setTop (mkF m 40 #[.val (.int p0), .val (.int p1), .val (.ref a_LESS_OR_EQUAL), .val (.int ((p1 &&& (2147483647 : Int32)) ||| (1 : Int32))), .val (.int (1 : Int32)), .val (.int (1 : Int32)), .unset] [(.ref a_LESS_OR_EQUAL)])) := fun tq kq => G157 tq (by
        refine XS.icmpNo X156.here hx rfl (hb hby at_29) rfl (by decide) ?_
        show Steps p.tables e below (T156.setTop (mkF m 32 #[.val (.int p0), .val (.int p1), .val (.ref a_LESS_OR_EQUAL), .val (.int ((p1 &&& (2147483647 : Int32)) ||| (1 : Int32))), .val (.int (1 : Int32)), .unset, .unset] [])) _
        refine XS.iconst X156.here hx rfl (hb hby at_32) ?_
        show Steps p.tables e below (T156.setTop (mkF m 33 #[.val (.int p0), .val (.int p1), .val (.ref a_LESS_OR_EQUAL), .val (.int ((p1 &&& (2147483647 : Int32)) ||| (1 : Int32))), .val (.int (1 : Int32)), .unset, .unset] [(.int (1 : Int32))])) _
        refine XS.goto X156.here hx rfl (pc0 := 33) (pc' := 37) rfl (hb hby at_33) (by decide) (by decide) ?_
        show Steps p.tables e below (T156.setTop (mkF m 37 #[.val (.int p0), .val (.int p1), .val (.ref a_LESS_OR_EQUAL), .val (.int ((p1 &&& (2147483647 : Int32)) ||| (1 : Int32))), .val (.int (1 : Int32)), .unset, .unset] [(.int (1 : Int32))])) _
        refine XS.istore X156.here hx rfl (hb hby at_37) rfl (l' := #[.val (.int p0), .val (.int p1), .val (.ref a_LESS_OR_EQUAL), .val (.int ((p1 &&& (2147483647 : Int32)) ||| (1 : Int32))), .val (.int (1 : Int32)), .val (.int (1 : Int32)), .unset]) rfl ?_
        show Steps p.tables e below (T156.setTop (mkF m 39 #[.val (.int p0), .val (.int p1), .val (.ref a_LESS_OR_EQUAL), .val (.int ((p1 &&& (2147483647 : Int32)) ||| (1 : Int32))), .val (.int (1 : Int32)), .val (.int (1 : Int32)), .unset] [])) _
        refine XS.aloadN X156.here hx rfl (hb hby at_39) rfl rfl ?_
        show Steps p.tables e below (T156.setTop (mkF m 40 #[.val (.int p0), .val (.int p1), .val (.ref a_LESS_OR_EQUAL), .val (.int ((p1 &&& (2147483647 : Int32)) ||| (1 : Int32))), .val (.int (1 : Int32)), .val (.int (1 : Int32)), .unset] [(.ref a_LESS_OR_EQUAL)])) _
        exact kq)
      obtain ⟨cq159, kq159, q159a, q159b, q159c⟩ := isOf hZ e156 E_a_LESS_OR_EQUAL
      obtain ⟨_, _, ⟨T159, L159, k159, n159⟩, -, X159, ⟨Lc159, hQ159, l159, y159, z159⟩, st159⟩ := X156.virtualBack hx (y := (⟨"com/example/tube2/tube2/logic/Operator", "complement", "()Lcom/example/tube2/tube2/logic/Operator;"⟩ : MethodName)) (z := (⟨"com/example/tube2/tube2/logic/Operator", "complement", "()Lcom/example/tube2/tube2/logic/Operator;"⟩ : MethodName)) hown (mvT hZ (hw _ (List.mem_of_getElem? (i := 31) rfl))) (mvT hZ (hw _ (List.mem_of_getElem? (i := 32) rfl))) (notFace_of_selects (args := #[]) (mvT hZ (hw _ (List.mem_of_getElem? (i := 34) rfl)))) (mvT hZ (hw _ (List.mem_of_getElem? (i := 34) rfl))) (mvT hZ (hw _ (List.mem_of_getElem? (i := 33) rfl))) (by decide) (backOf (W := 0) (rm5_1 l Z a0 hw [] a_LESS_OR_EQUAL a_GREATER h0 n0 Z0 E_a_LESS_OR_EQUAL F_a_LESS_OR_EQUAL_ordinal S_GREATER) hZ (hw _ (List.mem_of_getElem? (i := 35) rfl)) (hw _ (List.mem_of_getElem? (i := 6) rfl)) (by decide) (by decide)) q159a q159c (g := (mkF m 40 #[.val (.int p0), .val (.int p1), .val (.ref a_LESS_OR_EQUAL), .val (.int ((p1 &&& (2147483647 : Int32)) ||| (1 : Int32))), .val (.int (1 : Int32)), .val (.int (1 : Int32)), .unset] [(.ref a_LESS_OR_EQUAL)])) rfl (by rw [hml]; rfl) (Steps.refl _) (argsL := []) (rest := []) (lenOf pd_4 rfl) rfl (by show 2 * 0 + _ ≤ _; exact Nat.le_of_eq rfl) (hb hby at_40) (fun _ _ => ⟨rfl, e156, (by decide : 0 + 0 ≤ _), (by decide : 0 + 0 ≤ _)⟩)
      dsimp only [Pt.U, Pt.locs, Pt.cells, Pt.slots] at X159 l159 y159 z159 st159 hQ159
      subst l159 y159 z159
      obtain ⟨rfl, N159q, e159⟩ := hQ159
      have N159 := Fr.app N156 N159q
      have G160 : Go p e below A0 (T159.setTop (mkF m 43 #[.val (.int p0), .val (.int p1), .val (.ref a_LESS_OR_EQUAL), .val (.int ((p1 &&& (2147483647 : Int32)) ||| (1 : Int32))), .val (.int (1 : Int32)), .val (.int (1 : Int32)), .unset] [(.ref a_GREATER)])) := fun tq kq => G158 tq (st159.trans kq)
      obtain ⟨cq161, kq161, q161a, q161b, q161c⟩ := isOf hZ e159 E_a_GREATER
      obtain ⟨_, _, ⟨T161, L161, k161, n161⟩, -, X161, ⟨Lc161, hQ161, l161, y161, z161⟩, st161⟩ := X159.virtualBack hx (y := (⟨"com/example/tube2/tube2/logic/Operator", "isOrdering", "()Z"⟩ : MethodName)) (z := (⟨"com/example/tube2/tube2/logic/Operator", "isOrdering", "()Z"⟩ : MethodName)) hown (mvT hZ (hw _ (List.mem_of_getElem? (i := 8) rfl))) (mvT hZ (hw _ (List.mem_of_getElem? (i := 9) rfl))) (notFace_of_selects (args := #[]) (mvT hZ (hw _ (List.mem_of_getElem? (i := 11) rfl)))) (mvT hZ (hw _ (List.mem_of_getElem? (i := 11) rfl))) (mvT hZ (hw _ (List.mem_of_getElem? (i := 10) rfl))) (by decide) (backOf (W := 0) (rm2 l Z a0 hw [] a_GREATER a_EQUAL a_NOT_EQUAL (1 : Int32) h0 n0 Z0 S_EQUAL S_NOT_EQUAL (own_bt ⟨ne_GREATER_EQUAL, ne_GREATER_NOT_EQUAL⟩)) hZ (hw _ (List.mem_of_getElem? (i := 12) rfl)) (hw _ (List.mem_of_getElem? (i := 6) rfl)) (by decide) (by decide)) q161a q161c (g := (mkF m 43 #[.val (.int p0), .val (.int p1), .val (.ref a_LESS_OR_EQUAL), .val (.int ((p1 &&& (2147483647 : Int32)) ||| (1 : Int32))), .val (.int (1 : Int32)), .val (.int (1 : Int32)), .unset] [(.ref a_GREATER)])) rfl (by rw [hml]; rfl) (Steps.refl _) (argsL := []) (rest := []) (lenOf pd_2 rfl) rfl (by show 2 * 0 + _ ≤ _; exact Nat.le_of_eq rfl) (hb hby at_43) (fun _ _ => ⟨rfl, e159, (by decide : 0 + 0 ≤ _), (by decide : 0 + 0 ≤ _)⟩)
      dsimp only [Pt.U, Pt.locs, Pt.cells, Pt.slots] at X161 l161 y161 z161 st161 hQ161
      subst l161 y161 z161
      obtain ⟨rfl, N161q, e161⟩ := hQ161
      have N161 := Fr.app N159 N161q
      have G162 : Go p e below A0 (T161.setTop (mkF m 46 #[.val (.int p0), .val (.int p1), .val (.ref a_LESS_OR_EQUAL), .val (.int ((p1 &&& (2147483647 : Int32)) ||| (1 : Int32))), .val (.int (1 : Int32)), .val (.int (1 : Int32)), .unset] [(.int (1 : Int32))])) := fun tq kq => G160 tq (st161.trans kq)
      have G163 : Go p e below A0 (T161.setTop (mkF m 67 #[.val (.int p0), .val (.int p1), .val (.ref a_LESS_OR_EQUAL), .val (.int ((p1 &&& (2147483647 : Int32)) ||| (1 : Int32))), .val (.int (1 : Int32)), .val (.int (1 : Int32)), .val (.int (1 : Int32))] [(.int (1 : Int32))])) := fun tq kq => G162 tq (by
        refine XS.istore X161.here hx rfl (hb hby at_46) rfl (l' := #[.val (.int p0), .val (.int p1), .val (.ref a_LESS_OR_EQUAL), .val (.int ((p1 &&& (2147483647 : Int32)) ||| (1 : Int32))), .val (.int (1 : Int32)), .val (.int (1 : Int32)), .val (.int (1 : Int32))]) rfl ?_
        show Steps p.tables e below (T161.setTop (mkF m 48 #[.val (.int p0), .val (.int p1), .val (.ref a_LESS_OR_EQUAL), .val (.int ((p1 &&& (2147483647 : Int32)) ||| (1 : Int32))), .val (.int (1 : Int32)), .val (.int (1 : Int32)), .val (.int (1 : Int32))] [])) _
        refine XS.iload X161.here hx rfl (hb hby at_48) rfl ?_
        show Steps p.tables e below (T161.setTop (mkF m 50 #[.val (.int p0), .val (.int p1), .val (.ref a_LESS_OR_EQUAL), .val (.int ((p1 &&& (2147483647 : Int32)) ||| (1 : Int32))), .val (.int (1 : Int32)), .val (.int (1 : Int32)), .val (.int (1 : Int32))] [(.int (1 : Int32))])) _
        refine XS.iload X161.here hx rfl (hb hby at_50) rfl ?_
        show Steps p.tables e below (T161.setTop (mkF m 52 #[.val (.int p0), .val (.int p1), .val (.ref a_LESS_OR_EQUAL), .val (.int ((p1 &&& (2147483647 : Int32)) ||| (1 : Int32))), .val (.int (1 : Int32)), .val (.int (1 : Int32)), .val (.int (1 : Int32))] [(.int (1 : Int32)), (.int (1 : Int32))])) _
        refine XS.icmpNo X161.here hx rfl (hb hby at_52) rfl (by decide) ?_
        show Steps p.tables e below (T161.setTop (mkF m 55 #[.val (.int p0), .val (.int p1), .val (.ref a_LESS_OR_EQUAL), .val (.int ((p1 &&& (2147483647 : Int32)) ||| (1 : Int32))), .val (.int (1 : Int32)), .val (.int (1 : Int32)), .val (.int (1 : Int32))] [])) _
        refine XS.iload X161.here hx rfl (hb hby at_55) rfl ?_
        show Steps p.tables e below (T161.setTop (mkF m 57 #[.val (.int p0), .val (.int p1), .val (.ref a_LESS_OR_EQUAL), .val (.int ((p1 &&& (2147483647 : Int32)) ||| (1 : Int32))), .val (.int (1 : Int32)), .val (.int (1 : Int32)), .val (.int (1 : Int32))] [(.int (1 : Int32))])) _
        refine XS.iload X161.here hx rfl (hb hby at_57) rfl ?_
        show Steps p.tables e below (T161.setTop (mkF m 59 #[.val (.int p0), .val (.int p1), .val (.ref a_LESS_OR_EQUAL), .val (.int ((p1 &&& (2147483647 : Int32)) ||| (1 : Int32))), .val (.int (1 : Int32)), .val (.int (1 : Int32)), .val (.int (1 : Int32))] [(.int (1 : Int32)), (.int (1 : Int32))])) _
        refine XS.icmpNo X161.here hx rfl (hb hby at_59) rfl (by decide) ?_
        show Steps p.tables e below (T161.setTop (mkF m 62 #[.val (.int p0), .val (.int p1), .val (.ref a_LESS_OR_EQUAL), .val (.int ((p1 &&& (2147483647 : Int32)) ||| (1 : Int32))), .val (.int (1 : Int32)), .val (.int (1 : Int32)), .val (.int (1 : Int32))] [])) _
        refine XS.iconst X161.here hx rfl (hb hby at_62) ?_
        show Steps p.tables e below (T161.setTop (mkF m 63 #[.val (.int p0), .val (.int p1), .val (.ref a_LESS_OR_EQUAL), .val (.int ((p1 &&& (2147483647 : Int32)) ||| (1 : Int32))), .val (.int (1 : Int32)), .val (.int (1 : Int32)), .val (.int (1 : Int32))] [(.int (1 : Int32))])) _
        refine XS.goto X161.here hx rfl (pc0 := 63) (pc' := 67) rfl (hb hby at_63) (by decide) (by decide) ?_
        show Steps p.tables e below (T161.setTop (mkF m 67 #[.val (.int p0), .val (.int p1), .val (.ref a_LESS_OR_EQUAL), .val (.int ((p1 &&& (2147483647 : Int32)) ||| (1 : Int32))), .val (.int (1 : Int32)), .val (.int (1 : Int32)), .val (.int (1 : Int32))] [(.int (1 : Int32))])) _
        exact kq)
      obtain ⟨fs, hr, hrun, hended, hW, hsame⟩ := X161.leave (v := some (.int (nar .boolean (1 : Int32)))) (fun h => by rw [Bd.returns] at h; cases h)
      refine ⟨_, _, (by rw [← hA0]; exact G163 _ (retN X161 hx (t := .boolean) Bd.returns (by simp) (hb hby at_67) hr)), hrun, hended, _, _, rfl, ?_, ⟨_, rfl⟩, hW, hsame.mono (by decide) (by decide)⟩
      exact ⟨rfl, N161⟩
    · by_cases hc164 : ((p0 &&& (2147483647 : Int32)) % (6 : Int32)) = (2 : Int32)
      · have G165 : Go p e below A0 (s₁.setTop (mkF m 1 #[.val (.int p0), .val (.int p1), .unset, .unset, .unset, .unset, .unset] [(.int p0)])) := fun tq kq => G0 tq (by
          refine XS.iloadN X0.here hx rfl (hb hby at_0) rfl ?_
          show Steps p.tables e below (s₁.setTop (mkF m 1 #[.val (.int p0), .val (.int p1), .unset, .unset, .unset, .unset, .unset] [(.int p0)])) _
          exact kq)
        obtain ⟨_, _, ⟨T166, L166, k166, n166⟩, -, X166, ⟨Lc166, hQ166, l166, y166, z166⟩, st166⟩ := Jvm.LawKit.callS X0 hx (y := (⟨"com/example/tube2/tube2/logic/OperatorIsOrderingPinLaw", "pick", "(I)Lcom/example/tube2/tube2/logic/Operator;"⟩ : MethodName)) hown (mvT hZ (hw _ (List.mem_of_getElem? (i := 0) rfl))) (mvT hZ (hw _ (List.mem_of_getElem? (i := 1) rfl))) (mvT hZ (hw _ (List.mem_of_getElem? (i := 2) rfl))) (mvT hZ (hw _ (List.mem_of_getElem? (i := 3) rfl))) (by decide) (backOf (W := 0) (rm1 l Z a0 hw [] p0 a_LESS a_LESS_OR_EQUAL a_GREATER a_GREATER_OR_EQUAL a_EQUAL a_NOT_EQUAL a_GREATER h0 n0 Z0 S_LESS S_LESS_OR_EQUAL S_GREATER S_GREATER_OR_EQUAL S_EQUAL S_NOT_EQUAL (by simp [hc126, hc145, hc164])) hZ (hw _ (List.mem_of_getElem? (i := 3) rfl)) (hw _ (List.mem_of_getElem? (i := 2) rfl)) (by decide) (by decide)) (g := (mkF m 1 #[.val (.int p0), .val (.int p1), .unset, .unset, .unset, .unset, .unset] [(.int p0)])) rfl (by rw [hml]; rfl) (argsL := [(.int p0)]) (rest := []) (lenOf pd_1 rfl) rfl (by show 2 * 0 + _ ≤ _; exact Nat.le_of_eq rfl) (hb hby at_1) (fun _ _ => ⟨rfl, e0, (by decide : 0 + 0 ≤ _), (by decide : 0 + 0 ≤ _)⟩)
        dsimp only [Pt.U, Pt.locs, Pt.cells, Pt.slots] at X166 l166 y166 z166 st166 hQ166
        subst l166 y166 z166
        obtain ⟨rfl, N166q, e166⟩ := hQ166
        have N166 := Fr.app N0 N166q
        have G167 : Go p e below A0 (T166.setTop (mkF m 4 #[.val (.int p0), .val (.int p1), .unset, .unset, .unset, .unset, .unset] [(.ref a_GREATER)])) := fun tq kq => G165 tq (st166 _ kq)
        have G168 : Go p e below A0 (T166.setTop (mkF m 13 #[.val (.int p0), .val (.int p1), .val (.ref a_GREATER), .val (.int ((p1 &&& (2147483647 : Int32)) ||| (1 : Int32))), .unset, .unset, .unset] [(.ref a_GREATER)])) := fun tq kq => G167 tq (by
          refine XS.astoreN X166.here hx rfl (hb hby at_4) rfl rfl (l' := #[.val (.int p0), .val (.int p1), .val (.ref a_GREATER), .unset, .unset, .unset, .unset]) rfl ?_
          show Steps p.tables e below (T166.setTop (mkF m 5 #[.val (.int p0), .val (.int p1), .val (.ref a_GREATER), .unset, .unset, .unset, .unset] [])) _
          refine XS.iloadN X166.here hx rfl (hb hby at_5) rfl ?_
          show Steps p.tables e below (T166.setTop (mkF m 6 #[.val (.int p0), .val (.int p1), .val (.ref a_GREATER), .unset, .unset, .unset, .unset] [(.int p1)])) _
          refine X166.ldcInt hx hown (mvT hZ (hw _ (List.mem_of_getElem? (i := 4) rfl))) (g := (mkF m 6 #[.val (.int p0), .val (.int p1), .val (.ref a_GREATER), .unset, .unset, .unset, .unset] [(.int p1)])) rfl (hb hby at_6) _ ?_
          show Steps p.tables e below (T166.setTop (mkF m 8 #[.val (.int p0), .val (.int p1), .val (.ref a_GREATER), .unset, .unset, .unset, .unset] [(.int (2147483647 : Int32)), (.int p1)])) _
          refine XS.iand X166.here hx rfl (hb hby at_8) rfl ?_
          show Steps p.tables e below (T166.setTop (mkF m 9 #[.val (.int p0), .val (.int p1), .val (.ref a_GREATER), .unset, .unset, .unset, .unset] [(.int (p1 &&& (2147483647 : Int32)))])) _
          refine XS.iconst X166.here hx rfl (hb hby at_9) ?_
          show Steps p.tables e below (T166.setTop (mkF m 10 #[.val (.int p0), .val (.int p1), .val (.ref a_GREATER), .unset, .unset, .unset, .unset] [(.int (1 : Int32)), (.int (p1 &&& (2147483647 : Int32)))])) _
          refine XS.ior X166.here hx rfl (hb hby at_10) rfl ?_
          show Steps p.tables e below (T166.setTop (mkF m 11 #[.val (.int p0), .val (.int p1), .val (.ref a_GREATER), .unset, .unset, .unset, .unset] [(.int ((p1 &&& (2147483647 : Int32)) ||| (1 : Int32)))])) _
          refine XS.istoreN X166.here hx rfl (hb hby at_11) rfl (l' := #[.val (.int p0), .val (.int p1), .val (.ref a_GREATER), .val (.int ((p1 &&& (2147483647 : Int32)) ||| (1 : Int32))), .unset, .unset, .unset]) rfl ?_
          show Steps p.tables e below (T166.setTop (mkF m 12 #[.val (.int p0), .val (.int p1), .val (.ref a_GREATER), .val (.int ((p1 &&& (2147483647 : Int32)) ||| (1 : Int32))), .unset, .unset, .unset] [])) _
          refine XS.aloadN X166.here hx rfl (hb hby at_12) rfl rfl ?_
          show Steps p.tables e below (T166.setTop (mkF m 13 #[.val (.int p0), .val (.int p1), .val (.ref a_GREATER), .val (.int ((p1 &&& (2147483647 : Int32)) ||| (1 : Int32))), .unset, .unset, .unset] [(.ref a_GREATER)])) _
          exact kq)
        obtain ⟨cq169, kq169, q169a, q169b, q169c⟩ := isOf hZ e166 E_a_GREATER
        obtain ⟨_, _, ⟨T169, L169, k169, n169⟩, -, X169, ⟨Lc169, hQ169, l169, y169, z169⟩, st169⟩ := X166.virtualBack hx (y := (⟨"com/example/tube2/tube2/logic/Operator", "isOrdering", "()Z"⟩ : MethodName)) (z := (⟨"com/example/tube2/tube2/logic/Operator", "isOrdering", "()Z"⟩ : MethodName)) hown (mvT hZ (hw _ (List.mem_of_getElem? (i := 8) rfl))) (mvT hZ (hw _ (List.mem_of_getElem? (i := 9) rfl))) (notFace_of_selects (args := #[]) (mvT hZ (hw _ (List.mem_of_getElem? (i := 11) rfl)))) (mvT hZ (hw _ (List.mem_of_getElem? (i := 11) rfl))) (mvT hZ (hw _ (List.mem_of_getElem? (i := 10) rfl))) (by decide) (backOf (W := 0) (rm2 l Z a0 hw [] a_GREATER a_EQUAL a_NOT_EQUAL (1 : Int32) h0 n0 Z0 S_EQUAL S_NOT_EQUAL (own_bt ⟨ne_GREATER_EQUAL, ne_GREATER_NOT_EQUAL⟩)) hZ (hw _ (List.mem_of_getElem? (i := 12) rfl)) (hw _ (List.mem_of_getElem? (i := 6) rfl)) (by decide) (by decide)) q169a q169c (g := (mkF m 13 #[.val (.int p0), .val (.int p1), .val (.ref a_GREATER), .val (.int ((p1 &&& (2147483647 : Int32)) ||| (1 : Int32))), .unset, .unset, .unset] [(.ref a_GREATER)])) rfl (by rw [hml]; rfl) (Steps.refl _) (argsL := []) (rest := []) (lenOf pd_2 rfl) rfl (by show 2 * 0 + _ ≤ _; exact Nat.le_of_eq rfl) (hb hby at_13) (fun _ _ => ⟨rfl, e166, (by decide : 0 + 0 ≤ _), (by decide : 0 + 0 ≤ _)⟩)
        dsimp only [Pt.U, Pt.locs, Pt.cells, Pt.slots] at X169 l169 y169 z169 st169 hQ169
        subst l169 y169 z169
        obtain ⟨rfl, N169q, e169⟩ := hQ169
        have N169 := Fr.app N166 N169q
        have G170 : Go p e below A0 (T169.setTop (mkF m 16 #[.val (.int p0), .val (.int p1), .val (.ref a_GREATER), .val (.int ((p1 &&& (2147483647 : Int32)) ||| (1 : Int32))), .unset, .unset, .unset] [(.int (1 : Int32))])) := fun tq kq => G168 tq (st169.trans kq)
        have G171 : Go p e below A0 (T169.setTop (mkF m 20 #[.val (.int p0), .val (.int p1), .val (.ref a_GREATER), .val (.int ((p1 &&& (2147483647 : Int32)) ||| (1 : Int32))), .val (.int (1 : Int32)), .unset, .unset] [(.int ((p1 &&& (2147483647 : Int32)) ||| (1 : Int32))), (.ref a_GREATER)])) := fun tq kq => G170 tq (by
          refine XS.istore X169.here hx rfl (hb hby at_16) rfl (l' := #[.val (.int p0), .val (.int p1), .val (.ref a_GREATER), .val (.int ((p1 &&& (2147483647 : Int32)) ||| (1 : Int32))), .val (.int (1 : Int32)), .unset, .unset]) rfl ?_
          show Steps p.tables e below (T169.setTop (mkF m 18 #[.val (.int p0), .val (.int p1), .val (.ref a_GREATER), .val (.int ((p1 &&& (2147483647 : Int32)) ||| (1 : Int32))), .val (.int (1 : Int32)), .unset, .unset] [])) _
          refine XS.aloadN X169.here hx rfl (hb hby at_18) rfl rfl ?_
          show Steps p.tables e below (T169.setTop (mkF m 19 #[.val (.int p0), .val (.int p1), .val (.ref a_GREATER), .val (.int ((p1 &&& (2147483647 : Int32)) ||| (1 : Int32))), .val (.int (1 : Int32)), .unset, .unset] [(.ref a_GREATER)])) _
          refine XS.iloadN X169.here hx rfl (hb hby at_19) rfl ?_
          show Steps p.tables e below (T169.setTop (mkF m 20 #[.val (.int p0), .val (.int p1), .val (.ref a_GREATER), .val (.int ((p1 &&& (2147483647 : Int32)) ||| (1 : Int32))), .val (.int (1 : Int32)), .unset, .unset] [(.int ((p1 &&& (2147483647 : Int32)) ||| (1 : Int32))), (.ref a_GREATER)])) _
          exact kq)
        obtain ⟨cq172, kq172, q172a, q172b, q172c⟩ := isOf hZ e169 E_a_GREATER
        obtain ⟨_, _, ⟨T172, L172, k172, n172⟩, -, X172, ⟨Lc172, hQ172, l172, y172, z172⟩, st172⟩ := X169.virtualBack hx (y := (⟨"com/example/tube2/tube2/logic/Operator", "holds", "(I)Z"⟩ : MethodName)) (z := (⟨"com/example/tube2/tube2/logic/Operator", "holds", "(I)Z"⟩ : MethodName)) hown (mvT hZ (hw _ (List.mem_of_getElem? (i := 17) rfl))) (mvT hZ (hw _ (List.mem_of_getElem? (i := 18) rfl))) (notFace_of_selects (args := #[]) (mvT hZ (hw _ (List.mem_of_getElem? (i := 20) rfl)))) (mvT hZ (hw _ (List.mem_of_getElem? (i := 20) rfl))) (mvT hZ (hw _ (List.mem_of_getElem? (i := 19) rfl))) (by decide) (backOf (W := 0) (rm3_2 l Z a0 hw [] a_GREATER ((p1 &&& (2147483647 : Int32)) ||| (1 : Int32)) (1 : Int32) h0 n0 Z0 E_a_GREATER F_a_GREATER_ordinal (own_bt hn.1)) hZ (hw _ (List.mem_of_getElem? (i := 21) rfl)) (hw _ (List.mem_of_getElem? (i := 6) rfl)) (by decide) (by decide)) q172a q172c (g := (mkF m 20 #[.val (.int p0), .val (.int p1), .val (.ref a_GREATER), .val (.int ((p1 &&& (2147483647 : Int32)) ||| (1 : Int32))), .val (.int (1 : Int32)), .unset, .unset] [(.int ((p1 &&& (2147483647 : Int32)) ||| (1 : Int32))), (.ref a_GREATER)])) rfl (by rw [hml]; rfl) (Steps.refl _) (argsL := [(.int ((p1 &&& (2147483647 : Int32)) ||| (1 : Int32)))]) (rest := []) (lenOf pd_3 rfl) rfl (by show 2 * 0 + _ ≤ _; exact Nat.le_of_eq rfl) (hb hby at_20) (fun _ _ => ⟨rfl, e169, (by decide : 0 + 0 ≤ _), (by decide : 0 + 0 ≤ _)⟩)
        dsimp only [Pt.U, Pt.locs, Pt.cells, Pt.slots] at X172 l172 y172 z172 st172 hQ172
        subst l172 y172 z172
        obtain ⟨rfl, N172q, e172⟩ := hQ172
        have N172 := Fr.app N169 N172q
        have G173 : Go p e below A0 (T172.setTop (mkF m 23 #[.val (.int p0), .val (.int p1), .val (.ref a_GREATER), .val (.int ((p1 &&& (2147483647 : Int32)) ||| (1 : Int32))), .val (.int (1 : Int32)), .unset, .unset] [(.int (1 : Int32))])) := fun tq kq => G171 tq (st172.trans kq)
        have G174 : Go p e below A0 (T172.setTop (mkF m 26 #[.val (.int p0), .val (.int p1), .val (.ref a_GREATER), .val (.int ((p1 &&& (2147483647 : Int32)) ||| (1 : Int32))), .val (.int (1 : Int32)), .unset, .unset] [(.int (-((p1 &&& (2147483647 : Int32)) ||| (1 : Int32)))), (.ref a_GREATER), (.int (1 : Int32))])) := fun tq kq => G173 tq (by
          refine XS.aloadN X172.here hx rfl (hb hby at_23) rfl rfl ?_
          show Steps p.tables e below (T172.setTop (mkF m 24 #[.val (.int p0), .val (.int p1), .val (.ref a_GREATER), .val (.int ((p1 &&& (2147483647 : Int32)) ||| (1 : Int32))), .val (.int (1 : Int32)), .unset, .unset] [(.ref a_GREATER), (.int (1 : Int32))])) _
          refine XS.iloadN X172.here hx rfl (hb hby at_24) rfl ?_
          show Steps p.tables e below (T172.setTop (mkF m 25 #[.val (.int p0), .val (.int p1), .val (.ref a_GREATER), .val (.int ((p1 &&& (2147483647 : Int32)) ||| (1 : Int32))), .val (.int (1 : Int32)), .unset, .unset] [(.int ((p1 &&& (2147483647 : Int32)) ||| (1 : Int32))), (.ref a_GREATER), (.int (1 : Int32))])) _
          refine XS.ineg X172.here hx rfl (hb hby at_25) rfl ?_
          show Steps p.tables e below (T172.setTop (mkF m 26 #[.val (.int p0), .val (.int p1), .val (.ref a_GREATER), .val (.int ((p1 &&& (2147483647 : Int32)) ||| (1 : Int32))), .val (.int (1 : Int32)), .unset, .unset] [(.int (-((p1 &&& (2147483647 : Int32)) ||| (1 : Int32)))), (.ref a_GREATER), (.int (1 : Int32))])) _
          exact kq)
        obtain ⟨cq175, kq175, q175a, q175b, q175c⟩ := isOf hZ e172 E_a_GREATER
        obtain ⟨_, _, ⟨T175, L175, k175, n175⟩, -, X175, ⟨Lc175, hQ175, l175, y175, z175⟩, st175⟩ := X172.virtualBack hx (y := (⟨"com/example/tube2/tube2/logic/Operator", "holds", "(I)Z"⟩ : MethodName)) (z := (⟨"com/example/tube2/tube2/logic/Operator", "holds", "(I)Z"⟩ : MethodName)) hown (mvT hZ (hw _ (List.mem_of_getElem? (i := 17) rfl))) (mvT hZ (hw _ (List.mem_of_getElem? (i := 18) rfl))) (notFace_of_selects (args := #[]) (mvT hZ (hw _ (List.mem_of_getElem? (i := 20) rfl)))) (mvT hZ (hw _ (List.mem_of_getElem? (i := 20) rfl))) (mvT hZ (hw _ (List.mem_of_getElem? (i := 19) rfl))) (by decide) (backOf (W := 1) (rm3_2 l Z a0 hw [] a_GREATER (-((p1 &&& (2147483647 : Int32)) ||| (1 : Int32))) (0 : Int32) h0 n0 Z0 E_a_GREATER F_a_GREATER_ordinal (own_b0 (own_nneg hn.2).1)) hZ (hw _ (List.mem_of_getElem? (i := 21) rfl)) (hw _ (List.mem_of_getElem? (i := 6) rfl)) (by decide) (by decide)) q175a q175c (g := (mkF m 26 #[.val (.int p0), .val (.int p1), .val (.ref a_GREATER), .val (.int ((p1 &&& (2147483647 : Int32)) ||| (1 : Int32))), .val (.int (1 : Int32)), .unset, .unset] [(.int (-((p1 &&& (2147483647 : Int32)) ||| (1 : Int32)))), (.ref a_GREATER), (.int (1 : Int32))])) rfl (by rw [hml]; rfl) (Steps.refl _) (argsL := [(.int (-((p1 &&& (2147483647 : Int32)) ||| (1 : Int32))))]) (rest := [(.int (1 : Int32))]) (lenOf pd_3 rfl) rfl (by show 2 * 0 + _ ≤ _; exact Nat.le_of_eq rfl) (hb hby at_26) (fun _ _ => ⟨rfl, e172, (by decide : 0 + 0 ≤ _), (by decide : 0 + 0 ≤ _)⟩)
        dsimp only [Pt.U, Pt.locs, Pt.cells, Pt.slots] at X175 l175 y175 z175 st175 hQ175
        subst l175 y175 z175
        obtain ⟨rfl, N175q, e175⟩ := hQ175
        have N175 := Fr.app N172 N175q
        have G176 : Go p e below A0 (T175.setTop (mkF m 29 #[.val (.int p0), .val (.int p1), .val (.ref a_GREATER), .val (.int ((p1 &&& (2147483647 : Int32)) ||| (1 : Int32))), .val (.int (1 : Int32)), .unset, .unset] [(.int (0 : Int32)), (.int (1 : Int32))])) := fun tq kq => G174 tq (st175.trans kq)
        have G177 : Go p e below A0 (T175.setTop (mkF m 40 #[.val (.int p0), .val (.int p1), .val (.ref a_GREATER), .val (.int ((p1 &&& (2147483647 : Int32)) ||| (1 : Int32))), .val (.int (1 : Int32)), .val (.int (1 : Int32)), .unset] [(.ref a_GREATER)])) := fun tq kq => G176 tq (by
          refine XS.icmpNo X175.here hx rfl (hb hby at_29) rfl (by decide) ?_
          show Steps p.tables e below (T175.setTop (mkF m 32 #[.val (.int p0), .val (.int p1), .val (.ref a_GREATER), .val (.int ((p1 &&& (2147483647 : Int32)) ||| (1 : Int32))), .val (.int (1 : Int32)), .unset, .unset] [])) _
          refine XS.iconst X175.here hx rfl (hb hby at_32) ?_
          show Steps p.tables e below (T175.setTop (mkF m 33 #[.val (.int p0), .val (.int p1), .val (.ref a_GREATER), .val (.int ((p1 &&& (2147483647 : Int32)) ||| (1 : Int32))), .val (.int (1 : Int32)), .unset, .unset] [(.int (1 : Int32))])) _
          refine XS.goto X175.here hx rfl (pc0 := 33) (pc' := 37) rfl (hb hby at_33) (by decide) (by decide) ?_
          show Steps p.tables e below (T175.setTop (mkF m 37 #[.val (.int p0), .val (.int p1), .val (.ref a_GREATER), .val (.int ((p1 &&& (2147483647 : Int32)) ||| (1 : Int32))), .val (.int (1 : Int32)), .unset, .unset] [(.int (1 : Int32))])) _
          refine XS.istore X175.here hx rfl (hb hby at_37) rfl (l' := #[.val (.int p0), .val (.int p1), .val (.ref a_GREATER), .val (.int ((p1 &&& (2147483647 : Int32)) ||| (1 : Int32))), .val (.int (1 : Int32)), .val (.int (1 : Int32)), .unset]) rfl ?_
          show Steps p.tables e below (T175.setTop (mkF m 39 #[.val (.int p0), .val (.int p1), .val (.ref a_GREATER), .val (.int ((p1 &&& (2147483647 : Int32)) ||| (1 : Int32))), .val (.int (1 : Int32)), .val (.int (1 : Int32)), .unset] [])) _
          refine XS.aloadN X175.here hx rfl (hb hby at_39) rfl rfl ?_
          show Steps p.tables e below (T175.setTop (mkF m 40 #[.val (.int p0), .val (.int p1), .val (.ref a_GREATER), .val (.int ((p1 &&& (2147483647 : Int32)) ||| (1 : Int32))), .val (.int (1 : Int32)), .val (.int (1 : Int32)), .unset] [(.ref a_GREATER)])) _
          exact kq)
        obtain ⟨cq178, kq178, q178a, q178b, q178c⟩ := isOf hZ e175 E_a_GREATER
        obtain ⟨_, _, ⟨T178, L178, k178, n178⟩, -, X178, ⟨Lc178, hQ178, l178, y178, z178⟩, st178⟩ := X175.virtualBack hx (y := (⟨"com/example/tube2/tube2/logic/Operator", "complement", "()Lcom/example/tube2/tube2/logic/Operator;"⟩ : MethodName)) (z := (⟨"com/example/tube2/tube2/logic/Operator", "complement", "()Lcom/example/tube2/tube2/logic/Operator;"⟩ : MethodName)) hown (mvT hZ (hw _ (List.mem_of_getElem? (i := 31) rfl))) (mvT hZ (hw _ (List.mem_of_getElem? (i := 32) rfl))) (notFace_of_selects (args := #[]) (mvT hZ (hw _ (List.mem_of_getElem? (i := 34) rfl)))) (mvT hZ (hw _ (List.mem_of_getElem? (i := 34) rfl))) (mvT hZ (hw _ (List.mem_of_getElem? (i := 33) rfl))) (by decide) (backOf (W := 0) (rm5_2 l Z a0 hw [] a_GREATER a_LESS_OR_EQUAL h0 n0 Z0 E_a_GREATER F_a_GREATER_ordinal S_LESS_OR_EQUAL) hZ (hw _ (List.mem_of_getElem? (i := 35) rfl)) (hw _ (List.mem_of_getElem? (i := 6) rfl)) (by decide) (by decide)) q178a q178c (g := (mkF m 40 #[.val (.int p0), .val (.int p1), .val (.ref a_GREATER), .val (.int ((p1 &&& (2147483647 : Int32)) ||| (1 : Int32))), .val (.int (1 : Int32)), .val (.int (1 : Int32)), .unset] [(.ref a_GREATER)])) rfl (by rw [hml]; rfl) (Steps.refl _) (argsL := []) (rest := []) (lenOf pd_4 rfl) rfl (by show 2 * 0 + _ ≤ _; exact Nat.le_of_eq rfl) (hb hby at_40) (fun _ _ => ⟨rfl, e175, (by decide : 0 + 0 ≤ _), (by decide : 0 + 0 ≤ _)⟩)
        dsimp only [Pt.U, Pt.locs, Pt.cells, Pt.slots] at X178 l178 y178 z178 st178 hQ178
        subst l178 y178 z178
        obtain ⟨rfl, N178q, e178⟩ := hQ178
        have N178 := Fr.app N175 N178q
        have G179 : Go p e below A0 (T178.setTop (mkF m 43 #[.val (.int p0), .val (.int p1), .val (.ref a_GREATER), .val (.int ((p1 &&& (2147483647 : Int32)) ||| (1 : Int32))), .val (.int (1 : Int32)), .val (.int (1 : Int32)), .unset] [(.ref a_LESS_OR_EQUAL)])) := fun tq kq => G177 tq (st178.trans kq)
        obtain ⟨cq180, kq180, q180a, q180b, q180c⟩ := isOf hZ e178 E_a_LESS_OR_EQUAL
        obtain ⟨_, _, ⟨T180, L180, k180, n180⟩, -, X180, ⟨Lc180, hQ180, l180, y180, z180⟩, st180⟩ := X178.virtualBack hx (y := (⟨"com/example/tube2/tube2/logic/Operator", "isOrdering", "()Z"⟩ : MethodName)) (z := (⟨"com/example/tube2/tube2/logic/Operator", "isOrdering", "()Z"⟩ : MethodName)) hown (mvT hZ (hw _ (List.mem_of_getElem? (i := 8) rfl))) (mvT hZ (hw _ (List.mem_of_getElem? (i := 9) rfl))) (notFace_of_selects (args := #[]) (mvT hZ (hw _ (List.mem_of_getElem? (i := 11) rfl)))) (mvT hZ (hw _ (List.mem_of_getElem? (i := 11) rfl))) (mvT hZ (hw _ (List.mem_of_getElem? (i := 10) rfl))) (by decide) (backOf (W := 0) (rm2 l Z a0 hw [] a_LESS_OR_EQUAL a_EQUAL a_NOT_EQUAL (1 : Int32) h0 n0 Z0 S_EQUAL S_NOT_EQUAL (own_bt ⟨ne_LESS_OR_EQUAL_EQUAL, ne_LESS_OR_EQUAL_NOT_EQUAL⟩)) hZ (hw _ (List.mem_of_getElem? (i := 12) rfl)) (hw _ (List.mem_of_getElem? (i := 6) rfl)) (by decide) (by decide)) q180a q180c (g := (mkF m 43 #[.val (.int p0), .val (.int p1), .val (.ref a_GREATER), .val (.int ((p1 &&& (2147483647 : Int32)) ||| (1 : Int32))), .val (.int (1 : Int32)), .val (.int (1 : Int32)), .unset] [(.ref a_LESS_OR_EQUAL)])) rfl (by rw [hml]; rfl) (Steps.refl _) (argsL := []) (rest := []) (lenOf pd_2 rfl) rfl (by show 2 * 0 + _ ≤ _; exact Nat.le_of_eq rfl) (hb hby at_43) (fun _ _ => ⟨rfl, e178, (by decide : 0 + 0 ≤ _), (by decide : 0 + 0 ≤ _)⟩)
        dsimp only [Pt.U, Pt.locs, Pt.cells, Pt.slots] at X180 l180 y180 z180 st180 hQ180
        subst l180 y180 z180
        obtain ⟨rfl, N180q, e180⟩ := hQ180
        have N180 := Fr.app N178 N180q
        have G181 : Go p e below A0 (T180.setTop (mkF m 46 #[.val (.int p0), .val (.int p1), .val (.ref a_GREATER), .val (.int ((p1 &&& (2147483647 : Int32)) ||| (1 : Int32))), .val (.int (1 : Int32)), .val (.int (1 : Int32)), .unset] [(.int (1 : Int32))])) := fun tq kq => G179 tq (st180.trans kq)
        have G182 : Go p e below A0 (T180.setTop (mkF m 67 #[.val (.int p0), .val (.int p1), .val (.ref a_GREATER), .val (.int ((p1 &&& (2147483647 : Int32)) ||| (1 : Int32))), .val (.int (1 : Int32)), .val (.int (1 : Int32)), .val (.int (1 : Int32))] [(.int (1 : Int32))])) := fun tq kq => G181 tq (by
          refine XS.istore X180.here hx rfl (hb hby at_46) rfl (l' := #[.val (.int p0), .val (.int p1), .val (.ref a_GREATER), .val (.int ((p1 &&& (2147483647 : Int32)) ||| (1 : Int32))), .val (.int (1 : Int32)), .val (.int (1 : Int32)), .val (.int (1 : Int32))]) rfl ?_
          show Steps p.tables e below (T180.setTop (mkF m 48 #[.val (.int p0), .val (.int p1), .val (.ref a_GREATER), .val (.int ((p1 &&& (2147483647 : Int32)) ||| (1 : Int32))), .val (.int (1 : Int32)), .val (.int (1 : Int32)), .val (.int (1 : Int32))] [])) _
          refine XS.iload X180.here hx rfl (hb hby at_48) rfl ?_
          show Steps p.tables e below (T180.setTop (mkF m 50 #[.val (.int p0), .val (.int p1), .val (.ref a_GREATER), .val (.int ((p1 &&& (2147483647 : Int32)) ||| (1 : Int32))), .val (.int (1 : Int32)), .val (.int (1 : Int32)), .val (.int (1 : Int32))] [(.int (1 : Int32))])) _
          refine XS.iload X180.here hx rfl (hb hby at_50) rfl ?_
          show Steps p.tables e below (T180.setTop (mkF m 52 #[.val (.int p0), .val (.int p1), .val (.ref a_GREATER), .val (.int ((p1 &&& (2147483647 : Int32)) ||| (1 : Int32))), .val (.int (1 : Int32)), .val (.int (1 : Int32)), .val (.int (1 : Int32))] [(.int (1 : Int32)), (.int (1 : Int32))])) _
          refine XS.icmpNo X180.here hx rfl (hb hby at_52) rfl (by decide) ?_
          show Steps p.tables e below (T180.setTop (mkF m 55 #[.val (.int p0), .val (.int p1), .val (.ref a_GREATER), .val (.int ((p1 &&& (2147483647 : Int32)) ||| (1 : Int32))), .val (.int (1 : Int32)), .val (.int (1 : Int32)), .val (.int (1 : Int32))] [])) _
          refine XS.iload X180.here hx rfl (hb hby at_55) rfl ?_
          show Steps p.tables e below (T180.setTop (mkF m 57 #[.val (.int p0), .val (.int p1), .val (.ref a_GREATER), .val (.int ((p1 &&& (2147483647 : Int32)) ||| (1 : Int32))), .val (.int (1 : Int32)), .val (.int (1 : Int32)), .val (.int (1 : Int32))] [(.int (1 : Int32))])) _
          refine XS.iload X180.here hx rfl (hb hby at_57) rfl ?_
          show Steps p.tables e below (T180.setTop (mkF m 59 #[.val (.int p0), .val (.int p1), .val (.ref a_GREATER), .val (.int ((p1 &&& (2147483647 : Int32)) ||| (1 : Int32))), .val (.int (1 : Int32)), .val (.int (1 : Int32)), .val (.int (1 : Int32))] [(.int (1 : Int32)), (.int (1 : Int32))])) _
          refine XS.icmpNo X180.here hx rfl (hb hby at_59) rfl (by decide) ?_
          show Steps p.tables e below (T180.setTop (mkF m 62 #[.val (.int p0), .val (.int p1), .val (.ref a_GREATER), .val (.int ((p1 &&& (2147483647 : Int32)) ||| (1 : Int32))), .val (.int (1 : Int32)), .val (.int (1 : Int32)), .val (.int (1 : Int32))] [])) _
          refine XS.iconst X180.here hx rfl (hb hby at_62) ?_
          show Steps p.tables e below (T180.setTop (mkF m 63 #[.val (.int p0), .val (.int p1), .val (.ref a_GREATER), .val (.int ((p1 &&& (2147483647 : Int32)) ||| (1 : Int32))), .val (.int (1 : Int32)), .val (.int (1 : Int32)), .val (.int (1 : Int32))] [(.int (1 : Int32))])) _
          refine XS.goto X180.here hx rfl (pc0 := 63) (pc' := 67) rfl (hb hby at_63) (by decide) (by decide) ?_
          show Steps p.tables e below (T180.setTop (mkF m 67 #[.val (.int p0), .val (.int p1), .val (.ref a_GREATER), .val (.int ((p1 &&& (2147483647 : Int32)) ||| (1 : Int32))), .val (.int (1 : Int32)), .val (.int (1 : Int32)), .val (.int (1 : Int32))] [(.int (1 : Int32))])) _
          exact kq)
        obtain ⟨fs, hr, hrun, hended, hW, hsame⟩ := X180.leave (v := some (.int (nar .boolean (1 : Int32)))) (fun h => by rw [Bd.returns] at h; cases h)
        refine ⟨_, _, (by rw [← hA0]; exact G182 _ (retN X180 hx (t := .boolean) Bd.returns (by simp) (hb hby at_67) hr)), hrun, hended, _, _, rfl, ?_, ⟨_, rfl⟩, hW, hsame.mono (by decide) (by decide)⟩
        exact ⟨rfl, N180⟩
      · by_cases hc183 : ((p0 &&& (2147483647 : Int32)) % (6 : Int32)) = (3 : Int32)
        · have G184 : Go p e below A0 (s₁.setTop (mkF m 1 #[.val (.int p0), .val (.int p1), .unset, .unset, .unset, .unset, .unset] [(.int p0)])) := fun tq kq => G0 tq (by
            refine XS.iloadN X0.here hx rfl (hb hby at_0) rfl ?_
            show Steps p.tables e below (s₁.setTop (mkF m 1 #[.val (.int p0), .val (.int p1), .unset, .unset, .unset, .unset, .unset] [(.int p0)])) _
            exact kq)
          obtain ⟨_, _, ⟨T185, L185, k185, n185⟩, -, X185, ⟨Lc185, hQ185, l185, y185, z185⟩, st185⟩ := Jvm.LawKit.callS X0 hx (y := (⟨"com/example/tube2/tube2/logic/OperatorIsOrderingPinLaw", "pick", "(I)Lcom/example/tube2/tube2/logic/Operator;"⟩ : MethodName)) hown (mvT hZ (hw _ (List.mem_of_getElem? (i := 0) rfl))) (mvT hZ (hw _ (List.mem_of_getElem? (i := 1) rfl))) (mvT hZ (hw _ (List.mem_of_getElem? (i := 2) rfl))) (mvT hZ (hw _ (List.mem_of_getElem? (i := 3) rfl))) (by decide) (backOf (W := 0) (rm1 l Z a0 hw [] p0 a_LESS a_LESS_OR_EQUAL a_GREATER a_GREATER_OR_EQUAL a_EQUAL a_NOT_EQUAL a_GREATER_OR_EQUAL h0 n0 Z0 S_LESS S_LESS_OR_EQUAL S_GREATER S_GREATER_OR_EQUAL S_EQUAL S_NOT_EQUAL (by simp [hc126, hc145, hc164, hc183])) hZ (hw _ (List.mem_of_getElem? (i := 3) rfl)) (hw _ (List.mem_of_getElem? (i := 2) rfl)) (by decide) (by decide)) (g := (mkF m 1 #[.val (.int p0), .val (.int p1), .unset, .unset, .unset, .unset, .unset] [(.int p0)])) rfl (by rw [hml]; rfl) (argsL := [(.int p0)]) (rest := []) (lenOf pd_1 rfl) rfl (by show 2 * 0 + _ ≤ _; exact Nat.le_of_eq rfl) (hb hby at_1) (fun _ _ => ⟨rfl, e0, (by decide : 0 + 0 ≤ _), (by decide : 0 + 0 ≤ _)⟩)
          dsimp only [Pt.U, Pt.locs, Pt.cells, Pt.slots] at X185 l185 y185 z185 st185 hQ185
          subst l185 y185 z185
          obtain ⟨rfl, N185q, e185⟩ := hQ185
          have N185 := Fr.app N0 N185q
          have G186 : Go p e below A0 (T185.setTop (mkF m 4 #[.val (.int p0), .val (.int p1), .unset, .unset, .unset, .unset, .unset] [(.ref a_GREATER_OR_EQUAL)])) := fun tq kq => G184 tq (st185 _ kq)
          have G187 : Go p e below A0 (T185.setTop (mkF m 13 #[.val (.int p0), .val (.int p1), .val (.ref a_GREATER_OR_EQUAL), .val (.int ((p1 &&& (2147483647 : Int32)) ||| (1 : Int32))), .unset, .unset, .unset] [(.ref a_GREATER_OR_EQUAL)])) := fun tq kq => G186 tq (by
            refine XS.astoreN X185.here hx rfl (hb hby at_4) rfl rfl (l' := #[.val (.int p0), .val (.int p1), .val (.ref a_GREATER_OR_EQUAL), .unset, .unset, .unset, .unset]) rfl ?_
            show Steps p.tables e below (T185.setTop (mkF m 5 #[.val (.int p0), .val (.int p1), .val (.ref a_GREATER_OR_EQUAL), .unset, .unset, .unset, .unset] [])) _
            refine XS.iloadN X185.here hx rfl (hb hby at_5) rfl ?_
            show Steps p.tables e below (T185.setTop (mkF m 6 #[.val (.int p0), .val (.int p1), .val (.ref a_GREATER_OR_EQUAL), .unset, .unset, .unset, .unset] [(.int p1)])) _
            refine X185.ldcInt hx hown (mvT hZ (hw _ (List.mem_of_getElem? (i := 4) rfl))) (g := (mkF m 6 #[.val (.int p0), .val (.int p1), .val (.ref a_GREATER_OR_EQUAL), .unset, .unset, .unset, .unset] [(.int p1)])) rfl (hb hby at_6) _ ?_
            show Steps p.tables e below (T185.setTop (mkF m 8 #[.val (.int p0), .val (.int p1), .val (.ref a_GREATER_OR_EQUAL), .unset, .unset, .unset, .unset] [(.int (2147483647 : Int32)), (.int p1)])) _
            refine XS.iand X185.here hx rfl (hb hby at_8) rfl ?_
            show Steps p.tables e below (T185.setTop (mkF m 9 #[.val (.int p0), .val (.int p1), .val (.ref a_GREATER_OR_EQUAL), .unset, .unset, .unset, .unset] [(.int (p1 &&& (2147483647 : Int32)))])) _
            refine XS.iconst X185.here hx rfl (hb hby at_9) ?_
            show Steps p.tables e below (T185.setTop (mkF m 10 #[.val (.int p0), .val (.int p1), .val (.ref a_GREATER_OR_EQUAL), .unset, .unset, .unset, .unset] [(.int (1 : Int32)), (.int (p1 &&& (2147483647 : Int32)))])) _
            refine XS.ior X185.here hx rfl (hb hby at_10) rfl ?_
            show Steps p.tables e below (T185.setTop (mkF m 11 #[.val (.int p0), .val (.int p1), .val (.ref a_GREATER_OR_EQUAL), .unset, .unset, .unset, .unset] [(.int ((p1 &&& (2147483647 : Int32)) ||| (1 : Int32)))])) _
            refine XS.istoreN X185.here hx rfl (hb hby at_11) rfl (l' := #[.val (.int p0), .val (.int p1), .val (.ref a_GREATER_OR_EQUAL), .val (.int ((p1 &&& (2147483647 : Int32)) ||| (1 : Int32))), .unset, .unset, .unset]) rfl ?_
            show Steps p.tables e below (T185.setTop (mkF m 12 #[.val (.int p0), .val (.int p1), .val (.ref a_GREATER_OR_EQUAL), .val (.int ((p1 &&& (2147483647 : Int32)) ||| (1 : Int32))), .unset, .unset, .unset] [])) _
            refine XS.aloadN X185.here hx rfl (hb hby at_12) rfl rfl ?_
            show Steps p.tables e below (T185.setTop (mkF m 13 #[.val (.int p0), .val (.int p1), .val (.ref a_GREATER_OR_EQUAL), .val (.int ((p1 &&& (2147483647 : Int32)) ||| (1 : Int32))), .unset, .unset, .unset] [(.ref a_GREATER_OR_EQUAL)])) _
            exact kq)
          obtain ⟨cq188, kq188, q188a, q188b, q188c⟩ := isOf hZ e185 E_a_GREATER_OR_EQUAL
          obtain ⟨_, _, ⟨T188, L188, k188, n188⟩, -, X188, ⟨Lc188, hQ188, l188, y188, z188⟩, st188⟩ := X185.virtualBack hx (y := (⟨"com/example/tube2/tube2/logic/Operator", "isOrdering", "()Z"⟩ : MethodName)) (z := (⟨"com/example/tube2/tube2/logic/Operator", "isOrdering", "()Z"⟩ : MethodName)) hown (mvT hZ (hw _ (List.mem_of_getElem? (i := 8) rfl))) (mvT hZ (hw _ (List.mem_of_getElem? (i := 9) rfl))) (notFace_of_selects (args := #[]) (mvT hZ (hw _ (List.mem_of_getElem? (i := 11) rfl)))) (mvT hZ (hw _ (List.mem_of_getElem? (i := 11) rfl))) (mvT hZ (hw _ (List.mem_of_getElem? (i := 10) rfl))) (by decide) (backOf (W := 0) (rm2 l Z a0 hw [] a_GREATER_OR_EQUAL a_EQUAL a_NOT_EQUAL (1 : Int32) h0 n0 Z0 S_EQUAL S_NOT_EQUAL (own_bt ⟨ne_GREATER_OR_EQUAL_EQUAL, ne_GREATER_OR_EQUAL_NOT_EQUAL⟩)) hZ (hw _ (List.mem_of_getElem? (i := 12) rfl)) (hw _ (List.mem_of_getElem? (i := 6) rfl)) (by decide) (by decide)) q188a q188c (g := (mkF m 13 #[.val (.int p0), .val (.int p1), .val (.ref a_GREATER_OR_EQUAL), .val (.int ((p1 &&& (2147483647 : Int32)) ||| (1 : Int32))), .unset, .unset, .unset] [(.ref a_GREATER_OR_EQUAL)])) rfl (by rw [hml]; rfl) (Steps.refl _) (argsL := []) (rest := []) (lenOf pd_2 rfl) rfl (by show 2 * 0 + _ ≤ _; exact Nat.le_of_eq rfl) (hb hby at_13) (fun _ _ => ⟨rfl, e185, (by decide : 0 + 0 ≤ _), (by decide : 0 + 0 ≤ _)⟩)
          dsimp only [Pt.U, Pt.locs, Pt.cells, Pt.slots] at X188 l188 y188 z188 st188 hQ188
          subst l188 y188 z188
          obtain ⟨rfl, N188q, e188⟩ := hQ188
          have N188 := Fr.app N185 N188q
          have G189 : Go p e below A0 (T188.setTop (mkF m 16 #[.val (.int p0), .val (.int p1), .val (.ref a_GREATER_OR_EQUAL), .val (.int ((p1 &&& (2147483647 : Int32)) ||| (1 : Int32))), .unset, .unset, .unset] [(.int (1 : Int32))])) := fun tq kq => G187 tq (st188.trans kq)
          have G190 : Go p e below A0 (T188.setTop (mkF m 20 #[.val (.int p0), .val (.int p1), .val (.ref a_GREATER_OR_EQUAL), .val (.int ((p1 &&& (2147483647 : Int32)) ||| (1 : Int32))), .val (.int (1 : Int32)), .unset, .unset] [(.int ((p1 &&& (2147483647 : Int32)) ||| (1 : Int32))), (.ref a_GREATER_OR_EQUAL)])) := fun tq kq => G189 tq (by
            refine XS.istore X188.here hx rfl (hb hby at_16) rfl (l' := #[.val (.int p0), .val (.int p1), .val (.ref a_GREATER_OR_EQUAL), .val (.int ((p1 &&& (2147483647 : Int32)) ||| (1 : Int32))), .val (.int (1 : Int32)), .unset, .unset]) rfl ?_
            show Steps p.tables e below (T188.setTop (mkF m 18 #[.val (.int p0), .val (.int p1), .val (.ref a_GREATER_OR_EQUAL), .val (.int ((p1 &&& (2147483647 : Int32)) ||| (1 : Int32))), .val (.int (1 : Int32)), .unset, .unset] [])) _
            refine XS.aloadN X188.here hx rfl (hb hby at_18) rfl rfl ?_
            show Steps p.tables e below (T188.setTop (mkF m 19 #[.val (.int p0), .val (.int p1), .val (.ref a_GREATER_OR_EQUAL), .val (.int ((p1 &&& (2147483647 : Int32)) ||| (1 : Int32))), .val (.int (1 : Int32)), .unset, .unset] [(.ref a_GREATER_OR_EQUAL)])) _
            refine XS.iloadN X188.here hx rfl (hb hby at_19) rfl ?_
            show Steps p.tables e below (T188.setTop (mkF m 20 #[.val (.int p0), .val (.int p1), .val (.ref a_GREATER_OR_EQUAL), .val (.int ((p1 &&& (2147483647 : Int32)) ||| (1 : Int32))), .val (.int (1 : Int32)), .unset, .unset] [(.int ((p1 &&& (2147483647 : Int32)) ||| (1 : Int32))), (.ref a_GREATER_OR_EQUAL)])) _
            exact kq)
          obtain ⟨cq191, kq191, q191a, q191b, q191c⟩ := isOf hZ e188 E_a_GREATER_OR_EQUAL
          obtain ⟨_, _, ⟨T191, L191, k191, n191⟩, -, X191, ⟨Lc191, hQ191, l191, y191, z191⟩, st191⟩ := X188.virtualBack hx (y := (⟨"com/example/tube2/tube2/logic/Operator", "holds", "(I)Z"⟩ : MethodName)) (z := (⟨"com/example/tube2/tube2/logic/Operator", "holds", "(I)Z"⟩ : MethodName)) hown (mvT hZ (hw _ (List.mem_of_getElem? (i := 17) rfl))) (mvT hZ (hw _ (List.mem_of_getElem? (i := 18) rfl))) (notFace_of_selects (args := #[]) (mvT hZ (hw _ (List.mem_of_getElem? (i := 20) rfl)))) (mvT hZ (hw _ (List.mem_of_getElem? (i := 20) rfl))) (mvT hZ (hw _ (List.mem_of_getElem? (i := 19) rfl))) (by decide) (backOf (W := 0) (rm3_3 l Z a0 hw [] a_GREATER_OR_EQUAL ((p1 &&& (2147483647 : Int32)) ||| (1 : Int32)) (1 : Int32) h0 n0 Z0 E_a_GREATER_OR_EQUAL F_a_GREATER_OR_EQUAL_ordinal (own_bt (own_npos hn.1).1)) hZ (hw _ (List.mem_of_getElem? (i := 21) rfl)) (hw _ (List.mem_of_getElem? (i := 6) rfl)) (by decide) (by decide)) q191a q191c (g := (mkF m 20 #[.val (.int p0), .val (.int p1), .val (.ref a_GREATER_OR_EQUAL), .val (.int ((p1 &&& (2147483647 : Int32)) ||| (1 : Int32))), .val (.int (1 : Int32)), .unset, .unset] [(.int ((p1 &&& (2147483647 : Int32)) ||| (1 : Int32))), (.ref a_GREATER_OR_EQUAL)])) rfl (by rw [hml]; rfl) (Steps.refl _) (argsL := [(.int ((p1 &&& (2147483647 : Int32)) ||| (1 : Int32)))]) (rest := []) (lenOf pd_3 rfl) rfl (by show 2 * 0 + _ ≤ _; exact Nat.le_of_eq rfl) (hb hby at_20) (fun _ _ => ⟨rfl, e188, (by decide : 0 + 0 ≤ _), (by decide : 0 + 0 ≤ _)⟩)
          dsimp only [Pt.U, Pt.locs, Pt.cells, Pt.slots] at X191 l191 y191 z191 st191 hQ191
          subst l191 y191 z191
          obtain ⟨rfl, N191q, e191⟩ := hQ191
          have N191 := Fr.app N188 N191q
          have G192 : Go p e below A0 (T191.setTop (mkF m 23 #[.val (.int p0), .val (.int p1), .val (.ref a_GREATER_OR_EQUAL), .val (.int ((p1 &&& (2147483647 : Int32)) ||| (1 : Int32))), .val (.int (1 : Int32)), .unset, .unset] [(.int (1 : Int32))])) := fun tq kq => G190 tq (st191.trans kq)
          have G193 : Go p e below A0 (T191.setTop (mkF m 26 #[.val (.int p0), .val (.int p1), .val (.ref a_GREATER_OR_EQUAL), .val (.int ((p1 &&& (2147483647 : Int32)) ||| (1 : Int32))), .val (.int (1 : Int32)), .unset, .unset] [(.int (-((p1 &&& (2147483647 : Int32)) ||| (1 : Int32)))), (.ref a_GREATER_OR_EQUAL), (.int (1 : Int32))])) := fun tq kq => G192 tq (by
            refine XS.aloadN X191.here hx rfl (hb hby at_23) rfl rfl ?_
            show Steps p.tables e below (T191.setTop (mkF m 24 #[.val (.int p0), .val (.int p1), .val (.ref a_GREATER_OR_EQUAL), .val (.int ((p1 &&& (2147483647 : Int32)) ||| (1 : Int32))), .val (.int (1 : Int32)), .unset, .unset] [(.ref a_GREATER_OR_EQUAL), (.int (1 : Int32))])) _
            refine XS.iloadN X191.here hx rfl (hb hby at_24) rfl ?_
            show Steps p.tables e below (T191.setTop (mkF m 25 #[.val (.int p0), .val (.int p1), .val (.ref a_GREATER_OR_EQUAL), .val (.int ((p1 &&& (2147483647 : Int32)) ||| (1 : Int32))), .val (.int (1 : Int32)), .unset, .unset] [(.int ((p1 &&& (2147483647 : Int32)) ||| (1 : Int32))), (.ref a_GREATER_OR_EQUAL), (.int (1 : Int32))])) _
            refine XS.ineg X191.here hx rfl (hb hby at_25) rfl ?_
            show Steps p.tables e below (T191.setTop (mkF m 26 #[.val (.int p0), .val (.int p1), .val (.ref a_GREATER_OR_EQUAL), .val (.int ((p1 &&& (2147483647 : Int32)) ||| (1 : Int32))), .val (.int (1 : Int32)), .unset, .unset] [(.int (-((p1 &&& (2147483647 : Int32)) ||| (1 : Int32)))), (.ref a_GREATER_OR_EQUAL), (.int (1 : Int32))])) _
            exact kq)
          obtain ⟨cq194, kq194, q194a, q194b, q194c⟩ := isOf hZ e191 E_a_GREATER_OR_EQUAL
          obtain ⟨_, _, ⟨T194, L194, k194, n194⟩, -, X194, ⟨Lc194, hQ194, l194, y194, z194⟩, st194⟩ := X191.virtualBack hx (y := (⟨"com/example/tube2/tube2/logic/Operator", "holds", "(I)Z"⟩ : MethodName)) (z := (⟨"com/example/tube2/tube2/logic/Operator", "holds", "(I)Z"⟩ : MethodName)) hown (mvT hZ (hw _ (List.mem_of_getElem? (i := 17) rfl))) (mvT hZ (hw _ (List.mem_of_getElem? (i := 18) rfl))) (notFace_of_selects (args := #[]) (mvT hZ (hw _ (List.mem_of_getElem? (i := 20) rfl)))) (mvT hZ (hw _ (List.mem_of_getElem? (i := 20) rfl))) (mvT hZ (hw _ (List.mem_of_getElem? (i := 19) rfl))) (by decide) (backOf (W := 1) (rm3_3 l Z a0 hw [] a_GREATER_OR_EQUAL (-((p1 &&& (2147483647 : Int32)) ||| (1 : Int32))) (0 : Int32) h0 n0 Z0 E_a_GREATER_OR_EQUAL F_a_GREATER_OR_EQUAL_ordinal (own_b0 (fun q => q hn.2))) hZ (hw _ (List.mem_of_getElem? (i := 21) rfl)) (hw _ (List.mem_of_getElem? (i := 6) rfl)) (by decide) (by decide)) q194a q194c (g := (mkF m 26 #[.val (.int p0), .val (.int p1), .val (.ref a_GREATER_OR_EQUAL), .val (.int ((p1 &&& (2147483647 : Int32)) ||| (1 : Int32))), .val (.int (1 : Int32)), .unset, .unset] [(.int (-((p1 &&& (2147483647 : Int32)) ||| (1 : Int32)))), (.ref a_GREATER_OR_EQUAL), (.int (1 : Int32))])) rfl (by rw [hml]; rfl) (Steps.refl _) (argsL := [(.int (-((p1 &&& (2147483647 : Int32)) ||| (1 : Int32))))]) (rest := [(.int (1 : Int32))]) (lenOf pd_3 rfl) rfl (by show 2 * 0 + _ ≤ _; exact Nat.le_of_eq rfl) (hb hby at_26) (fun _ _ => ⟨rfl, e191, (by decide : 0 + 0 ≤ _), (by decide : 0 + 0 ≤ _)⟩)
          dsimp only [Pt.U, Pt.locs, Pt.cells, Pt.slots] at X194 l194 y194 z194 st194 hQ194
          subst l194 y194 z194
          obtain ⟨rfl, N194q, e194⟩ := hQ194
          have N194 := Fr.app N191 N194q
          have G195 : Go p e below A0 (T194.setTop (mkF m 29 #[.val (.int p0), .val (.int p1), .val (.ref a_GREATER_OR_EQUAL), .val (.int ((p1 &&& (2147483647 : Int32)) ||| (1 : Int32))), .val (.int (1 : Int32)), .unset, .unset] [(.int (0 : Int32)), (.int (1 : Int32))])) := fun tq kq => G193 tq (st194.trans kq)
          have G196 : Go p e below A0 (T194.setTop (mkF m 40 #[.val (.int p0), .val (.int p1), .val (.ref a_GREATER_OR_EQUAL), .val (.int ((p1 &&& (2147483647 : Int32)) ||| (1 : Int32))), .val (.int (1 : Int32)), .val (.int (1 : Int32)), .unset] [(.ref a_GREATER_OR_EQUAL)])) := fun tq kq => G195 tq (by
            refine XS.icmpNo X194.here hx rfl (hb hby at_29) rfl (by decide) ?_
            show Steps p.tables e below (T194.setTop (mkF m 32 #[.val (.int p0), .val (.int p1), .val (.ref a_GREATER_OR_EQUAL), .val (.int ((p1 &&& (2147483647 : Int32)) ||| (1 : Int32))), .val (.int (1 : Int32)), .unset, .unset] [])) _
            refine XS.iconst X194.here hx rfl (hb hby at_32) ?_
            show Steps p.tables e below (T194.setTop (mkF m 33 #[.val (.int p0), .val (.int p1), .val (.ref a_GREATER_OR_EQUAL), .val (.int ((p1 &&& (2147483647 : Int32)) ||| (1 : Int32))), .val (.int (1 : Int32)), .unset, .unset] [(.int (1 : Int32))])) _
            refine XS.goto X194.here hx rfl (pc0 := 33) (pc' := 37) rfl (hb hby at_33) (by decide) (by decide) ?_
            show Steps p.tables e below (T194.setTop (mkF m 37 #[.val (.int p0), .val (.int p1), .val (.ref a_GREATER_OR_EQUAL), .val (.int ((p1 &&& (2147483647 : Int32)) ||| (1 : Int32))), .val (.int (1 : Int32)), .unset, .unset] [(.int (1 : Int32))])) _
            refine XS.istore X194.here hx rfl (hb hby at_37) rfl (l' := #[.val (.int p0), .val (.int p1), .val (.ref a_GREATER_OR_EQUAL), .val (.int ((p1 &&& (2147483647 : Int32)) ||| (1 : Int32))), .val (.int (1 : Int32)), .val (.int (1 : Int32)), .unset]) rfl ?_
            show Steps p.tables e below (T194.setTop (mkF m 39 #[.val (.int p0), .val (.int p1), .val (.ref a_GREATER_OR_EQUAL), .val (.int ((p1 &&& (2147483647 : Int32)) ||| (1 : Int32))), .val (.int (1 : Int32)), .val (.int (1 : Int32)), .unset] [])) _
            refine XS.aloadN X194.here hx rfl (hb hby at_39) rfl rfl ?_
            show Steps p.tables e below (T194.setTop (mkF m 40 #[.val (.int p0), .val (.int p1), .val (.ref a_GREATER_OR_EQUAL), .val (.int ((p1 &&& (2147483647 : Int32)) ||| (1 : Int32))), .val (.int (1 : Int32)), .val (.int (1 : Int32)), .unset] [(.ref a_GREATER_OR_EQUAL)])) _
            exact kq)
          obtain ⟨cq197, kq197, q197a, q197b, q197c⟩ := isOf hZ e194 E_a_GREATER_OR_EQUAL
          obtain ⟨_, _, ⟨T197, L197, k197, n197⟩, -, X197, ⟨Lc197, hQ197, l197, y197, z197⟩, st197⟩ := X194.virtualBack hx (y := (⟨"com/example/tube2/tube2/logic/Operator", "complement", "()Lcom/example/tube2/tube2/logic/Operator;"⟩ : MethodName)) (z := (⟨"com/example/tube2/tube2/logic/Operator", "complement", "()Lcom/example/tube2/tube2/logic/Operator;"⟩ : MethodName)) hown (mvT hZ (hw _ (List.mem_of_getElem? (i := 31) rfl))) (mvT hZ (hw _ (List.mem_of_getElem? (i := 32) rfl))) (notFace_of_selects (args := #[]) (mvT hZ (hw _ (List.mem_of_getElem? (i := 34) rfl)))) (mvT hZ (hw _ (List.mem_of_getElem? (i := 34) rfl))) (mvT hZ (hw _ (List.mem_of_getElem? (i := 33) rfl))) (by decide) (backOf (W := 0) (rm5_3 l Z a0 hw [] a_GREATER_OR_EQUAL a_LESS h0 n0 Z0 E_a_GREATER_OR_EQUAL F_a_GREATER_OR_EQUAL_ordinal S_LESS) hZ (hw _ (List.mem_of_getElem? (i := 35) rfl)) (hw _ (List.mem_of_getElem? (i := 6) rfl)) (by decide) (by decide)) q197a q197c (g := (mkF m 40 #[.val (.int p0), .val (.int p1), .val (.ref a_GREATER_OR_EQUAL), .val (.int ((p1 &&& (2147483647 : Int32)) ||| (1 : Int32))), .val (.int (1 : Int32)), .val (.int (1 : Int32)), .unset] [(.ref a_GREATER_OR_EQUAL)])) rfl (by rw [hml]; rfl) (Steps.refl _) (argsL := []) (rest := []) (lenOf pd_4 rfl) rfl (by show 2 * 0 + _ ≤ _; exact Nat.le_of_eq rfl) (hb hby at_40) (fun _ _ => ⟨rfl, e194, (by decide : 0 + 0 ≤ _), (by decide : 0 + 0 ≤ _)⟩)
          dsimp only [Pt.U, Pt.locs, Pt.cells, Pt.slots] at X197 l197 y197 z197 st197 hQ197
          subst l197 y197 z197
          obtain ⟨rfl, N197q, e197⟩ := hQ197
          have N197 := Fr.app N194 N197q
          have G198 : Go p e below A0 (T197.setTop (mkF m 43 #[.val (.int p0), .val (.int p1), .val (.ref a_GREATER_OR_EQUAL), .val (.int ((p1 &&& (2147483647 : Int32)) ||| (1 : Int32))), .val (.int (1 : Int32)), .val (.int (1 : Int32)), .unset] [(.ref a_LESS)])) := fun tq kq => G196 tq (st197.trans kq)
          obtain ⟨cq199, kq199, q199a, q199b, q199c⟩ := isOf hZ e197 E_a_LESS
          obtain ⟨_, _, ⟨T199, L199, k199, n199⟩, -, X199, ⟨Lc199, hQ199, l199, y199, z199⟩, st199⟩ := X197.virtualBack hx (y := (⟨"com/example/tube2/tube2/logic/Operator", "isOrdering", "()Z"⟩ : MethodName)) (z := (⟨"com/example/tube2/tube2/logic/Operator", "isOrdering", "()Z"⟩ : MethodName)) hown (mvT hZ (hw _ (List.mem_of_getElem? (i := 8) rfl))) (mvT hZ (hw _ (List.mem_of_getElem? (i := 9) rfl))) (notFace_of_selects (args := #[]) (mvT hZ (hw _ (List.mem_of_getElem? (i := 11) rfl)))) (mvT hZ (hw _ (List.mem_of_getElem? (i := 11) rfl))) (mvT hZ (hw _ (List.mem_of_getElem? (i := 10) rfl))) (by decide) (backOf (W := 0) (rm2 l Z a0 hw [] a_LESS a_EQUAL a_NOT_EQUAL (1 : Int32) h0 n0 Z0 S_EQUAL S_NOT_EQUAL (own_bt ⟨ne_LESS_EQUAL, ne_LESS_NOT_EQUAL⟩)) hZ (hw _ (List.mem_of_getElem? (i := 12) rfl)) (hw _ (List.mem_of_getElem? (i := 6) rfl)) (by decide) (by decide)) q199a q199c (g := (mkF m 43 #[.val (.int p0), .val (.int p1), .val (.ref a_GREATER_OR_EQUAL), .val (.int ((p1 &&& (2147483647 : Int32)) ||| (1 : Int32))), .val (.int (1 : Int32)), .val (.int (1 : Int32)), .unset] [(.ref a_LESS)])) rfl (by rw [hml]; rfl) (Steps.refl _) (argsL := []) (rest := []) (lenOf pd_2 rfl) rfl (by show 2 * 0 + _ ≤ _; exact Nat.le_of_eq rfl) (hb hby at_43) (fun _ _ => ⟨rfl, e197, (by decide : 0 + 0 ≤ _), (by decide : 0 + 0 ≤ _)⟩)
          dsimp only [Pt.U, Pt.locs, Pt.cells, Pt.slots] at X199 l199 y199 z199 st199 hQ199
          subst l199 y199 z199
          obtain ⟨rfl, N199q, e199⟩ := hQ199
          have N199 := Fr.app N197 N199q
          have G200 : Go p e below A0 (T199.setTop (mkF m 46 #[.val (.int p0), .val (.int p1), .val (.ref a_GREATER_OR_EQUAL), .val (.int ((p1 &&& (2147483647 : Int32)) ||| (1 : Int32))), .val (.int (1 : Int32)), .val (.int (1 : Int32)), .unset] [(.int (1 : Int32))])) := fun tq kq => G198 tq (st199.trans kq)
          have G201 : Go p e below A0 (T199.setTop (mkF m 67 #[.val (.int p0), .val (.int p1), .val (.ref a_GREATER_OR_EQUAL), .val (.int ((p1 &&& (2147483647 : Int32)) ||| (1 : Int32))), .val (.int (1 : Int32)), .val (.int (1 : Int32)), .val (.int (1 : Int32))] [(.int (1 : Int32))])) := fun tq kq => G200 tq (by
            refine XS.istore X199.here hx rfl (hb hby at_46) rfl (l' := #[.val (.int p0), .val (.int p1), .val (.ref a_GREATER_OR_EQUAL), .val (.int ((p1 &&& (2147483647 : Int32)) ||| (1 : Int32))), .val (.int (1 : Int32)), .val (.int (1 : Int32)), .val (.int (1 : Int32))]) rfl ?_
            show Steps p.tables e below (T199.setTop (mkF m 48 #[.val (.int p0), .val (.int p1), .val (.ref a_GREATER_OR_EQUAL), .val (.int ((p1 &&& (2147483647 : Int32)) ||| (1 : Int32))), .val (.int (1 : Int32)), .val (.int (1 : Int32)), .val (.int (1 : Int32))] [])) _
            refine XS.iload X199.here hx rfl (hb hby at_48) rfl ?_
            show Steps p.tables e below (T199.setTop (mkF m 50 #[.val (.int p0), .val (.int p1), .val (.ref a_GREATER_OR_EQUAL), .val (.int ((p1 &&& (2147483647 : Int32)) ||| (1 : Int32))), .val (.int (1 : Int32)), .val (.int (1 : Int32)), .val (.int (1 : Int32))] [(.int (1 : Int32))])) _
            refine XS.iload X199.here hx rfl (hb hby at_50) rfl ?_
            show Steps p.tables e below (T199.setTop (mkF m 52 #[.val (.int p0), .val (.int p1), .val (.ref a_GREATER_OR_EQUAL), .val (.int ((p1 &&& (2147483647 : Int32)) ||| (1 : Int32))), .val (.int (1 : Int32)), .val (.int (1 : Int32)), .val (.int (1 : Int32))] [(.int (1 : Int32)), (.int (1 : Int32))])) _
            refine XS.icmpNo X199.here hx rfl (hb hby at_52) rfl (by decide) ?_
            show Steps p.tables e below (T199.setTop (mkF m 55 #[.val (.int p0), .val (.int p1), .val (.ref a_GREATER_OR_EQUAL), .val (.int ((p1 &&& (2147483647 : Int32)) ||| (1 : Int32))), .val (.int (1 : Int32)), .val (.int (1 : Int32)), .val (.int (1 : Int32))] [])) _
            refine XS.iload X199.here hx rfl (hb hby at_55) rfl ?_
            show Steps p.tables e below (T199.setTop (mkF m 57 #[.val (.int p0), .val (.int p1), .val (.ref a_GREATER_OR_EQUAL), .val (.int ((p1 &&& (2147483647 : Int32)) ||| (1 : Int32))), .val (.int (1 : Int32)), .val (.int (1 : Int32)), .val (.int (1 : Int32))] [(.int (1 : Int32))])) _
            refine XS.iload X199.here hx rfl (hb hby at_57) rfl ?_
            show Steps p.tables e below (T199.setTop (mkF m 59 #[.val (.int p0), .val (.int p1), .val (.ref a_GREATER_OR_EQUAL), .val (.int ((p1 &&& (2147483647 : Int32)) ||| (1 : Int32))), .val (.int (1 : Int32)), .val (.int (1 : Int32)), .val (.int (1 : Int32))] [(.int (1 : Int32)), (.int (1 : Int32))])) _
            refine XS.icmpNo X199.here hx rfl (hb hby at_59) rfl (by decide) ?_
            show Steps p.tables e below (T199.setTop (mkF m 62 #[.val (.int p0), .val (.int p1), .val (.ref a_GREATER_OR_EQUAL), .val (.int ((p1 &&& (2147483647 : Int32)) ||| (1 : Int32))), .val (.int (1 : Int32)), .val (.int (1 : Int32)), .val (.int (1 : Int32))] [])) _
            refine XS.iconst X199.here hx rfl (hb hby at_62) ?_
            show Steps p.tables e below (T199.setTop (mkF m 63 #[.val (.int p0), .val (.int p1), .val (.ref a_GREATER_OR_EQUAL), .val (.int ((p1 &&& (2147483647 : Int32)) ||| (1 : Int32))), .val (.int (1 : Int32)), .val (.int (1 : Int32)), .val (.int (1 : Int32))] [(.int (1 : Int32))])) _
            refine XS.goto X199.here hx rfl (pc0 := 63) (pc' := 67) rfl (hb hby at_63) (by decide) (by decide) ?_
            show Steps p.tables e below (T199.setTop (mkF m 67 #[.val (.int p0), .val (.int p1), .val (.ref a_GREATER_OR_EQUAL), .val (.int ((p1 &&& (2147483647 : Int32)) ||| (1 : Int32))), .val (.int (1 : Int32)), .val (.int (1 : Int32)), .val (.int (1 : Int32))] [(.int (1 : Int32))])) _
            exact kq)
          obtain ⟨fs, hr, hrun, hended, hW, hsame⟩ := X199.leave (v := some (.int (nar .boolean (1 : Int32)))) (fun h => by rw [Bd.returns] at h; cases h)
          refine ⟨_, _, (by rw [← hA0]; exact G201 _ (retN X199 hx (t := .boolean) Bd.returns (by simp) (hb hby at_67) hr)), hrun, hended, _, _, rfl, ?_, ⟨_, rfl⟩, hW, hsame.mono (by decide) (by decide)⟩
          exact ⟨rfl, N199⟩
        · by_cases hc202 : ((p0 &&& (2147483647 : Int32)) % (6 : Int32)) = (4 : Int32)
          · have G203 : Go p e below A0 (s₁.setTop (mkF m 1 #[.val (.int p0), .val (.int p1), .unset, .unset, .unset, .unset, .unset] [(.int p0)])) := fun tq kq => G0 tq (by
              refine XS.iloadN X0.here hx rfl (hb hby at_0) rfl ?_
              show Steps p.tables e below (s₁.setTop (mkF m 1 #[.val (.int p0), .val (.int p1), .unset, .unset, .unset, .unset, .unset] [(.int p0)])) _
              exact kq)
            obtain ⟨_, _, ⟨T204, L204, k204, n204⟩, -, X204, ⟨Lc204, hQ204, l204, y204, z204⟩, st204⟩ := Jvm.LawKit.callS X0 hx (y := (⟨"com/example/tube2/tube2/logic/OperatorIsOrderingPinLaw", "pick", "(I)Lcom/example/tube2/tube2/logic/Operator;"⟩ : MethodName)) hown (mvT hZ (hw _ (List.mem_of_getElem? (i := 0) rfl))) (mvT hZ (hw _ (List.mem_of_getElem? (i := 1) rfl))) (mvT hZ (hw _ (List.mem_of_getElem? (i := 2) rfl))) (mvT hZ (hw _ (List.mem_of_getElem? (i := 3) rfl))) (by decide) (backOf (W := 0) (rm1 l Z a0 hw [] p0 a_LESS a_LESS_OR_EQUAL a_GREATER a_GREATER_OR_EQUAL a_EQUAL a_NOT_EQUAL a_EQUAL h0 n0 Z0 S_LESS S_LESS_OR_EQUAL S_GREATER S_GREATER_OR_EQUAL S_EQUAL S_NOT_EQUAL (by simp [hc126, hc145, hc164, hc183, hc202])) hZ (hw _ (List.mem_of_getElem? (i := 3) rfl)) (hw _ (List.mem_of_getElem? (i := 2) rfl)) (by decide) (by decide)) (g := (mkF m 1 #[.val (.int p0), .val (.int p1), .unset, .unset, .unset, .unset, .unset] [(.int p0)])) rfl (by rw [hml]; rfl) (argsL := [(.int p0)]) (rest := []) (lenOf pd_1 rfl) rfl (by show 2 * 0 + _ ≤ _; exact Nat.le_of_eq rfl) (hb hby at_1) (fun _ _ => ⟨rfl, e0, (by decide : 0 + 0 ≤ _), (by decide : 0 + 0 ≤ _)⟩)
            dsimp only [Pt.U, Pt.locs, Pt.cells, Pt.slots] at X204 l204 y204 z204 st204 hQ204
            subst l204 y204 z204
            obtain ⟨rfl, N204q, e204⟩ := hQ204
            have N204 := Fr.app N0 N204q
            have G205 : Go p e below A0 (T204.setTop (mkF m 4 #[.val (.int p0), .val (.int p1), .unset, .unset, .unset, .unset, .unset] [(.ref a_EQUAL)])) := fun tq kq => G203 tq (st204 _ kq)
            have G206 : Go p e below A0 (T204.setTop (mkF m 13 #[.val (.int p0), .val (.int p1), .val (.ref a_EQUAL), .val (.int ((p1 &&& (2147483647 : Int32)) ||| (1 : Int32))), .unset, .unset, .unset] [(.ref a_EQUAL)])) := fun tq kq => G205 tq (by
              refine XS.astoreN X204.here hx rfl (hb hby at_4) rfl rfl (l' := #[.val (.int p0), .val (.int p1), .val (.ref a_EQUAL), .unset, .unset, .unset, .unset]) rfl ?_
              show Steps p.tables e below (T204.setTop (mkF m 5 #[.val (.int p0), .val (.int p1), .val (.ref a_EQUAL), .unset, .unset, .unset, .unset] [])) _
              refine XS.iloadN X204.here hx rfl (hb hby at_5) rfl ?_
              show Steps p.tables e below (T204.setTop (mkF m 6 #[.val (.int p0), .val (.int p1), .val (.ref a_EQUAL), .unset, .unset, .unset, .unset] [(.int p1)])) _
              refine X204.ldcInt hx hown (mvT hZ (hw _ (List.mem_of_getElem? (i := 4) rfl))) (g := (mkF m 6 #[.val (.int p0), .val (.int p1), .val (.ref a_EQUAL), .unset, .unset, .unset, .unset] [(.int p1)])) rfl (hb hby at_6) _ ?_
              show Steps p.tables e below (T204.setTop (mkF m 8 #[.val (.int p0), .val (.int p1), .val (.ref a_EQUAL), .unset, .unset, .unset, .unset] [(.int (2147483647 : Int32)), (.int p1)])) _
              refine XS.iand X204.here hx rfl (hb hby at_8) rfl ?_
              show Steps p.tables e below (T204.setTop (mkF m 9 #[.val (.int p0), .val (.int p1), .val (.ref a_EQUAL), .unset, .unset, .unset, .unset] [(.int (p1 &&& (2147483647 : Int32)))])) _
              refine XS.iconst X204.here hx rfl (hb hby at_9) ?_
              show Steps p.tables e below (T204.setTop (mkF m 10 #[.val (.int p0), .val (.int p1), .val (.ref a_EQUAL), .unset, .unset, .unset, .unset] [(.int (1 : Int32)), (.int (p1 &&& (2147483647 : Int32)))])) _
              refine XS.ior X204.here hx rfl (hb hby at_10) rfl ?_
              show Steps p.tables e below (T204.setTop (mkF m 11 #[.val (.int p0), .val (.int p1), .val (.ref a_EQUAL), .unset, .unset, .unset, .unset] [(.int ((p1 &&& (2147483647 : Int32)) ||| (1 : Int32)))])) _
              refine XS.istoreN X204.here hx rfl (hb hby at_11) rfl (l' := #[.val (.int p0), .val (.int p1), .val (.ref a_EQUAL), .val (.int ((p1 &&& (2147483647 : Int32)) ||| (1 : Int32))), .unset, .unset, .unset]) rfl ?_
              show Steps p.tables e below (T204.setTop (mkF m 12 #[.val (.int p0), .val (.int p1), .val (.ref a_EQUAL), .val (.int ((p1 &&& (2147483647 : Int32)) ||| (1 : Int32))), .unset, .unset, .unset] [])) _
              refine XS.aloadN X204.here hx rfl (hb hby at_12) rfl rfl ?_
              show Steps p.tables e below (T204.setTop (mkF m 13 #[.val (.int p0), .val (.int p1), .val (.ref a_EQUAL), .val (.int ((p1 &&& (2147483647 : Int32)) ||| (1 : Int32))), .unset, .unset, .unset] [(.ref a_EQUAL)])) _
              exact kq)
            obtain ⟨cq207, kq207, q207a, q207b, q207c⟩ := isOf hZ e204 E_a_EQUAL
            obtain ⟨_, _, ⟨T207, L207, k207, n207⟩, -, X207, ⟨Lc207, hQ207, l207, y207, z207⟩, st207⟩ := X204.virtualBack hx (y := (⟨"com/example/tube2/tube2/logic/Operator", "isOrdering", "()Z"⟩ : MethodName)) (z := (⟨"com/example/tube2/tube2/logic/Operator", "isOrdering", "()Z"⟩ : MethodName)) hown (mvT hZ (hw _ (List.mem_of_getElem? (i := 8) rfl))) (mvT hZ (hw _ (List.mem_of_getElem? (i := 9) rfl))) (notFace_of_selects (args := #[]) (mvT hZ (hw _ (List.mem_of_getElem? (i := 11) rfl)))) (mvT hZ (hw _ (List.mem_of_getElem? (i := 11) rfl))) (mvT hZ (hw _ (List.mem_of_getElem? (i := 10) rfl))) (by decide) (backOf (W := 0) (rm2 l Z a0 hw [] a_EQUAL a_EQUAL a_NOT_EQUAL (0 : Int32) h0 n0 Z0 S_EQUAL S_NOT_EQUAL (own_b0 fun q => q.1 rfl)) hZ (hw _ (List.mem_of_getElem? (i := 12) rfl)) (hw _ (List.mem_of_getElem? (i := 6) rfl)) (by decide) (by decide)) q207a q207c (g := (mkF m 13 #[.val (.int p0), .val (.int p1), .val (.ref a_EQUAL), .val (.int ((p1 &&& (2147483647 : Int32)) ||| (1 : Int32))), .unset, .unset, .unset] [(.ref a_EQUAL)])) rfl (by rw [hml]; rfl) (Steps.refl _) (argsL := []) (rest := []) (lenOf pd_2 rfl) rfl (by show 2 * 0 + _ ≤ _; exact Nat.le_of_eq rfl) (hb hby at_13) (fun _ _ => ⟨rfl, e204, (by decide : 0 + 0 ≤ _), (by decide : 0 + 0 ≤ _)⟩)
            dsimp only [Pt.U, Pt.locs, Pt.cells, Pt.slots] at X207 l207 y207 z207 st207 hQ207
            subst l207 y207 z207
            obtain ⟨rfl, N207q, e207⟩ := hQ207
            have N207 := Fr.app N204 N207q
            have G208 : Go p e below A0 (T207.setTop (mkF m 16 #[.val (.int p0), .val (.int p1), .val (.ref a_EQUAL), .val (.int ((p1 &&& (2147483647 : Int32)) ||| (1 : Int32))), .unset, .unset, .unset] [(.int (0 : Int32))])) := fun tq kq => G206 tq (st207.trans kq)
            have G209 : Go p e below A0 (T207.setTop (mkF m 20 #[.val (.int p0), .val (.int p1), .val (.ref a_EQUAL), .val (.int ((p1 &&& (2147483647 : Int32)) ||| (1 : Int32))), .val (.int (0 : Int32)), .unset, .unset] [(.int ((p1 &&& (2147483647 : Int32)) ||| (1 : Int32))), (.ref a_EQUAL)])) := fun tq kq => G208 tq (by
              refine XS.istore X207.here hx rfl (hb hby at_16) rfl (l' := #[.val (.int p0), .val (.int p1), .val (.ref a_EQUAL), .val (.int ((p1 &&& (2147483647 : Int32)) ||| (1 : Int32))), .val (.int (0 : Int32)), .unset, .unset]) rfl ?_
              show Steps p.tables e below (T207.setTop (mkF m 18 #[.val (.int p0), .val (.int p1), .val (.ref a_EQUAL), .val (.int ((p1 &&& (2147483647 : Int32)) ||| (1 : Int32))), .val (.int (0 : Int32)), .unset, .unset] [])) _
              refine XS.aloadN X207.here hx rfl (hb hby at_18) rfl rfl ?_
              show Steps p.tables e below (T207.setTop (mkF m 19 #[.val (.int p0), .val (.int p1), .val (.ref a_EQUAL), .val (.int ((p1 &&& (2147483647 : Int32)) ||| (1 : Int32))), .val (.int (0 : Int32)), .unset, .unset] [(.ref a_EQUAL)])) _
              refine XS.iloadN X207.here hx rfl (hb hby at_19) rfl ?_
              show Steps p.tables e below (T207.setTop (mkF m 20 #[.val (.int p0), .val (.int p1), .val (.ref a_EQUAL), .val (.int ((p1 &&& (2147483647 : Int32)) ||| (1 : Int32))), .val (.int (0 : Int32)), .unset, .unset] [(.int ((p1 &&& (2147483647 : Int32)) ||| (1 : Int32))), (.ref a_EQUAL)])) _
              exact kq)
            obtain ⟨cq210, kq210, q210a, q210b, q210c⟩ := isOf hZ e207 E_a_EQUAL
            obtain ⟨_, _, ⟨T210, L210, k210, n210⟩, -, X210, ⟨Lc210, hQ210, l210, y210, z210⟩, st210⟩ := X207.virtualBack hx (y := (⟨"com/example/tube2/tube2/logic/Operator", "holds", "(I)Z"⟩ : MethodName)) (z := (⟨"com/example/tube2/tube2/logic/Operator", "holds", "(I)Z"⟩ : MethodName)) hown (mvT hZ (hw _ (List.mem_of_getElem? (i := 17) rfl))) (mvT hZ (hw _ (List.mem_of_getElem? (i := 18) rfl))) (notFace_of_selects (args := #[]) (mvT hZ (hw _ (List.mem_of_getElem? (i := 20) rfl)))) (mvT hZ (hw _ (List.mem_of_getElem? (i := 20) rfl))) (mvT hZ (hw _ (List.mem_of_getElem? (i := 19) rfl))) (by decide) (backOf (W := 0) (rm3_4 l Z a0 hw [] a_EQUAL ((p1 &&& (2147483647 : Int32)) ||| (1 : Int32)) (0 : Int32) h0 n0 Z0 E_a_EQUAL F_a_EQUAL_ordinal (own_b0 (own_npos hn.1).2)) hZ (hw _ (List.mem_of_getElem? (i := 21) rfl)) (hw _ (List.mem_of_getElem? (i := 6) rfl)) (by decide) (by decide)) q210a q210c (g := (mkF m 20 #[.val (.int p0), .val (.int p1), .val (.ref a_EQUAL), .val (.int ((p1 &&& (2147483647 : Int32)) ||| (1 : Int32))), .val (.int (0 : Int32)), .unset, .unset] [(.int ((p1 &&& (2147483647 : Int32)) ||| (1 : Int32))), (.ref a_EQUAL)])) rfl (by rw [hml]; rfl) (Steps.refl _) (argsL := [(.int ((p1 &&& (2147483647 : Int32)) ||| (1 : Int32)))]) (rest := []) (lenOf pd_3 rfl) rfl (by show 2 * 0 + _ ≤ _; exact Nat.le_of_eq rfl) (hb hby at_20) (fun _ _ => ⟨rfl, e207, (by decide : 0 + 0 ≤ _), (by decide : 0 + 0 ≤ _)⟩)
            dsimp only [Pt.U, Pt.locs, Pt.cells, Pt.slots] at X210 l210 y210 z210 st210 hQ210
            subst l210 y210 z210
            obtain ⟨rfl, N210q, e210⟩ := hQ210
            have N210 := Fr.app N207 N210q
            have G211 : Go p e below A0 (T210.setTop (mkF m 23 #[.val (.int p0), .val (.int p1), .val (.ref a_EQUAL), .val (.int ((p1 &&& (2147483647 : Int32)) ||| (1 : Int32))), .val (.int (0 : Int32)), .unset, .unset] [(.int (0 : Int32))])) := fun tq kq => G209 tq (st210.trans kq)
            have G212 : Go p e below A0 (T210.setTop (mkF m 26 #[.val (.int p0), .val (.int p1), .val (.ref a_EQUAL), .val (.int ((p1 &&& (2147483647 : Int32)) ||| (1 : Int32))), .val (.int (0 : Int32)), .unset, .unset] [(.int (-((p1 &&& (2147483647 : Int32)) ||| (1 : Int32)))), (.ref a_EQUAL), (.int (0 : Int32))])) := fun tq kq => G211 tq (by
              refine XS.aloadN X210.here hx rfl (hb hby at_23) rfl rfl ?_
              show Steps p.tables e below (T210.setTop (mkF m 24 #[.val (.int p0), .val (.int p1), .val (.ref a_EQUAL), .val (.int ((p1 &&& (2147483647 : Int32)) ||| (1 : Int32))), .val (.int (0 : Int32)), .unset, .unset] [(.ref a_EQUAL), (.int (0 : Int32))])) _
              refine XS.iloadN X210.here hx rfl (hb hby at_24) rfl ?_
              show Steps p.tables e below (T210.setTop (mkF m 25 #[.val (.int p0), .val (.int p1), .val (.ref a_EQUAL), .val (.int ((p1 &&& (2147483647 : Int32)) ||| (1 : Int32))), .val (.int (0 : Int32)), .unset, .unset] [(.int ((p1 &&& (2147483647 : Int32)) ||| (1 : Int32))), (.ref a_EQUAL), (.int (0 : Int32))])) _
              refine XS.ineg X210.here hx rfl (hb hby at_25) rfl ?_
              show Steps p.tables e below (T210.setTop (mkF m 26 #[.val (.int p0), .val (.int p1), .val (.ref a_EQUAL), .val (.int ((p1 &&& (2147483647 : Int32)) ||| (1 : Int32))), .val (.int (0 : Int32)), .unset, .unset] [(.int (-((p1 &&& (2147483647 : Int32)) ||| (1 : Int32)))), (.ref a_EQUAL), (.int (0 : Int32))])) _
              exact kq)
            obtain ⟨cq213, kq213, q213a, q213b, q213c⟩ := isOf hZ e210 E_a_EQUAL
            obtain ⟨_, _, ⟨T213, L213, k213, n213⟩, -, X213, ⟨Lc213, hQ213, l213, y213, z213⟩, st213⟩ := X210.virtualBack hx (y := (⟨"com/example/tube2/tube2/logic/Operator", "holds", "(I)Z"⟩ : MethodName)) (z := (⟨"com/example/tube2/tube2/logic/Operator", "holds", "(I)Z"⟩ : MethodName)) hown (mvT hZ (hw _ (List.mem_of_getElem? (i := 17) rfl))) (mvT hZ (hw _ (List.mem_of_getElem? (i := 18) rfl))) (notFace_of_selects (args := #[]) (mvT hZ (hw _ (List.mem_of_getElem? (i := 20) rfl)))) (mvT hZ (hw _ (List.mem_of_getElem? (i := 20) rfl))) (mvT hZ (hw _ (List.mem_of_getElem? (i := 19) rfl))) (by decide) (backOf (W := 1) (rm3_4 l Z a0 hw [] a_EQUAL (-((p1 &&& (2147483647 : Int32)) ||| (1 : Int32))) (0 : Int32) h0 n0 Z0 E_a_EQUAL F_a_EQUAL_ordinal (own_b0 (own_nneg hn.2).2)) hZ (hw _ (List.mem_of_getElem? (i := 21) rfl)) (hw _ (List.mem_of_getElem? (i := 6) rfl)) (by decide) (by decide)) q213a q213c (g := (mkF m 26 #[.val (.int p0), .val (.int p1), .val (.ref a_EQUAL), .val (.int ((p1 &&& (2147483647 : Int32)) ||| (1 : Int32))), .val (.int (0 : Int32)), .unset, .unset] [(.int (-((p1 &&& (2147483647 : Int32)) ||| (1 : Int32)))), (.ref a_EQUAL), (.int (0 : Int32))])) rfl (by rw [hml]; rfl) (Steps.refl _) (argsL := [(.int (-((p1 &&& (2147483647 : Int32)) ||| (1 : Int32))))]) (rest := [(.int (0 : Int32))]) (lenOf pd_3 rfl) rfl (by show 2 * 0 + _ ≤ _; exact Nat.le_of_eq rfl) (hb hby at_26) (fun _ _ => ⟨rfl, e210, (by decide : 0 + 0 ≤ _), (by decide : 0 + 0 ≤ _)⟩)
            dsimp only [Pt.U, Pt.locs, Pt.cells, Pt.slots] at X213 l213 y213 z213 st213 hQ213
            subst l213 y213 z213
            obtain ⟨rfl, N213q, e213⟩ := hQ213
            have N213 := Fr.app N210 N213q
            have G214 : Go p e below A0 (T213.setTop (mkF m 29 #[.val (.int p0), .val (.int p1), .val (.ref a_EQUAL), .val (.int ((p1 &&& (2147483647 : Int32)) ||| (1 : Int32))), .val (.int (0 : Int32)), .unset, .unset] [(.int (0 : Int32)), (.int (0 : Int32))])) := fun tq kq => G212 tq (st213.trans kq)
            have G215 : Go p e below A0 (T213.setTop (mkF m 40 #[.val (.int p0), .val (.int p1), .val (.ref a_EQUAL), .val (.int ((p1 &&& (2147483647 : Int32)) ||| (1 : Int32))), .val (.int (0 : Int32)), .val (.int (0 : Int32)), .unset] [(.ref a_EQUAL)])) := fun tq kq => G214 tq (by
              refine XS.icmpYes X213.here hx rfl (pc0 := 29) (pc' := 36) rfl (hb hby at_29) rfl (by decide) (by decide) (by decide) ?_
              show Steps p.tables e below (T213.setTop (mkF m 36 #[.val (.int p0), .val (.int p1), .val (.ref a_EQUAL), .val (.int ((p1 &&& (2147483647 : Int32)) ||| (1 : Int32))), .val (.int (0 : Int32)), .unset, .unset] [])) _
              refine XS.iconst X213.here hx rfl (hb hby at_36) ?_
              show Steps p.tables e below (T213.setTop (mkF m 37 #[.val (.int p0), .val (.int p1), .val (.ref a_EQUAL), .val (.int ((p1 &&& (2147483647 : Int32)) ||| (1 : Int32))), .val (.int (0 : Int32)), .unset, .unset] [(.int (0 : Int32))])) _
              refine XS.istore X213.here hx rfl (hb hby at_37) rfl (l' := #[.val (.int p0), .val (.int p1), .val (.ref a_EQUAL), .val (.int ((p1 &&& (2147483647 : Int32)) ||| (1 : Int32))), .val (.int (0 : Int32)), .val (.int (0 : Int32)), .unset]) rfl ?_
              show Steps p.tables e below (T213.setTop (mkF m 39 #[.val (.int p0), .val (.int p1), .val (.ref a_EQUAL), .val (.int ((p1 &&& (2147483647 : Int32)) ||| (1 : Int32))), .val (.int (0 : Int32)), .val (.int (0 : Int32)), .unset] [])) _
              refine XS.aloadN X213.here hx rfl (hb hby at_39) rfl rfl ?_
              show Steps p.tables e below (T213.setTop (mkF m 40 #[.val (.int p0), .val (.int p1), .val (.ref a_EQUAL), .val (.int ((p1 &&& (2147483647 : Int32)) ||| (1 : Int32))), .val (.int (0 : Int32)), .val (.int (0 : Int32)), .unset] [(.ref a_EQUAL)])) _
              exact kq)
            obtain ⟨cq216, kq216, q216a, q216b, q216c⟩ := isOf hZ e213 E_a_EQUAL
            obtain ⟨_, _, ⟨T216, L216, k216, n216⟩, -, X216, ⟨Lc216, hQ216, l216, y216, z216⟩, st216⟩ := X213.virtualBack hx (y := (⟨"com/example/tube2/tube2/logic/Operator", "complement", "()Lcom/example/tube2/tube2/logic/Operator;"⟩ : MethodName)) (z := (⟨"com/example/tube2/tube2/logic/Operator", "complement", "()Lcom/example/tube2/tube2/logic/Operator;"⟩ : MethodName)) hown (mvT hZ (hw _ (List.mem_of_getElem? (i := 31) rfl))) (mvT hZ (hw _ (List.mem_of_getElem? (i := 32) rfl))) (notFace_of_selects (args := #[]) (mvT hZ (hw _ (List.mem_of_getElem? (i := 34) rfl)))) (mvT hZ (hw _ (List.mem_of_getElem? (i := 34) rfl))) (mvT hZ (hw _ (List.mem_of_getElem? (i := 33) rfl))) (by decide) (backOf (W := 0) (rm5_4 l Z a0 hw [] a_EQUAL a_NOT_EQUAL h0 n0 Z0 E_a_EQUAL F_a_EQUAL_ordinal S_NOT_EQUAL) hZ (hw _ (List.mem_of_getElem? (i := 35) rfl)) (hw _ (List.mem_of_getElem? (i := 6) rfl)) (by decide) (by decide)) q216a q216c (g := (mkF m 40 #[.val (.int p0), .val (.int p1), .val (.ref a_EQUAL), .val (.int ((p1 &&& (2147483647 : Int32)) ||| (1 : Int32))), .val (.int (0 : Int32)), .val (.int (0 : Int32)), .unset] [(.ref a_EQUAL)])) rfl (by rw [hml]; rfl) (Steps.refl _) (argsL := []) (rest := []) (lenOf pd_4 rfl) rfl (by show 2 * 0 + _ ≤ _; exact Nat.le_of_eq rfl) (hb hby at_40) (fun _ _ => ⟨rfl, e213, (by decide : 0 + 0 ≤ _), (by decide : 0 + 0 ≤ _)⟩)
            dsimp only [Pt.U, Pt.locs, Pt.cells, Pt.slots] at X216 l216 y216 z216 st216 hQ216
            subst l216 y216 z216
            obtain ⟨rfl, N216q, e216⟩ := hQ216
            have N216 := Fr.app N213 N216q
            have G217 : Go p e below A0 (T216.setTop (mkF m 43 #[.val (.int p0), .val (.int p1), .val (.ref a_EQUAL), .val (.int ((p1 &&& (2147483647 : Int32)) ||| (1 : Int32))), .val (.int (0 : Int32)), .val (.int (0 : Int32)), .unset] [(.ref a_NOT_EQUAL)])) := fun tq kq => G215 tq (st216.trans kq)
            obtain ⟨cq218, kq218, q218a, q218b, q218c⟩ := isOf hZ e216 E_a_NOT_EQUAL
            obtain ⟨_, _, ⟨T218, L218, k218, n218⟩, -, X218, ⟨Lc218, hQ218, l218, y218, z218⟩, st218⟩ := X216.virtualBack hx (y := (⟨"com/example/tube2/tube2/logic/Operator", "isOrdering", "()Z"⟩ : MethodName)) (z := (⟨"com/example/tube2/tube2/logic/Operator", "isOrdering", "()Z"⟩ : MethodName)) hown (mvT hZ (hw _ (List.mem_of_getElem? (i := 8) rfl))) (mvT hZ (hw _ (List.mem_of_getElem? (i := 9) rfl))) (notFace_of_selects (args := #[]) (mvT hZ (hw _ (List.mem_of_getElem? (i := 11) rfl)))) (mvT hZ (hw _ (List.mem_of_getElem? (i := 11) rfl))) (mvT hZ (hw _ (List.mem_of_getElem? (i := 10) rfl))) (by decide) (backOf (W := 0) (rm2 l Z a0 hw [] a_NOT_EQUAL a_EQUAL a_NOT_EQUAL (0 : Int32) h0 n0 Z0 S_EQUAL S_NOT_EQUAL (own_b0 fun q => q.2 rfl)) hZ (hw _ (List.mem_of_getElem? (i := 12) rfl)) (hw _ (List.mem_of_getElem? (i := 6) rfl)) (by decide) (by decide)) q218a q218c (g := (mkF m 43 #[.val (.int p0), .val (.int p1), .val (.ref a_EQUAL), .val (.int ((p1 &&& (2147483647 : Int32)) ||| (1 : Int32))), .val (.int (0 : Int32)), .val (.int (0 : Int32)), .unset] [(.ref a_NOT_EQUAL)])) rfl (by rw [hml]; rfl) (Steps.refl _) (argsL := []) (rest := []) (lenOf pd_2 rfl) rfl (by show 2 * 0 + _ ≤ _; exact Nat.le_of_eq rfl) (hb hby at_43) (fun _ _ => ⟨rfl, e216, (by decide : 0 + 0 ≤ _), (by decide : 0 + 0 ≤ _)⟩)
            dsimp only [Pt.U, Pt.locs, Pt.cells, Pt.slots] at X218 l218 y218 z218 st218 hQ218
            subst l218 y218 z218
            obtain ⟨rfl, N218q, e218⟩ := hQ218
            have N218 := Fr.app N216 N218q
            have G219 : Go p e below A0 (T218.setTop (mkF m 46 #[.val (.int p0), .val (.int p1), .val (.ref a_EQUAL), .val (.int ((p1 &&& (2147483647 : Int32)) ||| (1 : Int32))), .val (.int (0 : Int32)), .val (.int (0 : Int32)), .unset] [(.int (0 : Int32))])) := fun tq kq => G217 tq (st218.trans kq)
            have G220 : Go p e below A0 (T218.setTop (mkF m 67 #[.val (.int p0), .val (.int p1), .val (.ref a_EQUAL), .val (.int ((p1 &&& (2147483647 : Int32)) ||| (1 : Int32))), .val (.int (0 : Int32)), .val (.int (0 : Int32)), .val (.int (0 : Int32))] [(.int (1 : Int32))])) := fun tq kq => G219 tq (by
              refine XS.istore X218.here hx rfl (hb hby at_46) rfl (l' := #[.val (.int p0), .val (.int p1), .val (.ref a_EQUAL), .val (.int ((p1 &&& (2147483647 : Int32)) ||| (1 : Int32))), .val (.int (0 : Int32)), .val (.int (0 : Int32)), .val (.int (0 : Int32))]) rfl ?_
              show Steps p.tables e below (T218.setTop (mkF m 48 #[.val (.int p0), .val (.int p1), .val (.ref a_EQUAL), .val (.int ((p1 &&& (2147483647 : Int32)) ||| (1 : Int32))), .val (.int (0 : Int32)), .val (.int (0 : Int32)), .val (.int (0 : Int32))] [])) _
              refine XS.iload X218.here hx rfl (hb hby at_48) rfl ?_
              show Steps p.tables e below (T218.setTop (mkF m 50 #[.val (.int p0), .val (.int p1), .val (.ref a_EQUAL), .val (.int ((p1 &&& (2147483647 : Int32)) ||| (1 : Int32))), .val (.int (0 : Int32)), .val (.int (0 : Int32)), .val (.int (0 : Int32))] [(.int (0 : Int32))])) _
              refine XS.iload X218.here hx rfl (hb hby at_50) rfl ?_
              show Steps p.tables e below (T218.setTop (mkF m 52 #[.val (.int p0), .val (.int p1), .val (.ref a_EQUAL), .val (.int ((p1 &&& (2147483647 : Int32)) ||| (1 : Int32))), .val (.int (0 : Int32)), .val (.int (0 : Int32)), .val (.int (0 : Int32))] [(.int (0 : Int32)), (.int (0 : Int32))])) _
              refine XS.icmpNo X218.here hx rfl (hb hby at_52) rfl (by decide) ?_
              show Steps p.tables e below (T218.setTop (mkF m 55 #[.val (.int p0), .val (.int p1), .val (.ref a_EQUAL), .val (.int ((p1 &&& (2147483647 : Int32)) ||| (1 : Int32))), .val (.int (0 : Int32)), .val (.int (0 : Int32)), .val (.int (0 : Int32))] [])) _
              refine XS.iload X218.here hx rfl (hb hby at_55) rfl ?_
              show Steps p.tables e below (T218.setTop (mkF m 57 #[.val (.int p0), .val (.int p1), .val (.ref a_EQUAL), .val (.int ((p1 &&& (2147483647 : Int32)) ||| (1 : Int32))), .val (.int (0 : Int32)), .val (.int (0 : Int32)), .val (.int (0 : Int32))] [(.int (0 : Int32))])) _
              refine XS.iload X218.here hx rfl (hb hby at_57) rfl ?_
              show Steps p.tables e below (T218.setTop (mkF m 59 #[.val (.int p0), .val (.int p1), .val (.ref a_EQUAL), .val (.int ((p1 &&& (2147483647 : Int32)) ||| (1 : Int32))), .val (.int (0 : Int32)), .val (.int (0 : Int32)), .val (.int (0 : Int32))] [(.int (0 : Int32)), (.int (0 : Int32))])) _
              refine XS.icmpNo X218.here hx rfl (hb hby at_59) rfl (by decide) ?_
              show Steps p.tables e below (T218.setTop (mkF m 62 #[.val (.int p0), .val (.int p1), .val (.ref a_EQUAL), .val (.int ((p1 &&& (2147483647 : Int32)) ||| (1 : Int32))), .val (.int (0 : Int32)), .val (.int (0 : Int32)), .val (.int (0 : Int32))] [])) _
              refine XS.iconst X218.here hx rfl (hb hby at_62) ?_
              show Steps p.tables e below (T218.setTop (mkF m 63 #[.val (.int p0), .val (.int p1), .val (.ref a_EQUAL), .val (.int ((p1 &&& (2147483647 : Int32)) ||| (1 : Int32))), .val (.int (0 : Int32)), .val (.int (0 : Int32)), .val (.int (0 : Int32))] [(.int (1 : Int32))])) _
              refine XS.goto X218.here hx rfl (pc0 := 63) (pc' := 67) rfl (hb hby at_63) (by decide) (by decide) ?_
              show Steps p.tables e below (T218.setTop (mkF m 67 #[.val (.int p0), .val (.int p1), .val (.ref a_EQUAL), .val (.int ((p1 &&& (2147483647 : Int32)) ||| (1 : Int32))), .val (.int (0 : Int32)), .val (.int (0 : Int32)), .val (.int (0 : Int32))] [(.int (1 : Int32))])) _
              exact kq)
            obtain ⟨fs, hr, hrun, hended, hW, hsame⟩ := X218.leave (v := some (.int (nar .boolean (1 : Int32)))) (fun h => by rw [Bd.returns] at h; cases h)
            refine ⟨_, _, (by rw [← hA0]; exact G220 _ (retN X218 hx (t := .boolean) Bd.returns (by simp) (hb hby at_67) hr)), hrun, hended, _, _, rfl, ?_, ⟨_, rfl⟩, hW, hsame.mono (by decide) (by decide)⟩
            exact ⟨rfl, N218⟩
          · have G221 : Go p e below A0 (s₁.setTop (mkF m 1 #[.val (.int p0), .val (.int p1), .unset, .unset, .unset, .unset, .unset] [(.int p0)])) := fun tq kq => G0 tq (by
              refine XS.iloadN X0.here hx rfl (hb hby at_0) rfl ?_
              show Steps p.tables e below (s₁.setTop (mkF m 1 #[.val (.int p0), .val (.int p1), .unset, .unset, .unset, .unset, .unset] [(.int p0)])) _
              exact kq)
            obtain ⟨_, _, ⟨T222, L222, k222, n222⟩, -, X222, ⟨Lc222, hQ222, l222, y222, z222⟩, st222⟩ := Jvm.LawKit.callS X0 hx (y := (⟨"com/example/tube2/tube2/logic/OperatorIsOrderingPinLaw", "pick", "(I)Lcom/example/tube2/tube2/logic/Operator;"⟩ : MethodName)) hown (mvT hZ (hw _ (List.mem_of_getElem? (i := 0) rfl))) (mvT hZ (hw _ (List.mem_of_getElem? (i := 1) rfl))) (mvT hZ (hw _ (List.mem_of_getElem? (i := 2) rfl))) (mvT hZ (hw _ (List.mem_of_getElem? (i := 3) rfl))) (by decide) (backOf (W := 0) (rm1 l Z a0 hw [] p0 a_LESS a_LESS_OR_EQUAL a_GREATER a_GREATER_OR_EQUAL a_EQUAL a_NOT_EQUAL a_NOT_EQUAL h0 n0 Z0 S_LESS S_LESS_OR_EQUAL S_GREATER S_GREATER_OR_EQUAL S_EQUAL S_NOT_EQUAL (by simp [hc126, hc145, hc164, hc183, hc202])) hZ (hw _ (List.mem_of_getElem? (i := 3) rfl)) (hw _ (List.mem_of_getElem? (i := 2) rfl)) (by decide) (by decide)) (g := (mkF m 1 #[.val (.int p0), .val (.int p1), .unset, .unset, .unset, .unset, .unset] [(.int p0)])) rfl (by rw [hml]; rfl) (argsL := [(.int p0)]) (rest := []) (lenOf pd_1 rfl) rfl (by show 2 * 0 + _ ≤ _; exact Nat.le_of_eq rfl) (hb hby at_1) (fun _ _ => ⟨rfl, e0, (by decide : 0 + 0 ≤ _), (by decide : 0 + 0 ≤ _)⟩)
            dsimp only [Pt.U, Pt.locs, Pt.cells, Pt.slots] at X222 l222 y222 z222 st222 hQ222
            subst l222 y222 z222
            obtain ⟨rfl, N222q, e222⟩ := hQ222
            have N222 := Fr.app N0 N222q
            have G223 : Go p e below A0 (T222.setTop (mkF m 4 #[.val (.int p0), .val (.int p1), .unset, .unset, .unset, .unset, .unset] [(.ref a_NOT_EQUAL)])) := fun tq kq => G221 tq (st222 _ kq)
            have G224 : Go p e below A0 (T222.setTop (mkF m 13 #[.val (.int p0), .val (.int p1), .val (.ref a_NOT_EQUAL), .val (.int ((p1 &&& (2147483647 : Int32)) ||| (1 : Int32))), .unset, .unset, .unset] [(.ref a_NOT_EQUAL)])) := fun tq kq => G223 tq (by
              refine XS.astoreN X222.here hx rfl (hb hby at_4) rfl rfl (l' := #[.val (.int p0), .val (.int p1), .val (.ref a_NOT_EQUAL), .unset, .unset, .unset, .unset]) rfl ?_
              show Steps p.tables e below (T222.setTop (mkF m 5 #[.val (.int p0), .val (.int p1), .val (.ref a_NOT_EQUAL), .unset, .unset, .unset, .unset] [])) _
              refine XS.iloadN X222.here hx rfl (hb hby at_5) rfl ?_
              show Steps p.tables e below (T222.setTop (mkF m 6 #[.val (.int p0), .val (.int p1), .val (.ref a_NOT_EQUAL), .unset, .unset, .unset, .unset] [(.int p1)])) _
              refine X222.ldcInt hx hown (mvT hZ (hw _ (List.mem_of_getElem? (i := 4) rfl))) (g := (mkF m 6 #[.val (.int p0), .val (.int p1), .val (.ref a_NOT_EQUAL), .unset, .unset, .unset, .unset] [(.int p1)])) rfl (hb hby at_6) _ ?_
              show Steps p.tables e below (T222.setTop (mkF m 8 #[.val (.int p0), .val (.int p1), .val (.ref a_NOT_EQUAL), .unset, .unset, .unset, .unset] [(.int (2147483647 : Int32)), (.int p1)])) _
              refine XS.iand X222.here hx rfl (hb hby at_8) rfl ?_
              show Steps p.tables e below (T222.setTop (mkF m 9 #[.val (.int p0), .val (.int p1), .val (.ref a_NOT_EQUAL), .unset, .unset, .unset, .unset] [(.int (p1 &&& (2147483647 : Int32)))])) _
              refine XS.iconst X222.here hx rfl (hb hby at_9) ?_
              show Steps p.tables e below (T222.setTop (mkF m 10 #[.val (.int p0), .val (.int p1), .val (.ref a_NOT_EQUAL), .unset, .unset, .unset, .unset] [(.int (1 : Int32)), (.int (p1 &&& (2147483647 : Int32)))])) _
              refine XS.ior X222.here hx rfl (hb hby at_10) rfl ?_
              show Steps p.tables e below (T222.setTop (mkF m 11 #[.val (.int p0), .val (.int p1), .val (.ref a_NOT_EQUAL), .unset, .unset, .unset, .unset] [(.int ((p1 &&& (2147483647 : Int32)) ||| (1 : Int32)))])) _
              refine XS.istoreN X222.here hx rfl (hb hby at_11) rfl (l' := #[.val (.int p0), .val (.int p1), .val (.ref a_NOT_EQUAL), .val (.int ((p1 &&& (2147483647 : Int32)) ||| (1 : Int32))), .unset, .unset, .unset]) rfl ?_
              show Steps p.tables e below (T222.setTop (mkF m 12 #[.val (.int p0), .val (.int p1), .val (.ref a_NOT_EQUAL), .val (.int ((p1 &&& (2147483647 : Int32)) ||| (1 : Int32))), .unset, .unset, .unset] [])) _
              refine XS.aloadN X222.here hx rfl (hb hby at_12) rfl rfl ?_
              show Steps p.tables e below (T222.setTop (mkF m 13 #[.val (.int p0), .val (.int p1), .val (.ref a_NOT_EQUAL), .val (.int ((p1 &&& (2147483647 : Int32)) ||| (1 : Int32))), .unset, .unset, .unset] [(.ref a_NOT_EQUAL)])) _
              exact kq)
            obtain ⟨cq225, kq225, q225a, q225b, q225c⟩ := isOf hZ e222 E_a_NOT_EQUAL
            obtain ⟨_, _, ⟨T225, L225, k225, n225⟩, -, X225, ⟨Lc225, hQ225, l225, y225, z225⟩, st225⟩ := X222.virtualBack hx (y := (⟨"com/example/tube2/tube2/logic/Operator", "isOrdering", "()Z"⟩ : MethodName)) (z := (⟨"com/example/tube2/tube2/logic/Operator", "isOrdering", "()Z"⟩ : MethodName)) hown (mvT hZ (hw _ (List.mem_of_getElem? (i := 8) rfl))) (mvT hZ (hw _ (List.mem_of_getElem? (i := 9) rfl))) (notFace_of_selects (args := #[]) (mvT hZ (hw _ (List.mem_of_getElem? (i := 11) rfl)))) (mvT hZ (hw _ (List.mem_of_getElem? (i := 11) rfl))) (mvT hZ (hw _ (List.mem_of_getElem? (i := 10) rfl))) (by decide) (backOf (W := 0) (rm2 l Z a0 hw [] a_NOT_EQUAL a_EQUAL a_NOT_EQUAL (0 : Int32) h0 n0 Z0 S_EQUAL S_NOT_EQUAL (own_b0 fun q => q.2 rfl)) hZ (hw _ (List.mem_of_getElem? (i := 12) rfl)) (hw _ (List.mem_of_getElem? (i := 6) rfl)) (by decide) (by decide)) q225a q225c (g := (mkF m 13 #[.val (.int p0), .val (.int p1), .val (.ref a_NOT_EQUAL), .val (.int ((p1 &&& (2147483647 : Int32)) ||| (1 : Int32))), .unset, .unset, .unset] [(.ref a_NOT_EQUAL)])) rfl (by rw [hml]; rfl) (Steps.refl _) (argsL := []) (rest := []) (lenOf pd_2 rfl) rfl (by show 2 * 0 + _ ≤ _; exact Nat.le_of_eq rfl) (hb hby at_13) (fun _ _ => ⟨rfl, e222, (by decide : 0 + 0 ≤ _), (by decide : 0 + 0 ≤ _)⟩)
            dsimp only [Pt.U, Pt.locs, Pt.cells, Pt.slots] at X225 l225 y225 z225 st225 hQ225
            subst l225 y225 z225
            obtain ⟨rfl, N225q, e225⟩ := hQ225
            have N225 := Fr.app N222 N225q
            have G226 : Go p e below A0 (T225.setTop (mkF m 16 #[.val (.int p0), .val (.int p1), .val (.ref a_NOT_EQUAL), .val (.int ((p1 &&& (2147483647 : Int32)) ||| (1 : Int32))), .unset, .unset, .unset] [(.int (0 : Int32))])) := fun tq kq => G224 tq (st225.trans kq)
            have G227 : Go p e below A0 (T225.setTop (mkF m 20 #[.val (.int p0), .val (.int p1), .val (.ref a_NOT_EQUAL), .val (.int ((p1 &&& (2147483647 : Int32)) ||| (1 : Int32))), .val (.int (0 : Int32)), .unset, .unset] [(.int ((p1 &&& (2147483647 : Int32)) ||| (1 : Int32))), (.ref a_NOT_EQUAL)])) := fun tq kq => G226 tq (by
              refine XS.istore X225.here hx rfl (hb hby at_16) rfl (l' := #[.val (.int p0), .val (.int p1), .val (.ref a_NOT_EQUAL), .val (.int ((p1 &&& (2147483647 : Int32)) ||| (1 : Int32))), .val (.int (0 : Int32)), .unset, .unset]) rfl ?_
              show Steps p.tables e below (T225.setTop (mkF m 18 #[.val (.int p0), .val (.int p1), .val (.ref a_NOT_EQUAL), .val (.int ((p1 &&& (2147483647 : Int32)) ||| (1 : Int32))), .val (.int (0 : Int32)), .unset, .unset] [])) _
              refine XS.aloadN X225.here hx rfl (hb hby at_18) rfl rfl ?_
              show Steps p.tables e below (T225.setTop (mkF m 19 #[.val (.int p0), .val (.int p1), .val (.ref a_NOT_EQUAL), .val (.int ((p1 &&& (2147483647 : Int32)) ||| (1 : Int32))), .val (.int (0 : Int32)), .unset, .unset] [(.ref a_NOT_EQUAL)])) _
              refine XS.iloadN X225.here hx rfl (hb hby at_19) rfl ?_
              show Steps p.tables e below (T225.setTop (mkF m 20 #[.val (.int p0), .val (.int p1), .val (.ref a_NOT_EQUAL), .val (.int ((p1 &&& (2147483647 : Int32)) ||| (1 : Int32))), .val (.int (0 : Int32)), .unset, .unset] [(.int ((p1 &&& (2147483647 : Int32)) ||| (1 : Int32))), (.ref a_NOT_EQUAL)])) _
              exact kq)
            obtain ⟨cq228, kq228, q228a, q228b, q228c⟩ := isOf hZ e225 E_a_NOT_EQUAL
            obtain ⟨_, _, ⟨T228, L228, k228, n228⟩, -, X228, ⟨Lc228, hQ228, l228, y228, z228⟩, st228⟩ := X225.virtualBack hx (y := (⟨"com/example/tube2/tube2/logic/Operator", "holds", "(I)Z"⟩ : MethodName)) (z := (⟨"com/example/tube2/tube2/logic/Operator", "holds", "(I)Z"⟩ : MethodName)) hown (mvT hZ (hw _ (List.mem_of_getElem? (i := 17) rfl))) (mvT hZ (hw _ (List.mem_of_getElem? (i := 18) rfl))) (notFace_of_selects (args := #[]) (mvT hZ (hw _ (List.mem_of_getElem? (i := 20) rfl)))) (mvT hZ (hw _ (List.mem_of_getElem? (i := 20) rfl))) (mvT hZ (hw _ (List.mem_of_getElem? (i := 19) rfl))) (by decide) (backOf (W := 0) (rm3_5 l Z a0 hw [] a_NOT_EQUAL ((p1 &&& (2147483647 : Int32)) ||| (1 : Int32)) (1 : Int32) h0 n0 Z0 E_a_NOT_EQUAL F_a_NOT_EQUAL_ordinal (own_bt (own_npos hn.1).2)) hZ (hw _ (List.mem_of_getElem? (i := 21) rfl)) (hw _ (List.mem_of_getElem? (i := 6) rfl)) (by decide) (by decide)) q228a q228c (g := (mkF m 20 #[.val (.int p0), .val (.int p1), .val (.ref a_NOT_EQUAL), .val (.int ((p1 &&& (2147483647 : Int32)) ||| (1 : Int32))), .val (.int (0 : Int32)), .unset, .unset] [(.int ((p1 &&& (2147483647 : Int32)) ||| (1 : Int32))), (.ref a_NOT_EQUAL)])) rfl (by rw [hml]; rfl) (Steps.refl _) (argsL := [(.int ((p1 &&& (2147483647 : Int32)) ||| (1 : Int32)))]) (rest := []) (lenOf pd_3 rfl) rfl (by show 2 * 0 + _ ≤ _; exact Nat.le_of_eq rfl) (hb hby at_20) (fun _ _ => ⟨rfl, e225, (by decide : 0 + 0 ≤ _), (by decide : 0 + 0 ≤ _)⟩)
            dsimp only [Pt.U, Pt.locs, Pt.cells, Pt.slots] at X228 l228 y228 z228 st228 hQ228
            subst l228 y228 z228
            obtain ⟨rfl, N228q, e228⟩ := hQ228
            have N228 := Fr.app N225 N228q
            have G229 : Go p e below A0 (T228.setTop (mkF m 23 #[.val (.int p0), .val (.int p1), .val (.ref a_NOT_EQUAL), .val (.int ((p1 &&& (2147483647 : Int32)) ||| (1 : Int32))), .val (.int (0 : Int32)), .unset, .unset] [(.int (1 : Int32))])) := fun tq kq => G227 tq (st228.trans kq)
            have G230 : Go p e below A0 (T228.setTop (mkF m 26 #[.val (.int p0), .val (.int p1), .val (.ref a_NOT_EQUAL), .val (.int ((p1 &&& (2147483647 : Int32)) ||| (1 : Int32))), .val (.int (0 : Int32)), .unset, .unset] [(.int (-((p1 &&& (2147483647 : Int32)) ||| (1 : Int32)))), (.ref a_NOT_EQUAL), (.int (1 : Int32))])) := fun tq kq => G229 tq (by
              refine XS.aloadN X228.here hx rfl (hb hby at_23) rfl rfl ?_
              show Steps p.tables e below (T228.setTop (mkF m 24 #[.val (.int p0), .val (.int p1), .val (.ref a_NOT_EQUAL), .val (.int ((p1 &&& (2147483647 : Int32)) ||| (1 : Int32))), .val (.int (0 : Int32)), .unset, .unset] [(.ref a_NOT_EQUAL), (.int (1 : Int32))])) _
              refine XS.iloadN X228.here hx rfl (hb hby at_24) rfl ?_
              show Steps p.tables e below (T228.setTop (mkF m 25 #[.val (.int p0), .val (.int p1), .val (.ref a_NOT_EQUAL), .val (.int ((p1 &&& (2147483647 : Int32)) ||| (1 : Int32))), .val (.int (0 : Int32)), .unset, .unset] [(.int ((p1 &&& (2147483647 : Int32)) ||| (1 : Int32))), (.ref a_NOT_EQUAL), (.int (1 : Int32))])) _
              refine XS.ineg X228.here hx rfl (hb hby at_25) rfl ?_
              show Steps p.tables e below (T228.setTop (mkF m 26 #[.val (.int p0), .val (.int p1), .val (.ref a_NOT_EQUAL), .val (.int ((p1 &&& (2147483647 : Int32)) ||| (1 : Int32))), .val (.int (0 : Int32)), .unset, .unset] [(.int (-((p1 &&& (2147483647 : Int32)) ||| (1 : Int32)))), (.ref a_NOT_EQUAL), (.int (1 : Int32))])) _
              exact kq)
            obtain ⟨cq231, kq231, q231a, q231b, q231c⟩ := isOf hZ e228 E_a_NOT_EQUAL
            obtain ⟨_, _, ⟨T231, L231, k231, n231⟩, -, X231, ⟨Lc231, hQ231, l231, y231, z231⟩, st231⟩ := X228.virtualBack hx (y := (⟨"com/example/tube2/tube2/logic/Operator", "holds", "(I)Z"⟩ : MethodName)) (z := (⟨"com/example/tube2/tube2/logic/Operator", "holds", "(I)Z"⟩ : MethodName)) hown (mvT hZ (hw _ (List.mem_of_getElem? (i := 17) rfl))) (mvT hZ (hw _ (List.mem_of_getElem? (i := 18) rfl))) (notFace_of_selects (args := #[]) (mvT hZ (hw _ (List.mem_of_getElem? (i := 20) rfl)))) (mvT hZ (hw _ (List.mem_of_getElem? (i := 20) rfl))) (mvT hZ (hw _ (List.mem_of_getElem? (i := 19) rfl))) (by decide) (backOf (W := 1) (rm3_5 l Z a0 hw [] a_NOT_EQUAL (-((p1 &&& (2147483647 : Int32)) ||| (1 : Int32))) (1 : Int32) h0 n0 Z0 E_a_NOT_EQUAL F_a_NOT_EQUAL_ordinal (own_bt (own_nneg hn.2).2)) hZ (hw _ (List.mem_of_getElem? (i := 21) rfl)) (hw _ (List.mem_of_getElem? (i := 6) rfl)) (by decide) (by decide)) q231a q231c (g := (mkF m 26 #[.val (.int p0), .val (.int p1), .val (.ref a_NOT_EQUAL), .val (.int ((p1 &&& (2147483647 : Int32)) ||| (1 : Int32))), .val (.int (0 : Int32)), .unset, .unset] [(.int (-((p1 &&& (2147483647 : Int32)) ||| (1 : Int32)))), (.ref a_NOT_EQUAL), (.int (1 : Int32))])) rfl (by rw [hml]; rfl) (Steps.refl _) (argsL := [(.int (-((p1 &&& (2147483647 : Int32)) ||| (1 : Int32))))]) (rest := [(.int (1 : Int32))]) (lenOf pd_3 rfl) rfl (by show 2 * 0 + _ ≤ _; exact Nat.le_of_eq rfl) (hb hby at_26) (fun _ _ => ⟨rfl, e228, (by decide : 0 + 0 ≤ _), (by decide : 0 + 0 ≤ _)⟩)
            dsimp only [Pt.U, Pt.locs, Pt.cells, Pt.slots] at X231 l231 y231 z231 st231 hQ231
            subst l231 y231 z231
            obtain ⟨rfl, N231q, e231⟩ := hQ231
            have N231 := Fr.app N228 N231q
            have G232 : Go p e below A0 (T231.setTop (mkF m 29 #[.val (.int p0), .val (.int p1), .val (.ref a_NOT_EQUAL), .val (.int ((p1 &&& (2147483647 : Int32)) ||| (1 : Int32))), .val (.int (0 : Int32)), .unset, .unset] [(.int (1 : Int32)), (.int (1 : Int32))])) := fun tq kq => G230 tq (st231.trans kq)
            have G233 : Go p e below A0 (T231.setTop (mkF m 40 #[.val (.int p0), .val (.int p1), .val (.ref a_NOT_EQUAL), .val (.int ((p1 &&& (2147483647 : Int32)) ||| (1 : Int32))), .val (.int (0 : Int32)), .val (.int (0 : Int32)), .unset] [(.ref a_NOT_EQUAL)])) := fun tq kq => G232 tq (by
              refine XS.icmpYes X231.here hx rfl (pc0 := 29) (pc' := 36) rfl (hb hby at_29) rfl (by decide) (by decide) (by decide) ?_
              show Steps p.tables e below (T231.setTop (mkF m 36 #[.val (.int p0), .val (.int p1), .val (.ref a_NOT_EQUAL), .val (.int ((p1 &&& (2147483647 : Int32)) ||| (1 : Int32))), .val (.int (0 : Int32)), .unset, .unset] [])) _
              refine XS.iconst X231.here hx rfl (hb hby at_36) ?_
              show Steps p.tables e below (T231.setTop (mkF m 37 #[.val (.int p0), .val (.int p1), .val (.ref a_NOT_EQUAL), .val (.int ((p1 &&& (2147483647 : Int32)) ||| (1 : Int32))), .val (.int (0 : Int32)), .unset, .unset] [(.int (0 : Int32))])) _
              refine XS.istore X231.here hx rfl (hb hby at_37) rfl (l' := #[.val (.int p0), .val (.int p1), .val (.ref a_NOT_EQUAL), .val (.int ((p1 &&& (2147483647 : Int32)) ||| (1 : Int32))), .val (.int (0 : Int32)), .val (.int (0 : Int32)), .unset]) rfl ?_
              show Steps p.tables e below (T231.setTop (mkF m 39 #[.val (.int p0), .val (.int p1), .val (.ref a_NOT_EQUAL), .val (.int ((p1 &&& (2147483647 : Int32)) ||| (1 : Int32))), .val (.int (0 : Int32)), .val (.int (0 : Int32)), .unset] [])) _
              refine XS.aloadN X231.here hx rfl (hb hby at_39) rfl rfl ?_
              show Steps p.tables e below (T231.setTop (mkF m 40 #[.val (.int p0), .val (.int p1), .val (.ref a_NOT_EQUAL), .val (.int ((p1 &&& (2147483647 : Int32)) ||| (1 : Int32))), .val (.int (0 : Int32)), .val (.int (0 : Int32)), .unset] [(.ref a_NOT_EQUAL)])) _
              exact kq)
            obtain ⟨cq234, kq234, q234a, q234b, q234c⟩ := isOf hZ e231 E_a_NOT_EQUAL
            obtain ⟨_, _, ⟨T234, L234, k234, n234⟩, -, X234, ⟨Lc234, hQ234, l234, y234, z234⟩, st234⟩ := X231.virtualBack hx (y := (⟨"com/example/tube2/tube2/logic/Operator", "complement", "()Lcom/example/tube2/tube2/logic/Operator;"⟩ : MethodName)) (z := (⟨"com/example/tube2/tube2/logic/Operator", "complement", "()Lcom/example/tube2/tube2/logic/Operator;"⟩ : MethodName)) hown (mvT hZ (hw _ (List.mem_of_getElem? (i := 31) rfl))) (mvT hZ (hw _ (List.mem_of_getElem? (i := 32) rfl))) (notFace_of_selects (args := #[]) (mvT hZ (hw _ (List.mem_of_getElem? (i := 34) rfl)))) (mvT hZ (hw _ (List.mem_of_getElem? (i := 34) rfl))) (mvT hZ (hw _ (List.mem_of_getElem? (i := 33) rfl))) (by decide) (backOf (W := 0) (rm5_5 l Z a0 hw [] a_NOT_EQUAL a_EQUAL h0 n0 Z0 E_a_NOT_EQUAL F_a_NOT_EQUAL_ordinal S_EQUAL) hZ (hw _ (List.mem_of_getElem? (i := 35) rfl)) (hw _ (List.mem_of_getElem? (i := 6) rfl)) (by decide) (by decide)) q234a q234c (g := (mkF m 40 #[.val (.int p0), .val (.int p1), .val (.ref a_NOT_EQUAL), .val (.int ((p1 &&& (2147483647 : Int32)) ||| (1 : Int32))), .val (.int (0 : Int32)), .val (.int (0 : Int32)), .unset] [(.ref a_NOT_EQUAL)])) rfl (by rw [hml]; rfl) (Steps.refl _) (argsL := []) (rest := []) (lenOf pd_4 rfl) rfl (by show 2 * 0 + _ ≤ _; exact Nat.le_of_eq rfl) (hb hby at_40) (fun _ _ => ⟨rfl, e231, (by decide : 0 + 0 ≤ _), (by decide : 0 + 0 ≤ _)⟩)
            dsimp only [Pt.U, Pt.locs, Pt.cells, Pt.slots] at X234 l234 y234 z234 st234 hQ234
            subst l234 y234 z234
            obtain ⟨rfl, N234q, e234⟩ := hQ234
            have N234 := Fr.app N231 N234q
            have G235 : Go p e below A0 (T234.setTop (mkF m 43 #[.val (.int p0), .val (.int p1), .val (.ref a_NOT_EQUAL), .val (.int ((p1 &&& (2147483647 : Int32)) ||| (1 : Int32))), .val (.int (0 : Int32)), .val (.int (0 : Int32)), .unset] [(.ref a_EQUAL)])) := fun tq kq => G233 tq (st234.trans kq)
            obtain ⟨cq236, kq236, q236a, q236b, q236c⟩ := isOf hZ e234 E_a_EQUAL
            obtain ⟨_, _, ⟨T236, L236, k236, n236⟩, -, X236, ⟨Lc236, hQ236, l236, y236, z236⟩, st236⟩ := X234.virtualBack hx (y := (⟨"com/example/tube2/tube2/logic/Operator", "isOrdering", "()Z"⟩ : MethodName)) (z := (⟨"com/example/tube2/tube2/logic/Operator", "isOrdering", "()Z"⟩ : MethodName)) hown (mvT hZ (hw _ (List.mem_of_getElem? (i := 8) rfl))) (mvT hZ (hw _ (List.mem_of_getElem? (i := 9) rfl))) (notFace_of_selects (args := #[]) (mvT hZ (hw _ (List.mem_of_getElem? (i := 11) rfl)))) (mvT hZ (hw _ (List.mem_of_getElem? (i := 11) rfl))) (mvT hZ (hw _ (List.mem_of_getElem? (i := 10) rfl))) (by decide) (backOf (W := 0) (rm2 l Z a0 hw [] a_EQUAL a_EQUAL a_NOT_EQUAL (0 : Int32) h0 n0 Z0 S_EQUAL S_NOT_EQUAL (own_b0 fun q => q.1 rfl)) hZ (hw _ (List.mem_of_getElem? (i := 12) rfl)) (hw _ (List.mem_of_getElem? (i := 6) rfl)) (by decide) (by decide)) q236a q236c (g := (mkF m 43 #[.val (.int p0), .val (.int p1), .val (.ref a_NOT_EQUAL), .val (.int ((p1 &&& (2147483647 : Int32)) ||| (1 : Int32))), .val (.int (0 : Int32)), .val (.int (0 : Int32)), .unset] [(.ref a_EQUAL)])) rfl (by rw [hml]; rfl) (Steps.refl _) (argsL := []) (rest := []) (lenOf pd_2 rfl) rfl (by show 2 * 0 + _ ≤ _; exact Nat.le_of_eq rfl) (hb hby at_43) (fun _ _ => ⟨rfl, e234, (by decide : 0 + 0 ≤ _), (by decide : 0 + 0 ≤ _)⟩)
            dsimp only [Pt.U, Pt.locs, Pt.cells, Pt.slots] at X236 l236 y236 z236 st236 hQ236
            subst l236 y236 z236
            obtain ⟨rfl, N236q, e236⟩ := hQ236
            have N236 := Fr.app N234 N236q
            have G237 : Go p e below A0 (T236.setTop (mkF m 46 #[.val (.int p0), .val (.int p1), .val (.ref a_NOT_EQUAL), .val (.int ((p1 &&& (2147483647 : Int32)) ||| (1 : Int32))), .val (.int (0 : Int32)), .val (.int (0 : Int32)), .unset] [(.int (0 : Int32))])) := fun tq kq => G235 tq (st236.trans kq)
            have G238 : Go p e below A0 (T236.setTop (mkF m 67 #[.val (.int p0), .val (.int p1), .val (.ref a_NOT_EQUAL), .val (.int ((p1 &&& (2147483647 : Int32)) ||| (1 : Int32))), .val (.int (0 : Int32)), .val (.int (0 : Int32)), .val (.int (0 : Int32))] [(.int (1 : Int32))])) := fun tq kq => G237 tq (by
              refine XS.istore X236.here hx rfl (hb hby at_46) rfl (l' := #[.val (.int p0), .val (.int p1), .val (.ref a_NOT_EQUAL), .val (.int ((p1 &&& (2147483647 : Int32)) ||| (1 : Int32))), .val (.int (0 : Int32)), .val (.int (0 : Int32)), .val (.int (0 : Int32))]) rfl ?_
              show Steps p.tables e below (T236.setTop (mkF m 48 #[.val (.int p0), .val (.int p1), .val (.ref a_NOT_EQUAL), .val (.int ((p1 &&& (2147483647 : Int32)) ||| (1 : Int32))), .val (.int (0 : Int32)), .val (.int (0 : Int32)), .val (.int (0 : Int32))] [])) _
              refine XS.iload X236.here hx rfl (hb hby at_48) rfl ?_
              show Steps p.tables e below (T236.setTop (mkF m 50 #[.val (.int p0), .val (.int p1), .val (.ref a_NOT_EQUAL), .val (.int ((p1 &&& (2147483647 : Int32)) ||| (1 : Int32))), .val (.int (0 : Int32)), .val (.int (0 : Int32)), .val (.int (0 : Int32))] [(.int (0 : Int32))])) _
              refine XS.iload X236.here hx rfl (hb hby at_50) rfl ?_
              show Steps p.tables e below (T236.setTop (mkF m 52 #[.val (.int p0), .val (.int p1), .val (.ref a_NOT_EQUAL), .val (.int ((p1 &&& (2147483647 : Int32)) ||| (1 : Int32))), .val (.int (0 : Int32)), .val (.int (0 : Int32)), .val (.int (0 : Int32))] [(.int (0 : Int32)), (.int (0 : Int32))])) _
              refine XS.icmpNo X236.here hx rfl (hb hby at_52) rfl (by decide) ?_
              show Steps p.tables e below (T236.setTop (mkF m 55 #[.val (.int p0), .val (.int p1), .val (.ref a_NOT_EQUAL), .val (.int ((p1 &&& (2147483647 : Int32)) ||| (1 : Int32))), .val (.int (0 : Int32)), .val (.int (0 : Int32)), .val (.int (0 : Int32))] [])) _
              refine XS.iload X236.here hx rfl (hb hby at_55) rfl ?_
              show Steps p.tables e below (T236.setTop (mkF m 57 #[.val (.int p0), .val (.int p1), .val (.ref a_NOT_EQUAL), .val (.int ((p1 &&& (2147483647 : Int32)) ||| (1 : Int32))), .val (.int (0 : Int32)), .val (.int (0 : Int32)), .val (.int (0 : Int32))] [(.int (0 : Int32))])) _
              refine XS.iload X236.here hx rfl (hb hby at_57) rfl ?_
              show Steps p.tables e below (T236.setTop (mkF m 59 #[.val (.int p0), .val (.int p1), .val (.ref a_NOT_EQUAL), .val (.int ((p1 &&& (2147483647 : Int32)) ||| (1 : Int32))), .val (.int (0 : Int32)), .val (.int (0 : Int32)), .val (.int (0 : Int32))] [(.int (0 : Int32)), (.int (0 : Int32))])) _
              refine XS.icmpNo X236.here hx rfl (hb hby at_59) rfl (by decide) ?_
              show Steps p.tables e below (T236.setTop (mkF m 62 #[.val (.int p0), .val (.int p1), .val (.ref a_NOT_EQUAL), .val (.int ((p1 &&& (2147483647 : Int32)) ||| (1 : Int32))), .val (.int (0 : Int32)), .val (.int (0 : Int32)), .val (.int (0 : Int32))] [])) _
              refine XS.iconst X236.here hx rfl (hb hby at_62) ?_
              show Steps p.tables e below (T236.setTop (mkF m 63 #[.val (.int p0), .val (.int p1), .val (.ref a_NOT_EQUAL), .val (.int ((p1 &&& (2147483647 : Int32)) ||| (1 : Int32))), .val (.int (0 : Int32)), .val (.int (0 : Int32)), .val (.int (0 : Int32))] [(.int (1 : Int32))])) _
              refine XS.goto X236.here hx rfl (pc0 := 63) (pc' := 67) rfl (hb hby at_63) (by decide) (by decide) ?_
              show Steps p.tables e below (T236.setTop (mkF m 67 #[.val (.int p0), .val (.int p1), .val (.ref a_NOT_EQUAL), .val (.int ((p1 &&& (2147483647 : Int32)) ||| (1 : Int32))), .val (.int (0 : Int32)), .val (.int (0 : Int32)), .val (.int (0 : Int32))] [(.int (1 : Int32))])) _
              exact kq)
            obtain ⟨fs, hr, hrun, hended, hW, hsame⟩ := X236.leave (v := some (.int (nar .boolean (1 : Int32)))) (fun h => by rw [Bd.returns] at h; cases h)
            refine ⟨_, _, (by rw [← hA0]; exact G238 _ (retN X236 hx (t := .boolean) Bd.returns (by simp) (hb hby at_67) hr)), hrun, hended, _, _, rfl, ?_, ⟨_, rfl⟩, hW, hsame.mono (by decide) (by decide)⟩
            exact ⟨rfl, N236⟩
set_option maxRecDepth 65536 in
set_option maxHeartbeats 40000000 in
theorem comes_1 {Post : Tables → Env → Array Value → State → Outcome → State → Prop} (hpost : ∀ tb e args s v u, (limb_1_1.after args s (.returned v) u = true ∧ limb_1_2.after args s (.returned v) u = true ∧ True) → FrameEnd s (.returned v) u (Jvm.fieldLocs frame_1_writes args s ++ Jvm.arrayLocs frame_1_arrays args s ++ Jvm.staticLocs frame_1_statics s) 0 0 → Post tb e args s (.returned v) u) :
    ArmFor flags0 classFile x code maxLocals ret World_1 tables_1 room_1 Calls_1 rest_1 Pre_1 Post := by
  intro l hfl _ _ p e ha hc hk s m args below hf hA hF happ hP
  obtain ⟨hcalls, hrest, hpre⟩ := hP
  obtain ⟨-, -, -, hnamed, -, -, -, hat⟩ := (Spec.applies_iff hf).mp happ
  obtain ⟨hg, hn⟩ := and_e (Cond.before_iff.mp (show (Jvm.Cond.and given_1 narrow_1).before args s = true from hpre))
  obtain ⟨g1, g2⟩ := and_e hg
  obtain ⟨g3, g4⟩ := and_e g2
  obtain ⟨w0, w1, rfl⟩ : ∃ w0 w1 : Value, args = #[w0, w1] := by
    have hs : args.size = 2 := by simpa [Cond.value, given_1] using g1
    obtain ⟨L⟩ := args
    match L, hs with
    | [w0, w1], _ => exact ⟨w0, w1, rfl⟩
  have hw := fun d (hd : d ∈ tables_1) => atoms_spec (ws := Jvm.Cond.code x code maxLocals ret :: tables_1) hat d (List.mem_cons_of_mem _ hd)
  have hfit : Fit s := fun {y c} hc i hi => by
    obtain ⟨ha, rfl⟩ := Array.getElem?_eq_some_iff.mp hc
    have q := List.all_eq_true.mp ((Array.all_eq_true_iff_forall_mem.mp hF) _ (Array.getElem_mem ha)) i (List.mem_range.mpr hi)
    simpa [Array.getElem?_eq_getElem hi] using q
  obtain ⟨i0, ei0⟩ := is_v g3
  obtain rfl : w0 = (.int i0) := Option.some.inj ei0
  obtain ⟨i1, ei1⟩ := is_v g4
  obtain rfl : w1 = (.int i1) := Option.some.inj ei1
  obtain ⟨u1, u2⟩ := and_e hn
  obtain ⟨a_LESS, ea_LESS⟩ := exa_v u1
  have S_LESS : Sta s s.heap "com/example/tube2/tube2/logic/Operator" "LESS" "Lcom/example/tube2/tube2/logic/Operator;" (.ref a_LESS) := Sta.start ea_LESS (Or.inr ⟨(hw _ (List.mem_of_getElem? (i := 6) rfl)), (hw _ (List.mem_of_getElem? (i := 7) rfl))⟩)
  have E_a_LESS : Exa s s.heap a_LESS "com/example/tube2/tube2/logic/Operator" := Exa.start ea_LESS u1
  obtain ⟨u3, u4⟩ := and_e u2
  obtain ⟨a_EQUAL, ea_EQUAL⟩ := exa_v u3
  have S_EQUAL : Sta s s.heap "com/example/tube2/tube2/logic/Operator" "EQUAL" "Lcom/example/tube2/tube2/logic/Operator;" (.ref a_EQUAL) := Sta.start ea_EQUAL (Or.inr ⟨(hw _ (List.mem_of_getElem? (i := 6) rfl)), (hw _ (List.mem_of_getElem? (i := 14) rfl))⟩)
  have E_a_EQUAL : Exa s s.heap a_EQUAL "com/example/tube2/tube2/logic/Operator" := Exa.start ea_EQUAL u3
  obtain ⟨u5, u6⟩ := and_e u4
  have q7 := own_eqI u5
  have F_a_LESS_ordinal : Fld s s.heap a_LESS "java/lang/Enum" "ordinal" "I" (.int (0 : Int32)) := Fld.start ((fld_at ea_LESS).symm.trans q7)
  obtain ⟨u8, u9⟩ := and_e u6
  have q10 := own_eqI u8
  have F_a_EQUAL_ordinal : Fld s s.heap a_EQUAL "java/lang/Enum" "ordinal" "I" (.int (4 : Int32)) := Fld.start ((fld_at ea_EQUAL).symm.trans q10)
  obtain ⟨u11, u12⟩ := and_e u9
  obtain ⟨a_NOT_EQUAL, ea_NOT_EQUAL⟩ := exa_v u11
  have S_NOT_EQUAL : Sta s s.heap "com/example/tube2/tube2/logic/Operator" "NOT_EQUAL" "Lcom/example/tube2/tube2/logic/Operator;" (.ref a_NOT_EQUAL) := Sta.start ea_NOT_EQUAL (Or.inr ⟨(hw _ (List.mem_of_getElem? (i := 6) rfl)), (hw _ (List.mem_of_getElem? (i := 16) rfl))⟩)
  have E_a_NOT_EQUAL : Exa s s.heap a_NOT_EQUAL "com/example/tube2/tube2/logic/Operator" := Exa.start ea_NOT_EQUAL u11
  obtain ⟨u13, u14⟩ := and_e u12
  have q15 := own_eqI u13
  have F_a_NOT_EQUAL_ordinal : Fld s s.heap a_NOT_EQUAL "java/lang/Enum" "ordinal" "I" (.int (5 : Int32)) := Fld.start ((fld_at ea_NOT_EQUAL).symm.trans q15)
  obtain ⟨u16, u17⟩ := and_e u14
  obtain ⟨a_GREATER_OR_EQUAL, ea_GREATER_OR_EQUAL⟩ := exa_v u16
  have S_GREATER_OR_EQUAL : Sta s s.heap "com/example/tube2/tube2/logic/Operator" "GREATER_OR_EQUAL" "Lcom/example/tube2/tube2/logic/Operator;" (.ref a_GREATER_OR_EQUAL) := Sta.start ea_GREATER_OR_EQUAL (Or.inr ⟨(hw _ (List.mem_of_getElem? (i := 6) rfl)), (hw _ (List.mem_of_getElem? (i := 37) rfl))⟩)
  have E_a_GREATER_OR_EQUAL : Exa s s.heap a_GREATER_OR_EQUAL "com/example/tube2/tube2/logic/Operator" := Exa.start ea_GREATER_OR_EQUAL u16
  obtain ⟨u18, u19⟩ := and_e u17
  have q20 := own_eqI u18
  have F_a_GREATER_OR_EQUAL_ordinal : Fld s s.heap a_GREATER_OR_EQUAL "java/lang/Enum" "ordinal" "I" (.int (3 : Int32)) := Fld.start ((fld_at ea_GREATER_OR_EQUAL).symm.trans q20)
  obtain ⟨u21, u22⟩ := and_e u19
  obtain ⟨a_GREATER, ea_GREATER⟩ := exa_v u21
  have S_GREATER : Sta s s.heap "com/example/tube2/tube2/logic/Operator" "GREATER" "Lcom/example/tube2/tube2/logic/Operator;" (.ref a_GREATER) := Sta.start ea_GREATER (Or.inr ⟨(hw _ (List.mem_of_getElem? (i := 6) rfl)), (hw _ (List.mem_of_getElem? (i := 39) rfl))⟩)
  have E_a_GREATER : Exa s s.heap a_GREATER "com/example/tube2/tube2/logic/Operator" := Exa.start ea_GREATER u21
  obtain ⟨u23, u24⟩ := and_e u22
  have q25 := own_eqI u23
  have F_a_GREATER_ordinal : Fld s s.heap a_GREATER "java/lang/Enum" "ordinal" "I" (.int (2 : Int32)) := Fld.start ((fld_at ea_GREATER).symm.trans q25)
  obtain ⟨u26, u27⟩ := and_e u24
  obtain ⟨a_LESS_OR_EQUAL, ea_LESS_OR_EQUAL⟩ := exa_v u26
  have S_LESS_OR_EQUAL : Sta s s.heap "com/example/tube2/tube2/logic/Operator" "LESS_OR_EQUAL" "Lcom/example/tube2/tube2/logic/Operator;" (.ref a_LESS_OR_EQUAL) := Sta.start ea_LESS_OR_EQUAL (Or.inr ⟨(hw _ (List.mem_of_getElem? (i := 6) rfl)), (hw _ (List.mem_of_getElem? (i := 41) rfl))⟩)
  have E_a_LESS_OR_EQUAL : Exa s s.heap a_LESS_OR_EQUAL "com/example/tube2/tube2/logic/Operator" := Exa.start ea_LESS_OR_EQUAL u26
  have q28 := own_eqI u27
  have F_a_LESS_OR_EQUAL_ordinal : Fld s s.heap a_LESS_OR_EQUAL "java/lang/Enum" "ordinal" "I" (.int (1 : Int32)) := Fld.start ((fld_at ea_LESS_OR_EQUAL).symm.trans q28)
  obtain ⟨n, o, h1, h2, h3, _, L, rfl, ⟨rfl, N⟩, hq⟩ := rm0 l s _ hw tables_1 i0 i1 a_LESS a_LESS_OR_EQUAL a_GREATER a_GREATER_OR_EQUAL a_EQUAL a_NOT_EQUAL s.heap s.heap.size (Nat.le_refl _) S_LESS E_a_LESS S_EQUAL E_a_EQUAL F_a_LESS_ordinal F_a_EQUAL_ordinal S_NOT_EQUAL E_a_NOT_EQUAL F_a_NOT_EQUAL_ordinal S_GREATER_OR_EQUAL E_a_GREATER_OR_EQUAL F_a_GREATER_OR_EQUAL_ordinal S_GREATER E_a_GREATER F_a_GREATER_ordinal S_LESS_OR_EQUAL E_a_LESS_OR_EQUAL F_a_LESS_OR_EQUAL_ordinal p e ha hc hk s m _ below hf ((Spec.applies_iff_loose hf).mp happ).1 ⟨rfl, State.Warmed39.refl s, rfl⟩ trivial
  refine ⟨n, _, h1, h2, h3, hpost _ _ _ _ _ _ ⟨Cond.after_iff.mpr rfl, Cond.after_iff.mpr (eq_i res_at (Term.int_eval (1)) rfl), trivial⟩ ⟨hq.1, hq.2.1, (hq.2.2.sift fun y hy => Or.inr (N y hy)).mono (by decide) (by decide)⟩⟩
theorem main_1_1 : Claimed_1_1 := comes_1 fun _ _ _ _ _ _ h hF => ⟨h.1, hF⟩
theorem main_1_2 : Claimed_1_2 := comes_1 fun _ _ _ _ _ _ h hF => ⟨h.2.1, hF⟩
end Jvm.Pilot.@@N@@
namespace Jvm.Pilot.@@N@@
open Jvm Jvm.ClassFile Sem Op Lib Jvm.Free Jvm.Stand Jvm.Pilot.@@N@@.Jvm.D
/-! MADE BY PROGRAM (witnessworld.py) out of the Statement's table words and the real class files: 12 classes; the members and pool entries that the words name. The judged class is class 1, her method 2. -/
namespace start1
open Jvm.ClassFile
def u (s : String) : CpInfo := .utf8 (stringToUtf16 s)
/-- a pool by its gaps: so many unusable entries, then the entry; so many at the end -/
def gap : Nat → List CpInfo → List CpInfo
  | 0, r => r
  | n + 1, r => .unusable :: gap n r
def poolList (es : List (Nat × CpInfo)) (last : Nat) : List CpInfo := es.foldr (fun e r => gap e.1 (e.2 :: r)) (gap last [])
def pool (es : List (Nat × CpInfo)) (last : Nat) : Array CpInfo := ⟨poolList es last⟩
def fileOf (pool : Array CpInfo) (this : Nat) (attrs : Array Attribute := #[]) (ms : Array MethodInfo := #[]) (fl : Nat := 33) (sup : Nat := 0) (ifs : Array Nat := #[]) (fds : Array FieldInfo := #[]) : ClassFile where
  minorVersion := 0
  majorVersion := 65
  constantPool := pool
  accessFlags := fl
  thisClass := this
  superClass := sup
  interfaces := ifs
  fields := fds
  methods := ms
  attributes := attrs
def plain (name : String) (sup : Option ClassId) : Class where
  name := name
  kind := .ordinary
  loader := none
  accessFlags := 33
  super := sup
  interfaces := #[]
  cf := none
  fields := #[]
  methods := #[]
  instanceTypes := #[]
  staticTypes := #[]
  resolved := #[]
  callSites := []
  init := .initialized
  statics := none
  mirror := none

def pool0 : Array CpInfo := pool [(5, u "<init>"), (0, u "()V"), (1, .class_ 10), (1, u "java/lang/Object")] 113

def k0m0 : Method := { name := "<init>", desc := "()V", sig := { parameters := [], returnType := none }, accessFlags := 1, code := none }
/-- java/lang/Object -/
def k0 : Class := { plain "java/lang/Object" none with
  accessFlags := 33
  interfaces := #[]
  cf := some (fileOf pool0 8 #[] #[{ accessFlags := 1, nameIndex := 5, descriptorIndex := 6, attributes := #[] }] 33 0 #[] #[])
  fields := #[]
  methods := #[k0m0]
  instanceTypes := #[]
  staticTypes := #[]
  resolved := Array.replicate 124 none
  statics := none }

def pool1 : Array CpInfo := pool [(2, .class_ 4), (1, u "java/lang/Object"), (0, u "<init>"), (0, u "()V"), (0, .integer 2147483647), (0, .fieldref 9 10), (0, .class_ 11), (0, .nameAndType 12 13), (0, u "com/example/tube2/tube2/logic/Operator"), (0, u "LESS"), (0, u "Lcom/example/tube2/tube2/logic/Operator;"), (0, .fieldref 9 15), (0, .nameAndType 16 13), (0, u "LESS_OR_EQUAL"), (0, .fieldref 9 18), (0, .nameAndType 19 13), (0, u "GREATER"), (0, .fieldref 9 21), (0, .nameAndType 22 13), (0, u "GREATER_OR_EQUAL"), (0, .fieldref 9 24), (0, .nameAndType 25 13), (0, u "EQUAL"), (0, .fieldref 9 27), (0, .nameAndType 28 13), (0, u "NOT_EQUAL"), (0, .methodref 30 31), (0, .class_ 32), (0, .nameAndType 33 34), (0, u "com/example/tube2/tube2/logic/OperatorIsOrderingPinLaw"), (0, u "pick"), (0, u "(I)Lcom/example/tube2/tube2/logic/Operator;"), (0, .methodref 9 36), (0, .nameAndType 37 38), (0, u "isOrdering"), (0, u "()Z"), (0, .methodref 9 40), (0, .nameAndType 41 42), (0, u "holds"), (0, u "(I)Z"), (0, .methodref 9 44), (0, .nameAndType 45 46), (0, u "complement"), (0, u "()Lcom/example/tube2/tube2/logic/Operator;"), (3, u "law"), (0, u "(II)Z")] 2

def k1m0 : Method := { name := "<init>", desc := "()V", sig := { parameters := [], returnType := none }, accessFlags := 1, code := none }
def k1c1 : Code := { maxStack := 2, maxLocals := 2, code := method_2_code, exceptionTable := #[], attributes := #[] }
def k1m1 : Method := { name := "pick", desc := "(I)Lcom/example/tube2/tube2/logic/Operator;", sig := { parameters := [.int], returnType := some (.object "com/example/tube2/tube2/logic/Operator") }, accessFlags := 10, code := some k1c1 }
def k1c2 : Code := { maxStack := 3, maxLocals := 7, code := code, exceptionTable := #[], attributes := #[] }
def k1m2 : Method := { name := "law", desc := "(II)Z", sig := { parameters := [.int, .int], returnType := some .boolean }, accessFlags := 9, code := some k1c2 }
/-- com/example/tube2/tube2/logic/OperatorIsOrderingPinLaw -/
def k1 : Class := { plain "com/example/tube2/tube2/logic/OperatorIsOrderingPinLaw" (some 0) with
  accessFlags := 49
  interfaces := #[]
  cf := some (fileOf pool1 30 #[] #[{ accessFlags := 1, nameIndex := 5, descriptorIndex := 6, attributes := #[] }, { accessFlags := 10, nameIndex := 33, descriptorIndex := 34, attributes := #[] }, { accessFlags := 9, nameIndex := 50, descriptorIndex := 51, attributes := #[] }] 49 2 #[] #[])
  fields := #[]
  methods := #[k1m0, k1m1, k1m2]
  instanceTypes := #[]
  staticTypes := #[]
  resolved := Array.replicate 54 none
  statics := none }

def pool2 : Array CpInfo := pool [(1, .class_ 2), (0, u "java/lang/constant/Constable"), (0, .class_ 4), (0, u "java/lang/Object")] 6

/-- java/lang/constant/Constable -/
def k2 : Class := { plain "java/lang/constant/Constable" (some 0) with
  accessFlags := 1537
  interfaces := #[]
  cf := some (fileOf pool2 1 #[] #[] 1537 3 #[] #[])
  fields := #[]
  methods := #[]
  instanceTypes := #[]
  staticTypes := #[]
  resolved := Array.replicate 11 none
  statics := none }

def pool3 : Array CpInfo := pool [(1, .class_ 2), (0, u "java/lang/Comparable"), (0, .class_ 4), (0, u "java/lang/Object")] 7

/-- java/lang/Comparable -/
def k3 : Class := { plain "java/lang/Comparable" (some 0) with
  accessFlags := 1537
  interfaces := #[]
  cf := some (fileOf pool3 1 #[] #[] 1537 3 #[] #[])
  fields := #[]
  methods := #[]
  instanceTypes := #[]
  staticTypes := #[]
  resolved := Array.replicate 12 none
  statics := none }

def pool4 : Array CpInfo := pool [(1, .class_ 2), (0, u "java/io/Serializable"), (0, .class_ 4), (0, u "java/lang/Object")] 2

/-- java/io/Serializable -/
def k4 : Class := { plain "java/io/Serializable" (some 0) with
  accessFlags := 1537
  interfaces := #[]
  cf := some (fileOf pool4 1 #[] #[] 1537 3 #[] #[])
  fields := #[]
  methods := #[]
  instanceTypes := #[]
  staticTypes := #[]
  resolved := Array.replicate 7 none
  statics := none }

def pool5 : Array CpInfo := pool [(2, .class_ 4), (1, u "java/lang/Enum"), (0, u "name"), (0, u "Ljava/lang/String;"), (0, .fieldref 2 8), (0, .nameAndType 9 10), (0, u "ordinal"), (0, u "I"), (1, .class_ 14), (1, u "java/lang/Object"), (4, u "hash"), (86, .class_ 108), (1, u "java/lang/Enum$EnumDesc"), (2, .class_ 112), (0, u "java/lang/constant/Constable"), (0, .class_ 114), (0, u "java/lang/Comparable"), (0, .class_ 116), (0, u "java/io/Serializable"), (9, u "()I")] 77

def k5c0 : Code := { maxStack := 1, maxLocals := 1, code := jdk_37_method_2_code, exceptionTable := #[], attributes := #[] }
def k5m0 : Method := { name := "ordinal", desc := "()I", sig := { parameters := [], returnType := some .int }, accessFlags := 17, code := some k5c0 }
/-- java/lang/Enum -/
def k5 : Class := { plain "java/lang/Enum" (some 0) with
  accessFlags := 1057
  interfaces := #[2, 3, 4]
  cf := some (fileOf pool5 2 #[.nestMembers #[106]] #[{ accessFlags := 17, nameIndex := 9, descriptorIndex := 126, attributes := #[] }] 1057 12 #[111, 113, 115] #[{ accessFlags := 18, nameIndex := 5, descriptorIndex := 6, attributes := #[] }, { accessFlags := 18, nameIndex := 9, descriptorIndex := 10, attributes := #[] }, { accessFlags := 2, nameIndex := 19, descriptorIndex := 10, attributes := #[] }])
  fields := #[{ name := "name", type := (.object "java/lang/String"), accessFlags := 18, slot := 0, constantValue := 0 }, { name := "ordinal", type := .int, accessFlags := 18, slot := 1, constantValue := 0 }, { name := "hash", type := .int, accessFlags := 2, slot := 2, constantValue := 0 }]
  methods := #[k5m0]
  instanceTypes := #[(.object "java/lang/String"), .int, .int]
  staticTypes := #[]
  resolved := Array.replicate 204 none
  statics := none }

def pool6 : Array CpInfo := pool [(1, .class_ 2), (0, u "com/example/tube2/tube2/logic/Operator"), (0, .fieldref 1 4), (0, .nameAndType 5 6), (0, u "LESS"), (0, u "Lcom/example/tube2/tube2/logic/Operator;"), (0, .fieldref 1 8), (0, .nameAndType 9 6), (0, u "LESS_OR_EQUAL"), (0, .fieldref 1 11), (0, .nameAndType 12 6), (0, u "GREATER"), (0, .fieldref 1 14), (0, .nameAndType 15 6), (0, u "GREATER_OR_EQUAL"), (0, .fieldref 1 17), (0, .nameAndType 18 6), (0, u "EQUAL"), (0, .fieldref 1 20), (0, .nameAndType 21 6), (0, u "NOT_EQUAL"), (2, u "$VALUES"), (0, u "[Lcom/example/tube2/tube2/logic/Operator;"), (6, .class_ 34), (1, u "java/lang/Enum"), (8, u "symbol"), (0, u "Ljava/lang/String;"), (0, .methodref 1 46), (0, .nameAndType 47 48), (0, u "ordinal"), (0, u "()I"), (38, u "isOrdering"), (0, u "()Z"), (1, u "complement"), (0, u "()Lcom/example/tube2/tube2/logic/Operator;"), (0, u "holds"), (0, u "(I)Z")] 5

def k6c0 : Code := { maxStack := 2, maxLocals := 1, code := prog_85_method_5_code, exceptionTable := #[], attributes := #[] }
def k6m0 : Method := { name := "isOrdering", desc := "()Z", sig := { parameters := [], returnType := some .boolean }, accessFlags := 1, code := some k6c0 }
def k6c1 : Code := { maxStack := 4, maxLocals := 1, code := prog_85_method_6_code, exceptionTable := #[], attributes := #[] }
def k6m1 : Method := { name := "complement", desc := "()Lcom/example/tube2/tube2/logic/Operator;", sig := { parameters := [], returnType := some (.object "com/example/tube2/tube2/logic/Operator") }, accessFlags := 1, code := some k6c1 }
def k6c2 : Code := { maxStack := 4, maxLocals := 2, code := prog_85_method_7_code, exceptionTable := #[], attributes := #[] }
def k6m2 : Method := { name := "holds", desc := "(I)Z", sig := { parameters := [.int], returnType := some .boolean }, accessFlags := 1, code := some k6c2 }
/-- com/example/tube2/tube2/logic/Operator -/
def k6 : Class := { plain "com/example/tube2/tube2/logic/Operator" (some 5) with
  accessFlags := 16433
  interfaces := #[]
  cf := some (fileOf pool6 1 #[] #[{ accessFlags := 1, nameIndex := 87, descriptorIndex := 88, attributes := #[] }, { accessFlags := 1, nameIndex := 90, descriptorIndex := 91, attributes := #[] }, { accessFlags := 1, nameIndex := 92, descriptorIndex := 93, attributes := #[] }] 16433 32 #[] #[{ accessFlags := 16409, nameIndex := 5, descriptorIndex := 6, attributes := #[] }, { accessFlags := 16409, nameIndex := 9, descriptorIndex := 6, attributes := #[] }, { accessFlags := 16409, nameIndex := 12, descriptorIndex := 6, attributes := #[] }, { accessFlags := 16409, nameIndex := 15, descriptorIndex := 6, attributes := #[] }, { accessFlags := 16409, nameIndex := 18, descriptorIndex := 6, attributes := #[] }, { accessFlags := 16409, nameIndex := 21, descriptorIndex := 6, attributes := #[] }, { accessFlags := 18, nameIndex := 43, descriptorIndex := 44, attributes := #[] }, { accessFlags := 4122, nameIndex := 24, descriptorIndex := 25, attributes := #[] }])
  fields := #[{ name := "LESS", type := (.object "com/example/tube2/tube2/logic/Operator"), accessFlags := 16409, slot := 0, constantValue := 0 }, { name := "LESS_OR_EQUAL", type := (.object "com/example/tube2/tube2/logic/Operator"), accessFlags := 16409, slot := 1, constantValue := 0 }, { name := "GREATER", type := (.object "com/example/tube2/tube2/logic/Operator"), accessFlags := 16409, slot := 2, constantValue := 0 }, { name := "GREATER_OR_EQUAL", type := (.object "com/example/tube2/tube2/logic/Operator"), accessFlags := 16409, slot := 3, constantValue := 0 }, { name := "EQUAL", type := (.object "com/example/tube2/tube2/logic/Operator"), accessFlags := 16409, slot := 4, constantValue := 0 }, { name := "NOT_EQUAL", type := (.object "com/example/tube2/tube2/logic/Operator"), accessFlags := 16409, slot := 5, constantValue := 0 }, { name := "symbol", type := (.object "java/lang/String"), accessFlags := 18, slot := 3, constantValue := 0 }, { name := "$VALUES", type := (.array (.object "com/example/tube2/tube2/logic/Operator")), accessFlags := 4122, slot := 6, constantValue := 0 }]
  methods := #[k6m0, k6m1, k6m2]
  instanceTypes := #[(.object "java/lang/String"), .int, .int, (.object "java/lang/String")]
  staticTypes := #[(.object "com/example/tube2/tube2/logic/Operator"), (.object "com/example/tube2/tube2/logic/Operator"), (.object "com/example/tube2/tube2/logic/Operator"), (.object "com/example/tube2/tube2/logic/Operator"), (.object "com/example/tube2/tube2/logic/Operator"), (.object "com/example/tube2/tube2/logic/Operator"), (.array (.object "com/example/tube2/tube2/logic/Operator"))]
  resolved := Array.replicate 99 none
  statics := some 0 }

def pool7 : Array CpInfo := pool [(1, u "java/lang/Cloneable"), (0, .class_ 1), (0, u "java/lang/Object"), (0, .class_ 3)] 3

/-- java/lang/Cloneable -/
def k7 : Class := { plain "java/lang/Cloneable" (some 0) with
  accessFlags := 1537
  interfaces := #[]
  cf := some (fileOf pool7 2 #[] #[] 1537 4 #[] #[])
  fields := #[]
  methods := #[]
  instanceTypes := #[]
  staticTypes := #[]
  resolved := Array.replicate 8 none
  statics := none }

/-- the primitive byte -/
def k8 : Class := { plain "byte" none with kind := .primitive 'B', accessFlags := 0x411 }
/-- [B -/
def k9 : Class := { plain "[B" (some 0) with kind := .array 8 .byte, interfaces := #[7, 4], accessFlags := 1041 }

/-- the primitive int -/
def k10 : Class := { plain "int" none with kind := .primitive 'I', accessFlags := 0x411 }
/-- [I -/
def k11 : Class := { plain "[I" (some 0) with kind := .array 10 .int, interfaces := #[7, 4], accessFlags := 1041 }

def heap : Heap := #[{ cls := 6, slots := #[.ref 1, .ref 2, .ref 3, .ref 4, .ref 5, .ref 6, .null], vm := .statics 6 },
  { cls := 6, slots := #[.null, .int 0, .int 0, .null], vm := .none },
  { cls := 6, slots := #[.null, .int 1, .int 0, .null], vm := .none },
  { cls := 6, slots := #[.null, .int 2, .int 0, .null], vm := .none },
  { cls := 6, slots := #[.null, .int 3, .int 0, .null], vm := .none },
  { cls := 6, slots := #[.null, .int 4, .int 0, .null], vm := .none },
  { cls := 6, slots := #[.null, .int 5, .int 0, .null], vm := .none }]
def classes : Array Class := #[k0, k1, k2, k3, k4, k5, k6, k7, k8, k9, k10, k11]
def interned : List (Array UInt16 × Addr) := []
def slotsUsed : Nat := 31
def theMethod : MethodId := ⟨1, 2⟩
def args0 : Array Value := #[.int 1, .int 5]
def aboutOver (below : List Frame) : State where
  vm := { classes := classes, interned := interned.toArray }
  heap := heap
  slotsUsed := slotsUsed
  threads := #[{ frames := .invoking theMethod args0 :: below }]
def below0 : List Frame := [.native { method := ⟨0, 0⟩, args := #[] }]
def about1 : State := aboutOver below0
def p0 : Program := .bare "" "" ""
def e0 : Env := launch0.env 0 0 0
theorem w_frames : about1.frames = Frame.invoking theMethod args0 :: below0 := rfl
set_option maxRecDepth 65536 in
theorem w_args : argsFit about1.vm theMethod args0 = true := by decide +kernel
set_option maxRecDepth 65536 in
theorem w_heap : heapFits about1 = true := by decide +kernel
set_option maxRecDepth 65536 in
theorem w_runnable : about1.curStatus? = some .runnable := by decide +kernel
set_option maxRecDepth 65536 in
theorem w_alone : about1.alone = true := by decide +kernel
set_option maxRecDepth 65536 in
theorem w_named : about1.methodNamed? x = some theMethod := by decide +kernel
set_option maxRecDepth 65536 in
theorem w_hears : about1.hears theMethod below0 = true := by decide +kernel
set_option maxRecDepth 65536 in
theorem w_ripe : about1.ripe theMethod args0 below0 = true := by decide +kernel
theorem w_running : about1.status = .running := rfl
set_option maxRecDepth 65536 in
theorem w_room : about1.hasRoom e0.platform room_1 = true :=
  launch0.hasRoom_least _ room_1 (by decide +kernel) (by decide +kernel) (by decide +kernel) (by decide +kernel) (by decide +kernel) (by decide +kernel)
theorem allAtoms_all (ts : List Jvm.Cond) (a : Array Jvm.Value) (st : Jvm.State) : (allAtoms ts).before a st = ts.all (fun c => c.before a st) := by
  induction ts with
  | nil => rfl
  | cons c t ih =>
    show (Jvm.Cond.and c (allAtoms t)).before a st = _
    rw [Jvm.Cond.before_and, ih, List.all_cons]
def words1 : List Jvm.Cond := Jvm.Cond.code x code maxLocals ret :: tables_1
/-- a 'code' word, met by the world's own term for the bytes: nothing is compared byte by byte -/
theorem code_word {y : MethodName} {bytes : ByteArray} {mx : Nat} {rt : Option FieldType} {a : Array Value} {s : State} {m : MethodId} {meth : Method} {c : Code} (h1 : s.methodNamed? y = some m) (h2 : s.vm.method? m = some meth) (h3 : meth.code = some c) (h4 : c.code = bytes)
    (h5 : (c.maxLocals == mx && c.exceptionTable.isEmpty && decide (c.maxStack ≤ mostOperands) && decide (meth.sig.returnType = rt) && !meth.locks && decide (parseMethodDescriptor y.desc = some meth.sig)) = true) : (Jvm.Cond.code y bytes mx rt).before a s = true := by
  simp only [Bool.and_eq_true, beq_iff_eq, Bool.not_eq_true', decide_eq_true_eq] at h5
  obtain ⟨⟨⟨⟨⟨g1, g2⟩, g3⟩, g4⟩, g5⟩, g6⟩ := h5
  simp [Cond.before, Cond.holds, Cond.value, h1, h2, h3, h4, g1, g2, g3, g4, g5, g6]
def isCode : Jvm.Cond → Bool
  | .code _ _ _ _ => true
  | _ => false
theorem all_split {L : List Jvm.Cond} {P : Jvm.Cond → Bool} (h1 : L.all (fun c => isCode c || P c) = true) (h2 : ∀ c ∈ L.filter isCode, P c = true) : L.all P = true := by
  refine List.all_eq_true.mpr fun c hc => ?_
  have h := List.all_eq_true.mp h1 c hc
  rcases Bool.eq_false_or_eq_true (isCode c) with hi | hi
  · exact h2 c (List.mem_filter.mpr ⟨hc, hi⟩)
  · simpa [hi] using h
set_option maxRecDepth 65536 in
theorem w_c0 : (Jvm.Cond.code x code maxLocals ret).before args0 about1 = true := code_word (m := ⟨1, 2⟩) (meth := k1m2) (c := k1c2) (by decide +kernel) rfl rfl rfl (by decide +kernel)
set_option maxRecDepth 65536 in
theorem w_c1 : (Jvm.Cond.code ({ cls := "com/example/tube2/tube2/logic/OperatorIsOrderingPinLaw", name := "pick", desc := "(I)Lcom/example/tube2/tube2/logic/Operator;" } : Jvm.MethodName) method_2_code (2 : Nat) (Option.some (Jvm.ClassFile.FieldType.object "com/example/tube2/tube2/logic/Operator"))).before args0 about1 = true := code_word (m := ⟨1, 1⟩) (meth := k1m1) (c := k1c1) (by decide +kernel) rfl rfl rfl (by decide +kernel)
set_option maxRecDepth 65536 in
theorem w_c2 : (Jvm.Cond.code ({ cls := "com/example/tube2/tube2/logic/Operator", name := "isOrdering", desc := "()Z" } : Jvm.MethodName) prog_85_method_5_code (1 : Nat) (Option.some Jvm.ClassFile.FieldType.boolean)).before args0 about1 = true := code_word (m := ⟨6, 0⟩) (meth := k6m0) (c := k6c0) (by decide +kernel) rfl rfl rfl (by decide +kernel)
set_option maxRecDepth 65536 in
theorem w_c3 : (Jvm.Cond.code ({ cls := "com/example/tube2/tube2/logic/Operator", name := "holds", desc := "(I)Z" } : Jvm.MethodName) prog_85_method_7_code (2 : Nat) (Option.some Jvm.ClassFile.FieldType.boolean)).before args0 about1 = true := code_word (m := ⟨6, 2⟩) (meth := k6m2) (c := k6c2) (by decide +kernel) rfl rfl rfl (by decide +kernel)
set_option maxRecDepth 65536 in
theorem w_c4 : (Jvm.Cond.code ({ cls := "java/lang/Enum", name := "ordinal", desc := "()I" } : Jvm.MethodName) jdk_37_method_2_code (1 : Nat) (Option.some Jvm.ClassFile.FieldType.int)).before args0 about1 = true := code_word (m := ⟨5, 0⟩) (meth := k5m0) (c := k5c0) (by decide +kernel) rfl rfl rfl (by decide +kernel)
set_option maxRecDepth 65536 in
theorem w_c5 : (Jvm.Cond.code ({ cls := "com/example/tube2/tube2/logic/Operator", name := "complement", desc := "()Lcom/example/tube2/tube2/logic/Operator;" } : Jvm.MethodName) prog_85_method_6_code (1 : Nat) (Option.some (Jvm.ClassFile.FieldType.object "com/example/tube2/tube2/logic/Operator"))).before args0 about1 = true := code_word (m := ⟨6, 1⟩) (meth := k6m1) (c := k6c1) (by decide +kernel) rfl rfl rfl (by decide +kernel)
def codes1 : List Jvm.Cond := [Jvm.Cond.code x code maxLocals ret, Jvm.Cond.code ({ cls := "com/example/tube2/tube2/logic/OperatorIsOrderingPinLaw", name := "pick", desc := "(I)Lcom/example/tube2/tube2/logic/Operator;" } : Jvm.MethodName) method_2_code (2 : Nat) (Option.some (Jvm.ClassFile.FieldType.object "com/example/tube2/tube2/logic/Operator")), Jvm.Cond.code ({ cls := "com/example/tube2/tube2/logic/Operator", name := "isOrdering", desc := "()Z" } : Jvm.MethodName) prog_85_method_5_code (1 : Nat) (Option.some Jvm.ClassFile.FieldType.boolean), Jvm.Cond.code ({ cls := "com/example/tube2/tube2/logic/Operator", name := "holds", desc := "(I)Z" } : Jvm.MethodName) prog_85_method_7_code (2 : Nat) (Option.some Jvm.ClassFile.FieldType.boolean), Jvm.Cond.code ({ cls := "java/lang/Enum", name := "ordinal", desc := "()I" } : Jvm.MethodName) jdk_37_method_2_code (1 : Nat) (Option.some Jvm.ClassFile.FieldType.int), Jvm.Cond.code ({ cls := "com/example/tube2/tube2/logic/Operator", name := "complement", desc := "()Lcom/example/tube2/tube2/logic/Operator;" } : Jvm.MethodName) prog_85_method_6_code (1 : Nat) (Option.some (Jvm.ClassFile.FieldType.object "com/example/tube2/tube2/logic/Operator"))]
set_option maxRecDepth 65536 in
theorem codes_eq : words1.filter isCode = codes1 := rfl
theorem w_codes : ∀ c ∈ words1.filter isCode, c.before args0 about1 = true := by
  rw [codes_eq]
  intro c hc
  simp only [codes1, List.mem_cons, List.not_mem_nil, or_false] at hc
  rcases hc with rfl | rfl | rfl | rfl | rfl | rfl
  · exact w_c0
  · exact w_c1
  · exact w_c2
  · exact w_c3
  · exact w_c4
  · exact w_c5
set_option maxRecDepth 65536 in
theorem w_t1 : (words1.take 24).all (fun c => isCode c || c.before args0 about1) = true := by decide +kernel
set_option maxRecDepth 65536 in
theorem w_t2 : ((words1.drop 24).take 24).all (fun c => isCode c || c.before args0 about1) = true := by decide +kernel
set_option maxRecDepth 65536 in
theorem w_t3 : ((words1.drop 24).drop 24).all (fun c => isCode c || c.before args0 about1) = true := by decide +kernel
theorem w_tables : (allAtoms (Jvm.Cond.code x code maxLocals ret :: tables_1)).before args0 about1 = true := by
  rw [allAtoms_all]
  show words1.all (fun c => c.before args0 about1) = true
  refine all_split ?_ w_codes
  rw [← List.take_append_drop 24 words1, List.all_append, w_t1, ← List.take_append_drop 24 (words1.drop 24), List.all_append, w_t2, w_t3]
  rfl
set_option maxRecDepth 65536 in
theorem w_case : (Jvm.Cond.and given_1 narrow_1).before args0 about1 = true := by decide +kernel
theorem w_applies : (headSpec (Jvm.Cond.code x code maxLocals ret :: tables_1) room_1).applies x e0.platform about1 = true :=
  (Spec.applies_iff w_frames).mpr ⟨w_running, w_runnable, w_alone, w_named, w_hears, w_ripe, w_room, w_tables⟩
theorem atStart : AtStart classFile x code maxLocals ret World_1 tables_1 room_1 Calls_1 rest_1 Pre_1 launch0 p0 e0 about1 theMethod args0 below0 :=
  ⟨lists_1, trivial, launch0.admits_env _ _ _, launch0.least_env, fairChoices_fair.cas, fairChoices_fair.clock, w_frames, w_args, w_heap, w_applies, trivial, trivial, w_case⟩
end start1
theorem witness_1 : WitnessClaimed_1 := ⟨start1.p0, start1.e0, start1.about1, start1.theMethod, start1.args0, start1.below0, start1.atStart⟩
end Jvm.Pilot.@@N@@
