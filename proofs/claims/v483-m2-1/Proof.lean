import JvmDerived
import JvmDerived.Pilot.@@N@@Statement
import JvmDerived.Pilot.@@N@@Code
set_option linter.unusedVariables false
set_option linter.unusedSimpArgs false
namespace Jvm.Pilot.@@N@@
open Jvm Jvm.ClassFile Sem Op Lib Jvm.Free Jvm.Stand Jvm.LawKit Jvm.RoadKit Bundle Jvm.Pilot.@@N@@.Jvm.D
/-- from A the run comes to B -/
def Go (p : Program) (e : Env) (below : List Frame) (A B : State) : Prop := ∀ t, Steps p.tables e below B t → Steps p.tables e below A t
def own_b (P : Prop) [Decidable P] : Int32 := if P then 1 else 0
theorem own_b1 {P : Prop} [Decidable P] (h : P) : ¬ own_b P = (0 : Int32) := by simp [own_b, h]
theorem own_b0 {P : Prop} [Decidable P] (h : ¬ P) : own_b P = (0 : Int32) := by simp [own_b, h]
theorem own_bt {P : Prop} [Decidable P] (h : P) : own_b P = (1 : Int32) := by simp [own_b, h]
theorem own_nb {P : Prop} [Decidable P] : nar .boolean (own_b P) = own_b P := by by_cases h : P <;> simp [own_b, h] <;> decide
theorem own_beq {P R : Prop} [Decidable P] [Decidable R] (h : P ↔ R) : own_b P = own_b R := by by_cases q : P <;> simp [own_b, q, ← h]
theorem d1_0 : decode method_2_code 0 = .ok (.iload_n 0, 1) := by decide +kernel
theorem d1_1 : decode method_2_code 1 = .ok (.bipush 64, 2) := by decide +kernel
theorem d1_3 : decode method_2_code 3 = .ok (.if_icmp .lt 5, 3) := by decide +kernel
theorem d1_6 : decode method_2_code 6 = .ok (.iconst 0, 1) := by decide +kernel
theorem d1_7 : decode method_2_code 7 = .ok (.ireturn, 1) := by decide +kernel
theorem d1_8 : decode method_2_code 8 = .ok (.lconst 1, 1) := by decide +kernel
theorem d1_9 : decode method_2_code 9 = .ok (.iload_n 0, 1) := by decide +kernel
theorem d1_10 : decode method_2_code 10 = .ok (.lshl, 1) := by decide +kernel
theorem d1_11 : decode method_2_code 11 = .ok (.ldc2_w 7, 3) := by decide +kernel
theorem d1_14 : decode method_2_code 14 = .ok (.land, 1) := by decide +kernel
theorem d1_15 : decode method_2_code 15 = .ok (.lconst 0, 1) := by decide +kernel
theorem d1_16 : decode method_2_code 16 = .ok (.lcmp, 1) := by decide +kernel
theorem d1_17 : decode method_2_code 17 = .ok (.ifCond .eq 7, 3) := by decide +kernel
theorem d1_20 : decode method_2_code 20 = .ok (.iconst 1, 1) := by decide +kernel
theorem d1_21 : decode method_2_code 21 = .ok (.goto 4, 3) := by decide +kernel
theorem d1_24 : decode method_2_code 24 = .ok (.iconst 0, 1) := by decide +kernel
theorem d1_25 : decode method_2_code 25 = .ok (.ireturn, 1) := by decide +kernel
theorem d2_0 : decode prog_28_method_2_code 0 = .ok (.iload_n 0, 1) := by decide +kernel
theorem d2_1 : decode prog_28_method_2_code 1 = .ok (.bipush 32, 2) := by decide +kernel
theorem d2_3 : decode prog_28_method_2_code 3 = .ok (.if_icmp .eq 21, 3) := by decide +kernel
theorem d2_6 : decode prog_28_method_2_code 6 = .ok (.iload_n 0, 1) := by decide +kernel
theorem d2_7 : decode prog_28_method_2_code 7 = .ok (.bipush 9, 2) := by decide +kernel
theorem d2_9 : decode prog_28_method_2_code 9 = .ok (.if_icmp .eq 15, 3) := by decide +kernel
theorem d2_12 : decode prog_28_method_2_code 12 = .ok (.iload_n 0, 1) := by decide +kernel
theorem d2_13 : decode prog_28_method_2_code 13 = .ok (.bipush 13, 2) := by decide +kernel
theorem d2_15 : decode prog_28_method_2_code 15 = .ok (.if_icmp .eq 9, 3) := by decide +kernel
theorem d2_18 : decode prog_28_method_2_code 18 = .ok (.iload_n 0, 1) := by decide +kernel
theorem d2_19 : decode prog_28_method_2_code 19 = .ok (.bipush 10, 2) := by decide +kernel
theorem d2_21 : decode prog_28_method_2_code 21 = .ok (.if_icmp .ne 7, 3) := by decide +kernel
theorem d2_24 : decode prog_28_method_2_code 24 = .ok (.iconst 1, 1) := by decide +kernel
theorem d2_25 : decode prog_28_method_2_code 25 = .ok (.goto 4, 3) := by decide +kernel
theorem d2_28 : decode prog_28_method_2_code 28 = .ok (.iconst 0, 1) := by decide +kernel
theorem d2_29 : decode prog_28_method_2_code 29 = .ok (.ireturn, 1) := by decide +kernel
theorem d3_0 : decode method_3_code 0 = .ok (.ldc 9, 2) := by decide +kernel
theorem d3_2 : decode method_3_code 2 = .ok (.invokevirtual 11, 3) := by decide +kernel
theorem d3_5 : decode method_3_code 5 = .ok (.bipush 6, 2) := by decide +kernel
theorem d3_7 : decode method_3_code 7 = .ok (.if_icmp .eq 5, 3) := by decide +kernel
theorem d3_12 : decode method_3_code 12 = .ok (.ldc 9, 2) := by decide +kernel
theorem d3_14 : decode method_3_code 14 = .ok (.iconst 0, 1) := by decide +kernel
theorem d3_15 : decode method_3_code 15 = .ok (.invokevirtual 17, 3) := by decide +kernel
theorem d3_18 : decode method_3_code 18 = .ok (.bipush 91, 2) := by decide +kernel
theorem d3_20 : decode method_3_code 20 = .ok (.if_icmp .ne 14, 3) := by decide +kernel
theorem d3_23 : decode method_3_code 23 = .ok (.ldc 9, 2) := by decide +kernel
theorem d3_25 : decode method_3_code 25 = .ok (.iconst 5, 1) := by decide +kernel
theorem d3_26 : decode method_3_code 26 = .ok (.invokevirtual 17, 3) := by decide +kernel
theorem d3_29 : decode method_3_code 29 = .ok (.bipush 93, 2) := by decide +kernel
theorem d3_31 : decode method_3_code 31 = .ok (.if_icmp .eq 5, 3) := by decide +kernel
theorem d3_36 : decode method_3_code 36 = .ok (.iload_n 0, 1) := by decide +kernel
theorem d3_37 : decode method_3_code 37 = .ok (.ldc 9, 2) := by decide +kernel
theorem d3_39 : decode method_3_code 39 = .ok (.iconst 1, 1) := by decide +kernel
theorem d3_40 : decode method_3_code 40 = .ok (.invokevirtual 17, 3) := by decide +kernel
theorem d3_43 : decode method_3_code 43 = .ok (.if_icmp .eq 33, 3) := by decide +kernel
theorem d3_46 : decode method_3_code 46 = .ok (.iload_n 0, 1) := by decide +kernel
theorem d3_47 : decode method_3_code 47 = .ok (.ldc 9, 2) := by decide +kernel
theorem d3_49 : decode method_3_code 49 = .ok (.iconst 2, 1) := by decide +kernel
theorem d3_50 : decode method_3_code 50 = .ok (.invokevirtual 17, 3) := by decide +kernel
theorem d3_53 : decode method_3_code 53 = .ok (.if_icmp .eq 23, 3) := by decide +kernel
theorem d3_56 : decode method_3_code 56 = .ok (.iload_n 0, 1) := by decide +kernel
theorem d3_57 : decode method_3_code 57 = .ok (.ldc 9, 2) := by decide +kernel
theorem d3_59 : decode method_3_code 59 = .ok (.iconst 3, 1) := by decide +kernel
theorem d3_60 : decode method_3_code 60 = .ok (.invokevirtual 17, 3) := by decide +kernel
theorem d3_63 : decode method_3_code 63 = .ok (.if_icmp .eq 13, 3) := by decide +kernel
theorem d3_66 : decode method_3_code 66 = .ok (.iload_n 0, 1) := by decide +kernel
theorem d3_67 : decode method_3_code 67 = .ok (.ldc 9, 2) := by decide +kernel
theorem d3_69 : decode method_3_code 69 = .ok (.iconst 4, 1) := by decide +kernel
theorem d3_70 : decode method_3_code 70 = .ok (.invokevirtual 17, 3) := by decide +kernel
theorem d3_73 : decode method_3_code 73 = .ok (.if_icmp .ne 7, 3) := by decide +kernel
theorem d3_76 : decode method_3_code 76 = .ok (.iconst 1, 1) := by decide +kernel
theorem d3_77 : decode method_3_code 77 = .ok (.goto 4, 3) := by decide +kernel
theorem d3_80 : decode method_3_code 80 = .ok (.iconst 0, 1) := by decide +kernel
theorem d3_81 : decode method_3_code 81 = .ok (.ireturn, 1) := by decide +kernel
theorem d4_0 : decode jdk_42_method_54_code 0 = .ok (.aload_n 0, 1) := by decide +kernel
theorem d4_1 : decode jdk_42_method_54_code 1 = .ok (.getfield 9, 3) := by decide +kernel
theorem d4_4 : decode jdk_42_method_54_code 4 = .ok (.arraylength, 1) := by decide +kernel
theorem d4_5 : decode jdk_42_method_54_code 5 = .ok (.aload_n 0, 1) := by decide +kernel
theorem d4_6 : decode jdk_42_method_54_code 6 = .ok (.invokevirtual 335, 3) := by decide +kernel
theorem d4_9 : decode jdk_42_method_54_code 9 = .ok (.ishr, 1) := by decide +kernel
theorem d4_10 : decode jdk_42_method_54_code 10 = .ok (.ireturn, 1) := by decide +kernel
theorem d5_0 : decode jdk_42_method_152_code 0 = .ok (.getstatic 38, 3) := by decide +kernel
theorem d5_3 : decode jdk_42_method_152_code 3 = .ok (.ifCond .eq 10, 3) := by decide +kernel
theorem d5_6 : decode jdk_42_method_152_code 6 = .ok (.aload_n 0, 1) := by decide +kernel
theorem d5_7 : decode jdk_42_method_152_code 7 = .ok (.getfield 15, 3) := by decide +kernel
theorem d5_10 : decode jdk_42_method_152_code 10 = .ok (.goto 4, 3) := by decide +kernel
theorem d5_14 : decode jdk_42_method_152_code 14 = .ok (.ireturn, 1) := by decide +kernel
theorem d6_0 : decode jdk_42_method_56_code 0 = .ok (.aload_n 0, 1) := by decide +kernel
theorem d6_1 : decode jdk_42_method_56_code 1 = .ok (.invokevirtual 492, 3) := by decide +kernel
theorem d6_4 : decode jdk_42_method_56_code 4 = .ok (.ifCond .eq 12, 3) := by decide +kernel
theorem d6_7 : decode jdk_42_method_56_code 7 = .ok (.aload_n 0, 1) := by decide +kernel
theorem d6_8 : decode jdk_42_method_56_code 8 = .ok (.getfield 9, 3) := by decide +kernel
theorem d6_11 : decode jdk_42_method_56_code 11 = .ok (.iload_n 1, 1) := by decide +kernel
theorem d6_12 : decode jdk_42_method_56_code 12 = .ok (.invokestatic 495, 3) := by decide +kernel
theorem d6_15 : decode jdk_42_method_56_code 15 = .ok (.ireturn, 1) := by decide +kernel
theorem d7_0 : decode jdk_42_method_154_code 0 = .ok (.getstatic 38, 3) := by decide +kernel
theorem d7_3 : decode jdk_42_method_154_code 3 = .ok (.ifCond .eq 14, 3) := by decide +kernel
theorem d7_6 : decode jdk_42_method_154_code 6 = .ok (.aload_n 0, 1) := by decide +kernel
theorem d7_7 : decode jdk_42_method_154_code 7 = .ok (.getfield 15, 3) := by decide +kernel
theorem d7_10 : decode jdk_42_method_154_code 10 = .ok (.ifCond .ne 7, 3) := by decide +kernel
theorem d7_13 : decode jdk_42_method_154_code 13 = .ok (.iconst 1, 1) := by decide +kernel
theorem d7_14 : decode jdk_42_method_154_code 14 = .ok (.goto 4, 3) := by decide +kernel
theorem d7_18 : decode jdk_42_method_154_code 18 = .ok (.ireturn, 1) := by decide +kernel
theorem d8_0 : decode jdk_43_method_2_code 0 = .ok (.iload_n 1, 1) := by decide +kernel
theorem d8_1 : decode jdk_43_method_2_code 1 = .ok (.aload_n 0, 1) := by decide +kernel
theorem d8_2 : decode jdk_43_method_2_code 2 = .ok (.arraylength, 1) := by decide +kernel
theorem d8_3 : decode jdk_43_method_2_code 3 = .ok (.invokestatic 9, 3) := by decide +kernel
theorem d8_6 : decode jdk_43_method_2_code 6 = .ok (.aload_n 0, 1) := by decide +kernel
theorem d8_7 : decode jdk_43_method_2_code 7 = .ok (.iload_n 1, 1) := by decide +kernel
theorem d8_8 : decode jdk_43_method_2_code 8 = .ok (.baload, 1) := by decide +kernel
theorem d8_9 : decode jdk_43_method_2_code 9 = .ok (.sipush 255, 3) := by decide +kernel
theorem d8_12 : decode jdk_43_method_2_code 12 = .ok (.iand, 1) := by decide +kernel
theorem d8_13 : decode jdk_43_method_2_code 13 = .ok (.i2c, 1) := by decide +kernel
theorem d8_14 : decode jdk_43_method_2_code 14 = .ok (.ireturn, 1) := by decide +kernel
theorem d9_0 : decode jdk_42_method_155_code 0 = .ok (.iload_n 0, 1) := by decide +kernel
theorem d9_1 : decode jdk_42_method_155_code 1 = .ok (.iload_n 1, 1) := by decide +kernel
theorem d9_2 : decode jdk_42_method_155_code 2 = .ok (.getstatic 1053, 3) := by decide +kernel
theorem d9_5 : decode jdk_42_method_155_code 5 = .ok (.invokestatic 1059, 3) := by decide +kernel
theorem d9_8 : decode jdk_42_method_155_code 8 = .ok (.pop, 1) := by decide +kernel
theorem d9_9 : decode jdk_42_method_155_code 9 = .ok (.return_, 1) := by decide +kernel
theorem d10_0 : decode jdk_41_method_11_code 0 = .ok (.iload_n 0, 1) := by decide +kernel
theorem d10_1 : decode jdk_41_method_11_code 1 = .ok (.ifCond .lt 8, 3) := by decide +kernel
theorem d10_4 : decode jdk_41_method_11_code 4 = .ok (.iload_n 0, 1) := by decide +kernel
theorem d10_5 : decode jdk_41_method_11_code 5 = .ok (.iload_n 1, 1) := by decide +kernel
theorem d10_6 : decode jdk_41_method_11_code 6 = .ok (.if_icmp .lt 10, 3) := by decide +kernel
theorem d10_16 : decode jdk_41_method_11_code 16 = .ok (.iload_n 0, 1) := by decide +kernel
theorem d10_17 : decode jdk_41_method_11_code 17 = .ok (.ireturn, 1) := by decide +kernel
theorem pn_0 : plainName "com/example/subtree/subtree/index/XmlCharactersIsWhitespacePinLaw" = true := by first | (simp [plainName, overriddenIn]; done) | decide +kernel
theorem pn_1 : plainName "com/example/subtree/subtree/index/XmlCharacters" = true := by first | (simp [plainName, overriddenIn]; done) | decide +kernel
theorem pn_2 : plainName "java/lang/String" = true := by first | (simp [plainName, overriddenIn]; done) | decide +kernel
theorem pn_3 : plainName "jdk/internal/util/Preconditions" = true := by first | (simp [plainName, overriddenIn]; done) | decide +kernel
theorem pn_4 : plainName "java/lang/StringLatin1" = true := by first | (simp [plainName, overriddenIn]; done) | decide +kernel
theorem pd_0 : parseMethodDescriptor "()B" = some ⟨[], some .byte⟩ := by decide +kernel
theorem pd_1 : parseMethodDescriptor "(IILjava/util/function/BiFunction;)I" = some ⟨[.int, .int, (.object "java/util/function/BiFunction")], some .int⟩ := by decide +kernel
theorem pd_2 : parseMethodDescriptor "(II)V" = some ⟨[.int, .int], none⟩ := by decide +kernel
theorem pd_3 : parseMethodDescriptor "()Z" = some ⟨[], some .boolean⟩ := by decide +kernel
theorem pd_4 : parseMethodDescriptor "([BI)C" = some ⟨[(.array .byte), .int], some .char⟩ := by decide +kernel
theorem pd_5 : parseMethodDescriptor "()I" = some ⟨[], some .int⟩ := by decide +kernel
theorem pd_6 : parseMethodDescriptor "(I)C" = some ⟨[.int], some .char⟩ := by decide +kernel
theorem pd_7 : parseMethodDescriptor "(C)Z" = some ⟨[.char], some .boolean⟩ := by decide +kernel
theorem ef_rmB (m : MethodId) (x0 : Int32) : entryFrame m #[(.int x0)] 1 = mkF m 0 #[.val (.int x0)] [] := by first | (simp [entryFrame, mkF, argsToLocals, Value.category]; done) | rfl
theorem ef_rmWS (m : MethodId) (x0 : Int32) : entryFrame m #[(.int x0)] 1 = mkF m 0 #[.val (.int x0)] [] := by first | (simp [entryFrame, mkF, argsToLocals, Value.category]; done) | rfl
theorem ef_rmCo (m : MethodId) (x0 : Addr) : entryFrame m #[(.ref x0)] 1 = mkF m 0 #[.val (.ref x0)] [] := by first | (simp [entryFrame, mkF, argsToLocals, Value.category]; done) | rfl
theorem ef_rmL1 (m : MethodId) (x0 : Addr) : entryFrame m #[(.ref x0)] 1 = mkF m 0 #[.val (.ref x0)] [] := by first | (simp [entryFrame, mkF, argsToLocals, Value.category]; done) | rfl
theorem ef_rmLe (m : MethodId) (x0 : Addr) : entryFrame m #[(.ref x0)] 1 = mkF m 0 #[.val (.ref x0)] [] := by first | (simp [entryFrame, mkF, argsToLocals, Value.category]; done) | rfl
theorem ef_rmPC (m : MethodId) (x0 : Int32) (x1 : Int32) (x2 : Value) (hx2 : x2.isRef = true) : entryFrame m #[(.int x0), (.int x1), x2] 3 = mkF m 0 #[.val (.int x0), .val (.int x1), .val x2] [] := by (cases x2 <;> first | (simp [Value.isRef] at hx2; done) | skip) <;> first | (simp [entryFrame, mkF, argsToLocals, Value.category]; done) | rfl
theorem ef_rmCI (m : MethodId) (x0 : Int32) (x1 : Int32) : entryFrame m #[(.int x0), (.int x1)] 2 = mkF m 0 #[.val (.int x0), .val (.int x1)] [] := by first | (simp [entryFrame, mkF, argsToLocals, Value.category]; done) | rfl
theorem ef_rmCL0 (m : MethodId) (x0 : Addr) (x1 : Int32) : entryFrame m #[(.ref x0), (.int x1)] 2 = mkF m 0 #[.val (.ref x0), .val (.int x1)] [] := by first | (simp [entryFrame, mkF, argsToLocals, Value.category]; done) | rfl
theorem ef_rmCL1 (m : MethodId) (x0 : Addr) (x1 : Int32) : entryFrame m #[(.ref x0), (.int x1)] 2 = mkF m 0 #[.val (.ref x0), .val (.int x1)] [] := by first | (simp [entryFrame, mkF, argsToLocals, Value.category]; done) | rfl
theorem ef_rmCL2 (m : MethodId) (x0 : Addr) (x1 : Int32) : entryFrame m #[(.ref x0), (.int x1)] 2 = mkF m 0 #[.val (.ref x0), .val (.int x1)] [] := by first | (simp [entryFrame, mkF, argsToLocals, Value.category]; done) | rfl
theorem ef_rmCL3 (m : MethodId) (x0 : Addr) (x1 : Int32) : entryFrame m #[(.ref x0), (.int x1)] 2 = mkF m 0 #[.val (.ref x0), .val (.int x1)] [] := by first | (simp [entryFrame, mkF, argsToLocals, Value.category]; done) | rfl
theorem ef_rmCL4 (m : MethodId) (x0 : Addr) (x1 : Int32) : entryFrame m #[(.ref x0), (.int x1)] 2 = mkF m 0 #[.val (.ref x0), .val (.int x1)] [] := by first | (simp [entryFrame, mkF, argsToLocals, Value.category]; done) | rfl
theorem ef_rmCL5 (m : MethodId) (x0 : Addr) (x1 : Int32) : entryFrame m #[(.ref x0), (.int x1)] 2 = mkF m 0 #[.val (.ref x0), .val (.int x1)] [] := by first | (simp [entryFrame, mkF, argsToLocals, Value.category]; done) | rfl
theorem ef_rmCA0 (m : MethodId) (x0 : Addr) (x1 : Int32) : entryFrame m #[(.ref x0), (.int x1)] 2 = mkF m 0 #[.val (.ref x0), .val (.int x1)] [] := by first | (simp [entryFrame, mkF, argsToLocals, Value.category]; done) | rfl
theorem ef_rmCA1 (m : MethodId) (x0 : Addr) (x1 : Int32) : entryFrame m #[(.ref x0), (.int x1)] 2 = mkF m 0 #[.val (.ref x0), .val (.int x1)] [] := by first | (simp [entryFrame, mkF, argsToLocals, Value.category]; done) | rfl
theorem ef_rmCA2 (m : MethodId) (x0 : Addr) (x1 : Int32) : entryFrame m #[(.ref x0), (.int x1)] 2 = mkF m 0 #[.val (.ref x0), .val (.int x1)] [] := by first | (simp [entryFrame, mkF, argsToLocals, Value.category]; done) | rfl
theorem ef_rmCA3 (m : MethodId) (x0 : Addr) (x1 : Int32) : entryFrame m #[(.ref x0), (.int x1)] 2 = mkF m 0 #[.val (.ref x0), .val (.int x1)] [] := by first | (simp [entryFrame, mkF, argsToLocals, Value.category]; done) | rfl
theorem ef_rmCA4 (m : MethodId) (x0 : Addr) (x1 : Int32) : entryFrame m #[(.ref x0), (.int x1)] 2 = mkF m 0 #[.val (.ref x0), .val (.int x1)] [] := by first | (simp [entryFrame, mkF, argsToLocals, Value.category]; done) | rfl
theorem ef_rmCA5 (m : MethodId) (x0 : Addr) (x1 : Int32) : entryFrame m #[(.ref x0), (.int x1)] 2 = mkF m 0 #[.val (.ref x0), .val (.int x1)] [] := by first | (simp [entryFrame, mkF, argsToLocals, Value.category]; done) | rfl
theorem ef_rmD (m : MethodId) (x0 : Int32) : entryFrame m #[(.int x0)] 1 = mkF m 0 #[.val (.int x0)] [] := by first | (simp [entryFrame, mkF, argsToLocals, Value.category]; done) | rfl
theorem ef_rm0 (m : MethodId) (x0 : Int32) : entryFrame m #[(.int x0)] maxLocals = mkF m 0 #[.val (.int x0), .unset, .unset, .unset] [] := by first | (simp [entryFrame, mkF, argsToLocals, Value.category, maxLocals]; done) | rfl
def Qn (h0 : Heap) (n0 : Nat) (v : Option Value) (h : Heap) (L : List Loc) : Prop := v = none ∧ Fr n0 L ∧ h = h0
def Qr (r : Value) (h0 : Heap) (n0 : Nat) (v : Option Value) (h : Heap) (L : List Loc) : Prop := v = some r ∧ Fr n0 L ∧ h = h0
theorem own_eqI {args : Array Value} {s : State} {t : Term} {k : Int32} (h : (Jvm.Cond.eq t (.int k)).value args s none s [] = some true) : t.eval args s none [] s = some (.int k) := by
  simp only [Cond.value, Term.eval] at h
  cases ht : t.eval args s none [] s with
  | none => simp [ht] at h
  | some x => cases x <;> simp [ht] at h ⊢; exact h
theorem own_eqR {args : Array Value} {s : State} {t u : Term} {b : Addr} (h : (Jvm.Cond.eq t u).value args s none s [] = some true) (hu : u.eval args s none [] s = some (.ref b)) : t.eval args s none [] s = some (.ref b) := by
  simp only [Cond.value, hu] at h
  cases ht : t.eval args s none [] s with
  | none => simp [ht] at h
  | some x => cases x <;> simp [ht] at h ⊢; exact h
def own_ws (c : Int32) : Prop := c = (32 : Int32) ∨ c = (9 : Int32) ∨ c = (13 : Int32) ∨ c = (10 : Int32)
instance own_wsd (c : Int32) : Decidable (own_ws c) := by unfold own_ws; infer_instance
theorem own_wsbig {c : Int32} (h : ¬ c < (64 : Int32)) : ¬ own_ws c := by
  rintro (rfl | rfl | rfl | rfl) <;> exact h (by decide)
theorem own_bitsN : ∀ k : Nat, k < 64 → ((((1 : Int64) <<< ((Int32.ofNat k) &&& 0x3f).toInt64) &&& (4294977024 : Int64)) = (0 : Int64) ↔ ¬ own_ws (Int32.ofNat k)) := by decide +kernel
theorem own_bits {c : Int32} (hz : ¬ c < 0) (h : c < (64 : Int32)) : (((1 : Int64) <<< (c &&& 0x3f).toInt64) &&& (4294977024 : Int64)) = (0 : Int64) ↔ ¬ own_ws c := by
  have e := nat_of hz
  have q : c.toNatClampNeg < 64 := by rw [Int32.lt_iff_toInt_lt, e] at h; simp only [Int32.reduceToInt] at h; omega
  have r : Int32.ofNat c.toNatClampNeg = c := (Jvm.RoadKit.back32 hz).1
  have s := own_bitsN _ q
  rw [r] at s; exact s
theorem own_i2cz (y : Int32) : ¬ y.toUInt32.toUInt16.toUInt32.toInt32 < (0 : Int32) := by
  have a := c_i2c y
  simp only [Int32.lt_iff_toInt_lt, Int32.reduceToInt]; omega
set_option maxRecDepth 65536 in
set_option maxHeartbeats 40000000 in
theorem rmB (l : Launch) (Z : State) (a0 : Array Value) (hw : ∀ d ∈ tables_1, d.before a0 Z = true) (ws : List Jvm.Cond) (cc : Int32) (h0 : Heap) (n0 : Nat) (Z0 : n0 ≤ h0.size) (hz : ¬ cc < 0) :
    MetFree l (⟨"com/example/subtree/subtree/index/XmlCharactersIsWhitespacePinLaw", "inBitSet", "(C)Z"⟩ : MethodName) (head1 (Jvm.Cond.code (⟨"com/example/subtree/subtree/index/XmlCharactersIsWhitespacePinLaw", "inBitSet", "(C)Z"⟩ : MethodName) method_2_code 1 (some .boolean) :: ws) ({ frames := 0, cells := 0, slots := 0, locals := 0 } : Room)) (fun aa UU => aa = #[(.int cc)] ∧ Z.Warmed39 UU.vm ∧ UU.heap = h0) (fun _ _ _ _ _ => True) (fun _ UU oo U' => ∃ v L, oo = .returned v ∧ Qr (.int (own_b (own_ws cc))) h0 n0 v U'.heap L ∧ FrameEnd UU oo U' L ({ frames := 0, cells := 0, slots := 0, locals := 0 } : Room).cells ({ frames := 0, cells := 0, slots := 0, locals := 0 } : Room).slots) := by
  refine MetFree.of_bodySF (plainFor_of_name pn_0) hisR ?_
  intro p e s m args below meth c s₁ Bd hml0 hP hK
  obtain ⟨rfl, hZ, hh⟩ := hP
  have hx := Bd.exec
  have hby := Bd.bytes
  have hml : c.maxLocals = 1 := hml0
  have hown : s.vm.findClass "com/example/subtree/subtree/index/XmlCharactersIsWhitespacePinLaw" = some m.cls := findClass_of_methodNamed Bd.named
  have hnm := (name_of_methodNamed Bd.named Bd.method).1
  have X0 : Stand p l e ({ frames := 0, cells := 0, slots := 0, locals := 0 } : Room) s m #[(.int cc)] below meth c s₁ [] 0 0 := Stand.of_body Bd
  have e0 : s₁.heap = h0 := by rw [← hh, Bd.state]; rfl
  have N0 := Fr.nil n0
  obtain ⟨A0, hA0⟩ : ∃ A, A = s₁.setTop (entryFrame m #[(.int cc)] 1) := ⟨_, rfl⟩
  have G0 : Go p e below A0 (s₁.setTop (mkF m 0 #[.val (.int cc)] [])) := fun tq kq => by rw [hA0]; exact castTop (ef_rmB m cc) kq
  have G1 : Go p e below A0 (s₁.setTop (mkF m 3 #[.val (.int cc)] [(.int (64 : Int32)), (.int cc)])) := fun tq kq => G0 tq (by
    refine XS.iloadN X0.here hx rfl (hb hby d1_0) rfl ?_
    show Steps p.tables e below (s₁.setTop (mkF m 1 #[.val (.int cc)] [(.int cc)])) _
    refine XS.bipush X0.here hx rfl (hb hby d1_1) ?_
    show Steps p.tables e below (s₁.setTop (mkF m 3 #[.val (.int cc)] [(.int (64 : Int32)), (.int cc)])) _
    exact kq)
  by_cases hc2 : cc < (64 : Int32)
  · have G3 : Go p e below A0 (s₁.setTop (mkF m 17 #[.val (.int cc)] [(.int (lcmpW (((1 : Int64) <<< (cc &&& 0x3f).toInt64) &&& (4294977024 : Int64)) (0 : Int64)))])) := fun tq kq => G1 tq (by
      refine XS.icmpYes X0.here hx rfl (pc0 := 3) (pc' := 8) rfl (hb hby d1_3) rfl (tlt hc2).1 (by decide) (by decide) ?_
      show Steps p.tables e below (s₁.setTop (mkF m 8 #[.val (.int cc)] [])) _
      refine XS.lconst X0.here hx rfl (hb hby d1_8) ?_
      show Steps p.tables e below (s₁.setTop (mkF m 9 #[.val (.int cc)] [(.long (1 : Int64))])) _
      refine XS.iloadN X0.here hx rfl (hb hby d1_9) rfl ?_
      show Steps p.tables e below (s₁.setTop (mkF m 10 #[.val (.int cc)] [(.int cc), (.long (1 : Int64))])) _
      refine XS.lshl X0.here hx rfl (hb hby d1_10) rfl ?_
      show Steps p.tables e below (s₁.setTop (mkF m 11 #[.val (.int cc)] [(.long ((1 : Int64) <<< (cc &&& 0x3f).toInt64))])) _
      refine X0.ldc2Long hx hown (mvT hZ (hw _ (List.mem_of_getElem? (i := 5) rfl))) (g := (mkF m 11 #[.val (.int cc)] [(.long ((1 : Int64) <<< (cc &&& 0x3f).toInt64))])) rfl (hb hby d1_11) _ ?_
      show Steps p.tables e below (s₁.setTop (mkF m 14 #[.val (.int cc)] [(.long (4294977024 : Int64)), (.long ((1 : Int64) <<< (cc &&& 0x3f).toInt64))])) _
      refine XS.land X0.here hx rfl (hb hby d1_14) rfl ?_
      show Steps p.tables e below (s₁.setTop (mkF m 15 #[.val (.int cc)] [(.long (((1 : Int64) <<< (cc &&& 0x3f).toInt64) &&& (4294977024 : Int64)))])) _
      refine XS.lconst X0.here hx rfl (hb hby d1_15) ?_
      show Steps p.tables e below (s₁.setTop (mkF m 16 #[.val (.int cc)] [(.long (0 : Int64)), (.long (((1 : Int64) <<< (cc &&& 0x3f).toInt64) &&& (4294977024 : Int64)))])) _
      refine XS.lcmp X0.here hx rfl (hb hby d1_16) rfl ?_
      show Steps p.tables e below (s₁.setTop (mkF m 17 #[.val (.int cc)] [(.int (lcmpW (((1 : Int64) <<< (cc &&& 0x3f).toInt64) &&& (4294977024 : Int64)) (0 : Int64)))])) _
      exact kq)
    by_cases hc4 : (((1 : Int64) <<< (cc &&& 0x3f).toInt64) &&& (4294977024 : Int64)) = (0 : Int64)
    · have G5 : Go p e below A0 (s₁.setTop (mkF m 25 #[.val (.int cc)] [(.int (0 : Int32))])) := fun tq kq => G3 tq (by
        refine XS.ifYes X0.here hx rfl (pc0 := 17) (pc' := 24) rfl (hb hby d1_17) rfl ((if0 _ _).trans (teq ((lw_eq _ _).mpr hc4)).1) (by decide) (by decide) ?_
        show Steps p.tables e below (s₁.setTop (mkF m 24 #[.val (.int cc)] [])) _
        refine XS.iconst X0.here hx rfl (hb hby d1_24) ?_
        show Steps p.tables e below (s₁.setTop (mkF m 25 #[.val (.int cc)] [(.int (0 : Int32))])) _
        exact kq)
      obtain ⟨fs, hr, hrun, hended, hW, hsame⟩ := X0.leave (v := some (.int (nar .boolean (0 : Int32)))) (fun h => by rw [Bd.returns] at h; cases h)
      refine ⟨_, _, (by rw [← hA0]; exact G5 _ (retN X0 hx (t := .boolean) Bd.returns (by simp) (hb hby d1_25) hr)), hrun, hended, _, _, rfl, ?_, ⟨_, rfl⟩, hW, hsame.mono (by decide) (by decide)⟩
      exact ⟨(by rw [show own_b (own_ws cc) = (0 : Int32) from own_b0 ((own_bits hz hc2).mp hc4)]; rfl), N0, e0⟩
    · have G6 : Go p e below A0 (s₁.setTop (mkF m 25 #[.val (.int cc)] [(.int (1 : Int32))])) := fun tq kq => G3 tq (by
        refine XS.ifNo X0.here hx rfl (hb hby d1_17) rfl ((if0 _ _).trans (feq (fun q => hc4 ((lw_eq _ _).mp q))).1) ?_
        show Steps p.tables e below (s₁.setTop (mkF m 20 #[.val (.int cc)] [])) _
        refine XS.iconst X0.here hx rfl (hb hby d1_20) ?_
        show Steps p.tables e below (s₁.setTop (mkF m 21 #[.val (.int cc)] [(.int (1 : Int32))])) _
        refine XS.goto X0.here hx rfl (pc0 := 21) (pc' := 25) rfl (hb hby d1_21) (by decide) (by decide) ?_
        show Steps p.tables e below (s₁.setTop (mkF m 25 #[.val (.int cc)] [(.int (1 : Int32))])) _
        exact kq)
      obtain ⟨fs, hr, hrun, hended, hW, hsame⟩ := X0.leave (v := some (.int (nar .boolean (1 : Int32)))) (fun h => by rw [Bd.returns] at h; cases h)
      refine ⟨_, _, (by rw [← hA0]; exact G6 _ (retN X0 hx (t := .boolean) Bd.returns (by simp) (hb hby d1_25) hr)), hrun, hended, _, _, rfl, ?_, ⟨_, rfl⟩, hW, hsame.mono (by decide) (by decide)⟩
      exact ⟨(by rw [show own_b (own_ws cc) = (1 : Int32) from own_bt (Classical.not_not.mp (fun q => hc4 ((own_bits hz hc2).mpr q)))]; rfl), N0, e0⟩
  · have G7 : Go p e below A0 (s₁.setTop (mkF m 7 #[.val (.int cc)] [(.int (0 : Int32))])) := fun tq kq => G1 tq (by
      refine XS.icmpNo X0.here hx rfl (hb hby d1_3) rfl (flt hc2).1 ?_
      show Steps p.tables e below (s₁.setTop (mkF m 6 #[.val (.int cc)] [])) _
      refine XS.iconst X0.here hx rfl (hb hby d1_6) ?_
      show Steps p.tables e below (s₁.setTop (mkF m 7 #[.val (.int cc)] [(.int (0 : Int32))])) _
      exact kq)
    obtain ⟨fs, hr, hrun, hended, hW, hsame⟩ := X0.leave (v := some (.int (nar .boolean (0 : Int32)))) (fun h => by rw [Bd.returns] at h; cases h)
    refine ⟨_, _, (by rw [← hA0]; exact G7 _ (retN X0 hx (t := .boolean) Bd.returns (by simp) (hb hby d1_7) hr)), hrun, hended, _, _, rfl, ?_, ⟨_, rfl⟩, hW, hsame.mono (by decide) (by decide)⟩
    exact ⟨(by rw [show own_b (own_ws cc) = (0 : Int32) from own_b0 (own_wsbig hc2)]; rfl), N0, e0⟩
set_option maxRecDepth 65536 in
set_option maxHeartbeats 40000000 in
theorem rmWS (l : Launch) (Z : State) (a0 : Array Value) (hw : ∀ d ∈ tables_1, d.before a0 Z = true) (ws : List Jvm.Cond) (cc : Int32) (h0 : Heap) (n0 : Nat) (Z0 : n0 ≤ h0.size) :
    MetFree l (⟨"com/example/subtree/subtree/index/XmlCharacters", "isWhitespace", "(C)Z"⟩ : MethodName) (head1 (Jvm.Cond.code (⟨"com/example/subtree/subtree/index/XmlCharacters", "isWhitespace", "(C)Z"⟩ : MethodName) prog_28_method_2_code 1 (some .boolean) :: ws) ({ frames := 0, cells := 0, slots := 0, locals := 0 } : Room)) (fun aa UU => aa = #[(.int cc)] ∧ Z.Warmed39 UU.vm ∧ UU.heap = h0) (fun _ _ _ _ _ => True) (fun _ UU oo U' => ∃ v L, oo = .returned v ∧ Qr (.int (own_b (own_ws cc))) h0 n0 v U'.heap L ∧ FrameEnd UU oo U' L ({ frames := 0, cells := 0, slots := 0, locals := 0 } : Room).cells ({ frames := 0, cells := 0, slots := 0, locals := 0 } : Room).slots) := by
  refine MetFree.of_bodySF (plainFor_of_name pn_1) hisR ?_
  intro p e s m args below meth c s₁ Bd hml0 hP hK
  obtain ⟨rfl, hZ, hh⟩ := hP
  have hx := Bd.exec
  have hby := Bd.bytes
  have hml : c.maxLocals = 1 := hml0
  have hown : s.vm.findClass "com/example/subtree/subtree/index/XmlCharacters" = some m.cls := findClass_of_methodNamed Bd.named
  have hnm := (name_of_methodNamed Bd.named Bd.method).1
  have X0 : Stand p l e ({ frames := 0, cells := 0, slots := 0, locals := 0 } : Room) s m #[(.int cc)] below meth c s₁ [] 0 0 := Stand.of_body Bd
  have e0 : s₁.heap = h0 := by rw [← hh, Bd.state]; rfl
  have N0 := Fr.nil n0
  obtain ⟨A0, hA0⟩ : ∃ A, A = s₁.setTop (entryFrame m #[(.int cc)] 1) := ⟨_, rfl⟩
  have G0 : Go p e below A0 (s₁.setTop (mkF m 0 #[.val (.int cc)] [])) := fun tq kq => by rw [hA0]; exact castTop (ef_rmWS m cc) kq
  have G8 : Go p e below A0 (s₁.setTop (mkF m 3 #[.val (.int cc)] [(.int (32 : Int32)), (.int cc)])) := fun tq kq => G0 tq (by
    refine XS.iloadN X0.here hx rfl (hb hby d2_0) rfl ?_
    show Steps p.tables e below (s₁.setTop (mkF m 1 #[.val (.int cc)] [(.int cc)])) _
    refine XS.bipush X0.here hx rfl (hb hby d2_1) ?_
    show Steps p.tables e below (s₁.setTop (mkF m 3 #[.val (.int cc)] [(.int (32 : Int32)), (.int cc)])) _
    exact kq)
  by_cases hc9 : cc = (32 : Int32)
  · have G10 : Go p e below A0 (s₁.setTop (mkF m 29 #[.val (.int cc)] [(.int (1 : Int32))])) := fun tq kq => G8 tq (by
      refine XS.icmpYes X0.here hx rfl (pc0 := 3) (pc' := 24) rfl (hb hby d2_3) rfl (teq hc9).1 (by decide) (by decide) ?_
      show Steps p.tables e below (s₁.setTop (mkF m 24 #[.val (.int cc)] [])) _
      refine XS.iconst X0.here hx rfl (hb hby d2_24) ?_
      show Steps p.tables e below (s₁.setTop (mkF m 25 #[.val (.int cc)] [(.int (1 : Int32))])) _
      refine XS.goto X0.here hx rfl (pc0 := 25) (pc' := 29) rfl (hb hby d2_25) (by decide) (by decide) ?_
      show Steps p.tables e below (s₁.setTop (mkF m 29 #[.val (.int cc)] [(.int (1 : Int32))])) _
      exact kq)
    obtain ⟨fs, hr, hrun, hended, hW, hsame⟩ := X0.leave (v := some (.int (nar .boolean (1 : Int32)))) (fun h => by rw [Bd.returns] at h; cases h)
    refine ⟨_, _, (by rw [← hA0]; exact G10 _ (retN X0 hx (t := .boolean) Bd.returns (by simp) (hb hby d2_29) hr)), hrun, hended, _, _, rfl, ?_, ⟨_, rfl⟩, hW, hsame.mono (by decide) (by decide)⟩
    exact ⟨(by rw [show own_b (own_ws cc) = (1 : Int32) from by simp only [own_b, own_ws, hc9, not_true_eq_false, not_false_eq_true, if_true, if_false, or_true, true_or, or_false, false_or, and_true, true_and, and_false, false_and, and_self, or_self]]; rfl), N0, e0⟩
  · have G11 : Go p e below A0 (s₁.setTop (mkF m 9 #[.val (.int cc)] [(.int (9 : Int32)), (.int cc)])) := fun tq kq => G8 tq (by
      refine XS.icmpNo X0.here hx rfl (hb hby d2_3) rfl (feq hc9).1 ?_
      show Steps p.tables e below (s₁.setTop (mkF m 6 #[.val (.int cc)] [])) _
      refine XS.iloadN X0.here hx rfl (hb hby d2_6) rfl ?_
      show Steps p.tables e below (s₁.setTop (mkF m 7 #[.val (.int cc)] [(.int cc)])) _
      refine XS.bipush X0.here hx rfl (hb hby d2_7) ?_
      show Steps p.tables e below (s₁.setTop (mkF m 9 #[.val (.int cc)] [(.int (9 : Int32)), (.int cc)])) _
      exact kq)
    by_cases hc12 : cc = (9 : Int32)
    · have G13 : Go p e below A0 (s₁.setTop (mkF m 29 #[.val (.int cc)] [(.int (1 : Int32))])) := fun tq kq => G11 tq (by
        refine XS.icmpYes X0.here hx rfl (pc0 := 9) (pc' := 24) rfl (hb hby d2_9) rfl (teq hc12).1 (by decide) (by decide) ?_
        show Steps p.tables e below (s₁.setTop (mkF m 24 #[.val (.int cc)] [])) _
        refine XS.iconst X0.here hx rfl (hb hby d2_24) ?_
        show Steps p.tables e below (s₁.setTop (mkF m 25 #[.val (.int cc)] [(.int (1 : Int32))])) _
        refine XS.goto X0.here hx rfl (pc0 := 25) (pc' := 29) rfl (hb hby d2_25) (by decide) (by decide) ?_
        show Steps p.tables e below (s₁.setTop (mkF m 29 #[.val (.int cc)] [(.int (1 : Int32))])) _
        exact kq)
      obtain ⟨fs, hr, hrun, hended, hW, hsame⟩ := X0.leave (v := some (.int (nar .boolean (1 : Int32)))) (fun h => by rw [Bd.returns] at h; cases h)
      refine ⟨_, _, (by rw [← hA0]; exact G13 _ (retN X0 hx (t := .boolean) Bd.returns (by simp) (hb hby d2_29) hr)), hrun, hended, _, _, rfl, ?_, ⟨_, rfl⟩, hW, hsame.mono (by decide) (by decide)⟩
      exact ⟨(by rw [show own_b (own_ws cc) = (1 : Int32) from by simp only [own_b, own_ws, hc9, hc12, not_true_eq_false, not_false_eq_true, if_true, if_false, or_true, true_or, or_false, false_or, and_true, true_and, and_false, false_and, and_self, or_self]]; rfl), N0, e0⟩
    · have G14 : Go p e below A0 (s₁.setTop (mkF m 15 #[.val (.int cc)] [(.int (13 : Int32)), (.int cc)])) := fun tq kq => G11 tq (by
        refine XS.icmpNo X0.here hx rfl (hb hby d2_9) rfl (feq hc12).1 ?_
        show Steps p.tables e below (s₁.setTop (mkF m 12 #[.val (.int cc)] [])) _
        refine XS.iloadN X0.here hx rfl (hb hby d2_12) rfl ?_
        show Steps p.tables e below (s₁.setTop (mkF m 13 #[.val (.int cc)] [(.int cc)])) _
        refine XS.bipush X0.here hx rfl (hb hby d2_13) ?_
        show Steps p.tables e below (s₁.setTop (mkF m 15 #[.val (.int cc)] [(.int (13 : Int32)), (.int cc)])) _
        exact kq)
      by_cases hc15 : cc = (13 : Int32)
      · have G16 : Go p e below A0 (s₁.setTop (mkF m 29 #[.val (.int cc)] [(.int (1 : Int32))])) := fun tq kq => G14 tq (by
          refine XS.icmpYes X0.here hx rfl (pc0 := 15) (pc' := 24) rfl (hb hby d2_15) rfl (teq hc15).1 (by decide) (by decide) ?_
          show Steps p.tables e below (s₁.setTop (mkF m 24 #[.val (.int cc)] [])) _
          refine XS.iconst X0.here hx rfl (hb hby d2_24) ?_
          show Steps p.tables e below (s₁.setTop (mkF m 25 #[.val (.int cc)] [(.int (1 : Int32))])) _
          refine XS.goto X0.here hx rfl (pc0 := 25) (pc' := 29) rfl (hb hby d2_25) (by decide) (by decide) ?_
          show Steps p.tables e below (s₁.setTop (mkF m 29 #[.val (.int cc)] [(.int (1 : Int32))])) _
          exact kq)
        obtain ⟨fs, hr, hrun, hended, hW, hsame⟩ := X0.leave (v := some (.int (nar .boolean (1 : Int32)))) (fun h => by rw [Bd.returns] at h; cases h)
        refine ⟨_, _, (by rw [← hA0]; exact G16 _ (retN X0 hx (t := .boolean) Bd.returns (by simp) (hb hby d2_29) hr)), hrun, hended, _, _, rfl, ?_, ⟨_, rfl⟩, hW, hsame.mono (by decide) (by decide)⟩
        exact ⟨(by rw [show own_b (own_ws cc) = (1 : Int32) from by simp only [own_b, own_ws, hc9, hc12, hc15, not_true_eq_false, not_false_eq_true, if_true, if_false, or_true, true_or, or_false, false_or, and_true, true_and, and_false, false_and, and_self, or_self]]; rfl), N0, e0⟩
      · have G17 : Go p e below A0 (s₁.setTop (mkF m 21 #[.val (.int cc)] [(.int (10 : Int32)), (.int cc)])) := fun tq kq => G14 tq (by
          refine XS.icmpNo X0.here hx rfl (hb hby d2_15) rfl (feq hc15).1 ?_
          show Steps p.tables e below (s₁.setTop (mkF m 18 #[.val (.int cc)] [])) _
          refine XS.iloadN X0.here hx rfl (hb hby d2_18) rfl ?_
          show Steps p.tables e below (s₁.setTop (mkF m 19 #[.val (.int cc)] [(.int cc)])) _
          refine XS.bipush X0.here hx rfl (hb hby d2_19) ?_
          show Steps p.tables e below (s₁.setTop (mkF m 21 #[.val (.int cc)] [(.int (10 : Int32)), (.int cc)])) _
          exact kq)
        by_cases hc18 : cc = (10 : Int32)
        · have G19 : Go p e below A0 (s₁.setTop (mkF m 29 #[.val (.int cc)] [(.int (1 : Int32))])) := fun tq kq => G17 tq (by
            refine XS.icmpNo X0.here hx rfl (hb hby d2_21) rfl (teq hc18).2 ?_
            show Steps p.tables e below (s₁.setTop (mkF m 24 #[.val (.int cc)] [])) _
            refine XS.iconst X0.here hx rfl (hb hby d2_24) ?_
            show Steps p.tables e below (s₁.setTop (mkF m 25 #[.val (.int cc)] [(.int (1 : Int32))])) _
            refine XS.goto X0.here hx rfl (pc0 := 25) (pc' := 29) rfl (hb hby d2_25) (by decide) (by decide) ?_
            show Steps p.tables e below (s₁.setTop (mkF m 29 #[.val (.int cc)] [(.int (1 : Int32))])) _
            exact kq)
          obtain ⟨fs, hr, hrun, hended, hW, hsame⟩ := X0.leave (v := some (.int (nar .boolean (1 : Int32)))) (fun h => by rw [Bd.returns] at h; cases h)
          refine ⟨_, _, (by rw [← hA0]; exact G19 _ (retN X0 hx (t := .boolean) Bd.returns (by simp) (hb hby d2_29) hr)), hrun, hended, _, _, rfl, ?_, ⟨_, rfl⟩, hW, hsame.mono (by decide) (by decide)⟩
          exact ⟨(by rw [show own_b (own_ws cc) = (1 : Int32) from by simp only [own_b, own_ws, hc9, hc12, hc15, hc18, not_true_eq_false, not_false_eq_true, if_true, if_false, or_true, true_or, or_false, false_or, and_true, true_and, and_false, false_and, and_self, or_self]]; rfl), N0, e0⟩
        · have G20 : Go p e below A0 (s₁.setTop (mkF m 29 #[.val (.int cc)] [(.int (0 : Int32))])) := fun tq kq => G17 tq (by
            refine XS.icmpYes X0.here hx rfl (pc0 := 21) (pc' := 28) rfl (hb hby d2_21) rfl (feq hc18).2 (by decide) (by decide) ?_
            show Steps p.tables e below (s₁.setTop (mkF m 28 #[.val (.int cc)] [])) _
            refine XS.iconst X0.here hx rfl (hb hby d2_28) ?_
            show Steps p.tables e below (s₁.setTop (mkF m 29 #[.val (.int cc)] [(.int (0 : Int32))])) _
            exact kq)
          obtain ⟨fs, hr, hrun, hended, hW, hsame⟩ := X0.leave (v := some (.int (nar .boolean (0 : Int32)))) (fun h => by rw [Bd.returns] at h; cases h)
          refine ⟨_, _, (by rw [← hA0]; exact G20 _ (retN X0 hx (t := .boolean) Bd.returns (by simp) (hb hby d2_29) hr)), hrun, hended, _, _, rfl, ?_, ⟨_, rfl⟩, hW, hsame.mono (by decide) (by decide)⟩
          exact ⟨(by rw [show own_b (own_ws cc) = (0 : Int32) from by simp only [own_b, own_ws, hc9, hc12, hc15, hc18, not_true_eq_false, not_false_eq_true, if_true, if_false, or_true, true_or, or_false, false_or, and_true, true_and, and_false, false_and, and_self, or_self]]; rfl), N0, e0⟩
set_option maxRecDepth 65536 in
set_option maxHeartbeats 40000000 in
theorem rmCo (l : Launch) (Z : State) (a0 : Array Value) (hw : ∀ d ∈ tables_1, d.before a0 Z = true) (ws : List Jvm.Cond) (a b : Addr) (kb : ClassId) (cs : Int32) (fo : Value) (h0 : Heap) (n0 : Nat) (Z0 : n0 ≤ h0.size) (E : Exa Z h0 a "java/lang/String") (Fv : Fld Z h0 a "java/lang/String" "value" "[B" (.ref b)) (Fc : Fld Z h0 a "java/lang/String" "coder" "B" (.int (0 : Int32))) (Ab : Arv Z h0 b kb .byte (6 : Int32) [(.int (91 : Int32)), (.int (32 : Int32)), (.int (9 : Int32)), (.int (13 : Int32)), (.int (10 : Int32)), (.int (93 : Int32))] (.int (0 : Int32))) (hCS : Sta Z h0 "java/lang/String" "COMPACT_STRINGS" "Z" (.int cs)) (hcs : ¬ cs = (0 : Int32)) (hSF : Sta Z h0 "jdk/internal/util/Preconditions" "SIOOBE_FORMATTER" "Ljava/util/function/BiFunction;" fo) (hfo : fo.isRef = true) :
    MetFree l (⟨"java/lang/String", "coder", "()B"⟩ : MethodName) (head1 (Jvm.Cond.code (⟨"java/lang/String", "coder", "()B"⟩ : MethodName) jdk_42_method_152_code 1 (some .byte) :: ws) ({ frames := 0, cells := 0, slots := 0, locals := 0 } : Room)) (fun aa UU => aa = #[(.ref a)] ∧ Z.Warmed39 UU.vm ∧ UU.heap = h0) (fun _ _ _ _ _ => True) (fun _ UU oo U' => ∃ v L, oo = .returned v ∧ Qr (.int (0 : Int32)) h0 n0 v U'.heap L ∧ FrameEnd UU oo U' L ({ frames := 0, cells := 0, slots := 0, locals := 0 } : Room).cells ({ frames := 0, cells := 0, slots := 0, locals := 0 } : Room).slots) := by
  refine MetFree.of_bodySF (plainFor_of_name pn_2) hisR ?_
  intro p e s m args below meth c s₁ Bd hml0 hP hK
  obtain ⟨rfl, hZ, hh⟩ := hP
  have hx := Bd.exec
  have hby := Bd.bytes
  have hml : c.maxLocals = 1 := hml0
  have hown : s.vm.findClass "java/lang/String" = some m.cls := findClass_of_methodNamed Bd.named
  have hnm := (name_of_methodNamed Bd.named Bd.method).1
  have X0 : Stand p l e ({ frames := 0, cells := 0, slots := 0, locals := 0 } : Room) s m #[(.ref a)] below meth c s₁ [] 0 0 := Stand.of_body Bd
  have e0 : s₁.heap = h0 := by rw [← hh, Bd.state]; rfl
  have N0 := Fr.nil n0
  obtain ⟨A0, hA0⟩ : ∃ A, A = s₁.setTop (entryFrame m #[(.ref a)] 1) := ⟨_, rfl⟩
  have G0 : Go p e below A0 (s₁.setTop (mkF m 0 #[.val (.ref a)] [])) := fun tq kq => by rw [hA0]; exact castTop (ef_rmCo m a) kq
  obtain ⟨T21, X21, e21, st21⟩ := getS2 X0 hx hZ hown (host := "") (Or.inl (hw _ (List.mem_of_getElem? (i := 32) rfl))) Via.refl e0 hCS (g := (mkF m 0 #[.val (.ref a)] [])) rfl (hb hby d5_0)
  have G22 : Go p e below A0 (T21.setTop (mkF m 3 #[.val (.ref a)] [(.int cs)])) := fun tq kq => G0 tq (st21 _ kq)
  have G23 : Go p e below A0 (T21.setTop (mkF m 7 #[.val (.ref a)] [(.ref a)])) := fun tq kq => G22 tq (by
    refine XS.ifNo X21.here hx rfl (hb hby d5_3) rfl ((if0 _ _).trans (feq hcs).1) ?_
    show Steps p.tables e below (T21.setTop (mkF m 6 #[.val (.ref a)] [])) _
    refine XS.aloadN X21.here hx rfl (hb hby d5_6) rfl rfl ?_
    show Steps p.tables e below (T21.setTop (mkF m 7 #[.val (.ref a)] [(.ref a)])) _
    exact kq)
  obtain ⟨T24, X24, e24, st24⟩ := getF X21 hx hZ hown (host := "") (Or.inl (hw _ (List.mem_of_getElem? (i := 33) rfl))) Via.refl e21 Fc (g := (mkF m 7 #[.val (.ref a)] [(.ref a)])) rfl rfl (hb hby d5_7)
  have G25 : Go p e below A0 (T24.setTop (mkF m 10 #[.val (.ref a)] [(.int (0 : Int32))])) := fun tq kq => G23 tq (st24 _ kq)
  have G26 : Go p e below A0 (T24.setTop (mkF m 14 #[.val (.ref a)] [(.int (0 : Int32))])) := fun tq kq => G25 tq (by
    refine XS.goto X24.here hx rfl (pc0 := 10) (pc' := 14) rfl (hb hby d5_10) (by decide) (by decide) ?_
    show Steps p.tables e below (T24.setTop (mkF m 14 #[.val (.ref a)] [(.int (0 : Int32))])) _
    exact kq)
  obtain ⟨fs, hr, hrun, hended, hW, hsame⟩ := X24.leave (v := some (.int (nar .byte (0 : Int32)))) (fun h => by rw [Bd.returns] at h; cases h)
  refine ⟨_, _, (by rw [← hA0]; exact G26 _ (retN X24 hx (t := .byte) Bd.returns (by simp) (hb hby d5_14) hr)), hrun, hended, _, _, rfl, ?_, ⟨_, rfl⟩, hW, hsame.mono (by decide) (by decide)⟩
  exact ⟨rfl, N0, e24⟩
set_option maxRecDepth 65536 in
set_option maxHeartbeats 40000000 in
theorem rmL1 (l : Launch) (Z : State) (a0 : Array Value) (hw : ∀ d ∈ tables_1, d.before a0 Z = true) (ws : List Jvm.Cond) (a b : Addr) (kb : ClassId) (cs : Int32) (fo : Value) (h0 : Heap) (n0 : Nat) (Z0 : n0 ≤ h0.size) (E : Exa Z h0 a "java/lang/String") (Fv : Fld Z h0 a "java/lang/String" "value" "[B" (.ref b)) (Fc : Fld Z h0 a "java/lang/String" "coder" "B" (.int (0 : Int32))) (Ab : Arv Z h0 b kb .byte (6 : Int32) [(.int (91 : Int32)), (.int (32 : Int32)), (.int (9 : Int32)), (.int (13 : Int32)), (.int (10 : Int32)), (.int (93 : Int32))] (.int (0 : Int32))) (hCS : Sta Z h0 "java/lang/String" "COMPACT_STRINGS" "Z" (.int cs)) (hcs : ¬ cs = (0 : Int32)) (hSF : Sta Z h0 "jdk/internal/util/Preconditions" "SIOOBE_FORMATTER" "Ljava/util/function/BiFunction;" fo) (hfo : fo.isRef = true) :
    MetFree l (⟨"java/lang/String", "isLatin1", "()Z"⟩ : MethodName) (head1 (Jvm.Cond.code (⟨"java/lang/String", "isLatin1", "()Z"⟩ : MethodName) jdk_42_method_154_code 1 (some .boolean) :: ws) ({ frames := 0, cells := 0, slots := 0, locals := 0 } : Room)) (fun aa UU => aa = #[(.ref a)] ∧ Z.Warmed39 UU.vm ∧ UU.heap = h0) (fun _ _ _ _ _ => True) (fun _ UU oo U' => ∃ v L, oo = .returned v ∧ Qr (.int (1 : Int32)) h0 n0 v U'.heap L ∧ FrameEnd UU oo U' L ({ frames := 0, cells := 0, slots := 0, locals := 0 } : Room).cells ({ frames := 0, cells := 0, slots := 0, locals := 0 } : Room).slots) := by
  refine MetFree.of_bodySF (plainFor_of_name pn_2) hisR ?_
  intro p e s m args below meth c s₁ Bd hml0 hP hK
  obtain ⟨rfl, hZ, hh⟩ := hP
  have hx := Bd.exec
  have hby := Bd.bytes
  have hml : c.maxLocals = 1 := hml0
  have hown : s.vm.findClass "java/lang/String" = some m.cls := findClass_of_methodNamed Bd.named
  have hnm := (name_of_methodNamed Bd.named Bd.method).1
  have X0 : Stand p l e ({ frames := 0, cells := 0, slots := 0, locals := 0 } : Room) s m #[(.ref a)] below meth c s₁ [] 0 0 := Stand.of_body Bd
  have e0 : s₁.heap = h0 := by rw [← hh, Bd.state]; rfl
  have N0 := Fr.nil n0
  obtain ⟨A0, hA0⟩ : ∃ A, A = s₁.setTop (entryFrame m #[(.ref a)] 1) := ⟨_, rfl⟩
  have G0 : Go p e below A0 (s₁.setTop (mkF m 0 #[.val (.ref a)] [])) := fun tq kq => by rw [hA0]; exact castTop (ef_rmL1 m a) kq
  obtain ⟨T27, X27, e27, st27⟩ := getS2 X0 hx hZ hown (host := "") (Or.inl (hw _ (List.mem_of_getElem? (i := 32) rfl))) Via.refl e0 hCS (g := (mkF m 0 #[.val (.ref a)] [])) rfl (hb hby d7_0)
  have G28 : Go p e below A0 (T27.setTop (mkF m 3 #[.val (.ref a)] [(.int cs)])) := fun tq kq => G0 tq (st27 _ kq)
  have G29 : Go p e below A0 (T27.setTop (mkF m 7 #[.val (.ref a)] [(.ref a)])) := fun tq kq => G28 tq (by
    refine XS.ifNo X27.here hx rfl (hb hby d7_3) rfl ((if0 _ _).trans (feq hcs).1) ?_
    show Steps p.tables e below (T27.setTop (mkF m 6 #[.val (.ref a)] [])) _
    refine XS.aloadN X27.here hx rfl (hb hby d7_6) rfl rfl ?_
    show Steps p.tables e below (T27.setTop (mkF m 7 #[.val (.ref a)] [(.ref a)])) _
    exact kq)
  obtain ⟨T30, X30, e30, st30⟩ := getF X27 hx hZ hown (host := "") (Or.inl (hw _ (List.mem_of_getElem? (i := 33) rfl))) Via.refl e27 Fc (g := (mkF m 7 #[.val (.ref a)] [(.ref a)])) rfl rfl (hb hby d7_7)
  have G31 : Go p e below A0 (T30.setTop (mkF m 10 #[.val (.ref a)] [(.int (0 : Int32))])) := fun tq kq => G29 tq (st30 _ kq)
  have G32 : Go p e below A0 (T30.setTop (mkF m 18 #[.val (.ref a)] [(.int (1 : Int32))])) := fun tq kq => G31 tq (by
    refine XS.ifNo X30.here hx rfl (hb hby d7_10) rfl (by decide) ?_
    show Steps p.tables e below (T30.setTop (mkF m 13 #[.val (.ref a)] [])) _
    refine XS.iconst X30.here hx rfl (hb hby d7_13) ?_
    show Steps p.tables e below (T30.setTop (mkF m 14 #[.val (.ref a)] [(.int (1 : Int32))])) _
    refine XS.goto X30.here hx rfl (pc0 := 14) (pc' := 18) rfl (hb hby d7_14) (by decide) (by decide) ?_
    show Steps p.tables e below (T30.setTop (mkF m 18 #[.val (.ref a)] [(.int (1 : Int32))])) _
    exact kq)
  obtain ⟨fs, hr, hrun, hended, hW, hsame⟩ := X30.leave (v := some (.int (nar .boolean (1 : Int32)))) (fun h => by rw [Bd.returns] at h; cases h)
  refine ⟨_, _, (by rw [← hA0]; exact G32 _ (retN X30 hx (t := .boolean) Bd.returns (by simp) (hb hby d7_18) hr)), hrun, hended, _, _, rfl, ?_, ⟨_, rfl⟩, hW, hsame.mono (by decide) (by decide)⟩
  exact ⟨rfl, N0, e30⟩
set_option maxRecDepth 65536 in
set_option maxHeartbeats 40000000 in
theorem rmLe (l : Launch) (Z : State) (a0 : Array Value) (hw : ∀ d ∈ tables_1, d.before a0 Z = true) (ws : List Jvm.Cond) (a b : Addr) (kb : ClassId) (cs : Int32) (fo : Value) (h0 : Heap) (n0 : Nat) (Z0 : n0 ≤ h0.size) (E : Exa Z h0 a "java/lang/String") (Fv : Fld Z h0 a "java/lang/String" "value" "[B" (.ref b)) (Fc : Fld Z h0 a "java/lang/String" "coder" "B" (.int (0 : Int32))) (Ab : Arv Z h0 b kb .byte (6 : Int32) [(.int (91 : Int32)), (.int (32 : Int32)), (.int (9 : Int32)), (.int (13 : Int32)), (.int (10 : Int32)), (.int (93 : Int32))] (.int (0 : Int32))) (hCS : Sta Z h0 "java/lang/String" "COMPACT_STRINGS" "Z" (.int cs)) (hcs : ¬ cs = (0 : Int32)) (hSF : Sta Z h0 "jdk/internal/util/Preconditions" "SIOOBE_FORMATTER" "Ljava/util/function/BiFunction;" fo) (hfo : fo.isRef = true) :
    MetFree l (⟨"java/lang/String", "length", "()I"⟩ : MethodName) (head1 (Jvm.Cond.code (⟨"java/lang/String", "length", "()I"⟩ : MethodName) jdk_42_method_54_code 1 (some .int) :: ws) ({ frames := 1, cells := 0, slots := 0, locals := 13 } : Room)) (fun aa UU => aa = #[(.ref a)] ∧ Z.Warmed39 UU.vm ∧ UU.heap = h0) (fun _ _ _ _ _ => True) (fun _ UU oo U' => ∃ v L, oo = .returned v ∧ Qr (.int (6 : Int32)) h0 n0 v U'.heap L ∧ FrameEnd UU oo U' L ({ frames := 1, cells := 0, slots := 0, locals := 13 } : Room).cells ({ frames := 1, cells := 0, slots := 0, locals := 13 } : Room).slots) := by
  refine MetFree.of_bodySF (plainFor_of_name pn_2) hisR ?_
  intro p e s m args below meth c s₁ Bd hml0 hP hK
  obtain ⟨rfl, hZ, hh⟩ := hP
  have hx := Bd.exec
  have hby := Bd.bytes
  have hml : c.maxLocals = 1 := hml0
  have hown : s.vm.findClass "java/lang/String" = some m.cls := findClass_of_methodNamed Bd.named
  have hnm := (name_of_methodNamed Bd.named Bd.method).1
  have X0 : Stand p l e ({ frames := 1, cells := 0, slots := 0, locals := 13 } : Room) s m #[(.ref a)] below meth c s₁ [] 0 0 := Stand.of_body Bd
  have e0 : s₁.heap = h0 := by rw [← hh, Bd.state]; rfl
  have N0 := Fr.nil n0
  obtain ⟨A0, hA0⟩ : ∃ A, A = s₁.setTop (entryFrame m #[(.ref a)] 1) := ⟨_, rfl⟩
  have G0 : Go p e below A0 (s₁.setTop (mkF m 0 #[.val (.ref a)] [])) := fun tq kq => by rw [hA0]; exact castTop (ef_rmLe m a) kq
  have G33 : Go p e below A0 (s₁.setTop (mkF m 1 #[.val (.ref a)] [(.ref a)])) := fun tq kq => G0 tq (by
    refine XS.aloadN X0.here hx rfl (hb hby d4_0) rfl rfl ?_
    show Steps p.tables e below (s₁.setTop (mkF m 1 #[.val (.ref a)] [(.ref a)])) _
    exact kq)
  obtain ⟨T34, X34, e34, st34⟩ := getF X0 hx hZ hown (host := "") (Or.inl (hw _ (List.mem_of_getElem? (i := 26) rfl))) Via.refl e0 Fv (g := (mkF m 1 #[.val (.ref a)] [(.ref a)])) rfl rfl (hb hby d4_1)
  have G35 : Go p e below A0 (T34.setTop (mkF m 4 #[.val (.ref a)] [(.ref b)])) := fun tq kq => G33 tq (st34 _ kq)
  obtain ⟨cl36, Ar36, q36, S36, M36, H36, Gf36⟩ := id Ab
  have G37 : Go p e below A0 (T34.setTop (mkF m 6 #[.val (.ref a)] [(.ref a), (.int (6 : Int32))])) := fun tq kq => G35 tq (by
    refine X34.arraylength hx (by rw [e34]; exact Ar36.1) (State.isArrayOf_alike hZ.alike Ar36.2.1) (g := (mkF m 4 #[.val (.ref a)] [(.ref b)])) rfl rfl (hb hby d4_4) _ ?_
    rw [len_of S36 M36]
    show Steps p.tables e below (T34.setTop (mkF m 5 #[.val (.ref a)] [(.int (6 : Int32))])) _
    refine XS.aloadN X34.here hx rfl (hb hby d4_5) rfl rfl ?_
    show Steps p.tables e below (T34.setTop (mkF m 6 #[.val (.ref a)] [(.ref a), (.int (6 : Int32))])) _
    exact kq)
  obtain ⟨cq38, kq38, q38a, q38b, q38c⟩ := isOf hZ e34 E
  obtain ⟨_, _, ⟨T38, L38, k38, n38⟩, -, X38, ⟨Lc38, hQ38, l38, y38, z38⟩, st38⟩ := X34.virtualBack hx (y := (⟨"java/lang/String", "coder", "()B"⟩ : MethodName)) (z := (⟨"java/lang/String", "coder", "()B"⟩ : MethodName)) hown (mvT hZ (hw _ (List.mem_of_getElem? (i := 27) rfl))) (mvT hZ (hw _ (List.mem_of_getElem? (i := 28) rfl))) (notFace_of_selects (args := #[]) (mvT hZ (hw _ (List.mem_of_getElem? (i := 30) rfl)))) (mvT hZ (hw _ (List.mem_of_getElem? (i := 30) rfl))) (mvT hZ (hw _ (List.mem_of_getElem? (i := 29) rfl))) (by decide) (backOf (W := 1) (rmCo l Z a0 hw [] a b kb cs fo h0 n0 Z0 E Fv Fc Ab hCS hcs hSF hfo) hZ (hw _ (List.mem_of_getElem? (i := 31) rfl)) (hw _ (List.mem_of_getElem? (i := 14) rfl)) (by decide) (by decide)) q38a q38c (g := (mkF m 6 #[.val (.ref a)] [(.ref a), (.int (6 : Int32))])) rfl (by rw [hml]; rfl) (Steps.refl _) (argsL := []) (rest := [(.int (6 : Int32))]) (lenOf pd_0 rfl) rfl (by show 2 * 0 + _ ≤ _; exact Nat.le_of_eq rfl) (hb hby d4_6) (fun _ _ => ⟨rfl, e34, (by decide : 0 + 0 ≤ _), (by decide : 0 + 0 ≤ _)⟩)
  dsimp only [Pt.U, Pt.locs, Pt.cells, Pt.slots] at X38 l38 y38 z38 st38 hQ38
  obtain rfl : k38 = 0 := y38
  obtain rfl : n38 = 0 := z38
  obtain ⟨rfl, N38q, e38⟩ := hQ38
  have N38 : Fr n0 L38 := by rw [l38]; exact Fr.app N0 N38q
  have G39 : Go p e below A0 (T38.setTop (mkF m 9 #[.val (.ref a)] [(.int (0 : Int32)), (.int (6 : Int32))])) := fun tq kq => G37 tq (st38.trans kq)
  have G40 : Go p e below A0 (T38.setTop (mkF m 10 #[.val (.ref a)] [(.int (6 : Int32))])) := fun tq kq => G39 tq (by
    refine XS.ishr X38.here hx rfl (hb hby d4_9) rfl ?_
    show Steps p.tables e below (T38.setTop (mkF m 10 #[.val (.ref a)] [(.int ((6 : Int32) >>> ((0 : Int32) &&& 31)))])) _
    rw [show ((6 : Int32) >>> ((0 : Int32) &&& 31)) = (6 : Int32) from (by decide)]
    show Steps p.tables e below (T38.setTop (mkF m 10 #[.val (.ref a)] [(.int (6 : Int32))])) _
    exact kq)
  obtain ⟨fs, hr, hrun, hended, hW, hsame⟩ := X38.leave (v := some (.int (6 : Int32))) (fun h => by rw [Bd.returns] at h; cases h)
  refine ⟨_, _, (by rw [← hA0]; exact G40 _ (retOut X38 hx (t := .int) Bd.returns rfl (Or.inl ⟨rfl, Or.inl rfl, _, rfl⟩) (hb hby d4_10) hr)), hrun, hended, _, _, rfl, ?_, ⟨_, rfl⟩, hW, hsame.mono (by decide) (by decide)⟩
  exact ⟨rfl, N38, e38⟩
set_option maxRecDepth 65536 in
set_option maxHeartbeats 40000000 in
theorem rmPC (l : Launch) (Z : State) (a0 : Array Value) (hw : ∀ d ∈ tables_1, d.before a0 Z = true) (ws : List Jvm.Cond) (i_ n_ : Int32) (fo : Value) (h0 : Heap) (n0 : Nat) (Z0 : n0 ≤ h0.size) (hfo : fo.isRef = true) (hi : ¬ i_ < (0 : Int32) ∧ i_ < n_) :
    MetFree l (⟨"jdk/internal/util/Preconditions", "checkIndex", "(IILjava/util/function/BiFunction;)I"⟩ : MethodName) (head1 (Jvm.Cond.code (⟨"jdk/internal/util/Preconditions", "checkIndex", "(IILjava/util/function/BiFunction;)I"⟩ : MethodName) jdk_41_method_11_code 3 (some .int) :: ws) ({ frames := 0, cells := 0, slots := 0, locals := 0 } : Room)) (fun aa UU => aa = #[(.int i_), (.int n_), fo] ∧ Z.Warmed39 UU.vm ∧ UU.heap = h0) (fun _ _ _ _ _ => True) (fun _ UU oo U' => ∃ v L, oo = .returned v ∧ Qr (.int i_) h0 n0 v U'.heap L ∧ FrameEnd UU oo U' L ({ frames := 0, cells := 0, slots := 0, locals := 0 } : Room).cells ({ frames := 0, cells := 0, slots := 0, locals := 0 } : Room).slots) := by
  refine MetFree.of_bodySF (plainFor_of_name pn_3) hisR ?_
  intro p e s m args below meth c s₁ Bd hml0 hP hK
  obtain ⟨rfl, hZ, hh⟩ := hP
  have hx := Bd.exec
  have hby := Bd.bytes
  have hml : c.maxLocals = 3 := hml0
  have hown : s.vm.findClass "jdk/internal/util/Preconditions" = some m.cls := findClass_of_methodNamed Bd.named
  have hnm := (name_of_methodNamed Bd.named Bd.method).1
  have X0 : Stand p l e ({ frames := 0, cells := 0, slots := 0, locals := 0 } : Room) s m #[(.int i_), (.int n_), fo] below meth c s₁ [] 0 0 := Stand.of_body Bd
  have e0 : s₁.heap = h0 := by rw [← hh, Bd.state]; rfl
  have N0 := Fr.nil n0
  obtain ⟨A0, hA0⟩ : ∃ A, A = s₁.setTop (entryFrame m #[(.int i_), (.int n_), fo] 3) := ⟨_, rfl⟩
  have G0 : Go p e below A0 (s₁.setTop (mkF m 0 #[.val (.int i_), .val (.int n_), .val fo] [])) := fun tq kq => by rw [hA0]; exact castTop (ef_rmPC m i_ n_ fo hfo) kq
  have G41 : Go p e below A0 (s₁.setTop (mkF m 17 #[.val (.int i_), .val (.int n_), .val fo] [(.int i_)])) := fun tq kq => G0 tq (by
    refine XS.iloadN X0.here hx rfl (hb hby d10_0) rfl ?_
    show Steps p.tables e below (s₁.setTop (mkF m 1 #[.val (.int i_), .val (.int n_), .val fo] [(.int i_)])) _
    refine XS.ifNo X0.here hx rfl (hb hby d10_1) rfl ((if0 _ _).trans (flt hi.1).1) ?_
    show Steps p.tables e below (s₁.setTop (mkF m 4 #[.val (.int i_), .val (.int n_), .val fo] [])) _
    refine XS.iloadN X0.here hx rfl (hb hby d10_4) rfl ?_
    show Steps p.tables e below (s₁.setTop (mkF m 5 #[.val (.int i_), .val (.int n_), .val fo] [(.int i_)])) _
    refine XS.iloadN X0.here hx rfl (hb hby d10_5) rfl ?_
    show Steps p.tables e below (s₁.setTop (mkF m 6 #[.val (.int i_), .val (.int n_), .val fo] [(.int n_), (.int i_)])) _
    refine XS.icmpYes X0.here hx rfl (pc0 := 6) (pc' := 16) rfl (hb hby d10_6) rfl (tlt hi.2).1 (by decide) (by decide) ?_
    show Steps p.tables e below (s₁.setTop (mkF m 16 #[.val (.int i_), .val (.int n_), .val fo] [])) _
    refine XS.iloadN X0.here hx rfl (hb hby d10_16) rfl ?_
    show Steps p.tables e below (s₁.setTop (mkF m 17 #[.val (.int i_), .val (.int n_), .val fo] [(.int i_)])) _
    exact kq)
  obtain ⟨fs, hr, hrun, hended, hW, hsame⟩ := X0.leave (v := some (.int i_)) (fun h => by rw [Bd.returns] at h; cases h)
  refine ⟨_, _, (by rw [← hA0]; exact G41 _ (retOut X0 hx (t := .int) Bd.returns rfl (Or.inl ⟨rfl, Or.inl rfl, _, rfl⟩) (hb hby d10_17) hr)), hrun, hended, _, _, rfl, ?_, ⟨_, rfl⟩, hW, hsame.mono (by decide) (by decide)⟩
  exact ⟨rfl, N0, e0⟩
set_option maxRecDepth 65536 in
set_option maxHeartbeats 40000000 in
theorem rmCI (l : Launch) (Z : State) (a0 : Array Value) (hw : ∀ d ∈ tables_1, d.before a0 Z = true) (ws : List Jvm.Cond) (i_ n_ cs : Int32) (fo : Value) (h0 : Heap) (n0 : Nat) (Z0 : n0 ≤ h0.size) (hCS : Sta Z h0 "java/lang/String" "COMPACT_STRINGS" "Z" (.int cs)) (hcs : ¬ cs = (0 : Int32)) (hSF : Sta Z h0 "jdk/internal/util/Preconditions" "SIOOBE_FORMATTER" "Ljava/util/function/BiFunction;" fo) (hfo : fo.isRef = true) (hi : ¬ i_ < (0 : Int32) ∧ i_ < n_) :
    MetFree l (⟨"java/lang/String", "checkIndex", "(II)V"⟩ : MethodName) (head1 (Jvm.Cond.code (⟨"java/lang/String", "checkIndex", "(II)V"⟩ : MethodName) jdk_42_method_155_code 2 none :: ws) ({ frames := 1, cells := 0, slots := 0, locals := 14 } : Room)) (fun aa UU => aa = #[(.int i_), (.int n_)] ∧ Z.Warmed39 UU.vm ∧ UU.heap = h0) (fun _ _ _ _ _ => True) (fun _ UU oo U' => ∃ v L, oo = .returned v ∧ Qn h0 n0 v U'.heap L ∧ FrameEnd UU oo U' L ({ frames := 1, cells := 0, slots := 0, locals := 14 } : Room).cells ({ frames := 1, cells := 0, slots := 0, locals := 14 } : Room).slots) := by
  refine MetFree.of_bodySF (plainFor_of_name pn_2) hisR ?_
  intro p e s m args below meth c s₁ Bd hml0 hP hK
  obtain ⟨rfl, hZ, hh⟩ := hP
  have hx := Bd.exec
  have hby := Bd.bytes
  have hml : c.maxLocals = 2 := hml0
  have hown : s.vm.findClass "java/lang/String" = some m.cls := findClass_of_methodNamed Bd.named
  have hnm := (name_of_methodNamed Bd.named Bd.method).1
  have X0 : Stand p l e ({ frames := 1, cells := 0, slots := 0, locals := 14 } : Room) s m #[(.int i_), (.int n_)] below meth c s₁ [] 0 0 := Stand.of_body Bd
  have e0 : s₁.heap = h0 := by rw [← hh, Bd.state]; rfl
  have N0 := Fr.nil n0
  obtain ⟨A0, hA0⟩ : ∃ A, A = s₁.setTop (entryFrame m #[(.int i_), (.int n_)] 2) := ⟨_, rfl⟩
  have G0 : Go p e below A0 (s₁.setTop (mkF m 0 #[.val (.int i_), .val (.int n_)] [])) := fun tq kq => by rw [hA0]; exact castTop (ef_rmCI m i_ n_) kq
  have G42 : Go p e below A0 (s₁.setTop (mkF m 2 #[.val (.int i_), .val (.int n_)] [(.int n_), (.int i_)])) := fun tq kq => G0 tq (by
    refine XS.iloadN X0.here hx rfl (hb hby d9_0) rfl ?_
    show Steps p.tables e below (s₁.setTop (mkF m 1 #[.val (.int i_), .val (.int n_)] [(.int i_)])) _
    refine XS.iloadN X0.here hx rfl (hb hby d9_1) rfl ?_
    show Steps p.tables e below (s₁.setTop (mkF m 2 #[.val (.int i_), .val (.int n_)] [(.int n_), (.int i_)])) _
    exact kq)
  obtain ⟨T43, X43, e43, st43⟩ := getS2 X0 hx hZ hown (host := "") (Or.inl (hw _ (List.mem_of_getElem? (i := 51) rfl))) Via.refl e0 hSF (g := (mkF m 2 #[.val (.int i_), .val (.int n_)] [(.int n_), (.int i_)])) rfl (hb hby d9_2)
  have G44 : Go p e below A0 (T43.setTop (mkF m 5 #[.val (.int i_), .val (.int n_)] [fo, (.int n_), (.int i_)])) := fun tq kq => G42 tq (st43 _ kq)
  obtain ⟨_, _, ⟨T45, L45, k45, n45⟩, -, X45, ⟨Lc45, hQ45, l45, y45, z45⟩, st45⟩ := Jvm.LawKit.callS X43 hx (y := (⟨"jdk/internal/util/Preconditions", "checkIndex", "(IILjava/util/function/BiFunction;)I"⟩ : MethodName)) hown (mvT hZ (hw _ (List.mem_of_getElem? (i := 53) rfl))) (mvT hZ (hw _ (List.mem_of_getElem? (i := 54) rfl))) (mvT hZ (hw _ (List.mem_of_getElem? (i := 52) rfl))) (mvT hZ (hw _ (List.mem_of_getElem? (i := 55) rfl))) (by decide) (backOf (W := 0) (rmPC l Z a0 hw [] i_ n_ fo h0 n0 Z0 hfo hi) hZ (hw _ (List.mem_of_getElem? (i := 55) rfl)) (hw _ (List.mem_of_getElem? (i := 52) rfl)) (by decide) (by decide)) (g := (mkF m 5 #[.val (.int i_), .val (.int n_)] [fo, (.int n_), (.int i_)])) rfl (by rw [hml]; rfl) (argsL := [(.int i_), (.int n_), fo]) (rest := []) (lenOf pd_1 rfl) rfl (by show 2 * 0 + _ ≤ _; exact Nat.le_of_eq rfl) (hb hby d9_5) (fun _ _ => ⟨rfl, e43, (by decide : 0 + 0 ≤ _), (by decide : 0 + 0 ≤ _)⟩)
  dsimp only [Pt.U, Pt.locs, Pt.cells, Pt.slots] at X45 l45 y45 z45 st45 hQ45
  obtain rfl : k45 = 0 := y45
  obtain rfl : n45 = 0 := z45
  obtain ⟨rfl, N45q, e45⟩ := hQ45
  have N45 : Fr n0 L45 := by rw [l45]; exact Fr.app N0 N45q
  have G46 : Go p e below A0 (T45.setTop (mkF m 8 #[.val (.int i_), .val (.int n_)] [(.int i_)])) := fun tq kq => G44 tq (st45 _ kq)
  have G47 : Go p e below A0 (T45.setTop (mkF m 9 #[.val (.int i_), .val (.int n_)] [])) := fun tq kq => G46 tq (by
    refine XS.pop X45.here hx rfl (hb hby d9_8) rfl rfl ?_
    show Steps p.tables e below (T45.setTop (mkF m 9 #[.val (.int i_), .val (.int n_)] [])) _
    exact kq)
  obtain ⟨fs, hr, hrun, hended, hW, hsame⟩ := X45.leave (v := none) (fun _ => rfl)
  refine ⟨_, _, (by rw [← hA0]; exact G47 _ (X45.returnOut hx Bd.returns (hb hby d9_9) hr)), hrun, hended, _, _, rfl, ?_, ⟨_, rfl⟩, hW, hsame.mono (by decide) (by decide)⟩
  exact ⟨rfl, N45, e45⟩
set_option maxRecDepth 65536 in
set_option maxHeartbeats 40000000 in
theorem rmCL0 (l : Launch) (Z : State) (a0 : Array Value) (hw : ∀ d ∈ tables_1, d.before a0 Z = true) (ws : List Jvm.Cond) (a b : Addr) (kb : ClassId) (cs : Int32) (fo : Value) (h0 : Heap) (n0 : Nat) (Z0 : n0 ≤ h0.size) (E : Exa Z h0 a "java/lang/String") (Fv : Fld Z h0 a "java/lang/String" "value" "[B" (.ref b)) (Fc : Fld Z h0 a "java/lang/String" "coder" "B" (.int (0 : Int32))) (Ab : Arv Z h0 b kb .byte (6 : Int32) [(.int (91 : Int32)), (.int (32 : Int32)), (.int (9 : Int32)), (.int (13 : Int32)), (.int (10 : Int32)), (.int (93 : Int32))] (.int (0 : Int32))) (hCS : Sta Z h0 "java/lang/String" "COMPACT_STRINGS" "Z" (.int cs)) (hcs : ¬ cs = (0 : Int32)) (hSF : Sta Z h0 "jdk/internal/util/Preconditions" "SIOOBE_FORMATTER" "Ljava/util/function/BiFunction;" fo) (hfo : fo.isRef = true) :
    MetFree l (⟨"java/lang/StringLatin1", "charAt", "([BI)C"⟩ : MethodName) (head1 (Jvm.Cond.code (⟨"java/lang/StringLatin1", "charAt", "([BI)C"⟩ : MethodName) jdk_43_method_2_code 2 (some .char) :: ws) ({ frames := 2, cells := 0, slots := 0, locals := 27 } : Room)) (fun aa UU => aa = #[(.ref b), (.int (0 : Int32))] ∧ Z.Warmed39 UU.vm ∧ UU.heap = h0) (fun _ _ _ _ _ => True) (fun _ UU oo U' => ∃ v L, oo = .returned v ∧ Qr (.int (91 : Int32)) h0 n0 v U'.heap L ∧ FrameEnd UU oo U' L ({ frames := 2, cells := 0, slots := 0, locals := 27 } : Room).cells ({ frames := 2, cells := 0, slots := 0, locals := 27 } : Room).slots) := by
  refine MetFree.of_bodySF (plainFor_of_name pn_4) hisR ?_
  intro p e s m args below meth c s₁ Bd hml0 hP hK
  obtain ⟨rfl, hZ, hh⟩ := hP
  have hx := Bd.exec
  have hby := Bd.bytes
  have hml : c.maxLocals = 2 := hml0
  have hown : s.vm.findClass "java/lang/StringLatin1" = some m.cls := findClass_of_methodNamed Bd.named
  have hnm := (name_of_methodNamed Bd.named Bd.method).1
  have X0 : Stand p l e ({ frames := 2, cells := 0, slots := 0, locals := 27 } : Room) s m #[(.ref b), (.int (0 : Int32))] below meth c s₁ [] 0 0 := Stand.of_body Bd
  have e0 : s₁.heap = h0 := by rw [← hh, Bd.state]; rfl
  have N0 := Fr.nil n0
  obtain ⟨A0, hA0⟩ : ∃ A, A = s₁.setTop (entryFrame m #[(.ref b), (.int (0 : Int32))] 2) := ⟨_, rfl⟩
  have G0 : Go p e below A0 (s₁.setTop (mkF m 0 #[.val (.ref b), .val (.int (0 : Int32))] [])) := fun tq kq => by rw [hA0]; exact castTop (ef_rmCL0 m b (0 : Int32)) kq
  have G48 : Go p e below A0 (s₁.setTop (mkF m 2 #[.val (.ref b), .val (.int (0 : Int32))] [(.ref b), (.int (0 : Int32))])) := fun tq kq => G0 tq (by
    refine XS.iloadN X0.here hx rfl (hb hby d8_0) rfl ?_
    show Steps p.tables e below (s₁.setTop (mkF m 1 #[.val (.ref b), .val (.int (0 : Int32))] [(.int (0 : Int32))])) _
    refine XS.aloadN X0.here hx rfl (hb hby d8_1) rfl rfl ?_
    show Steps p.tables e below (s₁.setTop (mkF m 2 #[.val (.ref b), .val (.int (0 : Int32))] [(.ref b), (.int (0 : Int32))])) _
    exact kq)
  obtain ⟨cl49, Ar49, q49, S49, M49, H49, Gf49⟩ := id Ab
  have G50 : Go p e below A0 (s₁.setTop (mkF m 3 #[.val (.ref b), .val (.int (0 : Int32))] [(.int (6 : Int32)), (.int (0 : Int32))])) := fun tq kq => G48 tq (by
    refine X0.arraylength hx (by rw [e0]; exact Ar49.1) (State.isArrayOf_alike hZ.alike Ar49.2.1) (g := (mkF m 2 #[.val (.ref b), .val (.int (0 : Int32))] [(.ref b), (.int (0 : Int32))])) rfl rfl (hb hby d8_2) _ ?_
    rw [len_of S49 M49]
    show Steps p.tables e below (s₁.setTop (mkF m 3 #[.val (.ref b), .val (.int (0 : Int32))] [(.int (6 : Int32)), (.int (0 : Int32))])) _
    exact kq)
  obtain ⟨_, _, ⟨T51, L51, k51, n51⟩, -, X51, ⟨Lc51, hQ51, l51, y51, z51⟩, st51⟩ := Jvm.LawKit.callS X0 hx (y := (⟨"java/lang/String", "checkIndex", "(II)V"⟩ : MethodName)) hown (mvT hZ (hw _ (List.mem_of_getElem? (i := 48) rfl))) (mvT hZ (hw _ (List.mem_of_getElem? (i := 49) rfl))) (mvT hZ (hw _ (List.mem_of_getElem? (i := 14) rfl))) (mvT hZ (hw _ (List.mem_of_getElem? (i := 50) rfl))) (by decide) (backOf (W := 0) (rmCI l Z a0 hw [] (0 : Int32) (6 : Int32) cs fo h0 n0 Z0 hCS hcs hSF hfo ⟨by decide, by decide⟩) hZ (hw _ (List.mem_of_getElem? (i := 50) rfl)) (hw _ (List.mem_of_getElem? (i := 14) rfl)) (by decide) (by decide)) (g := (mkF m 3 #[.val (.ref b), .val (.int (0 : Int32))] [(.int (6 : Int32)), (.int (0 : Int32))])) rfl (by rw [hml]; rfl) (argsL := [(.int (0 : Int32)), (.int (6 : Int32))]) (rest := []) (lenOf pd_2 rfl) rfl (by show 2 * 0 + _ ≤ _; exact Nat.le_of_eq rfl) (hb hby d8_3) (fun _ _ => ⟨rfl, e0, (by decide : 0 + 0 ≤ _), (by decide : 0 + 0 ≤ _)⟩)
  dsimp only [Pt.U, Pt.locs, Pt.cells, Pt.slots] at X51 l51 y51 z51 st51 hQ51
  obtain rfl : k51 = 0 := y51
  obtain rfl : n51 = 0 := z51
  obtain ⟨rfl, N51q, e51⟩ := hQ51
  have N51 : Fr n0 L51 := by rw [l51]; exact Fr.app N0 N51q
  have G52 : Go p e below A0 (T51.setTop (mkF m 6 #[.val (.ref b), .val (.int (0 : Int32))] [])) := fun tq kq => G50 tq (st51 _ kq)
  have G53 : Go p e below A0 (T51.setTop (mkF m 8 #[.val (.ref b), .val (.int (0 : Int32))] [(.int (0 : Int32)), (.ref b)])) := fun tq kq => G52 tq (by
    refine XS.aloadN X51.here hx rfl (hb hby d8_6) rfl rfl ?_
    show Steps p.tables e below (T51.setTop (mkF m 7 #[.val (.ref b), .val (.int (0 : Int32))] [(.ref b)])) _
    refine XS.iloadN X51.here hx rfl (hb hby d8_7) rfl ?_
    show Steps p.tables e below (T51.setTop (mkF m 8 #[.val (.ref b), .val (.int (0 : Int32))] [(.int (0 : Int32)), (.ref b)])) _
    exact kq)
  obtain ⟨cl54, Ar54, q54, S54, M54, H54, Gf54⟩ := id Ab
  have hi55 : ¬ ((0 : Int32) < 0 ∨ cl54.slots.size ≤ ((0 : Int32)).toNatClampNeg) := (inb_of S54 ⟨by decide, by decide⟩)
  have G56 : Go p e below A0 (T51.setTop (mkF m 14 #[.val (.ref b), .val (.int (0 : Int32))] [(.int (91 : Int32))])) := fun tq kq => G53 tq (by
    refine X51.baloadBytes hx (j := (0 : Int32)) (v := (.int (91 : Int32))) (by rw [e51]; exact Ar54.1) (State.isArrayOf_alike hZ.alike Ar54.2.1) Ar54.2.2 hi55 (H54.at hi55 rfl) (g := (mkF m 8 #[.val (.ref b), .val (.int (0 : Int32))] [(.int (0 : Int32)), (.ref b)])) rfl rfl (hb hby d8_8) _ ?_
    show Steps p.tables e below (T51.setTop (mkF m 9 #[.val (.ref b), .val (.int (0 : Int32))] [(.int (91 : Int32))])) _
    refine XS.sipush X51.here hx rfl (hb hby d8_9) ?_
    show Steps p.tables e below (T51.setTop (mkF m 12 #[.val (.ref b), .val (.int (0 : Int32))] [(.int (255 : Int32)), (.int (91 : Int32))])) _
    refine XS.iand X51.here hx rfl (hb hby d8_12) rfl ?_
    show Steps p.tables e below (T51.setTop (mkF m 13 #[.val (.ref b), .val (.int (0 : Int32))] [(.int ((91 : Int32) &&& (255 : Int32)))])) _
    rw [show ((91 : Int32) &&& (255 : Int32)) = (91 : Int32) from (by decide)]
    show Steps p.tables e below (T51.setTop (mkF m 13 #[.val (.ref b), .val (.int (0 : Int32))] [(.int (91 : Int32))])) _
    refine XS.i2c X51.here hx rfl (hb hby d8_13) rfl ?_
    show Steps p.tables e below (T51.setTop (mkF m 14 #[.val (.ref b), .val (.int (0 : Int32))] [(.int (91 : Int32).toUInt32.toUInt16.toUInt32.toInt32)])) _
    rw [show (91 : Int32).toUInt32.toUInt16.toUInt32.toInt32 = (91 : Int32) from (by decide)]
    show Steps p.tables e below (T51.setTop (mkF m 14 #[.val (.ref b), .val (.int (0 : Int32))] [(.int (91 : Int32))])) _
    exact kq)
  obtain ⟨fs, hr, hrun, hended, hW, hsame⟩ := X51.leave (v := some (.int (nar .char (91 : Int32)))) (fun h => by rw [Bd.returns] at h; cases h)
  refine ⟨_, _, (by rw [← hA0]; exact G56 _ (retN X51 hx (t := .char) Bd.returns (by simp) (hb hby d8_14) hr)), hrun, hended, _, _, rfl, ?_, ⟨_, rfl⟩, hW, hsame.mono (by decide) (by decide)⟩
  exact ⟨rfl, N51, e51⟩
set_option maxRecDepth 65536 in
set_option maxHeartbeats 40000000 in
theorem rmCL1 (l : Launch) (Z : State) (a0 : Array Value) (hw : ∀ d ∈ tables_1, d.before a0 Z = true) (ws : List Jvm.Cond) (a b : Addr) (kb : ClassId) (cs : Int32) (fo : Value) (h0 : Heap) (n0 : Nat) (Z0 : n0 ≤ h0.size) (E : Exa Z h0 a "java/lang/String") (Fv : Fld Z h0 a "java/lang/String" "value" "[B" (.ref b)) (Fc : Fld Z h0 a "java/lang/String" "coder" "B" (.int (0 : Int32))) (Ab : Arv Z h0 b kb .byte (6 : Int32) [(.int (91 : Int32)), (.int (32 : Int32)), (.int (9 : Int32)), (.int (13 : Int32)), (.int (10 : Int32)), (.int (93 : Int32))] (.int (0 : Int32))) (hCS : Sta Z h0 "java/lang/String" "COMPACT_STRINGS" "Z" (.int cs)) (hcs : ¬ cs = (0 : Int32)) (hSF : Sta Z h0 "jdk/internal/util/Preconditions" "SIOOBE_FORMATTER" "Ljava/util/function/BiFunction;" fo) (hfo : fo.isRef = true) :
    MetFree l (⟨"java/lang/StringLatin1", "charAt", "([BI)C"⟩ : MethodName) (head1 (Jvm.Cond.code (⟨"java/lang/StringLatin1", "charAt", "([BI)C"⟩ : MethodName) jdk_43_method_2_code 2 (some .char) :: ws) ({ frames := 2, cells := 0, slots := 0, locals := 27 } : Room)) (fun aa UU => aa = #[(.ref b), (.int (1 : Int32))] ∧ Z.Warmed39 UU.vm ∧ UU.heap = h0) (fun _ _ _ _ _ => True) (fun _ UU oo U' => ∃ v L, oo = .returned v ∧ Qr (.int (32 : Int32)) h0 n0 v U'.heap L ∧ FrameEnd UU oo U' L ({ frames := 2, cells := 0, slots := 0, locals := 27 } : Room).cells ({ frames := 2, cells := 0, slots := 0, locals := 27 } : Room).slots) := by
  refine MetFree.of_bodySF (plainFor_of_name pn_4) hisR ?_
  intro p e s m args below meth c s₁ Bd hml0 hP hK
  obtain ⟨rfl, hZ, hh⟩ := hP
  have hx := Bd.exec
  have hby := Bd.bytes
  have hml : c.maxLocals = 2 := hml0
  have hown : s.vm.findClass "java/lang/StringLatin1" = some m.cls := findClass_of_methodNamed Bd.named
  have hnm := (name_of_methodNamed Bd.named Bd.method).1
  have X0 : Stand p l e ({ frames := 2, cells := 0, slots := 0, locals := 27 } : Room) s m #[(.ref b), (.int (1 : Int32))] below meth c s₁ [] 0 0 := Stand.of_body Bd
  have e0 : s₁.heap = h0 := by rw [← hh, Bd.state]; rfl
  have N0 := Fr.nil n0
  obtain ⟨A0, hA0⟩ : ∃ A, A = s₁.setTop (entryFrame m #[(.ref b), (.int (1 : Int32))] 2) := ⟨_, rfl⟩
  have G0 : Go p e below A0 (s₁.setTop (mkF m 0 #[.val (.ref b), .val (.int (1 : Int32))] [])) := fun tq kq => by rw [hA0]; exact castTop (ef_rmCL1 m b (1 : Int32)) kq
  have G57 : Go p e below A0 (s₁.setTop (mkF m 2 #[.val (.ref b), .val (.int (1 : Int32))] [(.ref b), (.int (1 : Int32))])) := fun tq kq => G0 tq (by
    refine XS.iloadN X0.here hx rfl (hb hby d8_0) rfl ?_
    show Steps p.tables e below (s₁.setTop (mkF m 1 #[.val (.ref b), .val (.int (1 : Int32))] [(.int (1 : Int32))])) _
    refine XS.aloadN X0.here hx rfl (hb hby d8_1) rfl rfl ?_
    show Steps p.tables e below (s₁.setTop (mkF m 2 #[.val (.ref b), .val (.int (1 : Int32))] [(.ref b), (.int (1 : Int32))])) _
    exact kq)
  obtain ⟨cl58, Ar58, q58, S58, M58, H58, Gf58⟩ := id Ab
  have G59 : Go p e below A0 (s₁.setTop (mkF m 3 #[.val (.ref b), .val (.int (1 : Int32))] [(.int (6 : Int32)), (.int (1 : Int32))])) := fun tq kq => G57 tq (by
    refine X0.arraylength hx (by rw [e0]; exact Ar58.1) (State.isArrayOf_alike hZ.alike Ar58.2.1) (g := (mkF m 2 #[.val (.ref b), .val (.int (1 : Int32))] [(.ref b), (.int (1 : Int32))])) rfl rfl (hb hby d8_2) _ ?_
    rw [len_of S58 M58]
    show Steps p.tables e below (s₁.setTop (mkF m 3 #[.val (.ref b), .val (.int (1 : Int32))] [(.int (6 : Int32)), (.int (1 : Int32))])) _
    exact kq)
  obtain ⟨_, _, ⟨T60, L60, k60, n60⟩, -, X60, ⟨Lc60, hQ60, l60, y60, z60⟩, st60⟩ := Jvm.LawKit.callS X0 hx (y := (⟨"java/lang/String", "checkIndex", "(II)V"⟩ : MethodName)) hown (mvT hZ (hw _ (List.mem_of_getElem? (i := 48) rfl))) (mvT hZ (hw _ (List.mem_of_getElem? (i := 49) rfl))) (mvT hZ (hw _ (List.mem_of_getElem? (i := 14) rfl))) (mvT hZ (hw _ (List.mem_of_getElem? (i := 50) rfl))) (by decide) (backOf (W := 0) (rmCI l Z a0 hw [] (1 : Int32) (6 : Int32) cs fo h0 n0 Z0 hCS hcs hSF hfo ⟨by decide, by decide⟩) hZ (hw _ (List.mem_of_getElem? (i := 50) rfl)) (hw _ (List.mem_of_getElem? (i := 14) rfl)) (by decide) (by decide)) (g := (mkF m 3 #[.val (.ref b), .val (.int (1 : Int32))] [(.int (6 : Int32)), (.int (1 : Int32))])) rfl (by rw [hml]; rfl) (argsL := [(.int (1 : Int32)), (.int (6 : Int32))]) (rest := []) (lenOf pd_2 rfl) rfl (by show 2 * 0 + _ ≤ _; exact Nat.le_of_eq rfl) (hb hby d8_3) (fun _ _ => ⟨rfl, e0, (by decide : 0 + 0 ≤ _), (by decide : 0 + 0 ≤ _)⟩)
  dsimp only [Pt.U, Pt.locs, Pt.cells, Pt.slots] at X60 l60 y60 z60 st60 hQ60
  obtain rfl : k60 = 0 := y60
  obtain rfl : n60 = 0 := z60
  obtain ⟨rfl, N60q, e60⟩ := hQ60
  have N60 : Fr n0 L60 := by rw [l60]; exact Fr.app N0 N60q
  have G61 : Go p e below A0 (T60.setTop (mkF m 6 #[.val (.ref b), .val (.int (1 : Int32))] [])) := fun tq kq => G59 tq (st60 _ kq)
  have G62 : Go p e below A0 (T60.setTop (mkF m 8 #[.val (.ref b), .val (.int (1 : Int32))] [(.int (1 : Int32)), (.ref b)])) := fun tq kq => G61 tq (by
    refine XS.aloadN X60.here hx rfl (hb hby d8_6) rfl rfl ?_
    show Steps p.tables e below (T60.setTop (mkF m 7 #[.val (.ref b), .val (.int (1 : Int32))] [(.ref b)])) _
    refine XS.iloadN X60.here hx rfl (hb hby d8_7) rfl ?_
    show Steps p.tables e below (T60.setTop (mkF m 8 #[.val (.ref b), .val (.int (1 : Int32))] [(.int (1 : Int32)), (.ref b)])) _
    exact kq)
  obtain ⟨cl63, Ar63, q63, S63, M63, H63, Gf63⟩ := id Ab
  have hi64 : ¬ ((1 : Int32) < 0 ∨ cl63.slots.size ≤ ((1 : Int32)).toNatClampNeg) := (inb_of S63 ⟨by decide, by decide⟩)
  have G65 : Go p e below A0 (T60.setTop (mkF m 14 #[.val (.ref b), .val (.int (1 : Int32))] [(.int (32 : Int32))])) := fun tq kq => G62 tq (by
    refine X60.baloadBytes hx (j := (1 : Int32)) (v := (.int (32 : Int32))) (by rw [e60]; exact Ar63.1) (State.isArrayOf_alike hZ.alike Ar63.2.1) Ar63.2.2 hi64 (H63.at hi64 rfl) (g := (mkF m 8 #[.val (.ref b), .val (.int (1 : Int32))] [(.int (1 : Int32)), (.ref b)])) rfl rfl (hb hby d8_8) _ ?_
    show Steps p.tables e below (T60.setTop (mkF m 9 #[.val (.ref b), .val (.int (1 : Int32))] [(.int (32 : Int32))])) _
    refine XS.sipush X60.here hx rfl (hb hby d8_9) ?_
    show Steps p.tables e below (T60.setTop (mkF m 12 #[.val (.ref b), .val (.int (1 : Int32))] [(.int (255 : Int32)), (.int (32 : Int32))])) _
    refine XS.iand X60.here hx rfl (hb hby d8_12) rfl ?_
    show Steps p.tables e below (T60.setTop (mkF m 13 #[.val (.ref b), .val (.int (1 : Int32))] [(.int ((32 : Int32) &&& (255 : Int32)))])) _
    rw [show ((32 : Int32) &&& (255 : Int32)) = (32 : Int32) from (by decide)]
    show Steps p.tables e below (T60.setTop (mkF m 13 #[.val (.ref b), .val (.int (1 : Int32))] [(.int (32 : Int32))])) _
    refine XS.i2c X60.here hx rfl (hb hby d8_13) rfl ?_
    show Steps p.tables e below (T60.setTop (mkF m 14 #[.val (.ref b), .val (.int (1 : Int32))] [(.int (32 : Int32).toUInt32.toUInt16.toUInt32.toInt32)])) _
    rw [show (32 : Int32).toUInt32.toUInt16.toUInt32.toInt32 = (32 : Int32) from (by decide)]
    show Steps p.tables e below (T60.setTop (mkF m 14 #[.val (.ref b), .val (.int (1 : Int32))] [(.int (32 : Int32))])) _
    exact kq)
  obtain ⟨fs, hr, hrun, hended, hW, hsame⟩ := X60.leave (v := some (.int (nar .char (32 : Int32)))) (fun h => by rw [Bd.returns] at h; cases h)
  refine ⟨_, _, (by rw [← hA0]; exact G65 _ (retN X60 hx (t := .char) Bd.returns (by simp) (hb hby d8_14) hr)), hrun, hended, _, _, rfl, ?_, ⟨_, rfl⟩, hW, hsame.mono (by decide) (by decide)⟩
  exact ⟨rfl, N60, e60⟩
set_option maxRecDepth 65536 in
set_option maxHeartbeats 40000000 in
theorem rmCL2 (l : Launch) (Z : State) (a0 : Array Value) (hw : ∀ d ∈ tables_1, d.before a0 Z = true) (ws : List Jvm.Cond) (a b : Addr) (kb : ClassId) (cs : Int32) (fo : Value) (h0 : Heap) (n0 : Nat) (Z0 : n0 ≤ h0.size) (E : Exa Z h0 a "java/lang/String") (Fv : Fld Z h0 a "java/lang/String" "value" "[B" (.ref b)) (Fc : Fld Z h0 a "java/lang/String" "coder" "B" (.int (0 : Int32))) (Ab : Arv Z h0 b kb .byte (6 : Int32) [(.int (91 : Int32)), (.int (32 : Int32)), (.int (9 : Int32)), (.int (13 : Int32)), (.int (10 : Int32)), (.int (93 : Int32))] (.int (0 : Int32))) (hCS : Sta Z h0 "java/lang/String" "COMPACT_STRINGS" "Z" (.int cs)) (hcs : ¬ cs = (0 : Int32)) (hSF : Sta Z h0 "jdk/internal/util/Preconditions" "SIOOBE_FORMATTER" "Ljava/util/function/BiFunction;" fo) (hfo : fo.isRef = true) :
    MetFree l (⟨"java/lang/StringLatin1", "charAt", "([BI)C"⟩ : MethodName) (head1 (Jvm.Cond.code (⟨"java/lang/StringLatin1", "charAt", "([BI)C"⟩ : MethodName) jdk_43_method_2_code 2 (some .char) :: ws) ({ frames := 2, cells := 0, slots := 0, locals := 27 } : Room)) (fun aa UU => aa = #[(.ref b), (.int (2 : Int32))] ∧ Z.Warmed39 UU.vm ∧ UU.heap = h0) (fun _ _ _ _ _ => True) (fun _ UU oo U' => ∃ v L, oo = .returned v ∧ Qr (.int (9 : Int32)) h0 n0 v U'.heap L ∧ FrameEnd UU oo U' L ({ frames := 2, cells := 0, slots := 0, locals := 27 } : Room).cells ({ frames := 2, cells := 0, slots := 0, locals := 27 } : Room).slots) := by
  refine MetFree.of_bodySF (plainFor_of_name pn_4) hisR ?_
  intro p e s m args below meth c s₁ Bd hml0 hP hK
  obtain ⟨rfl, hZ, hh⟩ := hP
  have hx := Bd.exec
  have hby := Bd.bytes
  have hml : c.maxLocals = 2 := hml0
  have hown : s.vm.findClass "java/lang/StringLatin1" = some m.cls := findClass_of_methodNamed Bd.named
  have hnm := (name_of_methodNamed Bd.named Bd.method).1
  have X0 : Stand p l e ({ frames := 2, cells := 0, slots := 0, locals := 27 } : Room) s m #[(.ref b), (.int (2 : Int32))] below meth c s₁ [] 0 0 := Stand.of_body Bd
  have e0 : s₁.heap = h0 := by rw [← hh, Bd.state]; rfl
  have N0 := Fr.nil n0
  obtain ⟨A0, hA0⟩ : ∃ A, A = s₁.setTop (entryFrame m #[(.ref b), (.int (2 : Int32))] 2) := ⟨_, rfl⟩
  have G0 : Go p e below A0 (s₁.setTop (mkF m 0 #[.val (.ref b), .val (.int (2 : Int32))] [])) := fun tq kq => by rw [hA0]; exact castTop (ef_rmCL2 m b (2 : Int32)) kq
  have G66 : Go p e below A0 (s₁.setTop (mkF m 2 #[.val (.ref b), .val (.int (2 : Int32))] [(.ref b), (.int (2 : Int32))])) := fun tq kq => G0 tq (by
    refine XS.iloadN X0.here hx rfl (hb hby d8_0) rfl ?_
    show Steps p.tables e below (s₁.setTop (mkF m 1 #[.val (.ref b), .val (.int (2 : Int32))] [(.int (2 : Int32))])) _
    refine XS.aloadN X0.here hx rfl (hb hby d8_1) rfl rfl ?_
    show Steps p.tables e below (s₁.setTop (mkF m 2 #[.val (.ref b), .val (.int (2 : Int32))] [(.ref b), (.int (2 : Int32))])) _
    exact kq)
  obtain ⟨cl67, Ar67, q67, S67, M67, H67, Gf67⟩ := id Ab
  have G68 : Go p e below A0 (s₁.setTop (mkF m 3 #[.val (.ref b), .val (.int (2 : Int32))] [(.int (6 : Int32)), (.int (2 : Int32))])) := fun tq kq => G66 tq (by
    refine X0.arraylength hx (by rw [e0]; exact Ar67.1) (State.isArrayOf_alike hZ.alike Ar67.2.1) (g := (mkF m 2 #[.val (.ref b), .val (.int (2 : Int32))] [(.ref b), (.int (2 : Int32))])) rfl rfl (hb hby d8_2) _ ?_
    rw [len_of S67 M67]
    show Steps p.tables e below (s₁.setTop (mkF m 3 #[.val (.ref b), .val (.int (2 : Int32))] [(.int (6 : Int32)), (.int (2 : Int32))])) _
    exact kq)
  obtain ⟨_, _, ⟨T69, L69, k69, n69⟩, -, X69, ⟨Lc69, hQ69, l69, y69, z69⟩, st69⟩ := Jvm.LawKit.callS X0 hx (y := (⟨"java/lang/String", "checkIndex", "(II)V"⟩ : MethodName)) hown (mvT hZ (hw _ (List.mem_of_getElem? (i := 48) rfl))) (mvT hZ (hw _ (List.mem_of_getElem? (i := 49) rfl))) (mvT hZ (hw _ (List.mem_of_getElem? (i := 14) rfl))) (mvT hZ (hw _ (List.mem_of_getElem? (i := 50) rfl))) (by decide) (backOf (W := 0) (rmCI l Z a0 hw [] (2 : Int32) (6 : Int32) cs fo h0 n0 Z0 hCS hcs hSF hfo ⟨by decide, by decide⟩) hZ (hw _ (List.mem_of_getElem? (i := 50) rfl)) (hw _ (List.mem_of_getElem? (i := 14) rfl)) (by decide) (by decide)) (g := (mkF m 3 #[.val (.ref b), .val (.int (2 : Int32))] [(.int (6 : Int32)), (.int (2 : Int32))])) rfl (by rw [hml]; rfl) (argsL := [(.int (2 : Int32)), (.int (6 : Int32))]) (rest := []) (lenOf pd_2 rfl) rfl (by show 2 * 0 + _ ≤ _; exact Nat.le_of_eq rfl) (hb hby d8_3) (fun _ _ => ⟨rfl, e0, (by decide : 0 + 0 ≤ _), (by decide : 0 + 0 ≤ _)⟩)
  dsimp only [Pt.U, Pt.locs, Pt.cells, Pt.slots] at X69 l69 y69 z69 st69 hQ69
  obtain rfl : k69 = 0 := y69
  obtain rfl : n69 = 0 := z69
  obtain ⟨rfl, N69q, e69⟩ := hQ69
  have N69 : Fr n0 L69 := by rw [l69]; exact Fr.app N0 N69q
  have G70 : Go p e below A0 (T69.setTop (mkF m 6 #[.val (.ref b), .val (.int (2 : Int32))] [])) := fun tq kq => G68 tq (st69 _ kq)
  have G71 : Go p e below A0 (T69.setTop (mkF m 8 #[.val (.ref b), .val (.int (2 : Int32))] [(.int (2 : Int32)), (.ref b)])) := fun tq kq => G70 tq (by
    refine XS.aloadN X69.here hx rfl (hb hby d8_6) rfl rfl ?_
    show Steps p.tables e below (T69.setTop (mkF m 7 #[.val (.ref b), .val (.int (2 : Int32))] [(.ref b)])) _
    refine XS.iloadN X69.here hx rfl (hb hby d8_7) rfl ?_
    show Steps p.tables e below (T69.setTop (mkF m 8 #[.val (.ref b), .val (.int (2 : Int32))] [(.int (2 : Int32)), (.ref b)])) _
    exact kq)
  obtain ⟨cl72, Ar72, q72, S72, M72, H72, Gf72⟩ := id Ab
  have hi73 : ¬ ((2 : Int32) < 0 ∨ cl72.slots.size ≤ ((2 : Int32)).toNatClampNeg) := (inb_of S72 ⟨by decide, by decide⟩)
  have G74 : Go p e below A0 (T69.setTop (mkF m 14 #[.val (.ref b), .val (.int (2 : Int32))] [(.int (9 : Int32))])) := fun tq kq => G71 tq (by
    refine X69.baloadBytes hx (j := (2 : Int32)) (v := (.int (9 : Int32))) (by rw [e69]; exact Ar72.1) (State.isArrayOf_alike hZ.alike Ar72.2.1) Ar72.2.2 hi73 (H72.at hi73 rfl) (g := (mkF m 8 #[.val (.ref b), .val (.int (2 : Int32))] [(.int (2 : Int32)), (.ref b)])) rfl rfl (hb hby d8_8) _ ?_
    show Steps p.tables e below (T69.setTop (mkF m 9 #[.val (.ref b), .val (.int (2 : Int32))] [(.int (9 : Int32))])) _
    refine XS.sipush X69.here hx rfl (hb hby d8_9) ?_
    show Steps p.tables e below (T69.setTop (mkF m 12 #[.val (.ref b), .val (.int (2 : Int32))] [(.int (255 : Int32)), (.int (9 : Int32))])) _
    refine XS.iand X69.here hx rfl (hb hby d8_12) rfl ?_
    show Steps p.tables e below (T69.setTop (mkF m 13 #[.val (.ref b), .val (.int (2 : Int32))] [(.int ((9 : Int32) &&& (255 : Int32)))])) _
    rw [show ((9 : Int32) &&& (255 : Int32)) = (9 : Int32) from (by decide)]
    show Steps p.tables e below (T69.setTop (mkF m 13 #[.val (.ref b), .val (.int (2 : Int32))] [(.int (9 : Int32))])) _
    refine XS.i2c X69.here hx rfl (hb hby d8_13) rfl ?_
    show Steps p.tables e below (T69.setTop (mkF m 14 #[.val (.ref b), .val (.int (2 : Int32))] [(.int (9 : Int32).toUInt32.toUInt16.toUInt32.toInt32)])) _
    rw [show (9 : Int32).toUInt32.toUInt16.toUInt32.toInt32 = (9 : Int32) from (by decide)]
    show Steps p.tables e below (T69.setTop (mkF m 14 #[.val (.ref b), .val (.int (2 : Int32))] [(.int (9 : Int32))])) _
    exact kq)
  obtain ⟨fs, hr, hrun, hended, hW, hsame⟩ := X69.leave (v := some (.int (nar .char (9 : Int32)))) (fun h => by rw [Bd.returns] at h; cases h)
  refine ⟨_, _, (by rw [← hA0]; exact G74 _ (retN X69 hx (t := .char) Bd.returns (by simp) (hb hby d8_14) hr)), hrun, hended, _, _, rfl, ?_, ⟨_, rfl⟩, hW, hsame.mono (by decide) (by decide)⟩
  exact ⟨rfl, N69, e69⟩
set_option maxRecDepth 65536 in
set_option maxHeartbeats 40000000 in
theorem rmCL3 (l : Launch) (Z : State) (a0 : Array Value) (hw : ∀ d ∈ tables_1, d.before a0 Z = true) (ws : List Jvm.Cond) (a b : Addr) (kb : ClassId) (cs : Int32) (fo : Value) (h0 : Heap) (n0 : Nat) (Z0 : n0 ≤ h0.size) (E : Exa Z h0 a "java/lang/String") (Fv : Fld Z h0 a "java/lang/String" "value" "[B" (.ref b)) (Fc : Fld Z h0 a "java/lang/String" "coder" "B" (.int (0 : Int32))) (Ab : Arv Z h0 b kb .byte (6 : Int32) [(.int (91 : Int32)), (.int (32 : Int32)), (.int (9 : Int32)), (.int (13 : Int32)), (.int (10 : Int32)), (.int (93 : Int32))] (.int (0 : Int32))) (hCS : Sta Z h0 "java/lang/String" "COMPACT_STRINGS" "Z" (.int cs)) (hcs : ¬ cs = (0 : Int32)) (hSF : Sta Z h0 "jdk/internal/util/Preconditions" "SIOOBE_FORMATTER" "Ljava/util/function/BiFunction;" fo) (hfo : fo.isRef = true) :
    MetFree l (⟨"java/lang/StringLatin1", "charAt", "([BI)C"⟩ : MethodName) (head1 (Jvm.Cond.code (⟨"java/lang/StringLatin1", "charAt", "([BI)C"⟩ : MethodName) jdk_43_method_2_code 2 (some .char) :: ws) ({ frames := 2, cells := 0, slots := 0, locals := 27 } : Room)) (fun aa UU => aa = #[(.ref b), (.int (3 : Int32))] ∧ Z.Warmed39 UU.vm ∧ UU.heap = h0) (fun _ _ _ _ _ => True) (fun _ UU oo U' => ∃ v L, oo = .returned v ∧ Qr (.int (13 : Int32)) h0 n0 v U'.heap L ∧ FrameEnd UU oo U' L ({ frames := 2, cells := 0, slots := 0, locals := 27 } : Room).cells ({ frames := 2, cells := 0, slots := 0, locals := 27 } : Room).slots) := by
  refine MetFree.of_bodySF (plainFor_of_name pn_4) hisR ?_
  intro p e s m args below meth c s₁ Bd hml0 hP hK
  obtain ⟨rfl, hZ, hh⟩ := hP
  have hx := Bd.exec
  have hby := Bd.bytes
  have hml : c.maxLocals = 2 := hml0
  have hown : s.vm.findClass "java/lang/StringLatin1" = some m.cls := findClass_of_methodNamed Bd.named
  have hnm := (name_of_methodNamed Bd.named Bd.method).1
  have X0 : Stand p l e ({ frames := 2, cells := 0, slots := 0, locals := 27 } : Room) s m #[(.ref b), (.int (3 : Int32))] below meth c s₁ [] 0 0 := Stand.of_body Bd
  have e0 : s₁.heap = h0 := by rw [← hh, Bd.state]; rfl
  have N0 := Fr.nil n0
  obtain ⟨A0, hA0⟩ : ∃ A, A = s₁.setTop (entryFrame m #[(.ref b), (.int (3 : Int32))] 2) := ⟨_, rfl⟩
  have G0 : Go p e below A0 (s₁.setTop (mkF m 0 #[.val (.ref b), .val (.int (3 : Int32))] [])) := fun tq kq => by rw [hA0]; exact castTop (ef_rmCL3 m b (3 : Int32)) kq
  have G75 : Go p e below A0 (s₁.setTop (mkF m 2 #[.val (.ref b), .val (.int (3 : Int32))] [(.ref b), (.int (3 : Int32))])) := fun tq kq => G0 tq (by
    refine XS.iloadN X0.here hx rfl (hb hby d8_0) rfl ?_
    show Steps p.tables e below (s₁.setTop (mkF m 1 #[.val (.ref b), .val (.int (3 : Int32))] [(.int (3 : Int32))])) _
    refine XS.aloadN X0.here hx rfl (hb hby d8_1) rfl rfl ?_
    show Steps p.tables e below (s₁.setTop (mkF m 2 #[.val (.ref b), .val (.int (3 : Int32))] [(.ref b), (.int (3 : Int32))])) _
    exact kq)
  obtain ⟨cl76, Ar76, q76, S76, M76, H76, Gf76⟩ := id Ab
  have G77 : Go p e below A0 (s₁.setTop (mkF m 3 #[.val (.ref b), .val (.int (3 : Int32))] [(.int (6 : Int32)), (.int (3 : Int32))])) := fun tq kq => G75 tq (by
    refine X0.arraylength hx (by rw [e0]; exact Ar76.1) (State.isArrayOf_alike hZ.alike Ar76.2.1) (g := (mkF m 2 #[.val (.ref b), .val (.int (3 : Int32))] [(.ref b), (.int (3 : Int32))])) rfl rfl (hb hby d8_2) _ ?_
    rw [len_of S76 M76]
    show Steps p.tables e below (s₁.setTop (mkF m 3 #[.val (.ref b), .val (.int (3 : Int32))] [(.int (6 : Int32)), (.int (3 : Int32))])) _
    exact kq)
  obtain ⟨_, _, ⟨T78, L78, k78, n78⟩, -, X78, ⟨Lc78, hQ78, l78, y78, z78⟩, st78⟩ := Jvm.LawKit.callS X0 hx (y := (⟨"java/lang/String", "checkIndex", "(II)V"⟩ : MethodName)) hown (mvT hZ (hw _ (List.mem_of_getElem? (i := 48) rfl))) (mvT hZ (hw _ (List.mem_of_getElem? (i := 49) rfl))) (mvT hZ (hw _ (List.mem_of_getElem? (i := 14) rfl))) (mvT hZ (hw _ (List.mem_of_getElem? (i := 50) rfl))) (by decide) (backOf (W := 0) (rmCI l Z a0 hw [] (3 : Int32) (6 : Int32) cs fo h0 n0 Z0 hCS hcs hSF hfo ⟨by decide, by decide⟩) hZ (hw _ (List.mem_of_getElem? (i := 50) rfl)) (hw _ (List.mem_of_getElem? (i := 14) rfl)) (by decide) (by decide)) (g := (mkF m 3 #[.val (.ref b), .val (.int (3 : Int32))] [(.int (6 : Int32)), (.int (3 : Int32))])) rfl (by rw [hml]; rfl) (argsL := [(.int (3 : Int32)), (.int (6 : Int32))]) (rest := []) (lenOf pd_2 rfl) rfl (by show 2 * 0 + _ ≤ _; exact Nat.le_of_eq rfl) (hb hby d8_3) (fun _ _ => ⟨rfl, e0, (by decide : 0 + 0 ≤ _), (by decide : 0 + 0 ≤ _)⟩)
  dsimp only [Pt.U, Pt.locs, Pt.cells, Pt.slots] at X78 l78 y78 z78 st78 hQ78
  obtain rfl : k78 = 0 := y78
  obtain rfl : n78 = 0 := z78
  obtain ⟨rfl, N78q, e78⟩ := hQ78
  have N78 : Fr n0 L78 := by rw [l78]; exact Fr.app N0 N78q
  have G79 : Go p e below A0 (T78.setTop (mkF m 6 #[.val (.ref b), .val (.int (3 : Int32))] [])) := fun tq kq => G77 tq (st78 _ kq)
  have G80 : Go p e below A0 (T78.setTop (mkF m 8 #[.val (.ref b), .val (.int (3 : Int32))] [(.int (3 : Int32)), (.ref b)])) := fun tq kq => G79 tq (by
    refine XS.aloadN X78.here hx rfl (hb hby d8_6) rfl rfl ?_
    show Steps p.tables e below (T78.setTop (mkF m 7 #[.val (.ref b), .val (.int (3 : Int32))] [(.ref b)])) _
    refine XS.iloadN X78.here hx rfl (hb hby d8_7) rfl ?_
    show Steps p.tables e below (T78.setTop (mkF m 8 #[.val (.ref b), .val (.int (3 : Int32))] [(.int (3 : Int32)), (.ref b)])) _
    exact kq)
  obtain ⟨cl81, Ar81, q81, S81, M81, H81, Gf81⟩ := id Ab
  have hi82 : ¬ ((3 : Int32) < 0 ∨ cl81.slots.size ≤ ((3 : Int32)).toNatClampNeg) := (inb_of S81 ⟨by decide, by decide⟩)
  have G83 : Go p e below A0 (T78.setTop (mkF m 14 #[.val (.ref b), .val (.int (3 : Int32))] [(.int (13 : Int32))])) := fun tq kq => G80 tq (by
    refine X78.baloadBytes hx (j := (3 : Int32)) (v := (.int (13 : Int32))) (by rw [e78]; exact Ar81.1) (State.isArrayOf_alike hZ.alike Ar81.2.1) Ar81.2.2 hi82 (H81.at hi82 rfl) (g := (mkF m 8 #[.val (.ref b), .val (.int (3 : Int32))] [(.int (3 : Int32)), (.ref b)])) rfl rfl (hb hby d8_8) _ ?_
    show Steps p.tables e below (T78.setTop (mkF m 9 #[.val (.ref b), .val (.int (3 : Int32))] [(.int (13 : Int32))])) _
    refine XS.sipush X78.here hx rfl (hb hby d8_9) ?_
    show Steps p.tables e below (T78.setTop (mkF m 12 #[.val (.ref b), .val (.int (3 : Int32))] [(.int (255 : Int32)), (.int (13 : Int32))])) _
    refine XS.iand X78.here hx rfl (hb hby d8_12) rfl ?_
    show Steps p.tables e below (T78.setTop (mkF m 13 #[.val (.ref b), .val (.int (3 : Int32))] [(.int ((13 : Int32) &&& (255 : Int32)))])) _
    rw [show ((13 : Int32) &&& (255 : Int32)) = (13 : Int32) from (by decide)]
    show Steps p.tables e below (T78.setTop (mkF m 13 #[.val (.ref b), .val (.int (3 : Int32))] [(.int (13 : Int32))])) _
    refine XS.i2c X78.here hx rfl (hb hby d8_13) rfl ?_
    show Steps p.tables e below (T78.setTop (mkF m 14 #[.val (.ref b), .val (.int (3 : Int32))] [(.int (13 : Int32).toUInt32.toUInt16.toUInt32.toInt32)])) _
    rw [show (13 : Int32).toUInt32.toUInt16.toUInt32.toInt32 = (13 : Int32) from (by decide)]
    show Steps p.tables e below (T78.setTop (mkF m 14 #[.val (.ref b), .val (.int (3 : Int32))] [(.int (13 : Int32))])) _
    exact kq)
  obtain ⟨fs, hr, hrun, hended, hW, hsame⟩ := X78.leave (v := some (.int (nar .char (13 : Int32)))) (fun h => by rw [Bd.returns] at h; cases h)
  refine ⟨_, _, (by rw [← hA0]; exact G83 _ (retN X78 hx (t := .char) Bd.returns (by simp) (hb hby d8_14) hr)), hrun, hended, _, _, rfl, ?_, ⟨_, rfl⟩, hW, hsame.mono (by decide) (by decide)⟩
  exact ⟨rfl, N78, e78⟩
set_option maxRecDepth 65536 in
set_option maxHeartbeats 40000000 in
theorem rmCL4 (l : Launch) (Z : State) (a0 : Array Value) (hw : ∀ d ∈ tables_1, d.before a0 Z = true) (ws : List Jvm.Cond) (a b : Addr) (kb : ClassId) (cs : Int32) (fo : Value) (h0 : Heap) (n0 : Nat) (Z0 : n0 ≤ h0.size) (E : Exa Z h0 a "java/lang/String") (Fv : Fld Z h0 a "java/lang/String" "value" "[B" (.ref b)) (Fc : Fld Z h0 a "java/lang/String" "coder" "B" (.int (0 : Int32))) (Ab : Arv Z h0 b kb .byte (6 : Int32) [(.int (91 : Int32)), (.int (32 : Int32)), (.int (9 : Int32)), (.int (13 : Int32)), (.int (10 : Int32)), (.int (93 : Int32))] (.int (0 : Int32))) (hCS : Sta Z h0 "java/lang/String" "COMPACT_STRINGS" "Z" (.int cs)) (hcs : ¬ cs = (0 : Int32)) (hSF : Sta Z h0 "jdk/internal/util/Preconditions" "SIOOBE_FORMATTER" "Ljava/util/function/BiFunction;" fo) (hfo : fo.isRef = true) :
    MetFree l (⟨"java/lang/StringLatin1", "charAt", "([BI)C"⟩ : MethodName) (head1 (Jvm.Cond.code (⟨"java/lang/StringLatin1", "charAt", "([BI)C"⟩ : MethodName) jdk_43_method_2_code 2 (some .char) :: ws) ({ frames := 2, cells := 0, slots := 0, locals := 27 } : Room)) (fun aa UU => aa = #[(.ref b), (.int (4 : Int32))] ∧ Z.Warmed39 UU.vm ∧ UU.heap = h0) (fun _ _ _ _ _ => True) (fun _ UU oo U' => ∃ v L, oo = .returned v ∧ Qr (.int (10 : Int32)) h0 n0 v U'.heap L ∧ FrameEnd UU oo U' L ({ frames := 2, cells := 0, slots := 0, locals := 27 } : Room).cells ({ frames := 2, cells := 0, slots := 0, locals := 27 } : Room).slots) := by
  refine MetFree.of_bodySF (plainFor_of_name pn_4) hisR ?_
  intro p e s m args below meth c s₁ Bd hml0 hP hK
  obtain ⟨rfl, hZ, hh⟩ := hP
  have hx := Bd.exec
  have hby := Bd.bytes
  have hml : c.maxLocals = 2 := hml0
  have hown : s.vm.findClass "java/lang/StringLatin1" = some m.cls := findClass_of_methodNamed Bd.named
  have hnm := (name_of_methodNamed Bd.named Bd.method).1
  have X0 : Stand p l e ({ frames := 2, cells := 0, slots := 0, locals := 27 } : Room) s m #[(.ref b), (.int (4 : Int32))] below meth c s₁ [] 0 0 := Stand.of_body Bd
  have e0 : s₁.heap = h0 := by rw [← hh, Bd.state]; rfl
  have N0 := Fr.nil n0
  obtain ⟨A0, hA0⟩ : ∃ A, A = s₁.setTop (entryFrame m #[(.ref b), (.int (4 : Int32))] 2) := ⟨_, rfl⟩
  have G0 : Go p e below A0 (s₁.setTop (mkF m 0 #[.val (.ref b), .val (.int (4 : Int32))] [])) := fun tq kq => by rw [hA0]; exact castTop (ef_rmCL4 m b (4 : Int32)) kq
  have G84 : Go p e below A0 (s₁.setTop (mkF m 2 #[.val (.ref b), .val (.int (4 : Int32))] [(.ref b), (.int (4 : Int32))])) := fun tq kq => G0 tq (by
    refine XS.iloadN X0.here hx rfl (hb hby d8_0) rfl ?_
    show Steps p.tables e below (s₁.setTop (mkF m 1 #[.val (.ref b), .val (.int (4 : Int32))] [(.int (4 : Int32))])) _
    refine XS.aloadN X0.here hx rfl (hb hby d8_1) rfl rfl ?_
    show Steps p.tables e below (s₁.setTop (mkF m 2 #[.val (.ref b), .val (.int (4 : Int32))] [(.ref b), (.int (4 : Int32))])) _
    exact kq)
  obtain ⟨cl85, Ar85, q85, S85, M85, H85, Gf85⟩ := id Ab
  have G86 : Go p e below A0 (s₁.setTop (mkF m 3 #[.val (.ref b), .val (.int (4 : Int32))] [(.int (6 : Int32)), (.int (4 : Int32))])) := fun tq kq => G84 tq (by
    refine X0.arraylength hx (by rw [e0]; exact Ar85.1) (State.isArrayOf_alike hZ.alike Ar85.2.1) (g := (mkF m 2 #[.val (.ref b), .val (.int (4 : Int32))] [(.ref b), (.int (4 : Int32))])) rfl rfl (hb hby d8_2) _ ?_
    rw [len_of S85 M85]
    show Steps p.tables e below (s₁.setTop (mkF m 3 #[.val (.ref b), .val (.int (4 : Int32))] [(.int (6 : Int32)), (.int (4 : Int32))])) _
    exact kq)
  obtain ⟨_, _, ⟨T87, L87, k87, n87⟩, -, X87, ⟨Lc87, hQ87, l87, y87, z87⟩, st87⟩ := Jvm.LawKit.callS X0 hx (y := (⟨"java/lang/String", "checkIndex", "(II)V"⟩ : MethodName)) hown (mvT hZ (hw _ (List.mem_of_getElem? (i := 48) rfl))) (mvT hZ (hw _ (List.mem_of_getElem? (i := 49) rfl))) (mvT hZ (hw _ (List.mem_of_getElem? (i := 14) rfl))) (mvT hZ (hw _ (List.mem_of_getElem? (i := 50) rfl))) (by decide) (backOf (W := 0) (rmCI l Z a0 hw [] (4 : Int32) (6 : Int32) cs fo h0 n0 Z0 hCS hcs hSF hfo ⟨by decide, by decide⟩) hZ (hw _ (List.mem_of_getElem? (i := 50) rfl)) (hw _ (List.mem_of_getElem? (i := 14) rfl)) (by decide) (by decide)) (g := (mkF m 3 #[.val (.ref b), .val (.int (4 : Int32))] [(.int (6 : Int32)), (.int (4 : Int32))])) rfl (by rw [hml]; rfl) (argsL := [(.int (4 : Int32)), (.int (6 : Int32))]) (rest := []) (lenOf pd_2 rfl) rfl (by show 2 * 0 + _ ≤ _; exact Nat.le_of_eq rfl) (hb hby d8_3) (fun _ _ => ⟨rfl, e0, (by decide : 0 + 0 ≤ _), (by decide : 0 + 0 ≤ _)⟩)
  dsimp only [Pt.U, Pt.locs, Pt.cells, Pt.slots] at X87 l87 y87 z87 st87 hQ87
  obtain rfl : k87 = 0 := y87
  obtain rfl : n87 = 0 := z87
  obtain ⟨rfl, N87q, e87⟩ := hQ87
  have N87 : Fr n0 L87 := by rw [l87]; exact Fr.app N0 N87q
  have G88 : Go p e below A0 (T87.setTop (mkF m 6 #[.val (.ref b), .val (.int (4 : Int32))] [])) := fun tq kq => G86 tq (st87 _ kq)
  have G89 : Go p e below A0 (T87.setTop (mkF m 8 #[.val (.ref b), .val (.int (4 : Int32))] [(.int (4 : Int32)), (.ref b)])) := fun tq kq => G88 tq (by
    refine XS.aloadN X87.here hx rfl (hb hby d8_6) rfl rfl ?_
    show Steps p.tables e below (T87.setTop (mkF m 7 #[.val (.ref b), .val (.int (4 : Int32))] [(.ref b)])) _
    refine XS.iloadN X87.here hx rfl (hb hby d8_7) rfl ?_
    show Steps p.tables e below (T87.setTop (mkF m 8 #[.val (.ref b), .val (.int (4 : Int32))] [(.int (4 : Int32)), (.ref b)])) _
    exact kq)
  obtain ⟨cl90, Ar90, q90, S90, M90, H90, Gf90⟩ := id Ab
  have hi91 : ¬ ((4 : Int32) < 0 ∨ cl90.slots.size ≤ ((4 : Int32)).toNatClampNeg) := (inb_of S90 ⟨by decide, by decide⟩)
  have G92 : Go p e below A0 (T87.setTop (mkF m 14 #[.val (.ref b), .val (.int (4 : Int32))] [(.int (10 : Int32))])) := fun tq kq => G89 tq (by
    refine X87.baloadBytes hx (j := (4 : Int32)) (v := (.int (10 : Int32))) (by rw [e87]; exact Ar90.1) (State.isArrayOf_alike hZ.alike Ar90.2.1) Ar90.2.2 hi91 (H90.at hi91 rfl) (g := (mkF m 8 #[.val (.ref b), .val (.int (4 : Int32))] [(.int (4 : Int32)), (.ref b)])) rfl rfl (hb hby d8_8) _ ?_
    show Steps p.tables e below (T87.setTop (mkF m 9 #[.val (.ref b), .val (.int (4 : Int32))] [(.int (10 : Int32))])) _
    refine XS.sipush X87.here hx rfl (hb hby d8_9) ?_
    show Steps p.tables e below (T87.setTop (mkF m 12 #[.val (.ref b), .val (.int (4 : Int32))] [(.int (255 : Int32)), (.int (10 : Int32))])) _
    refine XS.iand X87.here hx rfl (hb hby d8_12) rfl ?_
    show Steps p.tables e below (T87.setTop (mkF m 13 #[.val (.ref b), .val (.int (4 : Int32))] [(.int ((10 : Int32) &&& (255 : Int32)))])) _
    rw [show ((10 : Int32) &&& (255 : Int32)) = (10 : Int32) from (by decide)]
    show Steps p.tables e below (T87.setTop (mkF m 13 #[.val (.ref b), .val (.int (4 : Int32))] [(.int (10 : Int32))])) _
    refine XS.i2c X87.here hx rfl (hb hby d8_13) rfl ?_
    show Steps p.tables e below (T87.setTop (mkF m 14 #[.val (.ref b), .val (.int (4 : Int32))] [(.int (10 : Int32).toUInt32.toUInt16.toUInt32.toInt32)])) _
    rw [show (10 : Int32).toUInt32.toUInt16.toUInt32.toInt32 = (10 : Int32) from (by decide)]
    show Steps p.tables e below (T87.setTop (mkF m 14 #[.val (.ref b), .val (.int (4 : Int32))] [(.int (10 : Int32))])) _
    exact kq)
  obtain ⟨fs, hr, hrun, hended, hW, hsame⟩ := X87.leave (v := some (.int (nar .char (10 : Int32)))) (fun h => by rw [Bd.returns] at h; cases h)
  refine ⟨_, _, (by rw [← hA0]; exact G92 _ (retN X87 hx (t := .char) Bd.returns (by simp) (hb hby d8_14) hr)), hrun, hended, _, _, rfl, ?_, ⟨_, rfl⟩, hW, hsame.mono (by decide) (by decide)⟩
  exact ⟨rfl, N87, e87⟩
set_option maxRecDepth 65536 in
set_option maxHeartbeats 40000000 in
theorem rmCL5 (l : Launch) (Z : State) (a0 : Array Value) (hw : ∀ d ∈ tables_1, d.before a0 Z = true) (ws : List Jvm.Cond) (a b : Addr) (kb : ClassId) (cs : Int32) (fo : Value) (h0 : Heap) (n0 : Nat) (Z0 : n0 ≤ h0.size) (E : Exa Z h0 a "java/lang/String") (Fv : Fld Z h0 a "java/lang/String" "value" "[B" (.ref b)) (Fc : Fld Z h0 a "java/lang/String" "coder" "B" (.int (0 : Int32))) (Ab : Arv Z h0 b kb .byte (6 : Int32) [(.int (91 : Int32)), (.int (32 : Int32)), (.int (9 : Int32)), (.int (13 : Int32)), (.int (10 : Int32)), (.int (93 : Int32))] (.int (0 : Int32))) (hCS : Sta Z h0 "java/lang/String" "COMPACT_STRINGS" "Z" (.int cs)) (hcs : ¬ cs = (0 : Int32)) (hSF : Sta Z h0 "jdk/internal/util/Preconditions" "SIOOBE_FORMATTER" "Ljava/util/function/BiFunction;" fo) (hfo : fo.isRef = true) :
    MetFree l (⟨"java/lang/StringLatin1", "charAt", "([BI)C"⟩ : MethodName) (head1 (Jvm.Cond.code (⟨"java/lang/StringLatin1", "charAt", "([BI)C"⟩ : MethodName) jdk_43_method_2_code 2 (some .char) :: ws) ({ frames := 2, cells := 0, slots := 0, locals := 27 } : Room)) (fun aa UU => aa = #[(.ref b), (.int (5 : Int32))] ∧ Z.Warmed39 UU.vm ∧ UU.heap = h0) (fun _ _ _ _ _ => True) (fun _ UU oo U' => ∃ v L, oo = .returned v ∧ Qr (.int (93 : Int32)) h0 n0 v U'.heap L ∧ FrameEnd UU oo U' L ({ frames := 2, cells := 0, slots := 0, locals := 27 } : Room).cells ({ frames := 2, cells := 0, slots := 0, locals := 27 } : Room).slots) := by
  refine MetFree.of_bodySF (plainFor_of_name pn_4) hisR ?_
  intro p e s m args below meth c s₁ Bd hml0 hP hK
  obtain ⟨rfl, hZ, hh⟩ := hP
  have hx := Bd.exec
  have hby := Bd.bytes
  have hml : c.maxLocals = 2 := hml0
  have hown : s.vm.findClass "java/lang/StringLatin1" = some m.cls := findClass_of_methodNamed Bd.named
  have hnm := (name_of_methodNamed Bd.named Bd.method).1
  have X0 : Stand p l e ({ frames := 2, cells := 0, slots := 0, locals := 27 } : Room) s m #[(.ref b), (.int (5 : Int32))] below meth c s₁ [] 0 0 := Stand.of_body Bd
  have e0 : s₁.heap = h0 := by rw [← hh, Bd.state]; rfl
  have N0 := Fr.nil n0
  obtain ⟨A0, hA0⟩ : ∃ A, A = s₁.setTop (entryFrame m #[(.ref b), (.int (5 : Int32))] 2) := ⟨_, rfl⟩
  have G0 : Go p e below A0 (s₁.setTop (mkF m 0 #[.val (.ref b), .val (.int (5 : Int32))] [])) := fun tq kq => by rw [hA0]; exact castTop (ef_rmCL5 m b (5 : Int32)) kq
  have G93 : Go p e below A0 (s₁.setTop (mkF m 2 #[.val (.ref b), .val (.int (5 : Int32))] [(.ref b), (.int (5 : Int32))])) := fun tq kq => G0 tq (by
    refine XS.iloadN X0.here hx rfl (hb hby d8_0) rfl ?_
    show Steps p.tables e below (s₁.setTop (mkF m 1 #[.val (.ref b), .val (.int (5 : Int32))] [(.int (5 : Int32))])) _
    refine XS.aloadN X0.here hx rfl (hb hby d8_1) rfl rfl ?_
    show Steps p.tables e below (s₁.setTop (mkF m 2 #[.val (.ref b), .val (.int (5 : Int32))] [(.ref b), (.int (5 : Int32))])) _
    exact kq)
  obtain ⟨cl94, Ar94, q94, S94, M94, H94, Gf94⟩ := id Ab
  have G95 : Go p e below A0 (s₁.setTop (mkF m 3 #[.val (.ref b), .val (.int (5 : Int32))] [(.int (6 : Int32)), (.int (5 : Int32))])) := fun tq kq => G93 tq (by
    refine X0.arraylength hx (by rw [e0]; exact Ar94.1) (State.isArrayOf_alike hZ.alike Ar94.2.1) (g := (mkF m 2 #[.val (.ref b), .val (.int (5 : Int32))] [(.ref b), (.int (5 : Int32))])) rfl rfl (hb hby d8_2) _ ?_
    rw [len_of S94 M94]
    show Steps p.tables e below (s₁.setTop (mkF m 3 #[.val (.ref b), .val (.int (5 : Int32))] [(.int (6 : Int32)), (.int (5 : Int32))])) _
    exact kq)
  obtain ⟨_, _, ⟨T96, L96, k96, n96⟩, -, X96, ⟨Lc96, hQ96, l96, y96, z96⟩, st96⟩ := Jvm.LawKit.callS X0 hx (y := (⟨"java/lang/String", "checkIndex", "(II)V"⟩ : MethodName)) hown (mvT hZ (hw _ (List.mem_of_getElem? (i := 48) rfl))) (mvT hZ (hw _ (List.mem_of_getElem? (i := 49) rfl))) (mvT hZ (hw _ (List.mem_of_getElem? (i := 14) rfl))) (mvT hZ (hw _ (List.mem_of_getElem? (i := 50) rfl))) (by decide) (backOf (W := 0) (rmCI l Z a0 hw [] (5 : Int32) (6 : Int32) cs fo h0 n0 Z0 hCS hcs hSF hfo ⟨by decide, by decide⟩) hZ (hw _ (List.mem_of_getElem? (i := 50) rfl)) (hw _ (List.mem_of_getElem? (i := 14) rfl)) (by decide) (by decide)) (g := (mkF m 3 #[.val (.ref b), .val (.int (5 : Int32))] [(.int (6 : Int32)), (.int (5 : Int32))])) rfl (by rw [hml]; rfl) (argsL := [(.int (5 : Int32)), (.int (6 : Int32))]) (rest := []) (lenOf pd_2 rfl) rfl (by show 2 * 0 + _ ≤ _; exact Nat.le_of_eq rfl) (hb hby d8_3) (fun _ _ => ⟨rfl, e0, (by decide : 0 + 0 ≤ _), (by decide : 0 + 0 ≤ _)⟩)
  dsimp only [Pt.U, Pt.locs, Pt.cells, Pt.slots] at X96 l96 y96 z96 st96 hQ96
  obtain rfl : k96 = 0 := y96
  obtain rfl : n96 = 0 := z96
  obtain ⟨rfl, N96q, e96⟩ := hQ96
  have N96 : Fr n0 L96 := by rw [l96]; exact Fr.app N0 N96q
  have G97 : Go p e below A0 (T96.setTop (mkF m 6 #[.val (.ref b), .val (.int (5 : Int32))] [])) := fun tq kq => G95 tq (st96 _ kq)
  have G98 : Go p e below A0 (T96.setTop (mkF m 8 #[.val (.ref b), .val (.int (5 : Int32))] [(.int (5 : Int32)), (.ref b)])) := fun tq kq => G97 tq (by
    refine XS.aloadN X96.here hx rfl (hb hby d8_6) rfl rfl ?_
    show Steps p.tables e below (T96.setTop (mkF m 7 #[.val (.ref b), .val (.int (5 : Int32))] [(.ref b)])) _
    refine XS.iloadN X96.here hx rfl (hb hby d8_7) rfl ?_
    show Steps p.tables e below (T96.setTop (mkF m 8 #[.val (.ref b), .val (.int (5 : Int32))] [(.int (5 : Int32)), (.ref b)])) _
    exact kq)
  obtain ⟨cl99, Ar99, q99, S99, M99, H99, Gf99⟩ := id Ab
  have hi100 : ¬ ((5 : Int32) < 0 ∨ cl99.slots.size ≤ ((5 : Int32)).toNatClampNeg) := (inb_of S99 ⟨by decide, by decide⟩)
  have G101 : Go p e below A0 (T96.setTop (mkF m 14 #[.val (.ref b), .val (.int (5 : Int32))] [(.int (93 : Int32))])) := fun tq kq => G98 tq (by
    refine X96.baloadBytes hx (j := (5 : Int32)) (v := (.int (93 : Int32))) (by rw [e96]; exact Ar99.1) (State.isArrayOf_alike hZ.alike Ar99.2.1) Ar99.2.2 hi100 (H99.at hi100 rfl) (g := (mkF m 8 #[.val (.ref b), .val (.int (5 : Int32))] [(.int (5 : Int32)), (.ref b)])) rfl rfl (hb hby d8_8) _ ?_
    show Steps p.tables e below (T96.setTop (mkF m 9 #[.val (.ref b), .val (.int (5 : Int32))] [(.int (93 : Int32))])) _
    refine XS.sipush X96.here hx rfl (hb hby d8_9) ?_
    show Steps p.tables e below (T96.setTop (mkF m 12 #[.val (.ref b), .val (.int (5 : Int32))] [(.int (255 : Int32)), (.int (93 : Int32))])) _
    refine XS.iand X96.here hx rfl (hb hby d8_12) rfl ?_
    show Steps p.tables e below (T96.setTop (mkF m 13 #[.val (.ref b), .val (.int (5 : Int32))] [(.int ((93 : Int32) &&& (255 : Int32)))])) _
    rw [show ((93 : Int32) &&& (255 : Int32)) = (93 : Int32) from (by decide)]
    show Steps p.tables e below (T96.setTop (mkF m 13 #[.val (.ref b), .val (.int (5 : Int32))] [(.int (93 : Int32))])) _
    refine XS.i2c X96.here hx rfl (hb hby d8_13) rfl ?_
    show Steps p.tables e below (T96.setTop (mkF m 14 #[.val (.ref b), .val (.int (5 : Int32))] [(.int (93 : Int32).toUInt32.toUInt16.toUInt32.toInt32)])) _
    rw [show (93 : Int32).toUInt32.toUInt16.toUInt32.toInt32 = (93 : Int32) from (by decide)]
    show Steps p.tables e below (T96.setTop (mkF m 14 #[.val (.ref b), .val (.int (5 : Int32))] [(.int (93 : Int32))])) _
    exact kq)
  obtain ⟨fs, hr, hrun, hended, hW, hsame⟩ := X96.leave (v := some (.int (nar .char (93 : Int32)))) (fun h => by rw [Bd.returns] at h; cases h)
  refine ⟨_, _, (by rw [← hA0]; exact G101 _ (retN X96 hx (t := .char) Bd.returns (by simp) (hb hby d8_14) hr)), hrun, hended, _, _, rfl, ?_, ⟨_, rfl⟩, hW, hsame.mono (by decide) (by decide)⟩
  exact ⟨rfl, N96, e96⟩
set_option maxRecDepth 65536 in
set_option maxHeartbeats 40000000 in
theorem rmCA0 (l : Launch) (Z : State) (a0 : Array Value) (hw : ∀ d ∈ tables_1, d.before a0 Z = true) (ws : List Jvm.Cond) (a b : Addr) (kb : ClassId) (cs : Int32) (fo : Value) (h0 : Heap) (n0 : Nat) (Z0 : n0 ≤ h0.size) (E : Exa Z h0 a "java/lang/String") (Fv : Fld Z h0 a "java/lang/String" "value" "[B" (.ref b)) (Fc : Fld Z h0 a "java/lang/String" "coder" "B" (.int (0 : Int32))) (Ab : Arv Z h0 b kb .byte (6 : Int32) [(.int (91 : Int32)), (.int (32 : Int32)), (.int (9 : Int32)), (.int (13 : Int32)), (.int (10 : Int32)), (.int (93 : Int32))] (.int (0 : Int32))) (hCS : Sta Z h0 "java/lang/String" "COMPACT_STRINGS" "Z" (.int cs)) (hcs : ¬ cs = (0 : Int32)) (hSF : Sta Z h0 "jdk/internal/util/Preconditions" "SIOOBE_FORMATTER" "Ljava/util/function/BiFunction;" fo) (hfo : fo.isRef = true) :
    MetFree l (⟨"java/lang/String", "charAt", "(I)C"⟩ : MethodName) (head1 (Jvm.Cond.code (⟨"java/lang/String", "charAt", "(I)C"⟩ : MethodName) jdk_42_method_56_code 2 (some .char) :: ws) ({ frames := 3, cells := 0, slots := 0, locals := 40 } : Room)) (fun aa UU => aa = #[(.ref a), (.int (0 : Int32))] ∧ Z.Warmed39 UU.vm ∧ UU.heap = h0) (fun _ _ _ _ _ => True) (fun _ UU oo U' => ∃ v L, oo = .returned v ∧ Qr (.int (91 : Int32)) h0 n0 v U'.heap L ∧ FrameEnd UU oo U' L ({ frames := 3, cells := 0, slots := 0, locals := 40 } : Room).cells ({ frames := 3, cells := 0, slots := 0, locals := 40 } : Room).slots) := by
  refine MetFree.of_bodySF (plainFor_of_name pn_2) hisR ?_
  intro p e s m args below meth c s₁ Bd hml0 hP hK
  obtain ⟨rfl, hZ, hh⟩ := hP
  have hx := Bd.exec
  have hby := Bd.bytes
  have hml : c.maxLocals = 2 := hml0
  have hown : s.vm.findClass "java/lang/String" = some m.cls := findClass_of_methodNamed Bd.named
  have hnm := (name_of_methodNamed Bd.named Bd.method).1
  have X0 : Stand p l e ({ frames := 3, cells := 0, slots := 0, locals := 40 } : Room) s m #[(.ref a), (.int (0 : Int32))] below meth c s₁ [] 0 0 := Stand.of_body Bd
  have e0 : s₁.heap = h0 := by rw [← hh, Bd.state]; rfl
  have N0 := Fr.nil n0
  obtain ⟨A0, hA0⟩ : ∃ A, A = s₁.setTop (entryFrame m #[(.ref a), (.int (0 : Int32))] 2) := ⟨_, rfl⟩
  have G0 : Go p e below A0 (s₁.setTop (mkF m 0 #[.val (.ref a), .val (.int (0 : Int32))] [])) := fun tq kq => by rw [hA0]; exact castTop (ef_rmCA0 m a (0 : Int32)) kq
  have G102 : Go p e below A0 (s₁.setTop (mkF m 1 #[.val (.ref a), .val (.int (0 : Int32))] [(.ref a)])) := fun tq kq => G0 tq (by
    refine XS.aloadN X0.here hx rfl (hb hby d6_0) rfl rfl ?_
    show Steps p.tables e below (s₁.setTop (mkF m 1 #[.val (.ref a), .val (.int (0 : Int32))] [(.ref a)])) _
    exact kq)
  obtain ⟨cq103, kq103, q103a, q103b, q103c⟩ := isOf hZ e0 E
  obtain ⟨_, _, ⟨T103, L103, k103, n103⟩, -, X103, ⟨Lc103, hQ103, l103, y103, z103⟩, st103⟩ := X0.virtualBack hx (y := (⟨"java/lang/String", "isLatin1", "()Z"⟩ : MethodName)) (z := (⟨"java/lang/String", "isLatin1", "()Z"⟩ : MethodName)) hown (mvT hZ (hw _ (List.mem_of_getElem? (i := 39) rfl))) (mvT hZ (hw _ (List.mem_of_getElem? (i := 40) rfl))) (notFace_of_selects (args := #[]) (mvT hZ (hw _ (List.mem_of_getElem? (i := 42) rfl)))) (mvT hZ (hw _ (List.mem_of_getElem? (i := 42) rfl))) (mvT hZ (hw _ (List.mem_of_getElem? (i := 41) rfl))) (by decide) (backOf (W := 0) (rmL1 l Z a0 hw [] a b kb cs fo h0 n0 Z0 E Fv Fc Ab hCS hcs hSF hfo) hZ (hw _ (List.mem_of_getElem? (i := 43) rfl)) (hw _ (List.mem_of_getElem? (i := 14) rfl)) (by decide) (by decide)) q103a q103c (g := (mkF m 1 #[.val (.ref a), .val (.int (0 : Int32))] [(.ref a)])) rfl (by rw [hml]; rfl) (Steps.refl _) (argsL := []) (rest := []) (lenOf pd_3 rfl) rfl (by show 2 * 0 + _ ≤ _; exact Nat.le_of_eq rfl) (hb hby d6_1) (fun _ _ => ⟨rfl, e0, (by decide : 0 + 0 ≤ _), (by decide : 0 + 0 ≤ _)⟩)
  dsimp only [Pt.U, Pt.locs, Pt.cells, Pt.slots] at X103 l103 y103 z103 st103 hQ103
  obtain rfl : k103 = 0 := y103
  obtain rfl : n103 = 0 := z103
  obtain ⟨rfl, N103q, e103⟩ := hQ103
  have N103 : Fr n0 L103 := by rw [l103]; exact Fr.app N0 N103q
  have G104 : Go p e below A0 (T103.setTop (mkF m 4 #[.val (.ref a), .val (.int (0 : Int32))] [(.int (1 : Int32))])) := fun tq kq => G102 tq (st103.trans kq)
  have G105 : Go p e below A0 (T103.setTop (mkF m 8 #[.val (.ref a), .val (.int (0 : Int32))] [(.ref a)])) := fun tq kq => G104 tq (by
    refine XS.ifNo X103.here hx rfl (hb hby d6_4) rfl (by decide) ?_
    show Steps p.tables e below (T103.setTop (mkF m 7 #[.val (.ref a), .val (.int (0 : Int32))] [])) _
    refine XS.aloadN X103.here hx rfl (hb hby d6_7) rfl rfl ?_
    show Steps p.tables e below (T103.setTop (mkF m 8 #[.val (.ref a), .val (.int (0 : Int32))] [(.ref a)])) _
    exact kq)
  obtain ⟨T106, X106, e106, st106⟩ := getF X103 hx hZ hown (host := "") (Or.inl (hw _ (List.mem_of_getElem? (i := 26) rfl))) Via.refl e103 Fv (g := (mkF m 8 #[.val (.ref a), .val (.int (0 : Int32))] [(.ref a)])) rfl rfl (hb hby d6_8)
  have G107 : Go p e below A0 (T106.setTop (mkF m 11 #[.val (.ref a), .val (.int (0 : Int32))] [(.ref b)])) := fun tq kq => G105 tq (st106 _ kq)
  have G108 : Go p e below A0 (T106.setTop (mkF m 12 #[.val (.ref a), .val (.int (0 : Int32))] [(.int (0 : Int32)), (.ref b)])) := fun tq kq => G107 tq (by
    refine XS.iloadN X106.here hx rfl (hb hby d6_11) rfl ?_
    show Steps p.tables e below (T106.setTop (mkF m 12 #[.val (.ref a), .val (.int (0 : Int32))] [(.int (0 : Int32)), (.ref b)])) _
    exact kq)
  obtain ⟨_, _, ⟨T109, L109, k109, n109⟩, -, X109, ⟨Lc109, hQ109, l109, y109, z109⟩, st109⟩ := Jvm.LawKit.callS X106 hx (y := (⟨"java/lang/StringLatin1", "charAt", "([BI)C"⟩ : MethodName)) hown (mvT hZ (hw _ (List.mem_of_getElem? (i := 44) rfl))) (mvT hZ (hw _ (List.mem_of_getElem? (i := 45) rfl))) (mvT hZ (hw _ (List.mem_of_getElem? (i := 46) rfl))) (mvT hZ (hw _ (List.mem_of_getElem? (i := 47) rfl))) (by decide) (backOf (W := 0) (rmCL0 l Z a0 hw [] a b kb cs fo h0 n0 Z0 E Fv Fc Ab hCS hcs hSF hfo) hZ (hw _ (List.mem_of_getElem? (i := 47) rfl)) (hw _ (List.mem_of_getElem? (i := 46) rfl)) (by decide) (by decide)) (g := (mkF m 12 #[.val (.ref a), .val (.int (0 : Int32))] [(.int (0 : Int32)), (.ref b)])) rfl (by rw [hml]; rfl) (argsL := [(.ref b), (.int (0 : Int32))]) (rest := []) (lenOf pd_4 rfl) rfl (by show 2 * 0 + _ ≤ _; exact Nat.le_of_eq rfl) (hb hby d6_12) (fun _ _ => ⟨rfl, e106, (by decide : 0 + 0 ≤ _), (by decide : 0 + 0 ≤ _)⟩)
  dsimp only [Pt.U, Pt.locs, Pt.cells, Pt.slots] at X109 l109 y109 z109 st109 hQ109
  obtain rfl : k109 = 0 := y109
  obtain rfl : n109 = 0 := z109
  obtain ⟨rfl, N109q, e109⟩ := hQ109
  have N109 : Fr n0 L109 := by rw [l109]; exact Fr.app N103 N109q
  have G110 : Go p e below A0 (T109.setTop (mkF m 15 #[.val (.ref a), .val (.int (0 : Int32))] [(.int (91 : Int32))])) := fun tq kq => G108 tq (st109 _ kq)
  obtain ⟨fs, hr, hrun, hended, hW, hsame⟩ := X109.leave (v := some (.int (nar .char (91 : Int32)))) (fun h => by rw [Bd.returns] at h; cases h)
  refine ⟨_, _, (by rw [← hA0]; exact G110 _ (retN X109 hx (t := .char) Bd.returns (by simp) (hb hby d6_15) hr)), hrun, hended, _, _, rfl, ?_, ⟨_, rfl⟩, hW, hsame.mono (by decide) (by decide)⟩
  exact ⟨rfl, N109, e109⟩
set_option maxRecDepth 65536 in
set_option maxHeartbeats 40000000 in
theorem rmCA1 (l : Launch) (Z : State) (a0 : Array Value) (hw : ∀ d ∈ tables_1, d.before a0 Z = true) (ws : List Jvm.Cond) (a b : Addr) (kb : ClassId) (cs : Int32) (fo : Value) (h0 : Heap) (n0 : Nat) (Z0 : n0 ≤ h0.size) (E : Exa Z h0 a "java/lang/String") (Fv : Fld Z h0 a "java/lang/String" "value" "[B" (.ref b)) (Fc : Fld Z h0 a "java/lang/String" "coder" "B" (.int (0 : Int32))) (Ab : Arv Z h0 b kb .byte (6 : Int32) [(.int (91 : Int32)), (.int (32 : Int32)), (.int (9 : Int32)), (.int (13 : Int32)), (.int (10 : Int32)), (.int (93 : Int32))] (.int (0 : Int32))) (hCS : Sta Z h0 "java/lang/String" "COMPACT_STRINGS" "Z" (.int cs)) (hcs : ¬ cs = (0 : Int32)) (hSF : Sta Z h0 "jdk/internal/util/Preconditions" "SIOOBE_FORMATTER" "Ljava/util/function/BiFunction;" fo) (hfo : fo.isRef = true) :
    MetFree l (⟨"java/lang/String", "charAt", "(I)C"⟩ : MethodName) (head1 (Jvm.Cond.code (⟨"java/lang/String", "charAt", "(I)C"⟩ : MethodName) jdk_42_method_56_code 2 (some .char) :: ws) ({ frames := 3, cells := 0, slots := 0, locals := 40 } : Room)) (fun aa UU => aa = #[(.ref a), (.int (1 : Int32))] ∧ Z.Warmed39 UU.vm ∧ UU.heap = h0) (fun _ _ _ _ _ => True) (fun _ UU oo U' => ∃ v L, oo = .returned v ∧ Qr (.int (32 : Int32)) h0 n0 v U'.heap L ∧ FrameEnd UU oo U' L ({ frames := 3, cells := 0, slots := 0, locals := 40 } : Room).cells ({ frames := 3, cells := 0, slots := 0, locals := 40 } : Room).slots) := by
  refine MetFree.of_bodySF (plainFor_of_name pn_2) hisR ?_
  intro p e s m args below meth c s₁ Bd hml0 hP hK
  obtain ⟨rfl, hZ, hh⟩ := hP
  have hx := Bd.exec
  have hby := Bd.bytes
  have hml : c.maxLocals = 2 := hml0
  have hown : s.vm.findClass "java/lang/String" = some m.cls := findClass_of_methodNamed Bd.named
  have hnm := (name_of_methodNamed Bd.named Bd.method).1
  have X0 : Stand p l e ({ frames := 3, cells := 0, slots := 0, locals := 40 } : Room) s m #[(.ref a), (.int (1 : Int32))] below meth c s₁ [] 0 0 := Stand.of_body Bd
  have e0 : s₁.heap = h0 := by rw [← hh, Bd.state]; rfl
  have N0 := Fr.nil n0
  obtain ⟨A0, hA0⟩ : ∃ A, A = s₁.setTop (entryFrame m #[(.ref a), (.int (1 : Int32))] 2) := ⟨_, rfl⟩
  have G0 : Go p e below A0 (s₁.setTop (mkF m 0 #[.val (.ref a), .val (.int (1 : Int32))] [])) := fun tq kq => by rw [hA0]; exact castTop (ef_rmCA1 m a (1 : Int32)) kq
  have G111 : Go p e below A0 (s₁.setTop (mkF m 1 #[.val (.ref a), .val (.int (1 : Int32))] [(.ref a)])) := fun tq kq => G0 tq (by
    refine XS.aloadN X0.here hx rfl (hb hby d6_0) rfl rfl ?_
    show Steps p.tables e below (s₁.setTop (mkF m 1 #[.val (.ref a), .val (.int (1 : Int32))] [(.ref a)])) _
    exact kq)
  obtain ⟨cq112, kq112, q112a, q112b, q112c⟩ := isOf hZ e0 E
  obtain ⟨_, _, ⟨T112, L112, k112, n112⟩, -, X112, ⟨Lc112, hQ112, l112, y112, z112⟩, st112⟩ := X0.virtualBack hx (y := (⟨"java/lang/String", "isLatin1", "()Z"⟩ : MethodName)) (z := (⟨"java/lang/String", "isLatin1", "()Z"⟩ : MethodName)) hown (mvT hZ (hw _ (List.mem_of_getElem? (i := 39) rfl))) (mvT hZ (hw _ (List.mem_of_getElem? (i := 40) rfl))) (notFace_of_selects (args := #[]) (mvT hZ (hw _ (List.mem_of_getElem? (i := 42) rfl)))) (mvT hZ (hw _ (List.mem_of_getElem? (i := 42) rfl))) (mvT hZ (hw _ (List.mem_of_getElem? (i := 41) rfl))) (by decide) (backOf (W := 0) (rmL1 l Z a0 hw [] a b kb cs fo h0 n0 Z0 E Fv Fc Ab hCS hcs hSF hfo) hZ (hw _ (List.mem_of_getElem? (i := 43) rfl)) (hw _ (List.mem_of_getElem? (i := 14) rfl)) (by decide) (by decide)) q112a q112c (g := (mkF m 1 #[.val (.ref a), .val (.int (1 : Int32))] [(.ref a)])) rfl (by rw [hml]; rfl) (Steps.refl _) (argsL := []) (rest := []) (lenOf pd_3 rfl) rfl (by show 2 * 0 + _ ≤ _; exact Nat.le_of_eq rfl) (hb hby d6_1) (fun _ _ => ⟨rfl, e0, (by decide : 0 + 0 ≤ _), (by decide : 0 + 0 ≤ _)⟩)
  dsimp only [Pt.U, Pt.locs, Pt.cells, Pt.slots] at X112 l112 y112 z112 st112 hQ112
  obtain rfl : k112 = 0 := y112
  obtain rfl : n112 = 0 := z112
  obtain ⟨rfl, N112q, e112⟩ := hQ112
  have N112 : Fr n0 L112 := by rw [l112]; exact Fr.app N0 N112q
  have G113 : Go p e below A0 (T112.setTop (mkF m 4 #[.val (.ref a), .val (.int (1 : Int32))] [(.int (1 : Int32))])) := fun tq kq => G111 tq (st112.trans kq)
  have G114 : Go p e below A0 (T112.setTop (mkF m 8 #[.val (.ref a), .val (.int (1 : Int32))] [(.ref a)])) := fun tq kq => G113 tq (by
    refine XS.ifNo X112.here hx rfl (hb hby d6_4) rfl (by decide) ?_
    show Steps p.tables e below (T112.setTop (mkF m 7 #[.val (.ref a), .val (.int (1 : Int32))] [])) _
    refine XS.aloadN X112.here hx rfl (hb hby d6_7) rfl rfl ?_
    show Steps p.tables e below (T112.setTop (mkF m 8 #[.val (.ref a), .val (.int (1 : Int32))] [(.ref a)])) _
    exact kq)
  obtain ⟨T115, X115, e115, st115⟩ := getF X112 hx hZ hown (host := "") (Or.inl (hw _ (List.mem_of_getElem? (i := 26) rfl))) Via.refl e112 Fv (g := (mkF m 8 #[.val (.ref a), .val (.int (1 : Int32))] [(.ref a)])) rfl rfl (hb hby d6_8)
  have G116 : Go p e below A0 (T115.setTop (mkF m 11 #[.val (.ref a), .val (.int (1 : Int32))] [(.ref b)])) := fun tq kq => G114 tq (st115 _ kq)
  have G117 : Go p e below A0 (T115.setTop (mkF m 12 #[.val (.ref a), .val (.int (1 : Int32))] [(.int (1 : Int32)), (.ref b)])) := fun tq kq => G116 tq (by
    refine XS.iloadN X115.here hx rfl (hb hby d6_11) rfl ?_
    show Steps p.tables e below (T115.setTop (mkF m 12 #[.val (.ref a), .val (.int (1 : Int32))] [(.int (1 : Int32)), (.ref b)])) _
    exact kq)
  obtain ⟨_, _, ⟨T118, L118, k118, n118⟩, -, X118, ⟨Lc118, hQ118, l118, y118, z118⟩, st118⟩ := Jvm.LawKit.callS X115 hx (y := (⟨"java/lang/StringLatin1", "charAt", "([BI)C"⟩ : MethodName)) hown (mvT hZ (hw _ (List.mem_of_getElem? (i := 44) rfl))) (mvT hZ (hw _ (List.mem_of_getElem? (i := 45) rfl))) (mvT hZ (hw _ (List.mem_of_getElem? (i := 46) rfl))) (mvT hZ (hw _ (List.mem_of_getElem? (i := 47) rfl))) (by decide) (backOf (W := 0) (rmCL1 l Z a0 hw [] a b kb cs fo h0 n0 Z0 E Fv Fc Ab hCS hcs hSF hfo) hZ (hw _ (List.mem_of_getElem? (i := 47) rfl)) (hw _ (List.mem_of_getElem? (i := 46) rfl)) (by decide) (by decide)) (g := (mkF m 12 #[.val (.ref a), .val (.int (1 : Int32))] [(.int (1 : Int32)), (.ref b)])) rfl (by rw [hml]; rfl) (argsL := [(.ref b), (.int (1 : Int32))]) (rest := []) (lenOf pd_4 rfl) rfl (by show 2 * 0 + _ ≤ _; exact Nat.le_of_eq rfl) (hb hby d6_12) (fun _ _ => ⟨rfl, e115, (by decide : 0 + 0 ≤ _), (by decide : 0 + 0 ≤ _)⟩)
  dsimp only [Pt.U, Pt.locs, Pt.cells, Pt.slots] at X118 l118 y118 z118 st118 hQ118
  obtain rfl : k118 = 0 := y118
  obtain rfl : n118 = 0 := z118
  obtain ⟨rfl, N118q, e118⟩ := hQ118
  have N118 : Fr n0 L118 := by rw [l118]; exact Fr.app N112 N118q
  have G119 : Go p e below A0 (T118.setTop (mkF m 15 #[.val (.ref a), .val (.int (1 : Int32))] [(.int (32 : Int32))])) := fun tq kq => G117 tq (st118 _ kq)
  obtain ⟨fs, hr, hrun, hended, hW, hsame⟩ := X118.leave (v := some (.int (nar .char (32 : Int32)))) (fun h => by rw [Bd.returns] at h; cases h)
  refine ⟨_, _, (by rw [← hA0]; exact G119 _ (retN X118 hx (t := .char) Bd.returns (by simp) (hb hby d6_15) hr)), hrun, hended, _, _, rfl, ?_, ⟨_, rfl⟩, hW, hsame.mono (by decide) (by decide)⟩
  exact ⟨rfl, N118, e118⟩
set_option maxRecDepth 65536 in
set_option maxHeartbeats 40000000 in
theorem rmCA2 (l : Launch) (Z : State) (a0 : Array Value) (hw : ∀ d ∈ tables_1, d.before a0 Z = true) (ws : List Jvm.Cond) (a b : Addr) (kb : ClassId) (cs : Int32) (fo : Value) (h0 : Heap) (n0 : Nat) (Z0 : n0 ≤ h0.size) (E : Exa Z h0 a "java/lang/String") (Fv : Fld Z h0 a "java/lang/String" "value" "[B" (.ref b)) (Fc : Fld Z h0 a "java/lang/String" "coder" "B" (.int (0 : Int32))) (Ab : Arv Z h0 b kb .byte (6 : Int32) [(.int (91 : Int32)), (.int (32 : Int32)), (.int (9 : Int32)), (.int (13 : Int32)), (.int (10 : Int32)), (.int (93 : Int32))] (.int (0 : Int32))) (hCS : Sta Z h0 "java/lang/String" "COMPACT_STRINGS" "Z" (.int cs)) (hcs : ¬ cs = (0 : Int32)) (hSF : Sta Z h0 "jdk/internal/util/Preconditions" "SIOOBE_FORMATTER" "Ljava/util/function/BiFunction;" fo) (hfo : fo.isRef = true) :
    MetFree l (⟨"java/lang/String", "charAt", "(I)C"⟩ : MethodName) (head1 (Jvm.Cond.code (⟨"java/lang/String", "charAt", "(I)C"⟩ : MethodName) jdk_42_method_56_code 2 (some .char) :: ws) ({ frames := 3, cells := 0, slots := 0, locals := 40 } : Room)) (fun aa UU => aa = #[(.ref a), (.int (2 : Int32))] ∧ Z.Warmed39 UU.vm ∧ UU.heap = h0) (fun _ _ _ _ _ => True) (fun _ UU oo U' => ∃ v L, oo = .returned v ∧ Qr (.int (9 : Int32)) h0 n0 v U'.heap L ∧ FrameEnd UU oo U' L ({ frames := 3, cells := 0, slots := 0, locals := 40 } : Room).cells ({ frames := 3, cells := 0, slots := 0, locals := 40 } : Room).slots) := by
  refine MetFree.of_bodySF (plainFor_of_name pn_2) hisR ?_
  intro p e s m args below meth c s₁ Bd hml0 hP hK
  obtain ⟨rfl, hZ, hh⟩ := hP
  have hx := Bd.exec
  have hby := Bd.bytes
  have hml : c.maxLocals = 2 := hml0
  have hown : s.vm.findClass "java/lang/String" = some m.cls := findClass_of_methodNamed Bd.named
  have hnm := (name_of_methodNamed Bd.named Bd.method).1
  have X0 : Stand p l e ({ frames := 3, cells := 0, slots := 0, locals := 40 } : Room) s m #[(.ref a), (.int (2 : Int32))] below meth c s₁ [] 0 0 := Stand.of_body Bd
  have e0 : s₁.heap = h0 := by rw [← hh, Bd.state]; rfl
  have N0 := Fr.nil n0
  obtain ⟨A0, hA0⟩ : ∃ A, A = s₁.setTop (entryFrame m #[(.ref a), (.int (2 : Int32))] 2) := ⟨_, rfl⟩
  have G0 : Go p e below A0 (s₁.setTop (mkF m 0 #[.val (.ref a), .val (.int (2 : Int32))] [])) := fun tq kq => by rw [hA0]; exact castTop (ef_rmCA2 m a (2 : Int32)) kq
  have G120 : Go p e below A0 (s₁.setTop (mkF m 1 #[.val (.ref a), .val (.int (2 : Int32))] [(.ref a)])) := fun tq kq => G0 tq (by
    refine XS.aloadN X0.here hx rfl (hb hby d6_0) rfl rfl ?_
    show Steps p.tables e below (s₁.setTop (mkF m 1 #[.val (.ref a), .val (.int (2 : Int32))] [(.ref a)])) _
    exact kq)
  obtain ⟨cq121, kq121, q121a, q121b, q121c⟩ := isOf hZ e0 E
  obtain ⟨_, _, ⟨T121, L121, k121, n121⟩, -, X121, ⟨Lc121, hQ121, l121, y121, z121⟩, st121⟩ := X0.virtualBack hx (y := (⟨"java/lang/String", "isLatin1", "()Z"⟩ : MethodName)) (z := (⟨"java/lang/String", "isLatin1", "()Z"⟩ : MethodName)) hown (mvT hZ (hw _ (List.mem_of_getElem? (i := 39) rfl))) (mvT hZ (hw _ (List.mem_of_getElem? (i := 40) rfl))) (notFace_of_selects (args := #[]) (mvT hZ (hw _ (List.mem_of_getElem? (i := 42) rfl)))) (mvT hZ (hw _ (List.mem_of_getElem? (i := 42) rfl))) (mvT hZ (hw _ (List.mem_of_getElem? (i := 41) rfl))) (by decide) (backOf (W := 0) (rmL1 l Z a0 hw [] a b kb cs fo h0 n0 Z0 E Fv Fc Ab hCS hcs hSF hfo) hZ (hw _ (List.mem_of_getElem? (i := 43) rfl)) (hw _ (List.mem_of_getElem? (i := 14) rfl)) (by decide) (by decide)) q121a q121c (g := (mkF m 1 #[.val (.ref a), .val (.int (2 : Int32))] [(.ref a)])) rfl (by rw [hml]; rfl) (Steps.refl _) (argsL := []) (rest := []) (lenOf pd_3 rfl) rfl (by show 2 * 0 + _ ≤ _; exact Nat.le_of_eq rfl) (hb hby d6_1) (fun _ _ => ⟨rfl, e0, (by decide : 0 + 0 ≤ _), (by decide : 0 + 0 ≤ _)⟩)
  dsimp only [Pt.U, Pt.locs, Pt.cells, Pt.slots] at X121 l121 y121 z121 st121 hQ121
  obtain rfl : k121 = 0 := y121
  obtain rfl : n121 = 0 := z121
  obtain ⟨rfl, N121q, e121⟩ := hQ121
  have N121 : Fr n0 L121 := by rw [l121]; exact Fr.app N0 N121q
  have G122 : Go p e below A0 (T121.setTop (mkF m 4 #[.val (.ref a), .val (.int (2 : Int32))] [(.int (1 : Int32))])) := fun tq kq => G120 tq (st121.trans kq)
  have G123 : Go p e below A0 (T121.setTop (mkF m 8 #[.val (.ref a), .val (.int (2 : Int32))] [(.ref a)])) := fun tq kq => G122 tq (by
    refine XS.ifNo X121.here hx rfl (hb hby d6_4) rfl (by decide) ?_
    show Steps p.tables e below (T121.setTop (mkF m 7 #[.val (.ref a), .val (.int (2 : Int32))] [])) _
    refine XS.aloadN X121.here hx rfl (hb hby d6_7) rfl rfl ?_
    show Steps p.tables e below (T121.setTop (mkF m 8 #[.val (.ref a), .val (.int (2 : Int32))] [(.ref a)])) _
    exact kq)
  obtain ⟨T124, X124, e124, st124⟩ := getF X121 hx hZ hown (host := "") (Or.inl (hw _ (List.mem_of_getElem? (i := 26) rfl))) Via.refl e121 Fv (g := (mkF m 8 #[.val (.ref a), .val (.int (2 : Int32))] [(.ref a)])) rfl rfl (hb hby d6_8)
  have G125 : Go p e below A0 (T124.setTop (mkF m 11 #[.val (.ref a), .val (.int (2 : Int32))] [(.ref b)])) := fun tq kq => G123 tq (st124 _ kq)
  have G126 : Go p e below A0 (T124.setTop (mkF m 12 #[.val (.ref a), .val (.int (2 : Int32))] [(.int (2 : Int32)), (.ref b)])) := fun tq kq => G125 tq (by
    refine XS.iloadN X124.here hx rfl (hb hby d6_11) rfl ?_
    show Steps p.tables e below (T124.setTop (mkF m 12 #[.val (.ref a), .val (.int (2 : Int32))] [(.int (2 : Int32)), (.ref b)])) _
    exact kq)
  obtain ⟨_, _, ⟨T127, L127, k127, n127⟩, -, X127, ⟨Lc127, hQ127, l127, y127, z127⟩, st127⟩ := Jvm.LawKit.callS X124 hx (y := (⟨"java/lang/StringLatin1", "charAt", "([BI)C"⟩ : MethodName)) hown (mvT hZ (hw _ (List.mem_of_getElem? (i := 44) rfl))) (mvT hZ (hw _ (List.mem_of_getElem? (i := 45) rfl))) (mvT hZ (hw _ (List.mem_of_getElem? (i := 46) rfl))) (mvT hZ (hw _ (List.mem_of_getElem? (i := 47) rfl))) (by decide) (backOf (W := 0) (rmCL2 l Z a0 hw [] a b kb cs fo h0 n0 Z0 E Fv Fc Ab hCS hcs hSF hfo) hZ (hw _ (List.mem_of_getElem? (i := 47) rfl)) (hw _ (List.mem_of_getElem? (i := 46) rfl)) (by decide) (by decide)) (g := (mkF m 12 #[.val (.ref a), .val (.int (2 : Int32))] [(.int (2 : Int32)), (.ref b)])) rfl (by rw [hml]; rfl) (argsL := [(.ref b), (.int (2 : Int32))]) (rest := []) (lenOf pd_4 rfl) rfl (by show 2 * 0 + _ ≤ _; exact Nat.le_of_eq rfl) (hb hby d6_12) (fun _ _ => ⟨rfl, e124, (by decide : 0 + 0 ≤ _), (by decide : 0 + 0 ≤ _)⟩)
  dsimp only [Pt.U, Pt.locs, Pt.cells, Pt.slots] at X127 l127 y127 z127 st127 hQ127
  obtain rfl : k127 = 0 := y127
  obtain rfl : n127 = 0 := z127
  obtain ⟨rfl, N127q, e127⟩ := hQ127
  have N127 : Fr n0 L127 := by rw [l127]; exact Fr.app N121 N127q
  have G128 : Go p e below A0 (T127.setTop (mkF m 15 #[.val (.ref a), .val (.int (2 : Int32))] [(.int (9 : Int32))])) := fun tq kq => G126 tq (st127 _ kq)
  obtain ⟨fs, hr, hrun, hended, hW, hsame⟩ := X127.leave (v := some (.int (nar .char (9 : Int32)))) (fun h => by rw [Bd.returns] at h; cases h)
  refine ⟨_, _, (by rw [← hA0]; exact G128 _ (retN X127 hx (t := .char) Bd.returns (by simp) (hb hby d6_15) hr)), hrun, hended, _, _, rfl, ?_, ⟨_, rfl⟩, hW, hsame.mono (by decide) (by decide)⟩
  exact ⟨rfl, N127, e127⟩
set_option maxRecDepth 65536 in
set_option maxHeartbeats 40000000 in
theorem rmCA3 (l : Launch) (Z : State) (a0 : Array Value) (hw : ∀ d ∈ tables_1, d.before a0 Z = true) (ws : List Jvm.Cond) (a b : Addr) (kb : ClassId) (cs : Int32) (fo : Value) (h0 : Heap) (n0 : Nat) (Z0 : n0 ≤ h0.size) (E : Exa Z h0 a "java/lang/String") (Fv : Fld Z h0 a "java/lang/String" "value" "[B" (.ref b)) (Fc : Fld Z h0 a "java/lang/String" "coder" "B" (.int (0 : Int32))) (Ab : Arv Z h0 b kb .byte (6 : Int32) [(.int (91 : Int32)), (.int (32 : Int32)), (.int (9 : Int32)), (.int (13 : Int32)), (.int (10 : Int32)), (.int (93 : Int32))] (.int (0 : Int32))) (hCS : Sta Z h0 "java/lang/String" "COMPACT_STRINGS" "Z" (.int cs)) (hcs : ¬ cs = (0 : Int32)) (hSF : Sta Z h0 "jdk/internal/util/Preconditions" "SIOOBE_FORMATTER" "Ljava/util/function/BiFunction;" fo) (hfo : fo.isRef = true) :
    MetFree l (⟨"java/lang/String", "charAt", "(I)C"⟩ : MethodName) (head1 (Jvm.Cond.code (⟨"java/lang/String", "charAt", "(I)C"⟩ : MethodName) jdk_42_method_56_code 2 (some .char) :: ws) ({ frames := 3, cells := 0, slots := 0, locals := 40 } : Room)) (fun aa UU => aa = #[(.ref a), (.int (3 : Int32))] ∧ Z.Warmed39 UU.vm ∧ UU.heap = h0) (fun _ _ _ _ _ => True) (fun _ UU oo U' => ∃ v L, oo = .returned v ∧ Qr (.int (13 : Int32)) h0 n0 v U'.heap L ∧ FrameEnd UU oo U' L ({ frames := 3, cells := 0, slots := 0, locals := 40 } : Room).cells ({ frames := 3, cells := 0, slots := 0, locals := 40 } : Room).slots) := by
  refine MetFree.of_bodySF (plainFor_of_name pn_2) hisR ?_
  intro p e s m args below meth c s₁ Bd hml0 hP hK
  obtain ⟨rfl, hZ, hh⟩ := hP
  have hx := Bd.exec
  have hby := Bd.bytes
  have hml : c.maxLocals = 2 := hml0
  have hown : s.vm.findClass "java/lang/String" = some m.cls := findClass_of_methodNamed Bd.named
  have hnm := (name_of_methodNamed Bd.named Bd.method).1
  have X0 : Stand p l e ({ frames := 3, cells := 0, slots := 0, locals := 40 } : Room) s m #[(.ref a), (.int (3 : Int32))] below meth c s₁ [] 0 0 := Stand.of_body Bd
  have e0 : s₁.heap = h0 := by rw [← hh, Bd.state]; rfl
  have N0 := Fr.nil n0
  obtain ⟨A0, hA0⟩ : ∃ A, A = s₁.setTop (entryFrame m #[(.ref a), (.int (3 : Int32))] 2) := ⟨_, rfl⟩
  have G0 : Go p e below A0 (s₁.setTop (mkF m 0 #[.val (.ref a), .val (.int (3 : Int32))] [])) := fun tq kq => by rw [hA0]; exact castTop (ef_rmCA3 m a (3 : Int32)) kq
  have G129 : Go p e below A0 (s₁.setTop (mkF m 1 #[.val (.ref a), .val (.int (3 : Int32))] [(.ref a)])) := fun tq kq => G0 tq (by
    refine XS.aloadN X0.here hx rfl (hb hby d6_0) rfl rfl ?_
    show Steps p.tables e below (s₁.setTop (mkF m 1 #[.val (.ref a), .val (.int (3 : Int32))] [(.ref a)])) _
    exact kq)
  obtain ⟨cq130, kq130, q130a, q130b, q130c⟩ := isOf hZ e0 E
  obtain ⟨_, _, ⟨T130, L130, k130, n130⟩, -, X130, ⟨Lc130, hQ130, l130, y130, z130⟩, st130⟩ := X0.virtualBack hx (y := (⟨"java/lang/String", "isLatin1", "()Z"⟩ : MethodName)) (z := (⟨"java/lang/String", "isLatin1", "()Z"⟩ : MethodName)) hown (mvT hZ (hw _ (List.mem_of_getElem? (i := 39) rfl))) (mvT hZ (hw _ (List.mem_of_getElem? (i := 40) rfl))) (notFace_of_selects (args := #[]) (mvT hZ (hw _ (List.mem_of_getElem? (i := 42) rfl)))) (mvT hZ (hw _ (List.mem_of_getElem? (i := 42) rfl))) (mvT hZ (hw _ (List.mem_of_getElem? (i := 41) rfl))) (by decide) (backOf (W := 0) (rmL1 l Z a0 hw [] a b kb cs fo h0 n0 Z0 E Fv Fc Ab hCS hcs hSF hfo) hZ (hw _ (List.mem_of_getElem? (i := 43) rfl)) (hw _ (List.mem_of_getElem? (i := 14) rfl)) (by decide) (by decide)) q130a q130c (g := (mkF m 1 #[.val (.ref a), .val (.int (3 : Int32))] [(.ref a)])) rfl (by rw [hml]; rfl) (Steps.refl _) (argsL := []) (rest := []) (lenOf pd_3 rfl) rfl (by show 2 * 0 + _ ≤ _; exact Nat.le_of_eq rfl) (hb hby d6_1) (fun _ _ => ⟨rfl, e0, (by decide : 0 + 0 ≤ _), (by decide : 0 + 0 ≤ _)⟩)
  dsimp only [Pt.U, Pt.locs, Pt.cells, Pt.slots] at X130 l130 y130 z130 st130 hQ130
  obtain rfl : k130 = 0 := y130
  obtain rfl : n130 = 0 := z130
  obtain ⟨rfl, N130q, e130⟩ := hQ130
  have N130 : Fr n0 L130 := by rw [l130]; exact Fr.app N0 N130q
  have G131 : Go p e below A0 (T130.setTop (mkF m 4 #[.val (.ref a), .val (.int (3 : Int32))] [(.int (1 : Int32))])) := fun tq kq => G129 tq (st130.trans kq)
  have G132 : Go p e below A0 (T130.setTop (mkF m 8 #[.val (.ref a), .val (.int (3 : Int32))] [(.ref a)])) := fun tq kq => G131 tq (by
    refine XS.ifNo X130.here hx rfl (hb hby d6_4) rfl (by decide) ?_
    show Steps p.tables e below (T130.setTop (mkF m 7 #[.val (.ref a), .val (.int (3 : Int32))] [])) _
    refine XS.aloadN X130.here hx rfl (hb hby d6_7) rfl rfl ?_
    show Steps p.tables e below (T130.setTop (mkF m 8 #[.val (.ref a), .val (.int (3 : Int32))] [(.ref a)])) _
    exact kq)
  obtain ⟨T133, X133, e133, st133⟩ := getF X130 hx hZ hown (host := "") (Or.inl (hw _ (List.mem_of_getElem? (i := 26) rfl))) Via.refl e130 Fv (g := (mkF m 8 #[.val (.ref a), .val (.int (3 : Int32))] [(.ref a)])) rfl rfl (hb hby d6_8)
  have G134 : Go p e below A0 (T133.setTop (mkF m 11 #[.val (.ref a), .val (.int (3 : Int32))] [(.ref b)])) := fun tq kq => G132 tq (st133 _ kq)
  have G135 : Go p e below A0 (T133.setTop (mkF m 12 #[.val (.ref a), .val (.int (3 : Int32))] [(.int (3 : Int32)), (.ref b)])) := fun tq kq => G134 tq (by
    refine XS.iloadN X133.here hx rfl (hb hby d6_11) rfl ?_
    show Steps p.tables e below (T133.setTop (mkF m 12 #[.val (.ref a), .val (.int (3 : Int32))] [(.int (3 : Int32)), (.ref b)])) _
    exact kq)
  obtain ⟨_, _, ⟨T136, L136, k136, n136⟩, -, X136, ⟨Lc136, hQ136, l136, y136, z136⟩, st136⟩ := Jvm.LawKit.callS X133 hx (y := (⟨"java/lang/StringLatin1", "charAt", "([BI)C"⟩ : MethodName)) hown (mvT hZ (hw _ (List.mem_of_getElem? (i := 44) rfl))) (mvT hZ (hw _ (List.mem_of_getElem? (i := 45) rfl))) (mvT hZ (hw _ (List.mem_of_getElem? (i := 46) rfl))) (mvT hZ (hw _ (List.mem_of_getElem? (i := 47) rfl))) (by decide) (backOf (W := 0) (rmCL3 l Z a0 hw [] a b kb cs fo h0 n0 Z0 E Fv Fc Ab hCS hcs hSF hfo) hZ (hw _ (List.mem_of_getElem? (i := 47) rfl)) (hw _ (List.mem_of_getElem? (i := 46) rfl)) (by decide) (by decide)) (g := (mkF m 12 #[.val (.ref a), .val (.int (3 : Int32))] [(.int (3 : Int32)), (.ref b)])) rfl (by rw [hml]; rfl) (argsL := [(.ref b), (.int (3 : Int32))]) (rest := []) (lenOf pd_4 rfl) rfl (by show 2 * 0 + _ ≤ _; exact Nat.le_of_eq rfl) (hb hby d6_12) (fun _ _ => ⟨rfl, e133, (by decide : 0 + 0 ≤ _), (by decide : 0 + 0 ≤ _)⟩)
  dsimp only [Pt.U, Pt.locs, Pt.cells, Pt.slots] at X136 l136 y136 z136 st136 hQ136
  obtain rfl : k136 = 0 := y136
  obtain rfl : n136 = 0 := z136
  obtain ⟨rfl, N136q, e136⟩ := hQ136
  have N136 : Fr n0 L136 := by rw [l136]; exact Fr.app N130 N136q
  have G137 : Go p e below A0 (T136.setTop (mkF m 15 #[.val (.ref a), .val (.int (3 : Int32))] [(.int (13 : Int32))])) := fun tq kq => G135 tq (st136 _ kq)
  obtain ⟨fs, hr, hrun, hended, hW, hsame⟩ := X136.leave (v := some (.int (nar .char (13 : Int32)))) (fun h => by rw [Bd.returns] at h; cases h)
  refine ⟨_, _, (by rw [← hA0]; exact G137 _ (retN X136 hx (t := .char) Bd.returns (by simp) (hb hby d6_15) hr)), hrun, hended, _, _, rfl, ?_, ⟨_, rfl⟩, hW, hsame.mono (by decide) (by decide)⟩
  exact ⟨rfl, N136, e136⟩
set_option maxRecDepth 65536 in
set_option maxHeartbeats 40000000 in
theorem rmCA4 (l : Launch) (Z : State) (a0 : Array Value) (hw : ∀ d ∈ tables_1, d.before a0 Z = true) (ws : List Jvm.Cond) (a b : Addr) (kb : ClassId) (cs : Int32) (fo : Value) (h0 : Heap) (n0 : Nat) (Z0 : n0 ≤ h0.size) (E : Exa Z h0 a "java/lang/String") (Fv : Fld Z h0 a "java/lang/String" "value" "[B" (.ref b)) (Fc : Fld Z h0 a "java/lang/String" "coder" "B" (.int (0 : Int32))) (Ab : Arv Z h0 b kb .byte (6 : Int32) [(.int (91 : Int32)), (.int (32 : Int32)), (.int (9 : Int32)), (.int (13 : Int32)), (.int (10 : Int32)), (.int (93 : Int32))] (.int (0 : Int32))) (hCS : Sta Z h0 "java/lang/String" "COMPACT_STRINGS" "Z" (.int cs)) (hcs : ¬ cs = (0 : Int32)) (hSF : Sta Z h0 "jdk/internal/util/Preconditions" "SIOOBE_FORMATTER" "Ljava/util/function/BiFunction;" fo) (hfo : fo.isRef = true) :
    MetFree l (⟨"java/lang/String", "charAt", "(I)C"⟩ : MethodName) (head1 (Jvm.Cond.code (⟨"java/lang/String", "charAt", "(I)C"⟩ : MethodName) jdk_42_method_56_code 2 (some .char) :: ws) ({ frames := 3, cells := 0, slots := 0, locals := 40 } : Room)) (fun aa UU => aa = #[(.ref a), (.int (4 : Int32))] ∧ Z.Warmed39 UU.vm ∧ UU.heap = h0) (fun _ _ _ _ _ => True) (fun _ UU oo U' => ∃ v L, oo = .returned v ∧ Qr (.int (10 : Int32)) h0 n0 v U'.heap L ∧ FrameEnd UU oo U' L ({ frames := 3, cells := 0, slots := 0, locals := 40 } : Room).cells ({ frames := 3, cells := 0, slots := 0, locals := 40 } : Room).slots) := by
  refine MetFree.of_bodySF (plainFor_of_name pn_2) hisR ?_
  intro p e s m args below meth c s₁ Bd hml0 hP hK
  obtain ⟨rfl, hZ, hh⟩ := hP
  have hx := Bd.exec
  have hby := Bd.bytes
  have hml : c.maxLocals = 2 := hml0
  have hown : s.vm.findClass "java/lang/String" = some m.cls := findClass_of_methodNamed Bd.named
  have hnm := (name_of_methodNamed Bd.named Bd.method).1
  have X0 : Stand p l e ({ frames := 3, cells := 0, slots := 0, locals := 40 } : Room) s m #[(.ref a), (.int (4 : Int32))] below meth c s₁ [] 0 0 := Stand.of_body Bd
  have e0 : s₁.heap = h0 := by rw [← hh, Bd.state]; rfl
  have N0 := Fr.nil n0
  obtain ⟨A0, hA0⟩ : ∃ A, A = s₁.setTop (entryFrame m #[(.ref a), (.int (4 : Int32))] 2) := ⟨_, rfl⟩
  have G0 : Go p e below A0 (s₁.setTop (mkF m 0 #[.val (.ref a), .val (.int (4 : Int32))] [])) := fun tq kq => by rw [hA0]; exact castTop (ef_rmCA4 m a (4 : Int32)) kq
  have G138 : Go p e below A0 (s₁.setTop (mkF m 1 #[.val (.ref a), .val (.int (4 : Int32))] [(.ref a)])) := fun tq kq => G0 tq (by
    refine XS.aloadN X0.here hx rfl (hb hby d6_0) rfl rfl ?_
    show Steps p.tables e below (s₁.setTop (mkF m 1 #[.val (.ref a), .val (.int (4 : Int32))] [(.ref a)])) _
    exact kq)
  obtain ⟨cq139, kq139, q139a, q139b, q139c⟩ := isOf hZ e0 E
  obtain ⟨_, _, ⟨T139, L139, k139, n139⟩, -, X139, ⟨Lc139, hQ139, l139, y139, z139⟩, st139⟩ := X0.virtualBack hx (y := (⟨"java/lang/String", "isLatin1", "()Z"⟩ : MethodName)) (z := (⟨"java/lang/String", "isLatin1", "()Z"⟩ : MethodName)) hown (mvT hZ (hw _ (List.mem_of_getElem? (i := 39) rfl))) (mvT hZ (hw _ (List.mem_of_getElem? (i := 40) rfl))) (notFace_of_selects (args := #[]) (mvT hZ (hw _ (List.mem_of_getElem? (i := 42) rfl)))) (mvT hZ (hw _ (List.mem_of_getElem? (i := 42) rfl))) (mvT hZ (hw _ (List.mem_of_getElem? (i := 41) rfl))) (by decide) (backOf (W := 0) (rmL1 l Z a0 hw [] a b kb cs fo h0 n0 Z0 E Fv Fc Ab hCS hcs hSF hfo) hZ (hw _ (List.mem_of_getElem? (i := 43) rfl)) (hw _ (List.mem_of_getElem? (i := 14) rfl)) (by decide) (by decide)) q139a q139c (g := (mkF m 1 #[.val (.ref a), .val (.int (4 : Int32))] [(.ref a)])) rfl (by rw [hml]; rfl) (Steps.refl _) (argsL := []) (rest := []) (lenOf pd_3 rfl) rfl (by show 2 * 0 + _ ≤ _; exact Nat.le_of_eq rfl) (hb hby d6_1) (fun _ _ => ⟨rfl, e0, (by decide : 0 + 0 ≤ _), (by decide : 0 + 0 ≤ _)⟩)
  dsimp only [Pt.U, Pt.locs, Pt.cells, Pt.slots] at X139 l139 y139 z139 st139 hQ139
  obtain rfl : k139 = 0 := y139
  obtain rfl : n139 = 0 := z139
  obtain ⟨rfl, N139q, e139⟩ := hQ139
  have N139 : Fr n0 L139 := by rw [l139]; exact Fr.app N0 N139q
  have G140 : Go p e below A0 (T139.setTop (mkF m 4 #[.val (.ref a), .val (.int (4 : Int32))] [(.int (1 : Int32))])) := fun tq kq => G138 tq (st139.trans kq)
  have G141 : Go p e below A0 (T139.setTop (mkF m 8 #[.val (.ref a), .val (.int (4 : Int32))] [(.ref a)])) := fun tq kq => G140 tq (by
    refine XS.ifNo X139.here hx rfl (hb hby d6_4) rfl (by decide) ?_
    show Steps p.tables e below (T139.setTop (mkF m 7 #[.val (.ref a), .val (.int (4 : Int32))] [])) _
    refine XS.aloadN X139.here hx rfl (hb hby d6_7) rfl rfl ?_
    show Steps p.tables e below (T139.setTop (mkF m 8 #[.val (.ref a), .val (.int (4 : Int32))] [(.ref a)])) _
    exact kq)
  obtain ⟨T142, X142, e142, st142⟩ := getF X139 hx hZ hown (host := "") (Or.inl (hw _ (List.mem_of_getElem? (i := 26) rfl))) Via.refl e139 Fv (g := (mkF m 8 #[.val (.ref a), .val (.int (4 : Int32))] [(.ref a)])) rfl rfl (hb hby d6_8)
  have G143 : Go p e below A0 (T142.setTop (mkF m 11 #[.val (.ref a), .val (.int (4 : Int32))] [(.ref b)])) := fun tq kq => G141 tq (st142 _ kq)
  have G144 : Go p e below A0 (T142.setTop (mkF m 12 #[.val (.ref a), .val (.int (4 : Int32))] [(.int (4 : Int32)), (.ref b)])) := fun tq kq => G143 tq (by
    refine XS.iloadN X142.here hx rfl (hb hby d6_11) rfl ?_
    show Steps p.tables e below (T142.setTop (mkF m 12 #[.val (.ref a), .val (.int (4 : Int32))] [(.int (4 : Int32)), (.ref b)])) _
    exact kq)
  obtain ⟨_, _, ⟨T145, L145, k145, n145⟩, -, X145, ⟨Lc145, hQ145, l145, y145, z145⟩, st145⟩ := Jvm.LawKit.callS X142 hx (y := (⟨"java/lang/StringLatin1", "charAt", "([BI)C"⟩ : MethodName)) hown (mvT hZ (hw _ (List.mem_of_getElem? (i := 44) rfl))) (mvT hZ (hw _ (List.mem_of_getElem? (i := 45) rfl))) (mvT hZ (hw _ (List.mem_of_getElem? (i := 46) rfl))) (mvT hZ (hw _ (List.mem_of_getElem? (i := 47) rfl))) (by decide) (backOf (W := 0) (rmCL4 l Z a0 hw [] a b kb cs fo h0 n0 Z0 E Fv Fc Ab hCS hcs hSF hfo) hZ (hw _ (List.mem_of_getElem? (i := 47) rfl)) (hw _ (List.mem_of_getElem? (i := 46) rfl)) (by decide) (by decide)) (g := (mkF m 12 #[.val (.ref a), .val (.int (4 : Int32))] [(.int (4 : Int32)), (.ref b)])) rfl (by rw [hml]; rfl) (argsL := [(.ref b), (.int (4 : Int32))]) (rest := []) (lenOf pd_4 rfl) rfl (by show 2 * 0 + _ ≤ _; exact Nat.le_of_eq rfl) (hb hby d6_12) (fun _ _ => ⟨rfl, e142, (by decide : 0 + 0 ≤ _), (by decide : 0 + 0 ≤ _)⟩)
  dsimp only [Pt.U, Pt.locs, Pt.cells, Pt.slots] at X145 l145 y145 z145 st145 hQ145
  obtain rfl : k145 = 0 := y145
  obtain rfl : n145 = 0 := z145
  obtain ⟨rfl, N145q, e145⟩ := hQ145
  have N145 : Fr n0 L145 := by rw [l145]; exact Fr.app N139 N145q
  have G146 : Go p e below A0 (T145.setTop (mkF m 15 #[.val (.ref a), .val (.int (4 : Int32))] [(.int (10 : Int32))])) := fun tq kq => G144 tq (st145 _ kq)
  obtain ⟨fs, hr, hrun, hended, hW, hsame⟩ := X145.leave (v := some (.int (nar .char (10 : Int32)))) (fun h => by rw [Bd.returns] at h; cases h)
  refine ⟨_, _, (by rw [← hA0]; exact G146 _ (retN X145 hx (t := .char) Bd.returns (by simp) (hb hby d6_15) hr)), hrun, hended, _, _, rfl, ?_, ⟨_, rfl⟩, hW, hsame.mono (by decide) (by decide)⟩
  exact ⟨rfl, N145, e145⟩
set_option maxRecDepth 65536 in
set_option maxHeartbeats 40000000 in
theorem rmCA5 (l : Launch) (Z : State) (a0 : Array Value) (hw : ∀ d ∈ tables_1, d.before a0 Z = true) (ws : List Jvm.Cond) (a b : Addr) (kb : ClassId) (cs : Int32) (fo : Value) (h0 : Heap) (n0 : Nat) (Z0 : n0 ≤ h0.size) (E : Exa Z h0 a "java/lang/String") (Fv : Fld Z h0 a "java/lang/String" "value" "[B" (.ref b)) (Fc : Fld Z h0 a "java/lang/String" "coder" "B" (.int (0 : Int32))) (Ab : Arv Z h0 b kb .byte (6 : Int32) [(.int (91 : Int32)), (.int (32 : Int32)), (.int (9 : Int32)), (.int (13 : Int32)), (.int (10 : Int32)), (.int (93 : Int32))] (.int (0 : Int32))) (hCS : Sta Z h0 "java/lang/String" "COMPACT_STRINGS" "Z" (.int cs)) (hcs : ¬ cs = (0 : Int32)) (hSF : Sta Z h0 "jdk/internal/util/Preconditions" "SIOOBE_FORMATTER" "Ljava/util/function/BiFunction;" fo) (hfo : fo.isRef = true) :
    MetFree l (⟨"java/lang/String", "charAt", "(I)C"⟩ : MethodName) (head1 (Jvm.Cond.code (⟨"java/lang/String", "charAt", "(I)C"⟩ : MethodName) jdk_42_method_56_code 2 (some .char) :: ws) ({ frames := 3, cells := 0, slots := 0, locals := 40 } : Room)) (fun aa UU => aa = #[(.ref a), (.int (5 : Int32))] ∧ Z.Warmed39 UU.vm ∧ UU.heap = h0) (fun _ _ _ _ _ => True) (fun _ UU oo U' => ∃ v L, oo = .returned v ∧ Qr (.int (93 : Int32)) h0 n0 v U'.heap L ∧ FrameEnd UU oo U' L ({ frames := 3, cells := 0, slots := 0, locals := 40 } : Room).cells ({ frames := 3, cells := 0, slots := 0, locals := 40 } : Room).slots) := by
  refine MetFree.of_bodySF (plainFor_of_name pn_2) hisR ?_
  intro p e s m args below meth c s₁ Bd hml0 hP hK
  obtain ⟨rfl, hZ, hh⟩ := hP
  have hx := Bd.exec
  have hby := Bd.bytes
  have hml : c.maxLocals = 2 := hml0
  have hown : s.vm.findClass "java/lang/String" = some m.cls := findClass_of_methodNamed Bd.named
  have hnm := (name_of_methodNamed Bd.named Bd.method).1
  have X0 : Stand p l e ({ frames := 3, cells := 0, slots := 0, locals := 40 } : Room) s m #[(.ref a), (.int (5 : Int32))] below meth c s₁ [] 0 0 := Stand.of_body Bd
  have e0 : s₁.heap = h0 := by rw [← hh, Bd.state]; rfl
  have N0 := Fr.nil n0
  obtain ⟨A0, hA0⟩ : ∃ A, A = s₁.setTop (entryFrame m #[(.ref a), (.int (5 : Int32))] 2) := ⟨_, rfl⟩
  have G0 : Go p e below A0 (s₁.setTop (mkF m 0 #[.val (.ref a), .val (.int (5 : Int32))] [])) := fun tq kq => by rw [hA0]; exact castTop (ef_rmCA5 m a (5 : Int32)) kq
  have G147 : Go p e below A0 (s₁.setTop (mkF m 1 #[.val (.ref a), .val (.int (5 : Int32))] [(.ref a)])) := fun tq kq => G0 tq (by
    refine XS.aloadN X0.here hx rfl (hb hby d6_0) rfl rfl ?_
    show Steps p.tables e below (s₁.setTop (mkF m 1 #[.val (.ref a), .val (.int (5 : Int32))] [(.ref a)])) _
    exact kq)
  obtain ⟨cq148, kq148, q148a, q148b, q148c⟩ := isOf hZ e0 E
  obtain ⟨_, _, ⟨T148, L148, k148, n148⟩, -, X148, ⟨Lc148, hQ148, l148, y148, z148⟩, st148⟩ := X0.virtualBack hx (y := (⟨"java/lang/String", "isLatin1", "()Z"⟩ : MethodName)) (z := (⟨"java/lang/String", "isLatin1", "()Z"⟩ : MethodName)) hown (mvT hZ (hw _ (List.mem_of_getElem? (i := 39) rfl))) (mvT hZ (hw _ (List.mem_of_getElem? (i := 40) rfl))) (notFace_of_selects (args := #[]) (mvT hZ (hw _ (List.mem_of_getElem? (i := 42) rfl)))) (mvT hZ (hw _ (List.mem_of_getElem? (i := 42) rfl))) (mvT hZ (hw _ (List.mem_of_getElem? (i := 41) rfl))) (by decide) (backOf (W := 0) (rmL1 l Z a0 hw [] a b kb cs fo h0 n0 Z0 E Fv Fc Ab hCS hcs hSF hfo) hZ (hw _ (List.mem_of_getElem? (i := 43) rfl)) (hw _ (List.mem_of_getElem? (i := 14) rfl)) (by decide) (by decide)) q148a q148c (g := (mkF m 1 #[.val (.ref a), .val (.int (5 : Int32))] [(.ref a)])) rfl (by rw [hml]; rfl) (Steps.refl _) (argsL := []) (rest := []) (lenOf pd_3 rfl) rfl (by show 2 * 0 + _ ≤ _; exact Nat.le_of_eq rfl) (hb hby d6_1) (fun _ _ => ⟨rfl, e0, (by decide : 0 + 0 ≤ _), (by decide : 0 + 0 ≤ _)⟩)
  dsimp only [Pt.U, Pt.locs, Pt.cells, Pt.slots] at X148 l148 y148 z148 st148 hQ148
  obtain rfl : k148 = 0 := y148
  obtain rfl : n148 = 0 := z148
  obtain ⟨rfl, N148q, e148⟩ := hQ148
  have N148 : Fr n0 L148 := by rw [l148]; exact Fr.app N0 N148q
  have G149 : Go p e below A0 (T148.setTop (mkF m 4 #[.val (.ref a), .val (.int (5 : Int32))] [(.int (1 : Int32))])) := fun tq kq => G147 tq (st148.trans kq)
  have G150 : Go p e below A0 (T148.setTop (mkF m 8 #[.val (.ref a), .val (.int (5 : Int32))] [(.ref a)])) := fun tq kq => G149 tq (by
    refine XS.ifNo X148.here hx rfl (hb hby d6_4) rfl (by decide) ?_
    show Steps p.tables e below (T148.setTop (mkF m 7 #[.val (.ref a), .val (.int (5 : Int32))] [])) _
    refine XS.aloadN X148.here hx rfl (hb hby d6_7) rfl rfl ?_
    show Steps p.tables e below (T148.setTop (mkF m 8 #[.val (.ref a), .val (.int (5 : Int32))] [(.ref a)])) _
    exact kq)
  obtain ⟨T151, X151, e151, st151⟩ := getF X148 hx hZ hown (host := "") (Or.inl (hw _ (List.mem_of_getElem? (i := 26) rfl))) Via.refl e148 Fv (g := (mkF m 8 #[.val (.ref a), .val (.int (5 : Int32))] [(.ref a)])) rfl rfl (hb hby d6_8)
  have G152 : Go p e below A0 (T151.setTop (mkF m 11 #[.val (.ref a), .val (.int (5 : Int32))] [(.ref b)])) := fun tq kq => G150 tq (st151 _ kq)
  have G153 : Go p e below A0 (T151.setTop (mkF m 12 #[.val (.ref a), .val (.int (5 : Int32))] [(.int (5 : Int32)), (.ref b)])) := fun tq kq => G152 tq (by
    refine XS.iloadN X151.here hx rfl (hb hby d6_11) rfl ?_
    show Steps p.tables e below (T151.setTop (mkF m 12 #[.val (.ref a), .val (.int (5 : Int32))] [(.int (5 : Int32)), (.ref b)])) _
    exact kq)
  obtain ⟨_, _, ⟨T154, L154, k154, n154⟩, -, X154, ⟨Lc154, hQ154, l154, y154, z154⟩, st154⟩ := Jvm.LawKit.callS X151 hx (y := (⟨"java/lang/StringLatin1", "charAt", "([BI)C"⟩ : MethodName)) hown (mvT hZ (hw _ (List.mem_of_getElem? (i := 44) rfl))) (mvT hZ (hw _ (List.mem_of_getElem? (i := 45) rfl))) (mvT hZ (hw _ (List.mem_of_getElem? (i := 46) rfl))) (mvT hZ (hw _ (List.mem_of_getElem? (i := 47) rfl))) (by decide) (backOf (W := 0) (rmCL5 l Z a0 hw [] a b kb cs fo h0 n0 Z0 E Fv Fc Ab hCS hcs hSF hfo) hZ (hw _ (List.mem_of_getElem? (i := 47) rfl)) (hw _ (List.mem_of_getElem? (i := 46) rfl)) (by decide) (by decide)) (g := (mkF m 12 #[.val (.ref a), .val (.int (5 : Int32))] [(.int (5 : Int32)), (.ref b)])) rfl (by rw [hml]; rfl) (argsL := [(.ref b), (.int (5 : Int32))]) (rest := []) (lenOf pd_4 rfl) rfl (by show 2 * 0 + _ ≤ _; exact Nat.le_of_eq rfl) (hb hby d6_12) (fun _ _ => ⟨rfl, e151, (by decide : 0 + 0 ≤ _), (by decide : 0 + 0 ≤ _)⟩)
  dsimp only [Pt.U, Pt.locs, Pt.cells, Pt.slots] at X154 l154 y154 z154 st154 hQ154
  obtain rfl : k154 = 0 := y154
  obtain rfl : n154 = 0 := z154
  obtain ⟨rfl, N154q, e154⟩ := hQ154
  have N154 : Fr n0 L154 := by rw [l154]; exact Fr.app N148 N154q
  have G155 : Go p e below A0 (T154.setTop (mkF m 15 #[.val (.ref a), .val (.int (5 : Int32))] [(.int (93 : Int32))])) := fun tq kq => G153 tq (st154 _ kq)
  obtain ⟨fs, hr, hrun, hended, hW, hsame⟩ := X154.leave (v := some (.int (nar .char (93 : Int32)))) (fun h => by rw [Bd.returns] at h; cases h)
  refine ⟨_, _, (by rw [← hA0]; exact G155 _ (retN X154 hx (t := .char) Bd.returns (by simp) (hb hby d6_15) hr)), hrun, hended, _, _, rfl, ?_, ⟨_, rfl⟩, hW, hsame.mono (by decide) (by decide)⟩
  exact ⟨rfl, N154, e154⟩
def Qd (r : Int32) (n0 : Nat) (v : Option Value) (h : Heap) (L : List Loc) : Prop := v = some (.int r) ∧ Fr n0 L
set_option maxRecDepth 65536 in
set_option maxHeartbeats 40000000 in
theorem rmD (l : Launch) (Z : State) (a0 : Array Value) (hw : ∀ d ∈ tables_1, d.before a0 Z = true) (ws : List Jvm.Cond) (cc cs : Int32) (fo : Value) (h0 : Heap) (n0 : Nat) (Z0 : n0 ≤ h0.size) (hCS : Sta Z h0 "java/lang/String" "COMPACT_STRINGS" "Z" (.int cs)) (hcs : ¬ cs = (0 : Int32)) (hSF : Sta Z h0 "jdk/internal/util/Preconditions" "SIOOBE_FORMATTER" "Ljava/util/function/BiFunction;" fo) (hfo : fo.isRef = true) :
    MetFree l (⟨"com/example/subtree/subtree/index/XmlCharactersIsWhitespacePinLaw", "inDeclaredClass", "(C)Z"⟩ : MethodName) (head1 (Jvm.Cond.code (⟨"com/example/subtree/subtree/index/XmlCharactersIsWhitespacePinLaw", "inDeclaredClass", "(C)Z"⟩ : MethodName) method_3_code 1 (some .boolean) :: ws) ({ frames := 4, cells := 2, slots := 28, locals := 54 } : Room)) (fun aa UU => aa = #[(.int cc)] ∧ Z.Warmed39 UU.vm ∧ UU.heap = h0 ∧ CHv Z consts_1 UU.vm h0) (fun _ _ _ _ _ => True) (fun _ UU oo U' => ∃ v L, oo = .returned v ∧ Qd (own_b (own_ws cc)) n0 v U'.heap L ∧ CHr Z consts_1 UU.vm UU.heap U'.vm U'.heap ∧ ReturnedEndW UU oo U' L ({ frames := 4, cells := 2, slots := 28, locals := 54 } : Room).cells ({ frames := 4, cells := 2, slots := 28, locals := 54 } : Room).slots) := by
  refine MetFree.of_bodySF (plainFor_of_name pn_0) hisR ?_
  intro p e s m args below meth c s₁ Bd hml0 hP hK
  obtain ⟨rfl, hZ, hh, hCH⟩ := hP
  have hx := Bd.exec
  have hby := Bd.bytes
  have hml : c.maxLocals = 1 := hml0
  have hown : s.vm.findClass "com/example/subtree/subtree/index/XmlCharactersIsWhitespacePinLaw" = some m.cls := findClass_of_methodNamed Bd.named
  have hnm := (name_of_methodNamed Bd.named Bd.method).1
  have X0 : Stand p l e ({ frames := 4, cells := 2, slots := 28, locals := 54 } : Room) s m #[(.int cc)] below meth c s₁ [] 0 0 := Stand.of_body Bd
  have e0 : s₁.heap = h0 := by rw [← hh, Bd.state]; rfl
  have N0 := Fr.nil n0
  obtain ⟨A0, hA0⟩ : ∃ A, A = s₁.setTop (entryFrame m #[(.int cc)] 1) := ⟨_, rfl⟩
  have G0 : Go p e below A0 (s₁.setTop (mkF m 0 #[.val (.int cc)] [])) := fun tq kq => by rw [hA0]; exact castTop (ef_rmD m cc) kq
  have hS : s.Since s.vm 0 := (State.WarmedH.refl s).since 0
  have hstr : ∀ d ∈ Bundle.stringAtoms, d.before a0 Z = true := fun d hd => hw d ((by decide +kernel : ∀ d ∈ Bundle.stringAtoms, d ∈ tables_1) d hd)
  have hEL : EW Z a0 consts_1 := EW.cons (text := "[ \t\r\n]") (hw _ (List.mem_of_getElem? (i := 13) rfl)) (by decide) EW.nil
  obtain ⟨a156, T156, h156, k156, b156, kb156, X156, e156, E156, hS, hk156, hZ, hown, Ea156, Fc156, Fv156, Ab156, -, -, CH156, Lt156, -, st156⟩ := ldcCH (s := s) (vm0 := s.vm) X0 hx hZ hown (hw _ (List.mem_of_getElem? (i := 13) rfl)) hstr e0 hS (Nat.zero_le h0.size) hEL (List.mem_of_getElem? (i := 0) rfl) (CHr.refl hCH).1 (vs := [(.int (91 : Int32)), (.int (32 : Int32)), (.int (9 : Int32)), (.int (13 : Int32)), (.int (10 : Int32)), (.int (93 : Int32))]) (z := (6 : Int32)) ⟨by decide, by decide⟩ (by decide) (by decide) (g := (mkF m 0 #[.val (.int cc)] [])) rfl (hb hby d3_0) (n := 24) (by decide) (by decide) (by decide) (by decide)
  have G157 : Go p e below A0 (T156.setTop (mkF m 2 #[.val (.int cc)] [(.ref a156)])) := fun tq kq => G0 tq (st156 _ kq)
  have f159 := (hCS.ext E156)
  have f160 := (hSF.ext E156)
  have f161 := (Nat.le_trans Z0 E156.1)
  obtain ⟨cq158, kq158, q158a, q158b, q158c⟩ := isOf hZ e156 Ea156
  obtain ⟨_, _, ⟨T158, L158, k158, n158⟩, -, X158, ⟨Lc158, hQ158, l158, y158, z158⟩, st158⟩ := X156.virtualBack hx (y := (⟨"java/lang/String", "length", "()I"⟩ : MethodName)) (z := (⟨"java/lang/String", "length", "()I"⟩ : MethodName)) hown (mvT hZ (hw _ (List.mem_of_getElem? (i := 21) rfl))) (mvT hZ (hw _ (List.mem_of_getElem? (i := 22) rfl))) (notFace_of_selects (args := #[]) (mvT hZ (hw _ (List.mem_of_getElem? (i := 24) rfl)))) (mvT hZ (hw _ (List.mem_of_getElem? (i := 24) rfl))) (mvT hZ (hw _ (List.mem_of_getElem? (i := 23) rfl))) (by decide) (backOf (W := 0) (rmLe l Z a0 hw [] a156 b156 kb156 cs fo h156 n0 f161 Ea156 Fv156 Fc156 Ab156 f159 hcs f160 hfo) hZ (hw _ (List.mem_of_getElem? (i := 25) rfl)) (hw _ (List.mem_of_getElem? (i := 14) rfl)) (by decide) (by decide)) q158a q158c (g := (mkF m 2 #[.val (.int cc)] [(.ref a156)])) rfl (by rw [hml]; rfl) (Steps.refl _) (argsL := []) (rest := []) (lenOf pd_5 rfl) rfl (by show 2 * 0 + _ ≤ _; exact Nat.le_of_eq rfl) (hb hby d3_2) (fun _ _ => ⟨rfl, e156, (by decide : 2 + 0 ≤ _), (by decide : 28 + 0 ≤ _)⟩)
  dsimp only [Pt.U, Pt.locs, Pt.cells, Pt.slots] at X158 l158 y158 z158 st158 hQ158
  obtain rfl : k158 = 2 := y158
  obtain rfl : n158 = 28 := z158
  obtain ⟨rfl, N158q, e158⟩ := hQ158
  have N158 : Fr n0 L158 := by rw [l158]; exact Fr.app N0 N158q
  have G162 : Go p e below A0 (T158.setTop (mkF m 5 #[.val (.int cc)] [(.int (6 : Int32))])) := fun tq kq => G157 tq (st158.trans kq)
  have G163 : Go p e below A0 (T158.setTop (mkF m 12 #[.val (.int cc)] [])) := fun tq kq => G162 tq (by
    refine XS.bipush X158.here hx rfl (hb hby d3_5) ?_
    show Steps p.tables e below (T158.setTop (mkF m 7 #[.val (.int cc)] [(.int (6 : Int32)), (.int (6 : Int32))])) _
    refine XS.icmpYes X158.here hx rfl (pc0 := 7) (pc' := 12) rfl (hb hby d3_7) rfl (by decide) (by decide) (by decide) ?_
    show Steps p.tables e below (T158.setTop (mkF m 12 #[.val (.int cc)] [])) _
    exact kq)
  have G165 : Go p e below A0 (T158.setTop (mkF m 14 #[.val (.int cc)] [(.ref a156)])) := fun tq kq => G163 tq (ldcAgain (s := s) (vm0 := T156.vm) X158 hx hZ hown (hw _ (List.mem_of_getElem? (i := 13) rfl)) Lt156 (g := (mkF m 12 #[.val (.int cc)] [])) rfl (hb hby d3_12) _ kq)
  have G166 : Go p e below A0 (T158.setTop (mkF m 15 #[.val (.int cc)] [(.int (0 : Int32)), (.ref a156)])) := fun tq kq => G165 tq (by
    refine XS.iconst X158.here hx rfl (hb hby d3_14) ?_
    show Steps p.tables e below (T158.setTop (mkF m 15 #[.val (.int cc)] [(.int (0 : Int32)), (.ref a156)])) _
    exact kq)
  obtain ⟨cq167, kq167, q167a, q167b, q167c⟩ := isOf hZ e158 Ea156
  obtain ⟨_, _, ⟨T167, L167, k167, n167⟩, -, X167, ⟨Lc167, hQ167, l167, y167, z167⟩, st167⟩ := X158.virtualBack hx (y := (⟨"java/lang/String", "charAt", "(I)C"⟩ : MethodName)) (z := (⟨"java/lang/String", "charAt", "(I)C"⟩ : MethodName)) hown (mvT hZ (hw _ (List.mem_of_getElem? (i := 34) rfl))) (mvT hZ (hw _ (List.mem_of_getElem? (i := 35) rfl))) (notFace_of_selects (args := #[]) (mvT hZ (hw _ (List.mem_of_getElem? (i := 37) rfl)))) (mvT hZ (hw _ (List.mem_of_getElem? (i := 37) rfl))) (mvT hZ (hw _ (List.mem_of_getElem? (i := 36) rfl))) (by decide) (backOf (W := 0) (rmCA0 l Z a0 hw [] a156 b156 kb156 cs fo h156 n0 f161 Ea156 Fv156 Fc156 Ab156 f159 hcs f160 hfo) hZ (hw _ (List.mem_of_getElem? (i := 38) rfl)) (hw _ (List.mem_of_getElem? (i := 14) rfl)) (by decide) (by decide)) q167a q167c (g := (mkF m 15 #[.val (.int cc)] [(.int (0 : Int32)), (.ref a156)])) rfl (by rw [hml]; rfl) (Steps.refl _) (argsL := [(.int (0 : Int32))]) (rest := []) (lenOf pd_6 rfl) rfl (by show 2 * 0 + _ ≤ _; exact Nat.le_of_eq rfl) (hb hby d3_15) (fun _ _ => ⟨rfl, e158, (by decide : 2 + 0 ≤ _), (by decide : 28 + 0 ≤ _)⟩)
  dsimp only [Pt.U, Pt.locs, Pt.cells, Pt.slots] at X167 l167 y167 z167 st167 hQ167
  obtain rfl : k167 = 2 := y167
  obtain rfl : n167 = 28 := z167
  obtain ⟨rfl, N167q, e167⟩ := hQ167
  have N167 : Fr n0 L167 := by rw [l167]; exact Fr.app N158 N167q
  have G168 : Go p e below A0 (T167.setTop (mkF m 18 #[.val (.int cc)] [(.int (91 : Int32))])) := fun tq kq => G166 tq (st167.trans kq)
  have G169 : Go p e below A0 (T167.setTop (mkF m 23 #[.val (.int cc)] [])) := fun tq kq => G168 tq (by
    refine XS.bipush X167.here hx rfl (hb hby d3_18) ?_
    show Steps p.tables e below (T167.setTop (mkF m 20 #[.val (.int cc)] [(.int (91 : Int32)), (.int (91 : Int32))])) _
    refine XS.icmpNo X167.here hx rfl (hb hby d3_20) rfl (by decide) ?_
    show Steps p.tables e below (T167.setTop (mkF m 23 #[.val (.int cc)] [])) _
    exact kq)
  have G171 : Go p e below A0 (T167.setTop (mkF m 25 #[.val (.int cc)] [(.ref a156)])) := fun tq kq => G169 tq (ldcAgain (s := s) (vm0 := T156.vm) X167 hx hZ hown (hw _ (List.mem_of_getElem? (i := 13) rfl)) Lt156 (g := (mkF m 23 #[.val (.int cc)] [])) rfl (hb hby d3_23) _ kq)
  have G172 : Go p e below A0 (T167.setTop (mkF m 26 #[.val (.int cc)] [(.int (5 : Int32)), (.ref a156)])) := fun tq kq => G171 tq (by
    refine XS.iconst X167.here hx rfl (hb hby d3_25) ?_
    show Steps p.tables e below (T167.setTop (mkF m 26 #[.val (.int cc)] [(.int (5 : Int32)), (.ref a156)])) _
    exact kq)
  obtain ⟨cq173, kq173, q173a, q173b, q173c⟩ := isOf hZ e167 Ea156
  obtain ⟨_, _, ⟨T173, L173, k173, n173⟩, -, X173, ⟨Lc173, hQ173, l173, y173, z173⟩, st173⟩ := X167.virtualBack hx (y := (⟨"java/lang/String", "charAt", "(I)C"⟩ : MethodName)) (z := (⟨"java/lang/String", "charAt", "(I)C"⟩ : MethodName)) hown (mvT hZ (hw _ (List.mem_of_getElem? (i := 34) rfl))) (mvT hZ (hw _ (List.mem_of_getElem? (i := 35) rfl))) (notFace_of_selects (args := #[]) (mvT hZ (hw _ (List.mem_of_getElem? (i := 37) rfl)))) (mvT hZ (hw _ (List.mem_of_getElem? (i := 37) rfl))) (mvT hZ (hw _ (List.mem_of_getElem? (i := 36) rfl))) (by decide) (backOf (W := 0) (rmCA5 l Z a0 hw [] a156 b156 kb156 cs fo h156 n0 f161 Ea156 Fv156 Fc156 Ab156 f159 hcs f160 hfo) hZ (hw _ (List.mem_of_getElem? (i := 38) rfl)) (hw _ (List.mem_of_getElem? (i := 14) rfl)) (by decide) (by decide)) q173a q173c (g := (mkF m 26 #[.val (.int cc)] [(.int (5 : Int32)), (.ref a156)])) rfl (by rw [hml]; rfl) (Steps.refl _) (argsL := [(.int (5 : Int32))]) (rest := []) (lenOf pd_6 rfl) rfl (by show 2 * 0 + _ ≤ _; exact Nat.le_of_eq rfl) (hb hby d3_26) (fun _ _ => ⟨rfl, e167, (by decide : 2 + 0 ≤ _), (by decide : 28 + 0 ≤ _)⟩)
  dsimp only [Pt.U, Pt.locs, Pt.cells, Pt.slots] at X173 l173 y173 z173 st173 hQ173
  obtain rfl : k173 = 2 := y173
  obtain rfl : n173 = 28 := z173
  obtain ⟨rfl, N173q, e173⟩ := hQ173
  have N173 : Fr n0 L173 := by rw [l173]; exact Fr.app N167 N173q
  have G174 : Go p e below A0 (T173.setTop (mkF m 29 #[.val (.int cc)] [(.int (93 : Int32))])) := fun tq kq => G172 tq (st173.trans kq)
  have G175 : Go p e below A0 (T173.setTop (mkF m 37 #[.val (.int cc)] [(.int cc)])) := fun tq kq => G174 tq (by
    refine XS.bipush X173.here hx rfl (hb hby d3_29) ?_
    show Steps p.tables e below (T173.setTop (mkF m 31 #[.val (.int cc)] [(.int (93 : Int32)), (.int (93 : Int32))])) _
    refine XS.icmpYes X173.here hx rfl (pc0 := 31) (pc' := 36) rfl (hb hby d3_31) rfl (by decide) (by decide) (by decide) ?_
    show Steps p.tables e below (T173.setTop (mkF m 36 #[.val (.int cc)] [])) _
    refine XS.iloadN X173.here hx rfl (hb hby d3_36) rfl ?_
    show Steps p.tables e below (T173.setTop (mkF m 37 #[.val (.int cc)] [(.int cc)])) _
    exact kq)
  have G177 : Go p e below A0 (T173.setTop (mkF m 39 #[.val (.int cc)] [(.ref a156), (.int cc)])) := fun tq kq => G175 tq (ldcAgain (s := s) (vm0 := T156.vm) X173 hx hZ hown (hw _ (List.mem_of_getElem? (i := 13) rfl)) Lt156 (g := (mkF m 37 #[.val (.int cc)] [(.int cc)])) rfl (hb hby d3_37) _ kq)
  have G178 : Go p e below A0 (T173.setTop (mkF m 40 #[.val (.int cc)] [(.int (1 : Int32)), (.ref a156), (.int cc)])) := fun tq kq => G177 tq (by
    refine XS.iconst X173.here hx rfl (hb hby d3_39) ?_
    show Steps p.tables e below (T173.setTop (mkF m 40 #[.val (.int cc)] [(.int (1 : Int32)), (.ref a156), (.int cc)])) _
    exact kq)
  obtain ⟨cq179, kq179, q179a, q179b, q179c⟩ := isOf hZ e173 Ea156
  obtain ⟨_, _, ⟨T179, L179, k179, n179⟩, -, X179, ⟨Lc179, hQ179, l179, y179, z179⟩, st179⟩ := X173.virtualBack hx (y := (⟨"java/lang/String", "charAt", "(I)C"⟩ : MethodName)) (z := (⟨"java/lang/String", "charAt", "(I)C"⟩ : MethodName)) hown (mvT hZ (hw _ (List.mem_of_getElem? (i := 34) rfl))) (mvT hZ (hw _ (List.mem_of_getElem? (i := 35) rfl))) (notFace_of_selects (args := #[]) (mvT hZ (hw _ (List.mem_of_getElem? (i := 37) rfl)))) (mvT hZ (hw _ (List.mem_of_getElem? (i := 37) rfl))) (mvT hZ (hw _ (List.mem_of_getElem? (i := 36) rfl))) (by decide) (backOf (W := 1) (rmCA1 l Z a0 hw [] a156 b156 kb156 cs fo h156 n0 f161 Ea156 Fv156 Fc156 Ab156 f159 hcs f160 hfo) hZ (hw _ (List.mem_of_getElem? (i := 38) rfl)) (hw _ (List.mem_of_getElem? (i := 14) rfl)) (by decide) (by decide)) q179a q179c (g := (mkF m 40 #[.val (.int cc)] [(.int (1 : Int32)), (.ref a156), (.int cc)])) rfl (by rw [hml]; rfl) (Steps.refl _) (argsL := [(.int (1 : Int32))]) (rest := [(.int cc)]) (lenOf pd_6 rfl) rfl (by show 2 * 0 + _ ≤ _; exact Nat.le_of_eq rfl) (hb hby d3_40) (fun _ _ => ⟨rfl, e173, (by decide : 2 + 0 ≤ _), (by decide : 28 + 0 ≤ _)⟩)
  dsimp only [Pt.U, Pt.locs, Pt.cells, Pt.slots] at X179 l179 y179 z179 st179 hQ179
  obtain rfl : k179 = 2 := y179
  obtain rfl : n179 = 28 := z179
  obtain ⟨rfl, N179q, e179⟩ := hQ179
  have N179 : Fr n0 L179 := by rw [l179]; exact Fr.app N173 N179q
  have G180 : Go p e below A0 (T179.setTop (mkF m 43 #[.val (.int cc)] [(.int (32 : Int32)), (.int cc)])) := fun tq kq => G178 tq (st179.trans kq)
  by_cases hc181 : cc = (32 : Int32)
  · have G182 : Go p e below A0 (T179.setTop (mkF m 81 #[.val (.int cc)] [(.int (1 : Int32))])) := fun tq kq => G180 tq (by
      refine XS.icmpYes X179.here hx rfl (pc0 := 43) (pc' := 76) rfl (hb hby d3_43) rfl (teq hc181).1 (by decide) (by decide) ?_
      show Steps p.tables e below (T179.setTop (mkF m 76 #[.val (.int cc)] [])) _
      refine XS.iconst X179.here hx rfl (hb hby d3_76) ?_
      show Steps p.tables e below (T179.setTop (mkF m 77 #[.val (.int cc)] [(.int (1 : Int32))])) _
      refine XS.goto X179.here hx rfl (pc0 := 77) (pc' := 81) rfl (hb hby d3_77) (by decide) (by decide) ?_
      show Steps p.tables e below (T179.setTop (mkF m 81 #[.val (.int cc)] [(.int (1 : Int32))])) _
      exact kq)
    have CHF : CHr Z consts_1 s.vm s.heap T179.vm T179.heap := by rw [hh, e179]; exact ((CHr.refl hCH).trans CH156).trans (CHv.at (s := s) (vm0 := T156.vm) X179 hZ hEL ((CHr.refl hCH).trans CH156).1)
    obtain ⟨fs, hr, hrun, hended, hRW⟩ := X179.leaveW (s := s) (vm₁ := T156.vm) hS (by rw [e179]; exact hk156) (v := some (.int (nar .boolean (1 : Int32)))) (fun h => by rw [Bd.returns] at h; cases h)
    refine ⟨_, _, (by rw [← hA0]; exact G182 _ (retN X179 hx (t := .boolean) Bd.returns (by simp) (hb hby d3_81) hr)), hrun, hended, _, _, rfl, ?_, CHF, hRW.1, hRW.2.1, hRW.2.2.1, hRW.2.2.2.mono (by decide) (by decide)⟩
    exact ⟨(by rw [show own_b (own_ws cc) = (1 : Int32) from by simp only [own_b, own_ws, hc181, not_true_eq_false, not_false_eq_true, if_true, if_false, or_true, true_or, or_false, false_or, and_true, true_and, and_false, false_and, and_self, or_self]]; rfl), N179⟩
  · have G183 : Go p e below A0 (T179.setTop (mkF m 47 #[.val (.int cc)] [(.int cc)])) := fun tq kq => G180 tq (by
      refine XS.icmpNo X179.here hx rfl (hb hby d3_43) rfl (feq hc181).1 ?_
      show Steps p.tables e below (T179.setTop (mkF m 46 #[.val (.int cc)] [])) _
      refine XS.iloadN X179.here hx rfl (hb hby d3_46) rfl ?_
      show Steps p.tables e below (T179.setTop (mkF m 47 #[.val (.int cc)] [(.int cc)])) _
      exact kq)
    have G185 : Go p e below A0 (T179.setTop (mkF m 49 #[.val (.int cc)] [(.ref a156), (.int cc)])) := fun tq kq => G183 tq (ldcAgain (s := s) (vm0 := T156.vm) X179 hx hZ hown (hw _ (List.mem_of_getElem? (i := 13) rfl)) Lt156 (g := (mkF m 47 #[.val (.int cc)] [(.int cc)])) rfl (hb hby d3_47) _ kq)
    have G186 : Go p e below A0 (T179.setTop (mkF m 50 #[.val (.int cc)] [(.int (2 : Int32)), (.ref a156), (.int cc)])) := fun tq kq => G185 tq (by
      refine XS.iconst X179.here hx rfl (hb hby d3_49) ?_
      show Steps p.tables e below (T179.setTop (mkF m 50 #[.val (.int cc)] [(.int (2 : Int32)), (.ref a156), (.int cc)])) _
      exact kq)
    obtain ⟨cq187, kq187, q187a, q187b, q187c⟩ := isOf hZ e179 Ea156
    obtain ⟨_, _, ⟨T187, L187, k187, n187⟩, -, X187, ⟨Lc187, hQ187, l187, y187, z187⟩, st187⟩ := X179.virtualBack hx (y := (⟨"java/lang/String", "charAt", "(I)C"⟩ : MethodName)) (z := (⟨"java/lang/String", "charAt", "(I)C"⟩ : MethodName)) hown (mvT hZ (hw _ (List.mem_of_getElem? (i := 34) rfl))) (mvT hZ (hw _ (List.mem_of_getElem? (i := 35) rfl))) (notFace_of_selects (args := #[]) (mvT hZ (hw _ (List.mem_of_getElem? (i := 37) rfl)))) (mvT hZ (hw _ (List.mem_of_getElem? (i := 37) rfl))) (mvT hZ (hw _ (List.mem_of_getElem? (i := 36) rfl))) (by decide) (backOf (W := 1) (rmCA2 l Z a0 hw [] a156 b156 kb156 cs fo h156 n0 f161 Ea156 Fv156 Fc156 Ab156 f159 hcs f160 hfo) hZ (hw _ (List.mem_of_getElem? (i := 38) rfl)) (hw _ (List.mem_of_getElem? (i := 14) rfl)) (by decide) (by decide)) q187a q187c (g := (mkF m 50 #[.val (.int cc)] [(.int (2 : Int32)), (.ref a156), (.int cc)])) rfl (by rw [hml]; rfl) (Steps.refl _) (argsL := [(.int (2 : Int32))]) (rest := [(.int cc)]) (lenOf pd_6 rfl) rfl (by show 2 * 0 + _ ≤ _; exact Nat.le_of_eq rfl) (hb hby d3_50) (fun _ _ => ⟨rfl, e179, (by decide : 2 + 0 ≤ _), (by decide : 28 + 0 ≤ _)⟩)
    dsimp only [Pt.U, Pt.locs, Pt.cells, Pt.slots] at X187 l187 y187 z187 st187 hQ187
    obtain rfl : k187 = 2 := y187
    obtain rfl : n187 = 28 := z187
    obtain ⟨rfl, N187q, e187⟩ := hQ187
    have N187 : Fr n0 L187 := by rw [l187]; exact Fr.app N179 N187q
    have G188 : Go p e below A0 (T187.setTop (mkF m 53 #[.val (.int cc)] [(.int (9 : Int32)), (.int cc)])) := fun tq kq => G186 tq (st187.trans kq)
    by_cases hc189 : cc = (9 : Int32)
    · have G190 : Go p e below A0 (T187.setTop (mkF m 81 #[.val (.int cc)] [(.int (1 : Int32))])) := fun tq kq => G188 tq (by
        refine XS.icmpYes X187.here hx rfl (pc0 := 53) (pc' := 76) rfl (hb hby d3_53) rfl (teq hc189).1 (by decide) (by decide) ?_
        show Steps p.tables e below (T187.setTop (mkF m 76 #[.val (.int cc)] [])) _
        refine XS.iconst X187.here hx rfl (hb hby d3_76) ?_
        show Steps p.tables e below (T187.setTop (mkF m 77 #[.val (.int cc)] [(.int (1 : Int32))])) _
        refine XS.goto X187.here hx rfl (pc0 := 77) (pc' := 81) rfl (hb hby d3_77) (by decide) (by decide) ?_
        show Steps p.tables e below (T187.setTop (mkF m 81 #[.val (.int cc)] [(.int (1 : Int32))])) _
        exact kq)
      have CHF : CHr Z consts_1 s.vm s.heap T187.vm T187.heap := by rw [hh, e187]; exact ((CHr.refl hCH).trans CH156).trans (CHv.at (s := s) (vm0 := T156.vm) X187 hZ hEL ((CHr.refl hCH).trans CH156).1)
      obtain ⟨fs, hr, hrun, hended, hRW⟩ := X187.leaveW (s := s) (vm₁ := T156.vm) hS (by rw [e187]; exact hk156) (v := some (.int (nar .boolean (1 : Int32)))) (fun h => by rw [Bd.returns] at h; cases h)
      refine ⟨_, _, (by rw [← hA0]; exact G190 _ (retN X187 hx (t := .boolean) Bd.returns (by simp) (hb hby d3_81) hr)), hrun, hended, _, _, rfl, ?_, CHF, hRW.1, hRW.2.1, hRW.2.2.1, hRW.2.2.2.mono (by decide) (by decide)⟩
      exact ⟨(by rw [show own_b (own_ws cc) = (1 : Int32) from by simp only [own_b, own_ws, hc181, hc189, not_true_eq_false, not_false_eq_true, if_true, if_false, or_true, true_or, or_false, false_or, and_true, true_and, and_false, false_and, and_self, or_self]]; rfl), N187⟩
    · have G191 : Go p e below A0 (T187.setTop (mkF m 57 #[.val (.int cc)] [(.int cc)])) := fun tq kq => G188 tq (by
        refine XS.icmpNo X187.here hx rfl (hb hby d3_53) rfl (feq hc189).1 ?_
        show Steps p.tables e below (T187.setTop (mkF m 56 #[.val (.int cc)] [])) _
        refine XS.iloadN X187.here hx rfl (hb hby d3_56) rfl ?_
        show Steps p.tables e below (T187.setTop (mkF m 57 #[.val (.int cc)] [(.int cc)])) _
        exact kq)
      have G193 : Go p e below A0 (T187.setTop (mkF m 59 #[.val (.int cc)] [(.ref a156), (.int cc)])) := fun tq kq => G191 tq (ldcAgain (s := s) (vm0 := T156.vm) X187 hx hZ hown (hw _ (List.mem_of_getElem? (i := 13) rfl)) Lt156 (g := (mkF m 57 #[.val (.int cc)] [(.int cc)])) rfl (hb hby d3_57) _ kq)
      have G194 : Go p e below A0 (T187.setTop (mkF m 60 #[.val (.int cc)] [(.int (3 : Int32)), (.ref a156), (.int cc)])) := fun tq kq => G193 tq (by
        refine XS.iconst X187.here hx rfl (hb hby d3_59) ?_
        show Steps p.tables e below (T187.setTop (mkF m 60 #[.val (.int cc)] [(.int (3 : Int32)), (.ref a156), (.int cc)])) _
        exact kq)
      obtain ⟨cq195, kq195, q195a, q195b, q195c⟩ := isOf hZ e187 Ea156
      obtain ⟨_, _, ⟨T195, L195, k195, n195⟩, -, X195, ⟨Lc195, hQ195, l195, y195, z195⟩, st195⟩ := X187.virtualBack hx (y := (⟨"java/lang/String", "charAt", "(I)C"⟩ : MethodName)) (z := (⟨"java/lang/String", "charAt", "(I)C"⟩ : MethodName)) hown (mvT hZ (hw _ (List.mem_of_getElem? (i := 34) rfl))) (mvT hZ (hw _ (List.mem_of_getElem? (i := 35) rfl))) (notFace_of_selects (args := #[]) (mvT hZ (hw _ (List.mem_of_getElem? (i := 37) rfl)))) (mvT hZ (hw _ (List.mem_of_getElem? (i := 37) rfl))) (mvT hZ (hw _ (List.mem_of_getElem? (i := 36) rfl))) (by decide) (backOf (W := 1) (rmCA3 l Z a0 hw [] a156 b156 kb156 cs fo h156 n0 f161 Ea156 Fv156 Fc156 Ab156 f159 hcs f160 hfo) hZ (hw _ (List.mem_of_getElem? (i := 38) rfl)) (hw _ (List.mem_of_getElem? (i := 14) rfl)) (by decide) (by decide)) q195a q195c (g := (mkF m 60 #[.val (.int cc)] [(.int (3 : Int32)), (.ref a156), (.int cc)])) rfl (by rw [hml]; rfl) (Steps.refl _) (argsL := [(.int (3 : Int32))]) (rest := [(.int cc)]) (lenOf pd_6 rfl) rfl (by show 2 * 0 + _ ≤ _; exact Nat.le_of_eq rfl) (hb hby d3_60) (fun _ _ => ⟨rfl, e187, (by decide : 2 + 0 ≤ _), (by decide : 28 + 0 ≤ _)⟩)
      dsimp only [Pt.U, Pt.locs, Pt.cells, Pt.slots] at X195 l195 y195 z195 st195 hQ195
      obtain rfl : k195 = 2 := y195
      obtain rfl : n195 = 28 := z195
      obtain ⟨rfl, N195q, e195⟩ := hQ195
      have N195 : Fr n0 L195 := by rw [l195]; exact Fr.app N187 N195q
      have G196 : Go p e below A0 (T195.setTop (mkF m 63 #[.val (.int cc)] [(.int (13 : Int32)), (.int cc)])) := fun tq kq => G194 tq (st195.trans kq)
      by_cases hc197 : cc = (13 : Int32)
      · have G198 : Go p e below A0 (T195.setTop (mkF m 81 #[.val (.int cc)] [(.int (1 : Int32))])) := fun tq kq => G196 tq (by
          refine XS.icmpYes X195.here hx rfl (pc0 := 63) (pc' := 76) rfl (hb hby d3_63) rfl (teq hc197).1 (by decide) (by decide) ?_
          show Steps p.tables e below (T195.setTop (mkF m 76 #[.val (.int cc)] [])) _
          refine XS.iconst X195.here hx rfl (hb hby d3_76) ?_
          show Steps p.tables e below (T195.setTop (mkF m 77 #[.val (.int cc)] [(.int (1 : Int32))])) _
          refine XS.goto X195.here hx rfl (pc0 := 77) (pc' := 81) rfl (hb hby d3_77) (by decide) (by decide) ?_
          show Steps p.tables e below (T195.setTop (mkF m 81 #[.val (.int cc)] [(.int (1 : Int32))])) _
          exact kq)
        have CHF : CHr Z consts_1 s.vm s.heap T195.vm T195.heap := by rw [hh, e195]; exact ((CHr.refl hCH).trans CH156).trans (CHv.at (s := s) (vm0 := T156.vm) X195 hZ hEL ((CHr.refl hCH).trans CH156).1)
        obtain ⟨fs, hr, hrun, hended, hRW⟩ := X195.leaveW (s := s) (vm₁ := T156.vm) hS (by rw [e195]; exact hk156) (v := some (.int (nar .boolean (1 : Int32)))) (fun h => by rw [Bd.returns] at h; cases h)
        refine ⟨_, _, (by rw [← hA0]; exact G198 _ (retN X195 hx (t := .boolean) Bd.returns (by simp) (hb hby d3_81) hr)), hrun, hended, _, _, rfl, ?_, CHF, hRW.1, hRW.2.1, hRW.2.2.1, hRW.2.2.2.mono (by decide) (by decide)⟩
        exact ⟨(by rw [show own_b (own_ws cc) = (1 : Int32) from by simp only [own_b, own_ws, hc181, hc189, hc197, not_true_eq_false, not_false_eq_true, if_true, if_false, or_true, true_or, or_false, false_or, and_true, true_and, and_false, false_and, and_self, or_self]]; rfl), N195⟩
      · have G199 : Go p e below A0 (T195.setTop (mkF m 67 #[.val (.int cc)] [(.int cc)])) := fun tq kq => G196 tq (by
          refine XS.icmpNo X195.here hx rfl (hb hby d3_63) rfl (feq hc197).1 ?_
          show Steps p.tables e below (T195.setTop (mkF m 66 #[.val (.int cc)] [])) _
          refine XS.iloadN X195.here hx rfl (hb hby d3_66) rfl ?_
          show Steps p.tables e below (T195.setTop (mkF m 67 #[.val (.int cc)] [(.int cc)])) _
          exact kq)
        have G201 : Go p e below A0 (T195.setTop (mkF m 69 #[.val (.int cc)] [(.ref a156), (.int cc)])) := fun tq kq => G199 tq (ldcAgain (s := s) (vm0 := T156.vm) X195 hx hZ hown (hw _ (List.mem_of_getElem? (i := 13) rfl)) Lt156 (g := (mkF m 67 #[.val (.int cc)] [(.int cc)])) rfl (hb hby d3_67) _ kq)
        have G202 : Go p e below A0 (T195.setTop (mkF m 70 #[.val (.int cc)] [(.int (4 : Int32)), (.ref a156), (.int cc)])) := fun tq kq => G201 tq (by
          refine XS.iconst X195.here hx rfl (hb hby d3_69) ?_
          show Steps p.tables e below (T195.setTop (mkF m 70 #[.val (.int cc)] [(.int (4 : Int32)), (.ref a156), (.int cc)])) _
          exact kq)
        obtain ⟨cq203, kq203, q203a, q203b, q203c⟩ := isOf hZ e195 Ea156
        obtain ⟨_, _, ⟨T203, L203, k203, n203⟩, -, X203, ⟨Lc203, hQ203, l203, y203, z203⟩, st203⟩ := X195.virtualBack hx (y := (⟨"java/lang/String", "charAt", "(I)C"⟩ : MethodName)) (z := (⟨"java/lang/String", "charAt", "(I)C"⟩ : MethodName)) hown (mvT hZ (hw _ (List.mem_of_getElem? (i := 34) rfl))) (mvT hZ (hw _ (List.mem_of_getElem? (i := 35) rfl))) (notFace_of_selects (args := #[]) (mvT hZ (hw _ (List.mem_of_getElem? (i := 37) rfl)))) (mvT hZ (hw _ (List.mem_of_getElem? (i := 37) rfl))) (mvT hZ (hw _ (List.mem_of_getElem? (i := 36) rfl))) (by decide) (backOf (W := 1) (rmCA4 l Z a0 hw [] a156 b156 kb156 cs fo h156 n0 f161 Ea156 Fv156 Fc156 Ab156 f159 hcs f160 hfo) hZ (hw _ (List.mem_of_getElem? (i := 38) rfl)) (hw _ (List.mem_of_getElem? (i := 14) rfl)) (by decide) (by decide)) q203a q203c (g := (mkF m 70 #[.val (.int cc)] [(.int (4 : Int32)), (.ref a156), (.int cc)])) rfl (by rw [hml]; rfl) (Steps.refl _) (argsL := [(.int (4 : Int32))]) (rest := [(.int cc)]) (lenOf pd_6 rfl) rfl (by show 2 * 0 + _ ≤ _; exact Nat.le_of_eq rfl) (hb hby d3_70) (fun _ _ => ⟨rfl, e195, (by decide : 2 + 0 ≤ _), (by decide : 28 + 0 ≤ _)⟩)
        dsimp only [Pt.U, Pt.locs, Pt.cells, Pt.slots] at X203 l203 y203 z203 st203 hQ203
        obtain rfl : k203 = 2 := y203
        obtain rfl : n203 = 28 := z203
        obtain ⟨rfl, N203q, e203⟩ := hQ203
        have N203 : Fr n0 L203 := by rw [l203]; exact Fr.app N195 N203q
        have G204 : Go p e below A0 (T203.setTop (mkF m 73 #[.val (.int cc)] [(.int (10 : Int32)), (.int cc)])) := fun tq kq => G202 tq (st203.trans kq)
        by_cases hc205 : cc = (10 : Int32)
        · have G206 : Go p e below A0 (T203.setTop (mkF m 81 #[.val (.int cc)] [(.int (1 : Int32))])) := fun tq kq => G204 tq (by
            refine XS.icmpNo X203.here hx rfl (hb hby d3_73) rfl (teq hc205).2 ?_
            show Steps p.tables e below (T203.setTop (mkF m 76 #[.val (.int cc)] [])) _
            refine XS.iconst X203.here hx rfl (hb hby d3_76) ?_
            show Steps p.tables e below (T203.setTop (mkF m 77 #[.val (.int cc)] [(.int (1 : Int32))])) _
            refine XS.goto X203.here hx rfl (pc0 := 77) (pc' := 81) rfl (hb hby d3_77) (by decide) (by decide) ?_
            show Steps p.tables e below (T203.setTop (mkF m 81 #[.val (.int cc)] [(.int (1 : Int32))])) _
            exact kq)
          have CHF : CHr Z consts_1 s.vm s.heap T203.vm T203.heap := by rw [hh, e203]; exact ((CHr.refl hCH).trans CH156).trans (CHv.at (s := s) (vm0 := T156.vm) X203 hZ hEL ((CHr.refl hCH).trans CH156).1)
          obtain ⟨fs, hr, hrun, hended, hRW⟩ := X203.leaveW (s := s) (vm₁ := T156.vm) hS (by rw [e203]; exact hk156) (v := some (.int (nar .boolean (1 : Int32)))) (fun h => by rw [Bd.returns] at h; cases h)
          refine ⟨_, _, (by rw [← hA0]; exact G206 _ (retN X203 hx (t := .boolean) Bd.returns (by simp) (hb hby d3_81) hr)), hrun, hended, _, _, rfl, ?_, CHF, hRW.1, hRW.2.1, hRW.2.2.1, hRW.2.2.2.mono (by decide) (by decide)⟩
          exact ⟨(by rw [show own_b (own_ws cc) = (1 : Int32) from by simp only [own_b, own_ws, hc181, hc189, hc197, hc205, not_true_eq_false, not_false_eq_true, if_true, if_false, or_true, true_or, or_false, false_or, and_true, true_and, and_false, false_and, and_self, or_self]]; rfl), N203⟩
        · have G207 : Go p e below A0 (T203.setTop (mkF m 81 #[.val (.int cc)] [(.int (0 : Int32))])) := fun tq kq => G204 tq (by
            refine XS.icmpYes X203.here hx rfl (pc0 := 73) (pc' := 80) rfl (hb hby d3_73) rfl (feq hc205).2 (by decide) (by decide) ?_
            show Steps p.tables e below (T203.setTop (mkF m 80 #[.val (.int cc)] [])) _
            refine XS.iconst X203.here hx rfl (hb hby d3_80) ?_
            show Steps p.tables e below (T203.setTop (mkF m 81 #[.val (.int cc)] [(.int (0 : Int32))])) _
            exact kq)
          have CHF : CHr Z consts_1 s.vm s.heap T203.vm T203.heap := by rw [hh, e203]; exact ((CHr.refl hCH).trans CH156).trans (CHv.at (s := s) (vm0 := T156.vm) X203 hZ hEL ((CHr.refl hCH).trans CH156).1)
          obtain ⟨fs, hr, hrun, hended, hRW⟩ := X203.leaveW (s := s) (vm₁ := T156.vm) hS (by rw [e203]; exact hk156) (v := some (.int (nar .boolean (0 : Int32)))) (fun h => by rw [Bd.returns] at h; cases h)
          refine ⟨_, _, (by rw [← hA0]; exact G207 _ (retN X203 hx (t := .boolean) Bd.returns (by simp) (hb hby d3_81) hr)), hrun, hended, _, _, rfl, ?_, CHF, hRW.1, hRW.2.1, hRW.2.2.1, hRW.2.2.2.mono (by decide) (by decide)⟩
          exact ⟨(by rw [show own_b (own_ws cc) = (0 : Int32) from by simp only [own_b, own_ws, hc181, hc189, hc197, hc205, not_true_eq_false, not_false_eq_true, if_true, if_false, or_true, true_or, or_false, false_or, and_true, true_and, and_false, false_and, and_self, or_self]]; rfl), N203⟩
def Q0c (n0 : Nat) (v : Option Value) (L : List Loc) : Prop := v = some (.int 1) ∧ Fr n0 L
set_option maxRecDepth 65536 in
set_option maxHeartbeats 40000000 in
theorem rm0 (l : Launch) (Z : State) (a0 : Array Value) (hw : ∀ d ∈ tables_1, d.before a0 Z = true) (ws : List Jvm.Cond) (p0 cs : Int32) (fo : Value) (h0 : Heap) (n0 : Nat) (Z0 : n0 ≤ h0.size) (hCS : Sta Z h0 "java/lang/String" "COMPACT_STRINGS" "Z" (.int cs)) (hcs : ¬ cs = (0 : Int32)) (hSF : Sta Z h0 "jdk/internal/util/Preconditions" "SIOOBE_FORMATTER" "Ljava/util/function/BiFunction;" fo) (hfo : fo.isRef = true) :
    MetFree l x (head1 (Jvm.Cond.code x code maxLocals ret :: ws) room_1) (fun aa UU => aa = #[(.int p0)] ∧ Z.Warmed39 UU.vm ∧ UU.heap = h0 ∧ CHv Z consts_1 UU.vm h0) (fun _ _ _ _ _ => True) (fun _ UU oo U' => ∃ v L, oo = .returned v ∧ Q0c n0 v L ∧ CHr Z consts_1 UU.vm UU.heap U'.vm U'.heap ∧ ReturnedEndW UU oo U' L room_1.cells room_1.slots) := by
  refine MetFree.of_bodySF (plainFor_of_name pn_0) hisR ?_
  intro p e s m args below meth c s₁ Bd hml0 hP hK
  obtain ⟨rfl, hZ, hh, hCH⟩ := hP
  have hx := Bd.exec
  have hby := Bd.bytes
  have hml : c.maxLocals = 4 := hml0
  have hown : s.vm.findClass "com/example/subtree/subtree/index/XmlCharactersIsWhitespacePinLaw" = some m.cls := findClass_of_methodNamed Bd.named
  have hnm := (name_of_methodNamed Bd.named Bd.method).1
  have X0 : Stand p l e room_1 s m #[(.int p0)] below meth c s₁ [] 0 0 := Stand.of_body Bd
  have e0 : s₁.heap = h0 := by rw [← hh, Bd.state]; rfl
  have N0 := Fr.nil n0
  obtain ⟨A0, hA0⟩ : ∃ A, A = s₁.setTop (entryFrame m #[(.int p0)] maxLocals) := ⟨_, rfl⟩
  have G0 : Go p e below A0 (s₁.setTop (mkF m 0 #[.val (.int p0), .unset, .unset, .unset] [])) := fun tq kq => by rw [hA0]; exact castTop (ef_rm0 m p0) kq
  have hS : s.Since s.vm 0 := (State.WarmedH.refl s).since 0
  have hstr : ∀ d ∈ Bundle.stringAtoms, d.before a0 Z = true := fun d hd => hw d ((by decide +kernel : ∀ d ∈ Bundle.stringAtoms, d ∈ tables_1) d hd)
  have hEL : EW Z a0 consts_1 := EW.cons (text := "[ \t\r\n]") (hw _ (List.mem_of_getElem? (i := 13) rfl)) (by decide) EW.nil
  obtain ⟨cc, hG208, G208⟩ : ∃ (cc : Int32), (¬ cc < (0 : Int32)) ∧ Go p e below A0 (s₁.setTop (mkF m 6 #[.val (.int p0), .val (.int cc), .unset, .unset] [])) := by
    have G209 : Go p e below A0 (s₁.setTop (mkF m 6 #[.val (.int p0), .val (.int (p0 &&& (65535 : Int32)).toUInt32.toUInt16.toUInt32.toInt32), .unset, .unset] [])) := fun tq kq => G0 tq (by
      refine XS.iloadN X0.here hx rfl (hb hby at_0) rfl ?_
      show Steps p.tables e below (s₁.setTop (mkF m 1 #[.val (.int p0), .unset, .unset, .unset] [(.int p0)])) _
      refine X0.ldcInt hx hown (mvT hZ (hw _ (List.mem_of_getElem? (i := 0) rfl))) (g := (mkF m 1 #[.val (.int p0), .unset, .unset, .unset] [(.int p0)])) rfl (hb hby at_1) _ ?_
      show Steps p.tables e below (s₁.setTop (mkF m 3 #[.val (.int p0), .unset, .unset, .unset] [(.int (65535 : Int32)), (.int p0)])) _
      refine XS.iand X0.here hx rfl (hb hby at_3) rfl ?_
      show Steps p.tables e below (s₁.setTop (mkF m 4 #[.val (.int p0), .unset, .unset, .unset] [(.int (p0 &&& (65535 : Int32)))])) _
      refine XS.i2c X0.here hx rfl (hb hby at_4) rfl ?_
      show Steps p.tables e below (s₁.setTop (mkF m 5 #[.val (.int p0), .unset, .unset, .unset] [(.int (p0 &&& (65535 : Int32)).toUInt32.toUInt16.toUInt32.toInt32)])) _
      refine XS.istoreN X0.here hx rfl (hb hby at_5) rfl (l' := #[.val (.int p0), .val (.int (p0 &&& (65535 : Int32)).toUInt32.toUInt16.toUInt32.toInt32), .unset, .unset]) rfl ?_
      show Steps p.tables e below (s₁.setTop (mkF m 6 #[.val (.int p0), .val (.int (p0 &&& (65535 : Int32)).toUInt32.toUInt16.toUInt32.toInt32), .unset, .unset] [])) _
      exact kq)
    exact ⟨(p0 &&& (65535 : Int32)).toUInt32.toUInt16.toUInt32.toInt32, (by exact own_i2cz _), G209⟩
  have hz := hG208
  have G210 : Go p e below A0 (s₁.setTop (mkF m 7 #[.val (.int p0), .val (.int cc), .unset, .unset] [(.int cc)])) := fun tq kq => G208 tq (by
    refine XS.iloadN X0.here hx rfl (hb hby at_6) rfl ?_
    show Steps p.tables e below (s₁.setTop (mkF m 7 #[.val (.int p0), .val (.int cc), .unset, .unset] [(.int cc)])) _
    exact kq)
  obtain ⟨_, _, ⟨T211, L211, k211, n211⟩, -, X211, ⟨Lc211, hQ211, l211, y211, z211⟩, st211⟩ := Jvm.LawKit.callS X0 hx (y := (⟨"com/example/subtree/subtree/index/XmlCharactersIsWhitespacePinLaw", "inBitSet", "(C)Z"⟩ : MethodName)) hown (mvT hZ (hw _ (List.mem_of_getElem? (i := 1) rfl))) (mvT hZ (hw _ (List.mem_of_getElem? (i := 2) rfl))) (mvT hZ (hw _ (List.mem_of_getElem? (i := 3) rfl))) (mvT hZ (hw _ (List.mem_of_getElem? (i := 4) rfl))) (by decide) (backOf (W := 0) (rmB l Z a0 hw [] cc h0 n0 Z0 hz) hZ (hw _ (List.mem_of_getElem? (i := 4) rfl)) (hw _ (List.mem_of_getElem? (i := 3) rfl)) (by decide) (by decide)) (g := (mkF m 7 #[.val (.int p0), .val (.int cc), .unset, .unset] [(.int cc)])) rfl (by rw [hml]; rfl) (argsL := [(.int cc)]) (rest := []) (lenOf pd_7 rfl) rfl (by show 2 * 0 + _ ≤ _; exact Nat.le_of_eq rfl) (hb hby at_7) (fun _ _ => ⟨rfl, e0, (by decide : 0 + 0 ≤ _), (by decide : 0 + 0 ≤ _)⟩)
  dsimp only [Pt.U, Pt.locs, Pt.cells, Pt.slots] at X211 l211 y211 z211 st211 hQ211
  obtain rfl : k211 = 0 := y211
  obtain rfl : n211 = 0 := z211
  obtain ⟨rfl, N211q, e211⟩ := hQ211
  have N211 : Fr n0 L211 := by rw [l211]; exact Fr.app N0 N211q
  have G212 : Go p e below A0 (T211.setTop (mkF m 10 #[.val (.int p0), .val (.int cc), .unset, .unset] [(.int (own_b (own_ws cc)))])) := fun tq kq => G210 tq (st211 _ kq)
  have G213 : Go p e below A0 (T211.setTop (mkF m 12 #[.val (.int p0), .val (.int cc), .val (.int (own_b (own_ws cc))), .unset] [(.int cc)])) := fun tq kq => G212 tq (by
    refine XS.istoreN X211.here hx rfl (hb hby at_10) rfl (l' := #[.val (.int p0), .val (.int cc), .val (.int (own_b (own_ws cc))), .unset]) rfl ?_
    show Steps p.tables e below (T211.setTop (mkF m 11 #[.val (.int p0), .val (.int cc), .val (.int (own_b (own_ws cc))), .unset] [])) _
    refine XS.iloadN X211.here hx rfl (hb hby at_11) rfl ?_
    show Steps p.tables e below (T211.setTop (mkF m 12 #[.val (.int p0), .val (.int cc), .val (.int (own_b (own_ws cc))), .unset] [(.int cc)])) _
    exact kq)
  obtain ⟨_, _, ⟨T214, L214, k214, n214⟩, -, X214, ⟨Lc214, hQ214, l214, y214, z214⟩, st214⟩ := Jvm.LawKit.callS X211 hx (y := (⟨"com/example/subtree/subtree/index/XmlCharacters", "isWhitespace", "(C)Z"⟩ : MethodName)) hown (mvT hZ (hw _ (List.mem_of_getElem? (i := 6) rfl))) (mvT hZ (hw _ (List.mem_of_getElem? (i := 7) rfl))) (mvT hZ (hw _ (List.mem_of_getElem? (i := 8) rfl))) (mvT hZ (hw _ (List.mem_of_getElem? (i := 9) rfl))) (by decide) (backOf (W := 0) (rmWS l Z a0 hw [] cc h0 n0 Z0) hZ (hw _ (List.mem_of_getElem? (i := 9) rfl)) (hw _ (List.mem_of_getElem? (i := 8) rfl)) (by decide) (by decide)) (g := (mkF m 12 #[.val (.int p0), .val (.int cc), .val (.int (own_b (own_ws cc))), .unset] [(.int cc)])) rfl (by rw [hml]; rfl) (argsL := [(.int cc)]) (rest := []) (lenOf pd_7 rfl) rfl (by show 2 * 0 + _ ≤ _; exact Nat.le_of_eq rfl) (hb hby at_12) (fun _ _ => ⟨rfl, e211, (by decide : 0 + 0 ≤ _), (by decide : 0 + 0 ≤ _)⟩)
  dsimp only [Pt.U, Pt.locs, Pt.cells, Pt.slots] at X214 l214 y214 z214 st214 hQ214
  obtain rfl : k214 = 0 := y214
  obtain rfl : n214 = 0 := z214
  obtain ⟨rfl, N214q, e214⟩ := hQ214
  have N214 : Fr n0 L214 := by rw [l214]; exact Fr.app N211 N214q
  have G215 : Go p e below A0 (T214.setTop (mkF m 15 #[.val (.int p0), .val (.int cc), .val (.int (own_b (own_ws cc))), .unset] [(.int (own_b (own_ws cc)))])) := fun tq kq => G213 tq (st214 _ kq)
  have G216 : Go p e below A0 (T214.setTop (mkF m 23 #[.val (.int p0), .val (.int cc), .val (.int (own_b (own_ws cc))), .val (.int (own_b (own_ws cc)))] [(.int cc), (.int (own_b (own_ws cc)))])) := fun tq kq => G215 tq (by
    refine XS.istoreN X214.here hx rfl (hb hby at_15) rfl (l' := #[.val (.int p0), .val (.int cc), .val (.int (own_b (own_ws cc))), .val (.int (own_b (own_ws cc)))]) rfl ?_
    show Steps p.tables e below (T214.setTop (mkF m 16 #[.val (.int p0), .val (.int cc), .val (.int (own_b (own_ws cc))), .val (.int (own_b (own_ws cc)))] [])) _
    refine XS.iloadN X214.here hx rfl (hb hby at_16) rfl ?_
    show Steps p.tables e below (T214.setTop (mkF m 17 #[.val (.int p0), .val (.int cc), .val (.int (own_b (own_ws cc))), .val (.int (own_b (own_ws cc)))] [(.int (own_b (own_ws cc)))])) _
    refine XS.iloadN X214.here hx rfl (hb hby at_17) rfl ?_
    show Steps p.tables e below (T214.setTop (mkF m 18 #[.val (.int p0), .val (.int cc), .val (.int (own_b (own_ws cc))), .val (.int (own_b (own_ws cc)))] [(.int (own_b (own_ws cc))), (.int (own_b (own_ws cc)))])) _
    refine XS.icmpNo X214.here hx rfl (hb hby at_18) rfl (teq (rfl : (own_b (own_ws cc)) = (own_b (own_ws cc)))).2 ?_
    show Steps p.tables e below (T214.setTop (mkF m 21 #[.val (.int p0), .val (.int cc), .val (.int (own_b (own_ws cc))), .val (.int (own_b (own_ws cc)))] [])) _
    refine XS.iloadN X214.here hx rfl (hb hby at_21) rfl ?_
    show Steps p.tables e below (T214.setTop (mkF m 22 #[.val (.int p0), .val (.int cc), .val (.int (own_b (own_ws cc))), .val (.int (own_b (own_ws cc)))] [(.int (own_b (own_ws cc)))])) _
    refine XS.iloadN X214.here hx rfl (hb hby at_22) rfl ?_
    show Steps p.tables e below (T214.setTop (mkF m 23 #[.val (.int p0), .val (.int cc), .val (.int (own_b (own_ws cc))), .val (.int (own_b (own_ws cc)))] [(.int cc), (.int (own_b (own_ws cc)))])) _
    exact kq)
  obtain ⟨_, vq217, ⟨T217, L217, k217, n217⟩, -, X217, hS217, hle217, ⟨Lc217, hQ217, l217, y217, z217, CH217⟩, st217⟩ := callSS (s := s.setVm s.vm) X214 hx (y := (⟨"com/example/subtree/subtree/index/XmlCharactersIsWhitespacePinLaw", "inDeclaredClass", "(C)Z"⟩ : MethodName)) hown (mvT hZ (hw _ (List.mem_of_getElem? (i := 10) rfl))) (mvT hZ (hw _ (List.mem_of_getElem? (i := 11) rfl))) (mvT hZ (hw _ (List.mem_of_getElem? (i := 3) rfl))) (mvT hZ (hw _ (List.mem_of_getElem? (i := 12) rfl))) (by decide) (backOfSH (s := s) (vm0 := s.vm) (EL := consts_1) (W := 1) (rmD l Z a0 hw [] cc cs fo h0 n0 Z0 hCS hcs hSF hfo) hZ (hw _ (List.mem_of_getElem? (i := 12) rfl)) (hw _ (List.mem_of_getElem? (i := 3) rfl)) (by decide) (by decide) hEL (CHr.refl hCH).1) (g := (mkF m 23 #[.val (.int p0), .val (.int cc), .val (.int (own_b (own_ws cc))), .val (.int (own_b (own_ws cc)))] [(.int cc), (.int (own_b (own_ws cc)))])) rfl (by rw [hml]; rfl) (argsL := [(.int cc)]) (rest := [(.int (own_b (own_ws cc)))]) (lenOf pd_7 rfl) rfl (by show 2 * 0 + _ ≤ _; exact Nat.le_of_eq rfl) (hb hby at_23) (fun _ _ => ⟨rfl, e214, (by decide : 0 + 2 ≤ _), (by decide : 0 + 28 ≤ _)⟩)
  dsimp only [Pt.U, Pt.locs, Pt.cells, Pt.slots] at X217 l217 y217 z217 st217 hQ217 CH217 hS217 hle217
  obtain rfl : k217 = 2 := y217
  obtain rfl : n217 = 28 := z217
  have hZ : Z.Warmed39 T217.vm := State.Warmed39.trans (t := s.setVm s.vm) hZ hS217.1
  have hS := hS217
  obtain ⟨rfl, N217q⟩ := hQ217
  have N217 : Fr n0 L217 := by rw [l217]; exact Fr.app N214 N217q
  have G218 : Go p e below A0 (T217.setTop (mkF m 26 #[.val (.int p0), .val (.int cc), .val (.int (own_b (own_ws cc))), .val (.int (own_b (own_ws cc)))] [(.int (own_b (own_ws cc))), (.int (own_b (own_ws cc)))])) := fun tq kq => G216 tq (st217.trans kq)
  have G219 : Go p e below A0 (T217.setTop (mkF m 34 #[.val (.int p0), .val (.int cc), .val (.int (own_b (own_ws cc))), .val (.int (own_b (own_ws cc)))] [(.int (1 : Int32))])) := fun tq kq => G218 tq (by
    refine XS.icmpNo X217.here hx rfl (hb hby at_26) rfl (teq (rfl : (own_b (own_ws cc)) = (own_b (own_ws cc)))).2 ?_
    show Steps p.tables e below (T217.setTop (mkF m 29 #[.val (.int p0), .val (.int cc), .val (.int (own_b (own_ws cc))), .val (.int (own_b (own_ws cc)))] [])) _
    refine XS.iconst X217.here hx rfl (hb hby at_29) ?_
    show Steps p.tables e below (T217.setTop (mkF m 30 #[.val (.int p0), .val (.int cc), .val (.int (own_b (own_ws cc))), .val (.int (own_b (own_ws cc)))] [(.int (1 : Int32))])) _
    refine XS.goto X217.here hx rfl (pc0 := 30) (pc' := 34) rfl (hb hby at_30) (by decide) (by decide) ?_
    show Steps p.tables e below (T217.setTop (mkF m 34 #[.val (.int p0), .val (.int cc), .val (.int (own_b (own_ws cc))), .val (.int (own_b (own_ws cc)))] [(.int (1 : Int32))])) _
    exact kq)
  have CHF : CHr Z consts_1 s.vm s.heap T217.vm T217.heap := by rw [hh]; exact ((CHr.refl hCH).trans CH217).trans (CHv.at (s := s) (vm0 := T217.vm) X217 hZ hEL ((CHr.refl hCH).trans CH217).1)
  obtain ⟨fs, hr, hrun, hended, hRW⟩ := X217.leaveW (s := s) (vm₁ := T217.vm) hS (Nat.le_refl _) (v := some (.int (nar .boolean (1 : Int32)))) (fun h => by rw [Bd.returns] at h; cases h)
  refine ⟨_, _, (by rw [← hA0]; exact G219 _ (retN X217 hx (t := .boolean) Bd.returns (by simp) (hb hby at_34) hr)), hrun, hended, _, _, rfl, ?_, CHF, hRW.1, hRW.2.1, hRW.2.2.1, hRW.2.2.2.mono (by decide) (by decide)⟩
  exact ⟨rfl, N217⟩
set_option maxRecDepth 65536 in
set_option maxHeartbeats 40000000 in
theorem comes_1 {Post : Tables → Env → Array Value → State → Outcome → State → Prop} (hpost : ∀ tb e args s v u, (limb_1_1.after args s (.returned v) u = true ∧ limb_1_2.after args s (.returned v) u = true ∧ True) → ReturnedEndW s (.returned v) u (Jvm.fieldLocs frame_1_writes args s ++ Jvm.arrayLocs frame_1_arrays args s ++ Jvm.staticLocs frame_1_statics s) 8 1088 → Post tb e args s (.returned v) u) :
    ArmFor flags0 classFile x code maxLocals ret World_1 tables_1 room_1 Calls_1 rest_1 Pre_1 Post := by
  intro l hfl _ _ p e ha hc hk s m args below hf hA hF happ hP
  obtain ⟨hcalls, hrest, hpre⟩ := hP
  obtain ⟨-, -, -, hnamed, -, -, -, hat⟩ := (Spec.applies_iff hf).mp happ
  obtain ⟨hg, hn⟩ := and_e (Cond.before_iff.mp (show (Jvm.Cond.and given_1 narrow_1).before args s = true from hpre))
  obtain ⟨g1, g2⟩ := and_e hg
  obtain ⟨w0, rfl⟩ : ∃ w0 : Value, args = #[w0] := by
    have hs : args.size = 1 := by simpa [Cond.value, given_1] using g1
    obtain ⟨L⟩ := args
    match L, hs with
    | [w0], _ => exact ⟨w0, rfl⟩
  have hw := fun d (hd : d ∈ tables_1) => atoms_spec (ws := Jvm.Cond.code x code maxLocals ret :: tables_1) hat d (List.mem_cons_of_mem _ hd)
  have hfit : Fit s := fun {y c} hc i hi => by
    obtain ⟨ha, rfl⟩ := Array.getElem?_eq_some_iff.mp hc
    have q := List.all_eq_true.mp ((Array.all_eq_true_iff_forall_mem.mp hF) _ (Array.getElem_mem ha)) i (List.mem_range.mpr hi)
    simpa [Array.getElem?_eq_getElem hi] using q
  obtain ⟨hsets, hown0⟩ := atoms_of _ (rest_1_c_eq ▸ (show rest_1_c.before _ s = true from hrest))
  have hr0 := Cond.before_iff.mp hown0
  obtain ⟨i0, ei0⟩ := is_v g2
  obtain rfl : w0 = (.int i0) := Option.some.inj ei0
  obtain ⟨cs, ecs⟩ := is_v (Cond.before_iff.mp (hsets _ (List.mem_of_getElem? (i := 1) rfl)))
  have hCS : Sta s s.heap "java/lang/String" "COMPACT_STRINGS" "Z" (.int cs) := Sta.start ecs (Or.inl (hsets _ (List.mem_of_getElem? (i := 0) rfl)))
  obtain ⟨fo, efo, hfo⟩ := isR_v (Cond.before_iff.mp (hsets _ (List.mem_of_getElem? (i := 8) rfl)))
  have hSF : Sta s s.heap "jdk/internal/util/Preconditions" "SIOOBE_FORMATTER" "Ljava/util/function/BiFunction;" fo := Sta.start efo (Or.inl (hsets _ (List.mem_of_getElem? (i := 7) rfl)))
  have hcw := (hsets _ (List.mem_of_getElem? (i := 2) rfl))
  have hcs : ¬ cs = (0 : Int32) := by
    have q := Cond.before_iff.mp hcw
    simp only [Cond.value, ecs, Term.int_eval] at q
    simpa using q
  have hCH : CHv s consts_1 s.vm s.heap := CHv.start (EW.cons (text := "[ \t\r\n]") (hw _ (List.mem_of_getElem? (i := 13) rfl)) (by decide) EW.nil) (fun p hp => hcalls.1 p hp) hcw (hw _ (List.mem_of_getElem? (i := 16) rfl)) (hw _ (List.mem_of_getElem? (i := 15) rfl))
  obtain ⟨n, o, h1, h2, h3, _, L, rfl, ⟨rfl, N⟩, -, hq⟩ := rm0 l s _ hw tables_1 i0 cs fo s.heap s.heap.size (Nat.le_refl _) hCS hcs hSF hfo p e ha hc hk s m _ below hf ((Spec.applies_iff_loose hf).mp happ).1 ⟨rfl, State.Warmed39.refl s, rfl, hCH⟩ trivial
  refine ⟨n, _, h1, h2, h3, hpost _ _ _ _ _ _ ⟨Cond.after_iff.mpr rfl, Cond.after_iff.mpr (eq_i res_at (Term.int_eval (1)) rfl), trivial⟩ ⟨hq.1, hq.2.1, hq.2.2.1, (hq.2.2.2.sift fun y hy => Or.inr (N y hy)).mono (by decide) (by decide)⟩⟩
theorem main_1_1 : Claimed_1_1 := comes_1 fun _ _ _ _ _ _ h hF => ⟨h.1, hF⟩
theorem main_1_2 : Claimed_1_2 := comes_1 fun _ _ _ _ _ _ h hF => ⟨h.2.1, hF⟩
end Jvm.Pilot.@@N@@
namespace Jvm.Pilot.@@N@@
open Jvm Jvm.ClassFile Sem Op Lib Jvm.Free Jvm.Stand Jvm.Pilot.@@N@@.Jvm.D
/-! MADE BY PROGRAM (witnessworld.py) out of the Statement's table words and the real class files: 17 classes; the members and pool entries that the words name. The judged class is class 1, her method 3. -/
namespace start1
open Jvm.ClassFile
def u (s : String) : CpInfo := .utf8 (stringToUtf16 s)
/-- a pool by its gaps: so many unusable entries, then the entry; so many at the end -/
def gap : Nat → List CpInfo → List CpInfo
  | 0, r => r
  | n + 1, r => .unusable :: gap n r
def poolList (es : List (Nat × CpInfo)) (last : Nat) : List CpInfo := es.foldr (fun e r => gap e.1 (e.2 :: r)) (gap last [])
def pool (es : List (Nat × CpInfo)) (last : Nat) : Array CpInfo := ⟨poolList es last⟩
def fileOf (pool : Array CpInfo) (this : Nat) (attrs : Array Attribute := #[]) (ms : Array MethodInfo := #[]) (fl : Nat := 33) (sup : Nat := 0) (ifs : Array Nat := #[]) (fds : Array FieldInfo := #[]) : ClassFile where
  minorVersion := 0
  majorVersion := 65
  constantPool := pool
  accessFlags := fl
  thisClass := this
  superClass := sup
  interfaces := ifs
  fields := fds
  methods := ms
  attributes := attrs
def plain (name : String) (sup : Option ClassId) : Class where
  name := name
  kind := .ordinary
  loader := none
  accessFlags := 33
  super := sup
  interfaces := #[]
  cf := none
  fields := #[]
  methods := #[]
  instanceTypes := #[]
  staticTypes := #[]
  resolved := #[]
  callSites := []
  init := .initialized
  statics := none
  mirror := none

def pool0 : Array CpInfo := pool [(5, u "<init>"), (0, u "()V"), (1, .class_ 10), (1, u "java/lang/Object")] 113

def k0m0 : Method := { name := "<init>", desc := "()V", sig := { parameters := [], returnType := none }, accessFlags := 1, code := none }
/-- java/lang/Object -/
def k0 : Class := { plain "java/lang/Object" none with
  accessFlags := 33
  interfaces := #[]
  cf := some (fileOf pool0 8 #[] #[{ accessFlags := 1, nameIndex := 5, descriptorIndex := 6, attributes := #[] }] 33 0 #[] #[])
  fields := #[]
  methods := #[k0m0]
  instanceTypes := #[]
  staticTypes := #[]
  resolved := Array.replicate 124 none
  statics := none }

def pool1 : Array CpInfo := pool [(2, .class_ 4), (1, u "java/lang/Object"), (0, u "<init>"), (0, u "()V"), (0, .long 4294977024), (1, .string 10), (0, u "[ \t\r\n]"), (0, .methodref 12 13), (0, .class_ 14), (0, .nameAndType 15 16), (0, u "java/lang/String"), (0, u "length"), (0, u "()I"), (0, .methodref 12 18), (0, .nameAndType 19 20), (0, u "charAt"), (0, u "(I)C"), (0, .integer 65535), (0, .methodref 23 24), (0, .class_ 25), (0, .nameAndType 26 27), (0, u "com/example/subtree/subtree/index/XmlCharactersIsWhitespacePinLaw"), (0, u "inBitSet"), (0, u "(C)Z"), (0, .methodref 29 30), (0, .class_ 31), (0, .nameAndType 32 27), (0, u "com/example/subtree/subtree/index/XmlCharacters"), (0, u "isWhitespace"), (0, .methodref 23 34), (0, .nameAndType 35 27), (0, u "inDeclaredClass"), (3, u "law"), (0, u "(I)Z")] 2

def k1m0 : Method := { name := "<init>", desc := "()V", sig := { parameters := [], returnType := none }, accessFlags := 2, code := none }
def k1c1 : Code := { maxStack := 4, maxLocals := 1, code := method_2_code, exceptionTable := #[], attributes := #[] }
def k1m1 : Method := { name := "inBitSet", desc := "(C)Z", sig := { parameters := [.char], returnType := some .boolean }, accessFlags := 10, code := some k1c1 }
def k1c2 : Code := { maxStack := 3, maxLocals := 1, code := method_3_code, exceptionTable := #[], attributes := #[] }
def k1m2 : Method := { name := "inDeclaredClass", desc := "(C)Z", sig := { parameters := [.char], returnType := some .boolean }, accessFlags := 10, code := some k1c2 }
def k1c3 : Code := { maxStack := 2, maxLocals := 4, code := code, exceptionTable := #[], attributes := #[] }
def k1m3 : Method := { name := "law", desc := "(I)Z", sig := { parameters := [.int], returnType := some .boolean }, accessFlags := 9, code := some k1c3 }
/-- com/example/subtree/subtree/index/XmlCharactersIsWhitespacePinLaw -/
def k1 : Class := { plain "com/example/subtree/subtree/index/XmlCharactersIsWhitespacePinLaw" (some 0) with
  accessFlags := 49
  interfaces := #[]
  cf := some (fileOf pool1 23 #[] #[{ accessFlags := 2, nameIndex := 5, descriptorIndex := 6, attributes := #[] }, { accessFlags := 10, nameIndex := 26, descriptorIndex := 27, attributes := #[] }, { accessFlags := 10, nameIndex := 35, descriptorIndex := 27, attributes := #[] }, { accessFlags := 9, nameIndex := 39, descriptorIndex := 40, attributes := #[] }] 49 2 #[] #[])
  fields := #[]
  methods := #[k1m0, k1m1, k1m2, k1m3]
  instanceTypes := #[]
  staticTypes := #[]
  resolved := Array.replicate 43 none
  statics := none }

def pool2 : Array CpInfo := pool [(2, .class_ 4), (1, u "java/lang/Object"), (0, u "<init>"), (0, u "()V"), (0, .class_ 8), (0, u "com/example/subtree/subtree/index/XmlCharacters"), (0, u "WHITESPACE"), (0, u "Ljava/lang/String;"), (5, u "isWhitespace"), (0, u "(C)Z")] 3

def k2m0 : Method := { name := "<init>", desc := "()V", sig := { parameters := [], returnType := none }, accessFlags := 2, code := none }
def k2c1 : Code := { maxStack := 2, maxLocals := 1, code := prog_28_method_2_code, exceptionTable := #[], attributes := #[] }
def k2m1 : Method := { name := "isWhitespace", desc := "(C)Z", sig := { parameters := [.char], returnType := some .boolean }, accessFlags := 8, code := some k2c1 }
/-- com/example/subtree/subtree/index/XmlCharacters -/
def k2 : Class := { plain "com/example/subtree/subtree/index/XmlCharacters" (some 0) with
  accessFlags := 48
  interfaces := #[]
  cf := some (fileOf pool2 7 #[] #[{ accessFlags := 2, nameIndex := 5, descriptorIndex := 6, attributes := #[] }, { accessFlags := 8, nameIndex := 16, descriptorIndex := 17, attributes := #[] }] 48 2 #[] #[{ accessFlags := 24, nameIndex := 9, descriptorIndex := 10, attributes := #[] }])
  fields := #[{ name := "WHITESPACE", type := (.object "java/lang/String"), accessFlags := 24, slot := 0, constantValue := 0 }]
  methods := #[k2m0, k2m1]
  instanceTypes := #[]
  staticTypes := #[(.object "java/lang/String")]
  resolved := Array.replicate 21 none
  statics := none }

def pool3 : Array CpInfo := pool [(1, .class_ 2), (0, u "java/io/Serializable"), (0, .class_ 4), (0, u "java/lang/Object")] 2

/-- java/io/Serializable -/
def k3 : Class := { plain "java/io/Serializable" (some 0) with
  accessFlags := 1537
  interfaces := #[]
  cf := some (fileOf pool3 1 #[] #[] 1537 3 #[] #[])
  fields := #[]
  methods := #[]
  instanceTypes := #[]
  staticTypes := #[]
  resolved := Array.replicate 7 none
  statics := none }

def pool4 : Array CpInfo := pool [(1, .class_ 2), (0, u "java/lang/Comparable"), (0, .class_ 4), (0, u "java/lang/Object")] 7

/-- java/lang/Comparable -/
def k4 : Class := { plain "java/lang/Comparable" (some 0) with
  accessFlags := 1537
  interfaces := #[]
  cf := some (fileOf pool4 1 #[] #[] 1537 3 #[] #[])
  fields := #[]
  methods := #[]
  instanceTypes := #[]
  staticTypes := #[]
  resolved := Array.replicate 12 none
  statics := none }

def pool5 : Array CpInfo := pool [(2, .class_ 4), (1, u "java/lang/CharSequence"), (42, .class_ 48), (0, u "java/lang/CharSequence$1CodePointIterator"), (10, .class_ 60), (0, u "java/lang/CharSequence$1CharIterator"), (5, .class_ 67), (0, u "java/lang/Object")] 63

/-- java/lang/CharSequence -/
def k5 : Class := { plain "java/lang/CharSequence" (some 0) with
  accessFlags := 1537
  interfaces := #[]
  cf := some (fileOf pool5 2 #[.nestMembers #[47, 59]] #[] 1537 66 #[] #[])
  fields := #[]
  methods := #[]
  instanceTypes := #[]
  staticTypes := #[]
  resolved := Array.replicate 131 none
  statics := none }

def pool6 : Array CpInfo := pool [(1, .class_ 2), (0, u "java/lang/constant/Constable"), (0, .class_ 4), (0, u "java/lang/Object")] 6

/-- java/lang/constant/Constable -/
def k6 : Class := { plain "java/lang/constant/Constable" (some 0) with
  accessFlags := 1537
  interfaces := #[]
  cf := some (fileOf pool6 1 #[] #[] 1537 3 #[] #[])
  fields := #[]
  methods := #[]
  instanceTypes := #[]
  staticTypes := #[]
  resolved := Array.replicate 11 none
  statics := none }

def pool7 : Array CpInfo := pool [(1, .class_ 2), (0, u "java/lang/constant/ConstantDesc"), (0, .class_ 4), (0, u "java/lang/Object")] 32

/-- java/lang/constant/ConstantDesc -/
def k7 : Class := { plain "java/lang/constant/ConstantDesc" (some 0) with
  accessFlags := 1537
  interfaces := #[]
  cf := some (fileOf pool7 1 #[] #[] 1537 3 #[] #[])
  fields := #[]
  methods := #[]
  instanceTypes := #[]
  staticTypes := #[]
  resolved := Array.replicate 37 none
  statics := none }

def pool8 : Array CpInfo := pool [(2, .class_ 4), (1, u "java/lang/Object"), (0, u "<init>"), (0, u "()V"), (2, .fieldref 10 11), (0, .class_ 12), (0, .nameAndType 13 14), (0, u "java/lang/String"), (0, u "value"), (0, u "[B"), (0, .fieldref 10 16), (0, .nameAndType 17 18), (0, u "coder"), (0, u "B"), (2, u "hash"), (0, u "I"), (2, u "hashIsZero"), (0, u "Z"), (11, .fieldref 10 39), (0, .nameAndType 40 26), (0, u "COMPACT_STRINGS"), (66, .class_ 109), (1, u "java/lang/StringLatin1"), (32, u "()Z"), (191, u "()I"), (0, .methodref 10 336), (0, .nameAndType 17 337), (0, u "()B"), (25, u "([BI)C"), (27, u "(II)V"), (35, u "(I)C"), (64, .methodref 10 493), (0, .nameAndType 494 142), (0, u "isLatin1"), (0, .methodref 107 496), (0, .nameAndType 497 363), (0, u "charAt"), (3, u "checkIndex"), (5, u "length"), (67, .class_ 576), (0, u "java/lang/CharSequence"), (22, u "CASE_INSENSITIVE_ORDER"), (0, u "Ljava/util/Comparator;"), (452, .fieldref 1054 1055), (0, .class_ 1056), (0, .nameAndType 1057 1058), (0, u "jdk/internal/util/Preconditions"), (0, u "SIOOBE_FORMATTER"), (0, u "Ljava/util/function/BiFunction;"), (0, .methodref 1054 1060), (0, .nameAndType 501 1061), (0, u "(IILjava/util/function/BiFunction;)I"), (39, u "serialPersistentFields"), (0, u "[Ljava/io/ObjectStreamField;"), (0, .class_ 1104), (0, u "java/lang/String$CaseInsensitiveComparator"), (1, .class_ 1107), (0, u "java/io/Serializable"), (0, .class_ 1109), (0, u "java/lang/Comparable"), (0, .class_ 1111), (0, u "java/lang/constant/Constable"), (0, .class_ 1113), (0, u "java/lang/constant/ConstantDesc"), (2, u "serialVersionUID"), (0, u "J"), (3, u "REPL"), (0, u "C"), (2, u "LATIN1"), (1, u "UTF16")] 323

def k8m0 : Method := { name := "<init>", desc := "()V", sig := { parameters := [], returnType := none }, accessFlags := 1, code := none }
def k8c1 : Code := { maxStack := 2, maxLocals := 1, code := jdk_42_method_54_code, exceptionTable := #[], attributes := #[] }
def k8m1 : Method := { name := "length", desc := "()I", sig := { parameters := [], returnType := some .int }, accessFlags := 1, code := some k8c1 }
def k8c2 : Code := { maxStack := 2, maxLocals := 2, code := jdk_42_method_56_code, exceptionTable := #[], attributes := #[] }
def k8m2 : Method := { name := "charAt", desc := "(I)C", sig := { parameters := [.int], returnType := some .char }, accessFlags := 1, code := some k8c2 }
def k8c3 : Code := { maxStack := 1, maxLocals := 1, code := jdk_42_method_152_code, exceptionTable := #[], attributes := #[] }
def k8m3 : Method := { name := "coder", desc := "()B", sig := { parameters := [], returnType := some .byte }, accessFlags := 0, code := some k8c3 }
def k8c4 : Code := { maxStack := 1, maxLocals := 1, code := jdk_42_method_154_code, exceptionTable := #[], attributes := #[] }
def k8m4 : Method := { name := "isLatin1", desc := "()Z", sig := { parameters := [], returnType := some .boolean }, accessFlags := 0, code := some k8c4 }
def k8c5 : Code := { maxStack := 3, maxLocals := 2, code := jdk_42_method_155_code, exceptionTable := #[], attributes := #[] }
def k8m5 : Method := { name := "checkIndex", desc := "(II)V", sig := { parameters := [.int, .int], returnType := none }, accessFlags := 8, code := some k8c5 }
/-- java/lang/String -/
def k8 : Class := { plain "java/lang/String" (some 0) with
  accessFlags := 49
  interfaces := #[3, 4, 5, 6, 7]
  cf := some (fileOf pool8 10 #[.nestMembers #[1103]] #[{ accessFlags := 1, nameIndex := 5, descriptorIndex := 6, attributes := #[] }, { accessFlags := 1, nameIndex := 507, descriptorIndex := 334, attributes := #[] }, { accessFlags := 1, nameIndex := 497, descriptorIndex := 427, attributes := #[] }, { accessFlags := 0, nameIndex := 17, descriptorIndex := 337, attributes := #[] }, { accessFlags := 0, nameIndex := 494, descriptorIndex := 142, attributes := #[] }, { accessFlags := 8, nameIndex := 501, descriptorIndex := 391, attributes := #[] }] 49 2 #[1106, 1108, 575, 1110, 1112] #[{ accessFlags := 18, nameIndex := 13, descriptorIndex := 14, attributes := #[] }, { accessFlags := 18, nameIndex := 17, descriptorIndex := 18, attributes := #[] }, { accessFlags := 2, nameIndex := 21, descriptorIndex := 22, attributes := #[] }, { accessFlags := 2, nameIndex := 25, descriptorIndex := 26, attributes := #[] }, { accessFlags := 26, nameIndex := 1116, descriptorIndex := 1117, attributes := #[] }, { accessFlags := 24, nameIndex := 40, descriptorIndex := 26, attributes := #[] }, { accessFlags := 26, nameIndex := 1101, descriptorIndex := 1102, attributes := #[] }, { accessFlags := 26, nameIndex := 1121, descriptorIndex := 1122, attributes := #[] }, { accessFlags := 25, nameIndex := 599, descriptorIndex := 600, attributes := #[] }, { accessFlags := 24, nameIndex := 1125, descriptorIndex := 18, attributes := #[] }, { accessFlags := 24, nameIndex := 1127, descriptorIndex := 18, attributes := #[] }])
  fields := #[{ name := "value", type := (.array .byte), accessFlags := 18, slot := 0, constantValue := 0 }, { name := "coder", type := .byte, accessFlags := 18, slot := 1, constantValue := 0 }, { name := "hash", type := .int, accessFlags := 2, slot := 2, constantValue := 0 }, { name := "hashIsZero", type := .boolean, accessFlags := 2, slot := 3, constantValue := 0 }, { name := "serialVersionUID", type := .long, accessFlags := 26, slot := 0, constantValue := 0 }, { name := "COMPACT_STRINGS", type := .boolean, accessFlags := 24, slot := 1, constantValue := 0 }, { name := "serialPersistentFields", type := (.array (.object "java/io/ObjectStreamField")), accessFlags := 26, slot := 2, constantValue := 0 }, { name := "REPL", type := .char, accessFlags := 26, slot := 3, constantValue := 0 }, { name := "CASE_INSENSITIVE_ORDER", type := (.object "java/util/Comparator"), accessFlags := 25, slot := 4, constantValue := 0 }, { name := "LATIN1", type := .byte, accessFlags := 24, slot := 5, constantValue := 0 }, { name := "UTF16", type := .byte, accessFlags := 24, slot := 6, constantValue := 0 }]
  methods := #[k8m0, k8m1, k8m2, k8m3, k8m4, k8m5]
  instanceTypes := #[(.array .byte), .byte, .int, .boolean]
  staticTypes := #[.long, .boolean, (.array (.object "java/io/ObjectStreamField")), .char, (.object "java/util/Comparator"), .byte, .byte]
  resolved := Array.replicate 1451 none
  statics := some 0 }

def pool9 : Array CpInfo := pool [(1, .class_ 2), (0, u "java/lang/String"), (1, .class_ 6), (1, u "java/lang/Object"), (0, u "<init>"), (0, u "()V"), (0, .methodref 1 10), (0, .nameAndType 11 12), (0, u "checkIndex"), (0, u "(II)V"), (1, .class_ 16), (1, u "java/lang/StringLatin1"), (36, u "([BI)C"), (67, u "$assertionsDisabled"), (0, u "Z"), (98, .class_ 223), (1, u "java/lang/StringLatin1$LinesSpliterator"), (28, u "charAt"), (137, .class_ 391), (0, u "java/lang/StringLatin1$CharsSpliterator")] 3

def k9m0 : Method := { name := "<init>", desc := "()V", sig := { parameters := [], returnType := none }, accessFlags := 0, code := none }
def k9c1 : Code := { maxStack := 2, maxLocals := 2, code := jdk_43_method_2_code, exceptionTable := #[], attributes := #[] }
def k9m1 : Method := { name := "charAt", desc := "([BI)C", sig := { parameters := [(.array .byte), .int], returnType := some .char }, accessFlags := 9, code := some k9c1 }
/-- java/lang/StringLatin1 -/
def k9 : Class := { plain "java/lang/StringLatin1" (some 0) with
  accessFlags := 48
  interfaces := #[]
  cf := some (fileOf pool9 14 #[.nestMembers #[390, 221]] #[{ accessFlags := 0, nameIndex := 7, descriptorIndex := 8, attributes := #[] }, { accessFlags := 9, nameIndex := 252, descriptorIndex := 53, attributes := #[] }] 48 4 #[] #[{ accessFlags := 4120, nameIndex := 121, descriptorIndex := 122, attributes := #[] }])
  fields := #[{ name := "$assertionsDisabled", type := .boolean, accessFlags := 4120, slot := 0, constantValue := 0 }]
  methods := #[k9m0, k9m1]
  instanceTypes := #[]
  staticTypes := #[.boolean]
  resolved := Array.replicate 395 none
  statics := none }

def pool10 : Array CpInfo := pool [(2, .class_ 4), (1, u "java/lang/Object"), (0, u "<init>"), (0, u "()V"), (17, .class_ 26), (1, u "jdk/internal/util/Preconditions"), (6, u "checkIndex"), (21, .class_ 56), (0, u "jdk/internal/util/Preconditions$4"), (57, .class_ 115), (0, u "jdk/internal/util/Preconditions$1"), (7, u "SIOOBE_FORMATTER"), (0, u "Ljava/util/function/BiFunction;"), (0, .class_ 126), (0, u "jdk/internal/util/Preconditions$2"), (3, u "AIOOBE_FORMATTER"), (0, .class_ 132), (0, u "jdk/internal/util/Preconditions$3"), (3, u "IOOBE_FORMATTER"), (41, u "(IILjava/util/function/BiFunction;)I")] 15

def k10m0 : Method := { name := "<init>", desc := "()V", sig := { parameters := [], returnType := none }, accessFlags := 1, code := none }
def k10c1 : Code := { maxStack := 3, maxLocals := 3, code := jdk_41_method_11_code, exceptionTable := #[], attributes := #[] }
def k10m1 : Method := { name := "checkIndex", desc := "(IILjava/util/function/BiFunction;)I", sig := { parameters := [.int, .int, (.object "java/util/function/BiFunction")], returnType := some .int }, accessFlags := 9, code := some k10c1 }
/-- jdk/internal/util/Preconditions -/
def k10 : Class := { plain "jdk/internal/util/Preconditions" (some 0) with
  accessFlags := 33
  interfaces := #[]
  cf := some (fileOf pool10 24 #[.nestMembers #[55, 131, 125, 114]] #[{ accessFlags := 1, nameIndex := 5, descriptorIndex := 6, attributes := #[] }, { accessFlags := 9, nameIndex := 33, descriptorIndex := 178, attributes := #[] }] 33 2 #[] #[{ accessFlags := 25, nameIndex := 123, descriptorIndex := 124, attributes := #[] }, { accessFlags := 25, nameIndex := 130, descriptorIndex := 124, attributes := #[] }, { accessFlags := 25, nameIndex := 136, descriptorIndex := 124, attributes := #[] }])
  fields := #[{ name := "SIOOBE_FORMATTER", type := (.object "java/util/function/BiFunction"), accessFlags := 25, slot := 0, constantValue := 0 }, { name := "AIOOBE_FORMATTER", type := (.object "java/util/function/BiFunction"), accessFlags := 25, slot := 1, constantValue := 0 }, { name := "IOOBE_FORMATTER", type := (.object "java/util/function/BiFunction"), accessFlags := 25, slot := 2, constantValue := 0 }]
  methods := #[k10m0, k10m1]
  instanceTypes := #[]
  staticTypes := #[(.object "java/util/function/BiFunction"), (.object "java/util/function/BiFunction"), (.object "java/util/function/BiFunction")]
  resolved := Array.replicate 194 none
  statics := some 1 }

def pool11 : Array CpInfo := pool [(9, u "<init>"), (6, .class_ 18), (1, u "java/lang/Object"), (0, u "()V"), (1, .class_ 23), (1, u "jdk/internal/util/ArraysSupport"), (0, u "LOG2_ARRAY_LONG_INDEX_SCALE"), (0, u "I"), (2, u "U"), (0, u "Ljdk/internal/misc/Unsafe;"), (8, u "BIG_ENDIAN"), (0, u "Z"), (8, u "LOG2_BYTE_BIT_SIZE"), (4, u "LOG2_ARRAY_INT_INDEX_SCALE"), (54, u "JLA"), (0, u "Ljdk/internal/access/JavaLangAccess;"), (11, u "LOG2_ARRAY_BOOLEAN_INDEX_SCALE"), (9, u "LOG2_ARRAY_BYTE_INDEX_SCALE"), (5, u "LOG2_ARRAY_CHAR_INDEX_SCALE"), (5, u "LOG2_ARRAY_SHORT_INDEX_SCALE"), (18, u "LOG2_ARRAY_FLOAT_INDEX_SCALE"), (24, u "LOG2_ARRAY_DOUBLE_INDEX_SCALE"), (89, u "T_BOOLEAN"), (2, u "T_CHAR"), (1, u "T_FLOAT"), (1, u "T_DOUBLE"), (1, u "T_BYTE"), (1, u "T_SHORT"), (1, u "T_INT"), (1, u "T_LONG"), (1, u "SOFT_MAX_ARRAY_LENGTH")] 83

def k11m0 : Method := { name := "<init>", desc := "()V", sig := { parameters := [], returnType := none }, accessFlags := 2, code := none }
/-- jdk/internal/util/ArraysSupport -/
def k11 : Class := { plain "jdk/internal/util/ArraysSupport" (some 0) with
  accessFlags := 33
  interfaces := #[]
  cf := some (fileOf pool11 21 #[] #[{ accessFlags := 2, nameIndex := 9, descriptorIndex := 19, attributes := #[] }] 33 16 #[] #[{ accessFlags := 24, nameIndex := 28, descriptorIndex := 29, attributes := #[] }, { accessFlags := 26, nameIndex := 38, descriptorIndex := 39, attributes := #[] }, { accessFlags := 25, nameIndex := 121, descriptorIndex := 25, attributes := #[] }, { accessFlags := 25, nameIndex := 131, descriptorIndex := 25, attributes := #[] }, { accessFlags := 25, nameIndex := 137, descriptorIndex := 25, attributes := #[] }, { accessFlags := 25, nameIndex := 143, descriptorIndex := 25, attributes := #[] }, { accessFlags := 25, nameIndex := 53, descriptorIndex := 25, attributes := #[] }, { accessFlags := 25, nameIndex := 24, descriptorIndex := 25, attributes := #[] }, { accessFlags := 25, nameIndex := 162, descriptorIndex := 25, attributes := #[] }, { accessFlags := 25, nameIndex := 187, descriptorIndex := 25, attributes := #[] }, { accessFlags := 26, nameIndex := 48, descriptorIndex := 25, attributes := #[] }, { accessFlags := 25, nameIndex := 277, descriptorIndex := 25, attributes := #[] }, { accessFlags := 25, nameIndex := 280, descriptorIndex := 25, attributes := #[] }, { accessFlags := 25, nameIndex := 282, descriptorIndex := 25, attributes := #[] }, { accessFlags := 25, nameIndex := 284, descriptorIndex := 25, attributes := #[] }, { accessFlags := 25, nameIndex := 286, descriptorIndex := 25, attributes := #[] }, { accessFlags := 25, nameIndex := 288, descriptorIndex := 25, attributes := #[] }, { accessFlags := 25, nameIndex := 290, descriptorIndex := 25, attributes := #[] }, { accessFlags := 25, nameIndex := 292, descriptorIndex := 25, attributes := #[] }, { accessFlags := 26, nameIndex := 108, descriptorIndex := 109, attributes := #[] }, { accessFlags := 25, nameIndex := 294, descriptorIndex := 25, attributes := #[] }])
  fields := #[{ name := "U", type := (.object "jdk/internal/misc/Unsafe"), accessFlags := 24, slot := 0, constantValue := 0 }, { name := "BIG_ENDIAN", type := .boolean, accessFlags := 26, slot := 1, constantValue := 0 }, { name := "LOG2_ARRAY_BOOLEAN_INDEX_SCALE", type := .int, accessFlags := 25, slot := 2, constantValue := 0 }, { name := "LOG2_ARRAY_BYTE_INDEX_SCALE", type := .int, accessFlags := 25, slot := 3, constantValue := 0 }, { name := "LOG2_ARRAY_CHAR_INDEX_SCALE", type := .int, accessFlags := 25, slot := 4, constantValue := 0 }, { name := "LOG2_ARRAY_SHORT_INDEX_SCALE", type := .int, accessFlags := 25, slot := 5, constantValue := 0 }, { name := "LOG2_ARRAY_INT_INDEX_SCALE", type := .int, accessFlags := 25, slot := 6, constantValue := 0 }, { name := "LOG2_ARRAY_LONG_INDEX_SCALE", type := .int, accessFlags := 25, slot := 7, constantValue := 0 }, { name := "LOG2_ARRAY_FLOAT_INDEX_SCALE", type := .int, accessFlags := 25, slot := 8, constantValue := 0 }, { name := "LOG2_ARRAY_DOUBLE_INDEX_SCALE", type := .int, accessFlags := 25, slot := 9, constantValue := 0 }, { name := "LOG2_BYTE_BIT_SIZE", type := .int, accessFlags := 26, slot := 10, constantValue := 0 }, { name := "T_BOOLEAN", type := .int, accessFlags := 25, slot := 11, constantValue := 0 }, { name := "T_CHAR", type := .int, accessFlags := 25, slot := 12, constantValue := 0 }, { name := "T_FLOAT", type := .int, accessFlags := 25, slot := 13, constantValue := 0 }, { name := "T_DOUBLE", type := .int, accessFlags := 25, slot := 14, constantValue := 0 }, { name := "T_BYTE", type := .int, accessFlags := 25, slot := 15, constantValue := 0 }, { name := "T_SHORT", type := .int, accessFlags := 25, slot := 16, constantValue := 0 }, { name := "T_INT", type := .int, accessFlags := 25, slot := 17, constantValue := 0 }, { name := "T_LONG", type := .int, accessFlags := 25, slot := 18, constantValue := 0 }, { name := "JLA", type := (.object "jdk/internal/access/JavaLangAccess"), accessFlags := 26, slot := 19, constantValue := 0 }, { name := "SOFT_MAX_ARRAY_LENGTH", type := .int, accessFlags := 25, slot := 20, constantValue := 0 }]
  methods := #[k11m0]
  instanceTypes := #[]
  staticTypes := #[(.object "jdk/internal/misc/Unsafe"), .boolean, .int, .int, .int, .int, .int, .int, .int, .int, .int, .int, .int, .int, .int, .int, .int, .int, .int, (.object "jdk/internal/access/JavaLangAccess"), .int]
  resolved := Array.replicate 378 none
  statics := none }

def pool12 : Array CpInfo := pool [(1, u "java/lang/Cloneable"), (0, .class_ 1), (0, u "java/lang/Object"), (0, .class_ 3)] 3

/-- java/lang/Cloneable -/
def k12 : Class := { plain "java/lang/Cloneable" (some 0) with
  accessFlags := 1537
  interfaces := #[]
  cf := some (fileOf pool12 2 #[] #[] 1537 4 #[] #[])
  fields := #[]
  methods := #[]
  instanceTypes := #[]
  staticTypes := #[]
  resolved := Array.replicate 8 none
  statics := none }

/-- the primitive byte -/
def k13 : Class := { plain "byte" none with kind := .primitive 'B', accessFlags := 0x411 }
/-- [B -/
def k14 : Class := { plain "[B" (some 0) with kind := .array 13 .byte, interfaces := #[12, 3], accessFlags := 1041 }

/-- the primitive int -/
def k15 : Class := { plain "int" none with kind := .primitive 'I', accessFlags := 0x411 }
/-- [I -/
def k16 : Class := { plain "[I" (some 0) with kind := .array 15 .int, interfaces := #[12, 3], accessFlags := 1041 }

def heap : Heap := #[{ cls := 8, slots := #[.long 0, .int 1, .null, .int 0, .null, .int 0, .int 0], vm := .statics 8 },
  { cls := 10, slots := #[.null, .null, .null], vm := .statics 10 }]
def classes : Array Class := #[k0, k1, k2, k3, k4, k5, k6, k7, k8, k9, k10, k11, k12, k13, k14, k15, k16]
def interned : List (Array UInt16 × Addr) := []
def slotsUsed : Nat := 10
def theMethod : MethodId := ⟨1, 3⟩
def args0 : Array Value := #[.int 32]
def aboutOver (below : List Frame) : State where
  vm := { classes := classes, interned := interned.toArray }
  heap := heap
  slotsUsed := slotsUsed
  threads := #[{ frames := .invoking theMethod args0 :: below }]
def below0 : List Frame := [.native { method := ⟨0, 0⟩, args := #[] }]
def about1 : State := aboutOver below0
def p0 : Program := .bare "" "" ""
def e0 : Env := launch0.env 0 0 0
theorem w_frames : about1.frames = Frame.invoking theMethod args0 :: below0 := rfl
set_option maxRecDepth 65536 in
theorem w_args : argsFit about1.vm theMethod args0 = true := by decide +kernel
set_option maxRecDepth 65536 in
theorem w_heap : heapFits about1 = true := by decide +kernel
set_option maxRecDepth 65536 in
theorem w_runnable : about1.curStatus? = some .runnable := by decide +kernel
set_option maxRecDepth 65536 in
theorem w_alone : about1.alone = true := by decide +kernel
set_option maxRecDepth 65536 in
theorem w_named : about1.methodNamed? x = some theMethod := by decide +kernel
set_option maxRecDepth 65536 in
theorem w_hears : about1.hears theMethod below0 = true := by decide +kernel
set_option maxRecDepth 65536 in
theorem w_ripe : about1.ripe theMethod args0 below0 = true := by decide +kernel
theorem w_running : about1.status = .running := rfl
set_option maxRecDepth 65536 in
theorem w_room : about1.hasRoom e0.platform room_1 = true :=
  launch0.hasRoom_least _ room_1 (by decide +kernel) (by decide +kernel) (by decide +kernel) (by decide +kernel) (by decide +kernel) (by decide +kernel)
theorem allAtoms_all (ts : List Jvm.Cond) (a : Array Jvm.Value) (st : Jvm.State) : (allAtoms ts).before a st = ts.all (fun c => c.before a st) := by
  induction ts with
  | nil => rfl
  | cons c t ih =>
    show (Jvm.Cond.and c (allAtoms t)).before a st = _
    rw [Jvm.Cond.before_and, ih, List.all_cons]
def words1 : List Jvm.Cond := Jvm.Cond.code x code maxLocals ret :: tables_1
/-- a 'code' word, met by the world's own term for the bytes: nothing is compared byte by byte -/
theorem code_word {y : MethodName} {bytes : ByteArray} {mx : Nat} {rt : Option FieldType} {a : Array Value} {s : State} {m : MethodId} {meth : Method} {c : Code} (h1 : s.methodNamed? y = some m) (h2 : s.vm.method? m = some meth) (h3 : meth.code = some c) (h4 : c.code = bytes)
    (h5 : (c.maxLocals == mx && c.exceptionTable.isEmpty && decide (c.maxStack ≤ mostOperands) && decide (meth.sig.returnType = rt) && !meth.locks && decide (parseMethodDescriptor y.desc = some meth.sig)) = true) : (Jvm.Cond.code y bytes mx rt).before a s = true := by
  simp only [Bool.and_eq_true, beq_iff_eq, Bool.not_eq_true', decide_eq_true_eq] at h5
  obtain ⟨⟨⟨⟨⟨g1, g2⟩, g3⟩, g4⟩, g5⟩, g6⟩ := h5
  simp [Cond.before, Cond.holds, Cond.value, h1, h2, h3, h4, g1, g2, g3, g4, g5, g6]
def isCode : Jvm.Cond → Bool
  | .code _ _ _ _ => true
  | _ => false
theorem all_split {L : List Jvm.Cond} {P : Jvm.Cond → Bool} (h1 : L.all (fun c => isCode c || P c) = true) (h2 : ∀ c ∈ L.filter isCode, P c = true) : L.all P = true := by
  refine List.all_eq_true.mpr fun c hc => ?_
  have h := List.all_eq_true.mp h1 c hc
  rcases Bool.eq_false_or_eq_true (isCode c) with hi | hi
  · exact h2 c (List.mem_filter.mpr ⟨hc, hi⟩)
  · simpa [hi] using h
set_option maxRecDepth 65536 in
theorem w_c0 : (Jvm.Cond.code x code maxLocals ret).before args0 about1 = true := code_word (m := ⟨1, 3⟩) (meth := k1m3) (c := k1c3) (by decide +kernel) rfl rfl rfl (by decide +kernel)
set_option maxRecDepth 65536 in
theorem w_c1 : (Jvm.Cond.code ({ cls := "com/example/subtree/subtree/index/XmlCharactersIsWhitespacePinLaw", name := "inBitSet", desc := "(C)Z" } : Jvm.MethodName) method_2_code (1 : Nat) (Option.some Jvm.ClassFile.FieldType.boolean)).before args0 about1 = true := code_word (m := ⟨1, 1⟩) (meth := k1m1) (c := k1c1) (by decide +kernel) rfl rfl rfl (by decide +kernel)
set_option maxRecDepth 65536 in
theorem w_c2 : (Jvm.Cond.code ({ cls := "com/example/subtree/subtree/index/XmlCharacters", name := "isWhitespace", desc := "(C)Z" } : Jvm.MethodName) prog_28_method_2_code (1 : Nat) (Option.some Jvm.ClassFile.FieldType.boolean)).before args0 about1 = true := code_word (m := ⟨2, 1⟩) (meth := k2m1) (c := k2c1) (by decide +kernel) rfl rfl rfl (by decide +kernel)
set_option maxRecDepth 65536 in
theorem w_c3 : (Jvm.Cond.code ({ cls := "com/example/subtree/subtree/index/XmlCharactersIsWhitespacePinLaw", name := "inDeclaredClass", desc := "(C)Z" } : Jvm.MethodName) method_3_code (1 : Nat) (Option.some Jvm.ClassFile.FieldType.boolean)).before args0 about1 = true := code_word (m := ⟨1, 2⟩) (meth := k1m2) (c := k1c2) (by decide +kernel) rfl rfl rfl (by decide +kernel)
set_option maxRecDepth 65536 in
theorem w_c4 : (Jvm.Cond.code ({ cls := "java/lang/String", name := "length", desc := "()I" } : Jvm.MethodName) jdk_42_method_54_code (1 : Nat) (Option.some Jvm.ClassFile.FieldType.int)).before args0 about1 = true := code_word (m := ⟨8, 1⟩) (meth := k8m1) (c := k8c1) (by decide +kernel) rfl rfl rfl (by decide +kernel)
set_option maxRecDepth 65536 in
theorem w_c5 : (Jvm.Cond.code ({ cls := "java/lang/String", name := "coder", desc := "()B" } : Jvm.MethodName) jdk_42_method_152_code (1 : Nat) (Option.some Jvm.ClassFile.FieldType.byte)).before args0 about1 = true := code_word (m := ⟨8, 3⟩) (meth := k8m3) (c := k8c3) (by decide +kernel) rfl rfl rfl (by decide +kernel)
set_option maxRecDepth 65536 in
theorem w_c6 : (Jvm.Cond.code ({ cls := "java/lang/String", name := "charAt", desc := "(I)C" } : Jvm.MethodName) jdk_42_method_56_code (2 : Nat) (Option.some Jvm.ClassFile.FieldType.char)).before args0 about1 = true := code_word (m := ⟨8, 2⟩) (meth := k8m2) (c := k8c2) (by decide +kernel) rfl rfl rfl (by decide +kernel)
set_option maxRecDepth 65536 in
theorem w_c7 : (Jvm.Cond.code ({ cls := "java/lang/String", name := "isLatin1", desc := "()Z" } : Jvm.MethodName) jdk_42_method_154_code (1 : Nat) (Option.some Jvm.ClassFile.FieldType.boolean)).before args0 about1 = true := code_word (m := ⟨8, 4⟩) (meth := k8m4) (c := k8c4) (by decide +kernel) rfl rfl rfl (by decide +kernel)
set_option maxRecDepth 65536 in
theorem w_c8 : (Jvm.Cond.code ({ cls := "java/lang/StringLatin1", name := "charAt", desc := "([BI)C" } : Jvm.MethodName) jdk_43_method_2_code (2 : Nat) (Option.some Jvm.ClassFile.FieldType.char)).before args0 about1 = true := code_word (m := ⟨9, 1⟩) (meth := k9m1) (c := k9c1) (by decide +kernel) rfl rfl rfl (by decide +kernel)
set_option maxRecDepth 65536 in
theorem w_c9 : (Jvm.Cond.code ({ cls := "java/lang/String", name := "checkIndex", desc := "(II)V" } : Jvm.MethodName) jdk_42_method_155_code (2 : Nat) (Option.none : Option Jvm.ClassFile.FieldType)).before args0 about1 = true := code_word (m := ⟨8, 5⟩) (meth := k8m5) (c := k8c5) (by decide +kernel) rfl rfl rfl (by decide +kernel)
set_option maxRecDepth 65536 in
theorem w_c10 : (Jvm.Cond.code ({ cls := "jdk/internal/util/Preconditions", name := "checkIndex", desc := "(IILjava/util/function/BiFunction;)I" } : Jvm.MethodName) jdk_41_method_11_code (3 : Nat) (Option.some Jvm.ClassFile.FieldType.int)).before args0 about1 = true := code_word (m := ⟨10, 1⟩) (meth := k10m1) (c := k10c1) (by decide +kernel) rfl rfl rfl (by decide +kernel)
def codes1 : List Jvm.Cond := [Jvm.Cond.code x code maxLocals ret, Jvm.Cond.code ({ cls := "com/example/subtree/subtree/index/XmlCharactersIsWhitespacePinLaw", name := "inBitSet", desc := "(C)Z" } : Jvm.MethodName) method_2_code (1 : Nat) (Option.some Jvm.ClassFile.FieldType.boolean), Jvm.Cond.code ({ cls := "com/example/subtree/subtree/index/XmlCharacters", name := "isWhitespace", desc := "(C)Z" } : Jvm.MethodName) prog_28_method_2_code (1 : Nat) (Option.some Jvm.ClassFile.FieldType.boolean), Jvm.Cond.code ({ cls := "com/example/subtree/subtree/index/XmlCharactersIsWhitespacePinLaw", name := "inDeclaredClass", desc := "(C)Z" } : Jvm.MethodName) method_3_code (1 : Nat) (Option.some Jvm.ClassFile.FieldType.boolean), Jvm.Cond.code ({ cls := "java/lang/String", name := "length", desc := "()I" } : Jvm.MethodName) jdk_42_method_54_code (1 : Nat) (Option.some Jvm.ClassFile.FieldType.int), Jvm.Cond.code ({ cls := "java/lang/String", name := "coder", desc := "()B" } : Jvm.MethodName) jdk_42_method_152_code (1 : Nat) (Option.some Jvm.ClassFile.FieldType.byte), Jvm.Cond.code ({ cls := "java/lang/String", name := "charAt", desc := "(I)C" } : Jvm.MethodName) jdk_42_method_56_code (2 : Nat) (Option.some Jvm.ClassFile.FieldType.char), Jvm.Cond.code ({ cls := "java/lang/String", name := "isLatin1", desc := "()Z" } : Jvm.MethodName) jdk_42_method_154_code (1 : Nat) (Option.some Jvm.ClassFile.FieldType.boolean), Jvm.Cond.code ({ cls := "java/lang/StringLatin1", name := "charAt", desc := "([BI)C" } : Jvm.MethodName) jdk_43_method_2_code (2 : Nat) (Option.some Jvm.ClassFile.FieldType.char), Jvm.Cond.code ({ cls := "java/lang/String", name := "checkIndex", desc := "(II)V" } : Jvm.MethodName) jdk_42_method_155_code (2 : Nat) (Option.none : Option Jvm.ClassFile.FieldType), Jvm.Cond.code ({ cls := "jdk/internal/util/Preconditions", name := "checkIndex", desc := "(IILjava/util/function/BiFunction;)I" } : Jvm.MethodName) jdk_41_method_11_code (3 : Nat) (Option.some Jvm.ClassFile.FieldType.int)]
set_option maxRecDepth 65536 in
theorem codes_eq : words1.filter isCode = codes1 := rfl
theorem w_codes : ∀ c ∈ words1.filter isCode, c.before args0 about1 = true := by
  rw [codes_eq]
  intro c hc
  simp only [codes1, List.mem_cons, List.not_mem_nil, or_false] at hc
  rcases hc with rfl | rfl | rfl | rfl | rfl | rfl | rfl | rfl | rfl | rfl | rfl
  · exact w_c0
  · exact w_c1
  · exact w_c2
  · exact w_c3
  · exact w_c4
  · exact w_c5
  · exact w_c6
  · exact w_c7
  · exact w_c8
  · exact w_c9
  · exact w_c10
set_option maxRecDepth 65536 in
theorem w_t1 : (words1.take 24).all (fun c => isCode c || c.before args0 about1) = true := by decide +kernel
set_option maxRecDepth 65536 in
theorem w_t2 : ((words1.drop 24).take 24).all (fun c => isCode c || c.before args0 about1) = true := by decide +kernel
set_option maxRecDepth 65536 in
theorem w_t3 : ((words1.drop 24).drop 24).all (fun c => isCode c || c.before args0 about1) = true := by decide +kernel
theorem w_tables : (allAtoms (Jvm.Cond.code x code maxLocals ret :: tables_1)).before args0 about1 = true := by
  rw [allAtoms_all]
  show words1.all (fun c => c.before args0 about1) = true
  refine all_split ?_ w_codes
  rw [← List.take_append_drop 24 words1, List.all_append, w_t1, ← List.take_append_drop 24 (words1.drop 24), List.all_append, w_t2, w_t3]
  rfl
set_option maxRecDepth 65536 in
theorem w_rest : rest_1_c.before args0 about1 = true := by decide +kernel
set_option maxRecDepth 65536 in
theorem w_case : (Jvm.Cond.and given_1 narrow_1).before args0 about1 = true := by decide +kernel
set_option maxRecDepth 65536 in
theorem w_consts : constsHeld consts_1 about1 := Jvm.Lit.constsHeldB_iff.mp (by decide +kernel)
theorem w_applies : (headSpec (Jvm.Cond.code x code maxLocals ret :: tables_1) room_1).applies x e0.platform about1 = true :=
  (Spec.applies_iff w_frames).mpr ⟨w_running, w_runnable, w_alone, w_named, w_hears, w_ripe, w_room, w_tables⟩
theorem atStart : AtStart classFile x code maxLocals ret World_1 tables_1 room_1 Calls_1 rest_1 Pre_1 launch0 p0 e0 about1 theMethod args0 below0 :=
  ⟨lists_1, trivial, launch0.admits_env _ _ _, launch0.least_env, fairChoices_fair.cas, fairChoices_fair.clock, w_frames, w_args, w_heap, w_applies, ⟨w_consts, trivial⟩, w_rest, w_case⟩
end start1
theorem witness_1 : WitnessClaimed_1 := ⟨start1.p0, start1.e0, start1.about1, start1.theMethod, start1.args0, start1.below0, start1.atStart⟩
end Jvm.Pilot.@@N@@
